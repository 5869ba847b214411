import PyProof.Rows.All
import PyProof.AttrMissHeap
import Wide.FinOn
import OpenK.AllK
import Wide.All
import Lean
import PySem.Challenge.RW_in0242_01
set_option Elab.async false
set_option linter.all false
section
open PySem PySem.W PyProof.Rows
namespace Mine
set_option maxRecDepth 100000
set_option maxHeartbeats 8000000
/-- the parts of a def that the program writes at a place -/
noncomputable def dfn : List Stmt → Nat → Arguments × List Stmt × Scope
  | [], _ => default
  | _ :: r, k + 1 => dfn r k
  | .FunctionDef _ a b _ _ _ c _ _ _ :: _, 0 => (a, b, c)
  | _ :: _, 0 => default
/-- the objects behind the top; the defs' trees are taken out of the given program -/
noncomputable def K (P : Params) : Frag := by
  refine (fun (a2 : Arguments) (b2 : List Stmt) (c2 : Scope) (_ : dfn PySem.Challenge.pw_in0242_01.main.body 2 = (a2, b2, c2)) (a5 : Arguments) (b5 : List Stmt) (c5 : Scope) (_ : dfn PySem.Challenge.pw_in0242_01.main.body 5 = (a5, b5, c5)) (a8 : Arguments) (b8 : List Stmt) (c8 : Scope) (_ : dfn PySem.Challenge.pw_in0242_01.main.body 8 = (a8, b8, c8)) (a10 : Arguments) (b10 : List Stmt) (c10 : Scope) (_ : dfn PySem.Challenge.pw_in0242_01.main.body 10 = (a10, b10, c10)) (a11 : Arguments) (b11 : List Stmt) (c11 : Scope) (_ : dfn PySem.Challenge.pw_in0242_01.main.body 11 = (a11, b11, c11)) (a13 : Arguments) (b13 : List Stmt) (c13 : Scope) (_ : dfn PySem.Challenge.pw_in0242_01.main.body 13 = (a13, b13, c13)) (a15 : Arguments) (b15 : List Stmt) (c15 : Scope) (_ : dfn PySem.Challenge.pw_in0242_01.main.body 15 = (a15, b15, c15)) (a16 : Arguments) (b16 : List Stmt) (c16 : Scope) (_ : dfn PySem.Challenge.pw_in0242_01.main.body 16 = (a16, b16, c16)) (a17 : Arguments) (b17 : List Stmt) (c17 : Scope) (_ : dfn PySem.Challenge.pw_in0242_01.main.body 17 = (a17, b17, c17)) (a18 : Arguments) (b18 : List Stmt) (c18 : Scope) (_ : dfn PySem.Challenge.pw_in0242_01.main.body 18 = (a18, b18, c18)) (a19 : Arguments) (b19 : List Stmt) (c19 : Scope) (_ : dfn PySem.Challenge.pw_in0242_01.main.body 19 = (a19, b19, c19)) (a20 : Arguments) (b20 : List Stmt) (c20 : Scope) (_ : dfn PySem.Challenge.pw_in0242_01.main.body 20 = (a20, b20, c20)) (a21 : Arguments) (b21 : List Stmt) (c21 : Scope) (_ : dfn PySem.Challenge.pw_in0242_01.main.body 21 = (a21, b21, c21)) (a22 : Arguments) (b22 : List Stmt) (c22 : Scope) (_ : dfn PySem.Challenge.pw_in0242_01.main.body 22 = (a22, b22, c22)) (a23 : Arguments) (b23 : List Stmt) (c23 : Scope) (_ : dfn PySem.Challenge.pw_in0242_01.main.body 23 = (a23, b23, c23)) (a24 : Arguments) (b24 : List Stmt) (c24 : Scope) (_ : dfn PySem.Challenge.pw_in0242_01.main.body 24 = (a24, b24, c24)) => (
  (nat_lit 2, { cls := Value.none, data := Data.dict #[{ hash := PyData.keyHash P (Str.ofString "im\x70ort.loaded._sre"), key := Value.str (Str.ofString "im\x70ort.loaded._sre") 183, val := Value.bool true }, { hash := PyData.keyHash P (Str.ofString "class._frozen_importlib.BuiltinImporter"), key := Value.str (Str.ofString "class._frozen_importlib.BuiltinImporter") 185, val := Value.ref 14 }, { hash := PyData.keyHash P (Str.ofString "watched.im\x70ort"), key := Value.str (Str.ofString "watched.im\x70ort") 206, val := Value.ref 18 }, { hash := PyData.keyHash P (Str.ofString "class._frozen_importlib.ModuleSpec"), key := Value.str (Str.ofString "class._frozen_importlib.ModuleSpec") 216, val := Value.ref 22 }, { hash := PyData.keyHash P (Str.ofString "sys.modules.booked-epoch"), key := Value.str (Str.ofString "sys.modules.booked-epoch") 245, val := Value.int 3 0 }, { hash := PyData.keyHash P (Str.ofString "im\x70ort.later-laid._sre"), key := Value.str (Str.ofString "im\x70ort.later-laid._sre") 270, val := Value.bool true }, { hash := PyData.keyHash P (Str.ofString "watched.library"), key := Value.str (Str.ofString "watched.library") 272, val := Value.ref 27 }, { hash := PyData.keyHash P (Str.ofString "watched.library-objects"), key := Value.str (Str.ofString "watched.library-objects") 0, val := Value.str (Str.ofString "\x0c") 0 }, { hash := PyData.keyHash P (Str.ofString "watched.library-deep._sre"), key := Value.str (Str.ofString "watched.library-deep._sre") 273, val := Value.str (Str.ofString "\x04\x00\x00\x0b\x04\x00\x00\x0b\x04\x00\x00\x03\x04\x00\x00\x0b\x08\x04dict\x02") 0 }] 9 }) ::
  (nat_lit 3, { cls := Value.type "dict", data := Data.dict #[{ hash := PyData.keyHash P (Str.ofString "__name__"), key := Value.str (Str.ofString "__name__") 165, val := Value.str (Str.ofString "law_in0242_01") 548 }, { hash := PyData.keyHash P (Str.ofString "__doc__"), key := Value.str (Str.ofString "__doc__") 166, val := Value.none }, { hash := PyData.keyHash P (Str.ofString "__package__"), key := Value.str (Str.ofString "__package__") 167, val := Value.none }, { hash := PyData.keyHash P (Str.ofString "__loader__"), key := Value.str (Str.ofString "__loader__") 168, val := Value.builtin "__main__.__loader__#opaque" }, { hash := PyData.keyHash P (Str.ofString "__spec__"), key := Value.str (Str.ofString "__spec__") 169, val := Value.none }, { hash := PyData.keyHash P (Str.ofString "__annotations__"), key := Value.str (Str.ofString "__annotations__") 170, val := Value.ref 6 }, { hash := PyData.keyHash P (Str.ofString "__builtins__"), key := Value.str (Str.ofString "__builtins__") 171, val := Value.ref 4 }, { hash := PyData.keyHash P (Str.ofString "__file__"), key := Value.str (Str.ofString "__file__") 173, val := Value.str (Str.ofString "/claim/cut.py") 172 }, { hash := PyData.keyHash P (Str.ofString "__cached__"), key := Value.str (Str.ofString "__cached__") 174, val := Value.none }, { hash := PyData.keyHash P (Str.ofString "_sre"), key := Value.str (Str.ofString "_sre") 275, val := Value.ref 12 }, { hash := PyData.keyHash P (Str.ofString "Int2AP"), key := Value.str (Str.ofString "Int2AP") 293, val := Value.ref 38 }, { hash := PyData.keyHash P (Str.ofString "_twin_re_1"), key := Value.str (Str.ofString "_twin_re_1") 333, val := Value.ref 43 }, { hash := PyData.keyHash P (Str.ofString "translate"), key := Value.str (Str.ofString "translate") 342, val := Value.ref 50 }, { hash := PyData.keyHash P (Str.ofString "_special_chars_map"), key := Value.str (Str.ofString "_special_chars_map") 490, val := Value.ref 52 }, { hash := PyData.keyHash P (Str.ofString "escape"), key := Value.str (Str.ofString "escape") 497, val := Value.ref 62 }, { hash := PyData.keyHash P (Str.ofString "_translate"), key := Value.str (Str.ofString "_translate") 518, val := Value.ref 69 }, { hash := PyData.keyHash P (Str.ofString "_join_translated_parts"), key := Value.str (Str.ofString "_join_translated_parts") 531, val := Value.ref 76 }, { hash := PyData.keyHash P (Str.ofString "sorted_list_difference"), key := Value.str (Str.ofString "sorted_list_difference") 547, val := Value.ref 83 }, { hash := PyData.keyHash P (Str.ofString "_law_word"), key := Value.str (Str.ofString "_law_word") 555, val := Value.ref 88 }, { hash := PyData.keyHash P (Str.ofString "_law_read"), key := Value.str (Str.ofString "_law_read") 564, val := Value.ref 95 }, { hash := PyData.keyHash P (Str.ofString "_law_rows"), key := Value.str (Str.ofString "_law_rows") 573, val := Value.ref 102 }, { hash := PyData.keyHash P (Str.ofString "_law_text"), key := Value.str (Str.ofString "_law_text") 580, val := Value.ref 109 }, { hash := PyData.keyHash P (Str.ofString "_law_takes"), key := Value.str (Str.ofString "_law_takes") 591, val := Value.ref 116 }, { hash := PyData.keyHash P (Str.ofString "_law_rounds"), key := Value.str (Str.ofString "_law_rounds") 597, val := Value.ref 121 }, { hash := PyData.keyHash P (Str.ofString "_law_sum"), key := Value.str (Str.ofString "_law_sum") 605, val := Value.ref 128 }, { hash := PyData.keyHash P (Str.ofString "_law_below"), key := Value.str (Str.ofString "_law_below") 613, val := Value.ref 135 }, { hash := PyData.keyHash P (Str.ofString "_law_levels"), key := Value.str (Str.ofString "_law_levels") 619, val := Value.ref 140 }, { hash := PyData.keyHash P (Str.ofString "law"), key := Value.str (Str.ofString "law") 625, val := Value.ref 145 }] 28 }) ::
  (nat_lit 6, { cls := Value.type "dict", data := Data.dict #[] }) ::
  (nat_lit 11, { cls := Value.type "dict", data := Data.dict #[{ hash := PyData.keyHash P (Str.ofString "__name__"), key := Value.str (Str.ofString "__name__") 247, val := Value.str (Str.ofString "_sre") 246 }, { hash := PyData.keyHash P (Str.ofString "__doc__"), key := Value.str (Str.ofString "__doc__") 248, val := Value.none }, { hash := PyData.keyHash P (Str.ofString "__package__"), key := Value.str (Str.ofString "__package__") 250, val := Value.str (Str.ofString "") 249 }, { hash := PyData.keyHash P (Str.ofString "__loader__"), key := Value.str (Str.ofString "__loader__") 251, val := Value.builtin "off-the-table:_sre.__loader__:shared#opaque" }, { hash := PyData.keyHash P (Str.ofString "__spec__"), key := Value.str (Str.ofString "__spec__") 252, val := Value.builtin "off-the-table:_sre.__spec__:shared#opaque" }, { hash := PyData.keyHash P (Str.ofString "compile"), key := Value.str (Str.ofString "compile") 253, val := Value.builtin "_sre.compile" }, { hash := PyData.keyHash P (Str.ofString "template"), key := Value.str (Str.ofString "template") 254, val := Value.builtin "off-the-table:_sre.template:shared#opaque" }, { hash := PyData.keyHash P (Str.ofString "getcodesize"), key := Value.str (Str.ofString "getcodesize") 255, val := Value.builtin "off-the-table:_sre.getcodesize:shared#opaque" }, { hash := PyData.keyHash P (Str.ofString "ascii_iscased"), key := Value.str (Str.ofString "ascii_iscased") 256, val := Value.builtin "off-the-table:_sre.ascii_iscased:shared#opaque" }, { hash := PyData.keyHash P (Str.ofString "unicode_iscased"), key := Value.str (Str.ofString "unicode_iscased") 257, val := Value.builtin "off-the-table:_sre.unicode_iscased:shared#opaque" }, { hash := PyData.keyHash P (Str.ofString "ascii_tolower"), key := Value.str (Str.ofString "ascii_tolower") 258, val := Value.builtin "off-the-table:_sre.ascii_tolower:shared#opaque" }, { hash := PyData.keyHash P (Str.ofString "unicode_tolower"), key := Value.str (Str.ofString "unicode_tolower") 259, val := Value.builtin "off-the-table:_sre.unicode_tolower:shared#opaque" }, { hash := PyData.keyHash P (Str.ofString "MAGIC"), key := Value.str (Str.ofString "MAGIC") 261, val := Value.int 20230612 260 }, { hash := PyData.keyHash P (Str.ofString "CODESIZE"), key := Value.str (Str.ofString "CODESIZE") 263, val := Value.int 4 262 }, { hash := PyData.keyHash P (Str.ofString "MAXREPEAT"), key := Value.str (Str.ofString "MAXREPEAT") 265, val := Value.int 4294967295 264 }, { hash := PyData.keyHash P (Str.ofString "MAXGROUPS"), key := Value.str (Str.ofString "MAXGROUPS") 267, val := Value.int 1073741823 266 }, { hash := PyData.keyHash P (Str.ofString "copyright"), key := Value.str (Str.ofString "copyright") 269, val := Value.str (Str.ofString " SRE 2.2.2 Copyright (c) 1997-2002 by Secret Labs AB ") 268 }] 17 }) ::
  (nat_lit 12, { cls := Value.type "module", dict := some 11 }) ::
  (nat_lit 32, { cls := Value.type "tuple", data := Data.seq #[] }) ::
  (nat_lit 34, { cls := Value.type "tuple", data := Data.seq #[Value.str (Str.ofString "num") 287, Value.str (Str.ofString "val") 288, Value.str (Str.ofString "AP") 289, Value.str (Str.ofString "mod") 290] }) ::
  (nat_lit 35, { cls := Value.type "tuple", data := Data.seq #[] }) ::
  (nat_lit 37, { cls := Value.type "code", data := Data.fields #[Value.str (Str.ofString "Int2AP") 284, Value.str (Str.ofString "Int2AP") 285, Value.str (Str.ofString "/claim/cut.py") 286, Value.int 3 0, Value.int 1 0, Value.int 0 0, Value.int 0 0, Value.int 3 0, Value.ref 32, Value.bool true, Value.int 276 0, Value.ref 33, Value.none, Value.ref 34, Value.ref 35, Value.ref 36, Value.int 291 0, Value.int 3 0, Value.str (Str.ofString "/claim/cut.py") 292] }) ::
  (nat_lit 38, { cls := Value.type "function", data := Data.func { name := Str.ofString "Int2AP", qualname := Str.ofString "Int2AP", params := a2, body := FuncBody.stmts (b2), scope := c2, globals := 3, closure := [], defaults := Value.none, kwdefaults := Value.none, pyModule := Value.str (Str.ofString "cpy313.imaplib") 282, code := Value.ref 37 } }) ::
  (nat_lit 42, { cls := Value.type "tuple", data := Data.seq #[Value.int 14 0, Value.int 14 0, Value.int 4 0, Value.int 1 0, Value.int 1 0, Value.int 9 0, Value.int 0 0, Value.int 64 0, Value.int 0 0, Value.int 1342177280 0, Value.int 0 0, Value.int 0 0, Value.int 0 0, Value.int 0 0, Value.int 0 0, Value.int 17 0, Value.int 0 0, Value.int 13 0, Value.int 11 0, Value.int 9 0, Value.int 0 0, Value.int 64 0, Value.int 0 0, Value.int 1342177280 0, Value.int 0 0, Value.int 0 0, Value.int 0 0, Value.int 0 0, Value.int 0 0, Value.int 17 0, Value.int 1 0, Value.int 1 0] }) ::
  (nat_lit 43, { cls := Value.type "re.Pattern", data := Data.fields #[Value.str (Str.ofString "([&~|])") 297, Value.int 32 332, Value.int 1 0, Value.none, Value.none, Value.ref 42, Value.int 0 0] }) ::
  (nat_lit 44, { cls := Value.type "tuple", data := Data.seq #[] }) ::
  (nat_lit 46, { cls := Value.type "tuple", data := Data.seq #[Value.str (Str.ofString "pat") 337, Value.str (Str.ofString "STAR") 338, Value.str (Str.ofString "parts") 339] }) ::
  (nat_lit 47, { cls := Value.type "tuple", data := Data.seq #[] }) ::
  (nat_lit 49, { cls := Value.type "code", data := Data.fields #[Value.str (Str.ofString "translate") 334, Value.str (Str.ofString "translate") 335, Value.str (Str.ofString "/claim/cut.py") 336, Value.int 13 0, Value.int 1 0, Value.int 0 0, Value.int 0 0, Value.int 3 0, Value.ref 44, Value.bool true, Value.int 276 0, Value.ref 45, Value.none, Value.ref 46, Value.ref 47, Value.ref 48, Value.int 340 0, Value.int 13 0, Value.str (Str.ofString "/claim/cut.py") 341] }) ::
  (nat_lit 50, { cls := Value.type "function", data := Data.func { name := Str.ofString "translate", qualname := Str.ofString "translate", params := a5, body := FuncBody.stmts (b5), scope := c5, globals := 3, closure := [], defaults := Value.none, kwdefaults := Value.none, pyModule := Value.str (Str.ofString "cpy313.fnmatch") 294, code := Value.ref 49 } }) ::
  (nat_lit 52, { cls := Value.type "dict", data := Data.dict #[{ hash := 40, key := Value.int 40 346, val := Value.str (Str.ofString "\\(") 350 }, { hash := 41, key := Value.int 41 352, val := Value.str (Str.ofString "\\)") 356 }, { hash := 91, key := Value.int 91 358, val := Value.str (Str.ofString "\\[") 362 }, { hash := 93, key := Value.int 93 364, val := Value.str (Str.ofString "\\]") 368 }, { hash := 123, key := Value.int 123 370, val := Value.str (Str.ofString "\\{") 374 }, { hash := 125, key := Value.int 125 376, val := Value.str (Str.ofString "\\}") 380 }, { hash := 63, key := Value.int 63 382, val := Value.str (Str.ofString "\\?") 386 }, { hash := 42, key := Value.int 42 388, val := Value.str (Str.ofString "\\*") 392 }, { hash := 43, key := Value.int 43 394, val := Value.str (Str.ofString "\\+") 398 }, { hash := 45, key := Value.int 45 400, val := Value.str (Str.ofString "\\-") 404 }, { hash := 124, key := Value.int 124 406, val := Value.str (Str.ofString "\\|") 410 }, { hash := 94, key := Value.int 94 412, val := Value.str (Str.ofString "\\^") 416 }, { hash := 36, key := Value.int 36 418, val := Value.str (Str.ofString "\\$") 422 }, { hash := 92, key := Value.int 92 424, val := Value.str (Str.ofString "\\\\") 428 }, { hash := 46, key := Value.int 46 430, val := Value.str (Str.ofString "\\.") 434 }, { hash := 38, key := Value.int 38 436, val := Value.str (Str.ofString "\\&") 440 }, { hash := 126, key := Value.int 126 442, val := Value.str (Str.ofString "\\~") 446 }, { hash := 35, key := Value.int 35 448, val := Value.str (Str.ofString "\\#") 452 }, { hash := 32, key := Value.int 32 454, val := Value.str (Str.ofString "\\ ") 458 }, { hash := 9, key := Value.int 9 460, val := Value.str (Str.ofString "\\\t") 464 }, { hash := 10, key := Value.int 10 466, val := Value.str (Str.ofString "\\\n") 470 }, { hash := 13, key := Value.int 13 472, val := Value.str (Str.ofString "\\\x0d") 476 }, { hash := 11, key := Value.int 11 478, val := Value.str (Str.ofString "\\\x0b") 482 }, { hash := 12, key := Value.int 12 484, val := Value.str (Str.ofString "\\\x0c") 488 }] 24 }) ::
  (nat_lit 56, { cls := Value.type "tuple", data := Data.seq #[] }) ::
  (nat_lit 58, { cls := Value.type "tuple", data := Data.seq #[Value.str (Str.ofString "pattern") 494] }) ::
  (nat_lit 59, { cls := Value.type "tuple", data := Data.seq #[] }) ::
  (nat_lit 61, { cls := Value.type "code", data := Data.fields #[Value.str (Str.ofString "escape") 491, Value.str (Str.ofString "escape") 492, Value.str (Str.ofString "/claim/cut.py") 493, Value.int 19 0, Value.int 1 0, Value.int 0 0, Value.int 0 0, Value.int 3 0, Value.ref 56, Value.bool true, Value.int 276 0, Value.ref 57, Value.none, Value.ref 58, Value.ref 59, Value.ref 60, Value.int 495 0, Value.int 19 0, Value.str (Str.ofString "/claim/cut.py") 496] }) ::
  (nat_lit 62, { cls := Value.type "function", data := Data.func { name := Str.ofString "escape", qualname := Str.ofString "escape", params := a8, body := FuncBody.stmts (b8), scope := c8, globals := 3, closure := [], defaults := Value.none, kwdefaults := Value.none, pyModule := Value.str (Str.ofString "re") 343, code := Value.ref 61 } }) ::
  (nat_lit 63, { cls := Value.type "tuple", data := Data.seq #[] }) ::
  (nat_lit 65, { cls := Value.type "tuple", data := Data.seq #[Value.str (Str.ofString "pat") 503, Value.str (Str.ofString "STAR") 504, Value.str (Str.ofString "QUESTION_MARK") 505, Value.str (Str.ofString "res") 506, Value.str (Str.ofString "add") 507, Value.str (Str.ofString "i") 508, Value.str (Str.ofString "n") 509, Value.str (Str.ofString "c") 510, Value.str (Str.ofString "j") 511, Value.str (Str.ofString "stuff") 512, Value.str (Str.ofString "chunks") 513, Value.str (Str.ofString "k") 514, Value.str (Str.ofString "chunk") 515] }) ::
  (nat_lit 66, { cls := Value.type "tuple", data := Data.seq #[] }) ::
  (nat_lit 68, { cls := Value.type "code", data := Data.fields #[Value.str (Str.ofString "_translate") 500, Value.str (Str.ofString "_translate") 501, Value.str (Str.ofString "/claim/cut.py") 502, Value.int 26 0, Value.int 3 0, Value.int 0 0, Value.int 0 0, Value.int 3 0, Value.ref 63, Value.bool true, Value.int 276 0, Value.ref 64, Value.none, Value.ref 65, Value.ref 66, Value.ref 67, Value.int 516 0, Value.int 26 0, Value.str (Str.ofString "/claim/cut.py") 517] }) ::
  (nat_lit 69, { cls := Value.type "function", data := Data.func { name := Str.ofString "_translate", qualname := Str.ofString "_translate", params := a10, body := FuncBody.stmts (b10), scope := c10, globals := 3, closure := [], defaults := Value.none, kwdefaults := Value.none, pyModule := Value.str (Str.ofString "cpy313.fnmatch") 498, code := Value.ref 68 } }) ::
  (nat_lit 70, { cls := Value.type "tuple", data := Data.seq #[] }) ::
  (nat_lit 72, { cls := Value.type "tuple", data := Data.seq #[Value.str (Str.ofString "inp") 522, Value.str (Str.ofString "STAR") 523, Value.str (Str.ofString "res") 524, Value.str (Str.ofString "add") 525, Value.str (Str.ofString "i") 526, Value.str (Str.ofString "n") 527, Value.str (Str.ofString "fixed") 528] }) ::
  (nat_lit 73, { cls := Value.type "tuple", data := Data.seq #[] }) ::
  (nat_lit 75, { cls := Value.type "code", data := Data.fields #[Value.str (Str.ofString "_join_translated_parts") 519, Value.str (Str.ofString "_join_translated_parts") 520, Value.str (Str.ofString "/claim/cut.py") 521, Value.int 88 0, Value.int 2 0, Value.int 0 0, Value.int 0 0, Value.int 3 0, Value.ref 70, Value.bool true, Value.int 276 0, Value.ref 71, Value.none, Value.ref 72, Value.ref 73, Value.ref 74, Value.int 529 0, Value.int 88 0, Value.str (Str.ofString "/claim/cut.py") 530] }) ::
  (nat_lit 76, { cls := Value.type "function", data := Data.func { name := Str.ofString "_join_translated_parts", qualname := Str.ofString "_join_translated_parts", params := a11, body := FuncBody.stmts (b11), scope := c11, globals := 3, closure := [], defaults := Value.none, kwdefaults := Value.none, pyModule := Value.str (Str.ofString "cpy313.fnmatch") 498, code := Value.ref 75 } }) ::
  (nat_lit 77, { cls := Value.type "tuple", data := Data.seq #[] }) ::
  (nat_lit 79, { cls := Value.type "tuple", data := Data.seq #[Value.str (Str.ofString "expected") 537, Value.str (Str.ofString "actual") 538, Value.str (Str.ofString "i") 539, Value.str (Str.ofString "j") 540, Value.str (Str.ofString "missing") 541, Value.str (Str.ofString "unexpected") 542, Value.str (Str.ofString "e") 543, Value.str (Str.ofString "a") 544] }) ::
  (nat_lit 80, { cls := Value.type "tuple", data := Data.seq #[] }) ::
  (nat_lit 82, { cls := Value.type "code", data := Data.fields #[Value.str (Str.ofString "sorted_list_difference") 534, Value.str (Str.ofString "sorted_list_difference") 535, Value.str (Str.ofString "/claim/cut.py") 536, Value.int 116 0, Value.int 2 0, Value.int 0 0, Value.int 0 0, Value.int 3 0, Value.ref 77, Value.bool true, Value.int 276 0, Value.ref 78, Value.none, Value.ref 79, Value.ref 80, Value.ref 81, Value.int 545 0, Value.int 116 0, Value.str (Str.ofString "/claim/cut.py") 546] }) ::
  (nat_lit 83, { cls := Value.type "function", data := Data.func { name := Str.ofString "sorted_list_difference", qualname := Str.ofString "sorted_list_difference", params := a13, body := FuncBody.stmts (b13), scope := c13, globals := 3, closure := [], defaults := Value.none, kwdefaults := Value.none, pyModule := Value.str (Str.ofString "cpy313.unittest.util") 532, code := Value.ref 82 } }) ::
  (nat_lit 84, { cls := Value.type "tuple", data := Data.seq #[] }) ::
  (nat_lit 87, { cls := Value.type "code", data := Data.fields #[Value.str (Str.ofString "_law_word") 550, Value.str (Str.ofString "_law_word") 551, Value.str (Str.ofString "/claim/cut.py") 552, Value.int 149 0, Value.int 1 0, Value.int 0 0, Value.int 0 0, Value.int 3 0, Value.ref 84, Value.bool true, Value.int 276 0, Value.ref 85, Value.none, Value.none, Value.none, Value.ref 86, Value.int 553 0, Value.int 149 0, Value.str (Str.ofString "/claim/cut.py") 554] }) ::
  (nat_lit 88, { cls := Value.type "function", data := Data.func { name := Str.ofString "_law_word", qualname := Str.ofString "_law_word", params := a15, body := FuncBody.stmts (b15), scope := c15, globals := 3, closure := [], defaults := Value.none, kwdefaults := Value.none, pyModule := Value.str (Str.ofString "law_in0242_01") 548, code := Value.ref 87 } }) ::
  (nat_lit 89, { cls := Value.type "tuple", data := Data.seq #[] }) ::
  (nat_lit 91, { cls := Value.type "tuple", data := Data.seq #[Value.str (Str.ofString "word") 559, Value.str (Str.ofString "number") 560, Value.str (Str.ofString "letter") 561] }) ::
  (nat_lit 92, { cls := Value.type "tuple", data := Data.seq #[] }) ::
  (nat_lit 94, { cls := Value.type "code", data := Data.fields #[Value.str (Str.ofString "_law_read") 556, Value.str (Str.ofString "_law_read") 557, Value.str (Str.ofString "/claim/cut.py") 558, Value.int 151 0, Value.int 1 0, Value.int 0 0, Value.int 0 0, Value.int 3 0, Value.ref 89, Value.bool true, Value.int 276 0, Value.ref 90, Value.none, Value.ref 91, Value.ref 92, Value.ref 93, Value.int 562 0, Value.int 151 0, Value.str (Str.ofString "/claim/cut.py") 563] }) ::
  (nat_lit 95, { cls := Value.type "function", data := Data.func { name := Str.ofString "_law_read", qualname := Str.ofString "_law_read", params := a16, body := FuncBody.stmts (b16), scope := c16, globals := 3, closure := [], defaults := Value.none, kwdefaults := Value.none, pyModule := Value.str (Str.ofString "law_in0242_01") 548, code := Value.ref 94 } }) ::
  (nat_lit 96, { cls := Value.type "tuple", data := Data.seq #[] }) ::
  (nat_lit 98, { cls := Value.type "tuple", data := Data.seq #[Value.str (Str.ofString "script") 568, Value.str (Str.ofString "rows") 569, Value.str (Str.ofString "x") 570] }) ::
  (nat_lit 99, { cls := Value.type "tuple", data := Data.seq #[] }) ::
  (nat_lit 101, { cls := Value.type "code", data := Data.fields #[Value.str (Str.ofString "_law_rows") 565, Value.str (Str.ofString "_law_rows") 566, Value.str (Str.ofString "/claim/cut.py") 567, Value.int 156 0, Value.int 1 0, Value.int 0 0, Value.int 0 0, Value.int 3 0, Value.ref 96, Value.bool true, Value.int 276 0, Value.ref 97, Value.none, Value.ref 98, Value.ref 99, Value.ref 100, Value.int 571 0, Value.int 156 0, Value.str (Str.ofString "/claim/cut.py") 572] }) ::
  (nat_lit 102, { cls := Value.type "function", data := Data.func { name := Str.ofString "_law_rows", qualname := Str.ofString "_law_rows", params := a17, body := FuncBody.stmts (b17), scope := c17, globals := 3, closure := [], defaults := Value.none, kwdefaults := Value.none, pyModule := Value.str (Str.ofString "law_in0242_01") 548, code := Value.ref 101 } }) ::
  (nat_lit 103, { cls := Value.type "tuple", data := Data.seq #[] }) ::
  (nat_lit 105, { cls := Value.type "tuple", data := Data.seq #[Value.str (Str.ofString "word") 577] }) ::
  (nat_lit 106, { cls := Value.type "tuple", data := Data.seq #[] }) ::
  (nat_lit 108, { cls := Value.type "code", data := Data.fields #[Value.str (Str.ofString "_law_text") 574, Value.str (Str.ofString "_law_text") 575, Value.str (Str.ofString "/claim/cut.py") 576, Value.int 162 0, Value.int 1 0, Value.int 0 0, Value.int 0 0, Value.int 3 0, Value.ref 103, Value.bool true, Value.int 276 0, Value.ref 104, Value.none, Value.ref 105, Value.ref 106, Value.ref 107, Value.int 578 0, Value.int 162 0, Value.str (Str.ofString "/claim/cut.py") 579] }) ::
  (nat_lit 109, { cls := Value.type "function", data := Data.func { name := Str.ofString "_law_text", qualname := Str.ofString "_law_text", params := a18, body := FuncBody.stmts (b18), scope := c18, globals := 3, closure := [], defaults := Value.none, kwdefaults := Value.none, pyModule := Value.str (Str.ofString "law_in0242_01") 548, code := Value.ref 108 } }) ::
  (nat_lit 110, { cls := Value.type "tuple", data := Data.seq #[] }) ::
  (nat_lit 112, { cls := Value.type "tuple", data := Data.seq #[Value.str (Str.ofString "text") 584, Value.str (Str.ofString "word") 585, Value.str (Str.ofString "at") 586, Value.str (Str.ofString "letter") 587, Value.str (Str.ofString "barred") 588] }) ::
  (nat_lit 113, { cls := Value.type "tuple", data := Data.seq #[] }) ::
  (nat_lit 115, { cls := Value.type "code", data := Data.fields #[Value.str (Str.ofString "_law_takes") 581, Value.str (Str.ofString "_law_takes") 582, Value.str (Str.ofString "/claim/cut.py") 583, Value.int 164 0, Value.int 2 0, Value.int 0 0, Value.int 0 0, Value.int 3 0, Value.ref 110, Value.bool true, Value.int 276 0, Value.ref 111, Value.none, Value.ref 112, Value.ref 113, Value.ref 114, Value.int 589 0, Value.int 164 0, Value.str (Str.ofString "/claim/cut.py") 590] }) ::
  (nat_lit 116, { cls := Value.type "function", data := Data.func { name := Str.ofString "_law_takes", qualname := Str.ofString "_law_takes", params := a19, body := FuncBody.stmts (b19), scope := c19, globals := 3, closure := [], defaults := Value.none, kwdefaults := Value.none, pyModule := Value.str (Str.ofString "law_in0242_01") 548, code := Value.ref 115 } }) ::
  (nat_lit 117, { cls := Value.type "tuple", data := Data.seq #[] }) ::
  (nat_lit 120, { cls := Value.type "code", data := Data.fields #[Value.str (Str.ofString "_law_rounds") 592, Value.str (Str.ofString "_law_rounds") 593, Value.str (Str.ofString "/claim/cut.py") 594, Value.int 182 0, Value.int 2 0, Value.int 0 0, Value.int 0 0, Value.int 3 0, Value.ref 117, Value.bool true, Value.int 276 0, Value.ref 118, Value.none, Value.none, Value.none, Value.ref 119, Value.int 595 0, Value.int 182 0, Value.str (Str.ofString "/claim/cut.py") 596] }) ::
  (nat_lit 121, { cls := Value.type "function", data := Data.func { name := Str.ofString "_law_rounds", qualname := Str.ofString "_law_rounds", params := a20, body := FuncBody.stmts (b20), scope := c20, globals := 3, closure := [], defaults := Value.none, kwdefaults := Value.none, pyModule := Value.str (Str.ofString "law_in0242_01") 548, code := Value.ref 120 } }) ::
  (nat_lit 122, { cls := Value.type "tuple", data := Data.seq #[] }) ::
  (nat_lit 124, { cls := Value.type "tuple", data := Data.seq #[Value.str (Str.ofString "number") 601, Value.str (Str.ofString "due") 602] }) ::
  (nat_lit 125, { cls := Value.type "tuple", data := Data.seq #[] }) ::
  (nat_lit 127, { cls := Value.type "code", data := Data.fields #[Value.str (Str.ofString "_law_sum") 598, Value.str (Str.ofString "_law_sum") 599, Value.str (Str.ofString "/claim/cut.py") 600, Value.int 198 0, Value.int 1 0, Value.int 0 0, Value.int 0 0, Value.int 3 0, Value.ref 122, Value.bool true, Value.int 276 0, Value.ref 123, Value.none, Value.ref 124, Value.ref 125, Value.ref 126, Value.int 603 0, Value.int 198 0, Value.str (Str.ofString "/claim/cut.py") 604] }) ::
  (nat_lit 128, { cls := Value.type "function", data := Data.func { name := Str.ofString "_law_sum", qualname := Str.ofString "_law_sum", params := a21, body := FuncBody.stmts (b21), scope := c21, globals := 3, closure := [], defaults := Value.none, kwdefaults := Value.none, pyModule := Value.str (Str.ofString "law_in0242_01") 548, code := Value.ref 127 } }) ::
  (nat_lit 129, { cls := Value.type "tuple", data := Data.seq #[] }) ::
  (nat_lit 131, { cls := Value.type "tuple", data := Data.seq #[Value.str (Str.ofString "one") 609, Value.str (Str.ofString "other") 610] }) ::
  (nat_lit 132, { cls := Value.type "tuple", data := Data.seq #[] }) ::
  (nat_lit 134, { cls := Value.type "code", data := Data.fields #[Value.str (Str.ofString "_law_below") 606, Value.str (Str.ofString "_law_below") 607, Value.str (Str.ofString "/claim/cut.py") 608, Value.int 204 0, Value.int 2 0, Value.int 0 0, Value.int 0 0, Value.int 3 0, Value.ref 129, Value.bool true, Value.int 276 0, Value.ref 130, Value.none, Value.ref 131, Value.ref 132, Value.ref 133, Value.int 611 0, Value.int 204 0, Value.str (Str.ofString "/claim/cut.py") 612] }) ::
  (nat_lit 135, { cls := Value.type "function", data := Data.func { name := Str.ofString "_law_below", qualname := Str.ofString "_law_below", params := a22, body := FuncBody.stmts (b22), scope := c22, globals := 3, closure := [], defaults := Value.none, kwdefaults := Value.none, pyModule := Value.str (Str.ofString "law_in0242_01") 548, code := Value.ref 134 } }) ::
  (nat_lit 136, { cls := Value.type "tuple", data := Data.seq #[] }) ::
  (nat_lit 139, { cls := Value.type "code", data := Data.fields #[Value.str (Str.ofString "_law_levels") 614, Value.str (Str.ofString "_law_levels") 615, Value.str (Str.ofString "/claim/cut.py") 616, Value.int 206 0, Value.int 1 0, Value.int 0 0, Value.int 0 0, Value.int 3 0, Value.ref 136, Value.bool true, Value.int 276 0, Value.ref 137, Value.none, Value.none, Value.none, Value.ref 138, Value.int 617 0, Value.int 206 0, Value.str (Str.ofString "/claim/cut.py") 618] }) ::
  (nat_lit 140, { cls := Value.type "function", data := Data.func { name := Str.ofString "_law_levels", qualname := Str.ofString "_law_levels", params := a23, body := FuncBody.stmts (b23), scope := c23, globals := 3, closure := [], defaults := Value.none, kwdefaults := Value.none, pyModule := Value.str (Str.ofString "law_in0242_01") 548, code := Value.ref 139 } }) ::
  (nat_lit 141, { cls := Value.type "tuple", data := Data.seq #[] }) ::
  (nat_lit 144, { cls := Value.type "code", data := Data.fields #[Value.str (Str.ofString "law") 620, Value.str (Str.ofString "law") 621, Value.str (Str.ofString "/claim/cut.py") 622, Value.int 212 0, Value.int 1 0, Value.int 0 0, Value.int 0 0, Value.int 3 0, Value.ref 141, Value.bool true, Value.int 276 0, Value.ref 142, Value.none, Value.none, Value.none, Value.ref 143, Value.int 623 0, Value.int 212 0, Value.str (Str.ofString "/claim/cut.py") 624] }) ::
  (nat_lit 145, { cls := Value.type "function", data := Data.func { name := Str.ofString "law", qualname := Str.ofString "law", params := a24, body := FuncBody.stmts (b24), scope := c24, globals := 3, closure := [], defaults := Value.none, kwdefaults := Value.none, pyModule := Value.str (Str.ofString "law_in0242_01") 548, code := Value.ref 144 } }) :: [] : Frag)) ?a2 ?b2 ?c2 ?e2 ?a5 ?b5 ?c5 ?e5 ?a8 ?b8 ?c8 ?e8 ?a10 ?b10 ?c10 ?e10 ?a11 ?b11 ?c11 ?e11 ?a13 ?b13 ?c13 ?e13 ?a15 ?b15 ?c15 ?e15 ?a16 ?b16 ?c16 ?e16 ?a17 ?b17 ?c17 ?e17 ?a18 ?b18 ?c18 ?e18 ?a19 ?b19 ?c19 ?e19 ?a20 ?b20 ?c20 ?e20 ?a21 ?b21 ?c21 ?e21 ?a22 ?b22 ?c22 ?e22 ?a23 ?b23 ?c23 ?e23 ?a24 ?b24 ?c24 ?e24
  case e2 => exact rfl
  case e5 => exact rfl
  case e8 => exact rfl
  case e10 => exact rfl
  case e11 => exact rfl
  case e13 => exact rfl
  case e15 => exact rfl
  case e16 => exact rfl
  case e17 => exact rfl
  case e18 => exact rfl
  case e19 => exact rfl
  case e20 => exact rfl
  case e21 => exact rfl
  case e22 => exact rfl
  case e23 => exact rfl
  case e24 => exact rfl
end Mine
end
section
open PySem PySem.W PyProof.Rows PySem.Calls PySem.Spec
namespace Mine
/-- the contract of a def of the text: what it hands back, and what it leaves in the ledger -/
def Spc (w : World) (lv : Nat) (f : Addr) (vs : List Value) (P : List (Addr × Obj) → Prop) (R : List (Addr × Obj) → Value → List (Addr × Obj) → Prop) : Prop :=
  ∀ (p : Program) (loose : List Str) (mean : ExcName → Option Value) (mg mb : Str → Option Value) (dp un : Nat) (gd : Option (List Code)) (cn : Str) (cs : Scope) (a : Addr) (ccd : Value) (cl : List (Str × Addr)) (outer : List Env) (A₀ : Around) (base h₀ : Heap) (L : Addr) (m : Str → Option Value) (news : List (Addr × Obj)) (s : Shared) (Q E : Value → Shared → Prop),
    Below A₀ base outer h₀ → Fr h₀ L s.heap m → (K w.params).In h₀ → News h₀ L s.heap news → Top p loose mean mg mb h₀ → cs.kind = .function → P news → dp + lv < recursionLimit → un + 16 * lv < cLine →
    (∀ v h' tk' news', Fr h₀ L h' m → News h₀ L h' news' → R news v news' → Q v { s with heap := h', toks := tk' }) →
    wpAny (model PySem.Challenge.rw_in0242_01.row.prog w) (ktrTop dp un gd cn cs L a ccd cl outer) (call (.ref f) vs) Q E s
theorem Spc.use {w : World} {lv : Nat} {f : Addr} {vs : List Value} {P : List (Addr × Obj) → Prop} {R : List (Addr × Obj) → Value → List (Addr × Obj) → Prop} (S : Spc w lv f vs P R)
    {p : Program} {loose : List Str} {mean : ExcName → Option Value} {mg mb : Str → Option Value} {dp un : Nat} {gd : Option (List Code)} {cn : Str} {cs : Scope} {a : Addr} {ccd : Value} {cl : List (Str × Addr)} {outer : List Env} {A₀ : Around} {base h₀ : Heap} {L : Addr} {m : Str → Option Value} {news : List (Addr × Obj)} {s : Shared} {Q E : Value → Shared → Prop}
    (B : Below A₀ base outer h₀) (F : Fr h₀ L s.heap m) (X : (K w.params).In h₀) (N : News h₀ L s.heap news) (T : Top p loose mean mg mb h₀) (hk : cs.kind = .function) (hP : P news) (hd : dp + lv < recursionLimit) (hu : un + 16 * lv < cLine)
    (h : ∀ v h' tk' news', Fr h₀ L h' m → News h₀ L h' news' → R news v news' → Q v { s with heap := h', toks := tk' }) :
    wpAny (model PySem.Challenge.rw_in0242_01.row.prog w) (ktrTop dp un gd cn cs L a ccd cl outer) (call (.ref f) vs) Q E s :=
  S p loose mean mg mb dp un gd cn cs a ccd cl outer A₀ base h₀ L m news s Q E B F X N T hk hP hd hu h
end Mine
namespace Mine
/-- names of the frame and what they hold -/
def Pins (m : Str → Option Value) (ps : List (Str × Value)) : Prop := ∀ p ∈ ps, m p.1 = some p.2
theorem pin_nil {m : Str → Option Value} : Pins m [] := fun _ h => nomatch h
theorem pin_cons {m : Str → Option Value} {x : Str} {v : Value} {ps : List (Str × Value)} (h : m x = some v) (hp : Pins m ps) : Pins m ((x, v) :: ps) := fun p hm => by
  rcases List.mem_cons.mp hm with rfl | hm
  · exact h
  · exact hp p hm
theorem fr_pin {h₀ h : Heap} {L : Addr} {m : Str → Option Value} {ps : List (Str × Value)} (hp : Pins m ps) (F : Fr h₀ L h m) : Fr h₀ L h (kstB m ps) := by
  have e : kstB m ps = m := funext fun z => kstB_eq hp fun _ => rfl
  rw [e]; exact F
theorem fr_upd {h₀ h : Heap} {L : Addr} {m : Str → Option Value} {x : Str} {v : Value} {ps : List (Str × Value)} (hp : Pins m ps) (F : Fr h₀ L h (fun y => if y = x then some v else m y)) : Fr h₀ L h (fun y => if y = x then some v else kstB m ps y) := by
  have e : kstB m ps = m := funext fun z => kstB_eq hp fun _ => rfl
  rw [e]; exact F
theorem mem_l {α : Type} {a b : List α} : ∀ p ∈ a, p ∈ a ++ b := fun _ h => List.mem_append.mpr (.inl h)
theorem mem_r {α : Type} {a b : List α} : ∀ p ∈ b, p ∈ a ++ b := fun _ h => List.mem_append.mpr (.inr h)
end Mine
namespace Mine
section
variable {prog : Program} {w : World} {A : Around} {E : Value → Shared → Prop} {s : Shared} {env : Env} {h₀ : Heap} {x : Str} {body : List Stmt} {Q : Flow → Shared → Prop}
/-- a loop over a text, by an invariant over the turn's number, the frame and the ledger -/
theorem str_loop {xt : Str} {tx : Tok} {m₀ : Str → Option Value} {news : List (Addr × Obj)} (J : Nat → (Str → Option Value) → List (Addr × Obj) → Prop)
    (hh : A.handled = none) (F : Fr h₀ env.locals s.heap m₀) (N : News h₀ env.locals s.heap news) (hj : J 0 m₀ news)
    (turn : ∀ i n t m₁ news₁ h tk own, xt.cps[i]? = some n → OwnOff own (news.map (·.1)) → J i m₁ news₁ → Fr h₀ env.locals h (fun y => if y = x then some (.str ⟨#[n]⟩ t) else m₁ y) → News h₀ env.locals h (news₁ ++ own) →
      wpAny (model prog w) A (execs body env) (InvPostN h₀ env.locals (J (i + 1)) own (news.map (·.1)) { s with heap := h, toks := tk } Q) E { s with heap := h, toks := tk })
    (done : ∀ m₁ news₁ h tk, J xt.cps.size m₁ news₁ → Fr h₀ env.locals h m₁ → News h₀ env.locals h news₁ → Q .next { s with heap := h, toks := tk }) :
    wpAny (model prog w) A (pyIter (.str xt tx)) (fun it s₂ => LoopAtV prog w A h₀ env x body Q E it s₂) E s := by
  refine wpAny_pyIter_str fun o St hW hst => ?_
  have W := hW A hh
  refine loop_invN J W ?_ ?_ ?_ ?_ hst (F.push _) (fun p hp => ⟨Heap.get?_push_of_some _ (N p hp).1, (N p hp).2⟩) hj ?_ ?_
  · intro hm
    exact absurd F.ns.lt ((List.mem_singleton.mp hm) ▸ Nat.lt_irrefl _)
  · intro b' hb
    rw [List.mem_singleton.mp hb]
    exact next_is_new F
  · intro p hp hI
    exact absurd (Heap.lt_size (N p hp).1) ((List.mem_singleton.mp hI) ▸ Nat.lt_irrefl _)
  · intro p hp hI
    exact absurd (Heap.lt_size (N p hp).1) ((List.mem_singleton.mp hI) ▸ Nat.lt_irrefl _)
  · rintro i v m₁ nx h tk own hi ⟨n, u, hn, rfl⟩ _ hoff hJ F₁ N₁
    exact turn i n u m₁ nx h tk own hn hoff hJ F₁ N₁
  · rintro m₁ nx h tk hJ F₁ N₁
    exact done m₁ nx h tk hJ F₁ N₁
end
end Mine
end
section
open PySem PySem.W PyProof.Rows PySem.Calls PySem.Spec
set_option linter.unusedVariables false
namespace Mine
open LCg
section
variable {prog : Program} {w : World} {A : Around} {E : Value → Shared → Prop} {s : Shared} {h₀ : Heap} {L : Addr} {m : Str → Option Value} {env : Env}
theorem compEnd_mono {s₁ : Shared} {I C D : Addr} {oI oC oD : Obj} {S : List (Addr × Obj) → Prop} {rest rest' : Value → List (Addr × Obj) → Prop} {y : Value} {s₂ : Shared} (h : CompEnd h₀ L m s₁ I oI C oC D oD S rest y s₂) (hr : ∀ y n, rest y n → rest' y n) : CompEnd h₀ L m s₁ I oI C oC D oD S rest' y s₂ := by
  obtain ⟨h', tk, n, e, F, N, off, hS, r⟩ := h
  exact ⟨h', tk, n, e, F, N, off, hS, hr _ _ r⟩
/-- the turns of a block, by an invariant over the turn's number, the items made and the ledger -/
theorem rest_inv {elt : Expr} {x : Str} {scope : Scope} {cl : List (Str × Addr)} {S : List (Addr × Obj) → Prop} {P : Nat → Value → Prop} {Fin : List Value → List (Addr × Obj) → Prop} {n : Nat} (J : Nat → List Value → List (Addr × Obj) → Prop)
    (step : ∀ i ys news v I oI C oC D m₂ h tk (E' : Value → Shared → Prop), i < n → P i v → J i ys news → NsObj oC m₂ → m₂ x = some v → Fr h₀ L h m → News h₀ L h ((I, oI) :: (C, oC) :: (D, lst ys) :: news) → Off3 I C D news → ((@Ne Nat I C) ∧ (@Ne Nat I D) ∧ (@Ne Nat C D)) →
      wpAny (model prog w) A (eval elt (compEnvC scope cl C env)) (CompEnd h₀ L m { s with heap := h, toks := tk } I oI C oC D (lst ys) S (fun y news' => J (i + 1) (ys ++ [y]) news')) E' { s with heap := h, toks := tk })
    (fin : ∀ ys news, J n ys news → Fin ys news) :
    ∀ k i ys news, i + k = n → J i ys news → CompRest prog w A h₀ L m env elt x scope cl s S P Fin k i ys news
  | 0, i, ys, news, e, hj => fin ys news (by rw [Nat.add_zero] at e; exact e ▸ hj)
  | k + 1, i, ys, news, e, hj => by
    intro v I oI C oC D m₂ h tk E' hP hC hx F N off ne
    refine wpAny_mono (step i ys news v I oI C oC D m₂ h tk E' (by omega) hP hj hC hx F N off ne) (fun y s' q => ?_) fun _ _ q => q
    exact compEnd_mono q fun y n r => rest_inv J step fin k (i + 1) _ _ (by omega) r
/-- bytes to build from, with the invariant of the turns -/
def BytesSrc (prog : Program) (w : World) (A : Around) (h₀ : Heap) (L : Addr) (m : Str → Option Value) (env : Env) (elt : Expr) (x : Str) (scope : Scope) (cl : List (Str × Addr)) (Q : Value → Shared → Prop) (xv : Value) (s₁ : Shared) : Prop :=
  ∃ b t news, ∃ J : Nat → List Value → List (Addr × Obj) → Prop, xv = .bytes b t ∧ A.handled = none ∧ Fr h₀ L s₁.heap m ∧ News h₀ L s₁.heap news ∧ b.size ≤ sizeLine ∧ J 0 [] news ∧
      (∀ i ys news v I oI C oC D m₂ h tk (E' : Value → Shared → Prop), i < b.size → (∃ c u, b[i]? = some c ∧ v = .int (c.toNat : Int) u) → J i ys news → NsObj oC m₂ → m₂ x = some v → Fr h₀ L h m → News h₀ L h ((I, oI) :: (C, oC) :: (D, lst ys) :: news) → Off3 I C D news → ((@Ne Nat I C) ∧ (@Ne Nat I D) ∧ (@Ne Nat C D)) →
        wpAny (model prog w) A (eval elt (compEnvC scope cl C env)) (CompEnd h₀ L m { s₁ with heap := h, toks := tk } I oI C oC D (lst ys) (fun _ => True) (fun y news' => J (i + 1) (ys ++ [y]) news')) E' { s₁ with heap := h, toks := tk }) ∧
      (∀ ys news D h tk, J b.size ys news → Fr h₀ L h m → News h₀ L h ((D, lst ys) :: news) → Off1 D news → Q (.ref D) { s₁ with heap := h, toks := tk })
theorem BytesSrc.intro {elt : Expr} {x : Str} {scope : Scope} {cl : List (Str × Addr)} {Q : Value → Shared → Prop} {b : Array UInt8} {t : Tok} {news : List (Addr × Obj)} (J : Nat → List Value → List (Addr × Obj) → Prop)
    (hh : A.handled = none) (F : Fr h₀ L s.heap m) (N : News h₀ L s.heap news) (hz : b.size ≤ sizeLine) (hj : J 0 [] news)
    (step : ∀ i ys news v I oI C oC D m₂ h tk (E' : Value → Shared → Prop), i < b.size → (∃ c u, b[i]? = some c ∧ v = .int (c.toNat : Int) u) → J i ys news → NsObj oC m₂ → m₂ x = some v → Fr h₀ L h m → News h₀ L h ((I, oI) :: (C, oC) :: (D, lst ys) :: news) → Off3 I C D news → ((@Ne Nat I C) ∧ (@Ne Nat I D) ∧ (@Ne Nat C D)) →
        wpAny (model prog w) A (eval elt (compEnvC scope cl C env)) (CompEnd h₀ L m { s with heap := h, toks := tk } I oI C oC D (lst ys) (fun _ => True) (fun y news' => J (i + 1) (ys ++ [y]) news')) E' { s with heap := h, toks := tk })
    (fin : ∀ ys news D h tk, J b.size ys news → Fr h₀ L h m → News h₀ L h ((D, lst ys) :: news) → Off1 D news → Q (.ref D) { s with heap := h, toks := tk }) :
    BytesSrc prog w A h₀ L m env elt x scope cl Q (.bytes b t) s := ⟨b, t, news, J, rfl, hh, F, N, hz, hj, step, fin⟩
/-- a list built from bytes -/
theorem comp_bytes {elt iter : Expr} {x : Str} {px : Pos} {scope : Scope} {cl : List (Str × Addr)} {pos : Pos} {Q : Value → Shared → Prop} (F₀ : Fr h₀ L s.heap m)
    (hclos : closureFor scope env = pure cl) (hcell : ∀ y ∈ scope.names, y.2 ≠ .cell) (hkind : scope.kind = .function)
    (hnames : ∀ y ∈ scope.names, y.2 = .local → scope.names.lookup y.1 = some .local) (hx : scope.names.lookup x = some .local)
    (h : wpAny (model prog w) A (eval iter env) (BytesSrc prog w A h₀ L m env elt x scope cl Q) E s)
    (hs : ∀ x, foldedSetIterable iter env x = pure x := by intro _; rfl) :
    wpAny (model prog w) A (eval (.ListComp elt [⟨.Name x px, iter, [], 0⟩] scope pos) env) Q E s := by
  rw [eval_ListComp]
  refine wpAny_comprehension_free (use := none) rfl hs hclos hkind hnames (wpAny_mono h (fun xv s₁ h₁ => ?_) fun _ _ e => e)
  obtain ⟨b, t, news, J, rfl, hh, F, N, hsz, hj, step, fin⟩ := h₁
  refine KBw.pyIter_bytes ?_
  have up : ∀ c o, s₁.heap.get? c = some o → (s₁.heap.push { cls := .type "bytes_iterator", data := .fields #[.bytes b t, .int 0 0] }).get? c = some o := fun c o e => Heap.get?_push_of_some _ e
  refine block_U (Fin := fun ys news => J b.size ys news) (KBw.walks hh s₁.heap.objs.size b t) hsz (fun i h st => by obtain ⟨o, e, _⟩ := st; exact ⟨o, e⟩) (S := fun _ => True)
    (fun i h h' o nw st e e' _ _ _ => by obtain ⟨o', q, r⟩ := st; rw [e] at q; cases q; exact ⟨o, e', r⟩) hcell hkind hx ⟨_, Heap.get?_push_size _ rfl, rfl, rfl⟩ (fun c hc => ?_)
    (F.keeps up) (N.grown up) (Nat.ne_of_lt F.ns.lt) (next_is_new F) (fun p hp => Nat.ne_of_lt (Heap.lt_size (N p hp).1)) trivial (rest_inv (s := { s₁ with heap := s₁.heap.push { cls := .type "bytes_iterator", data := .fields #[.bytes b t, .int 0 0] } }) J (fun i ys news v I oI C oC D m₂ h tk E' => step i ys news v I oI C oC D m₂ h tk E') (fun _ _ q => q) _ 0 [] news (Nat.zero_add _) hj) ?_
  · rw [List.mem_singleton.mp hc]
    show s₁.heap.objs.size < (s₁.heap.push _).objs.size
    rw [Heap.size_push]; exact Nat.lt_succ_self _
  · intro D C h tk m' ys news' F' N' o1 hn hC₀ hD₀ hCL hDL hCD offC hf
    refine ⟨m', hn, fun h'' hs'' => fin ys news' D h'' tk hf (F'.change hs'' hCL hC₀) (fun p hp => ?_) o1⟩
    refine ⟨hs''.extBut _ _ ?_ (N' p hp).1, (N' p hp).2⟩
    rcases List.mem_cons.mp hp with rfl | hp
    · exact Ne.symm hCD
    · exact offC p hp
end
end Mine
end
section
open PySem PySem.W PyProof.Rows PySem.Calls PySem.Spec
set_option linter.unusedVariables false
set_option maxRecDepth 100000
set_option maxHeartbeats 4000000
namespace Mine
theorem app_look : typeLookup (.type "list") (Str.ofString "append") = pure (some (.builtin "list.append")) := by rw [typeLookup_type, builtinLookup_eq_fast]; kernel_rfl
theorem k1 : builtinKind "list.append" = some .method := by decide +kernel
theorem mdg_slot : Slot "method_descriptor" (Str.ofString "__get__") "method_descriptor.__get__" :=
  Slot.of (owner := "method_descriptor") (n := "__get__") (by rw [typeLookup_type, builtinLookup_eq_fast]; kernel_rfl) (by decide +kernel) (by decide +kernel) (by decide +kernel) (by first | exact .inl (by decide +kernel) | exact .inr (by decide +kernel)) (by rw [isSubtype_type]; kernel_rfl)
theorem mdg_entry : entryFor table "method_descriptor.__get__" = some Builtin.«method_descriptor.__get__» := entryFor_of_tree (by kernel_rfl)
theorem mdg_args (a b c : Value) : argsOk "method_descriptor.__get__" ⟨[a, b, c], []⟩ := by unfold argsOk; kernel_rfl
/-- «xs.append», bound -/
abbrev appObj (a : Addr) : Obj := { cls := .type "builtin_function_or_method", data := .fields #[.builtin "list.append", .ref a] }
theorem meets_append (a : Addr) (xs : Array Value) (k : Nat) (sl : Array (Option Value)) (u : Tok) :
    Meets (Builtin.«object.__getattribute__» ⟨[.ref a, .str (Str.ofString "append") u], []⟩) (fun A R s => s.heap.get? a = some { cls := .type "list", dict := none, data := .seq xs k, slots := sl } ∧ R (.ok (.ret (.ref s.heap.objs.size))) { s with heap := s.heap.push (appObj a) }) :=
  Meets.of_wp fun prog w A R s hs => by
    obtain ⟨hp, g, d, tk, os⟩ := s
    obtain ⟨hx, hs⟩ := hs
    have hT : (⟨hp, g, d, tk, os⟩ : Shared).TypeIs (.ref a) "list" := ⟨_, hx, rfl⟩
    have hmiss := app_look
    unfold Builtin.«object.__getattribute__»
    repeat (any_goals (first | assumption | wp_step))
    have k3 : typeLookup (.type "method_descriptor") (Str.ofString "__get__") = pure (some (.builtin "method_descriptor.__get__")) := by rw [typeLookup_type, builtinLookup_eq_fast]; kernel_rfl
    have k4 : typeLookup (.type "method_descriptor") (Str.ofString "__set__") = pure none := by rw [typeLookup_type, builtinLookup_eq_fast]; kernel_rfl
    have k5 : typeLookup (.type "method_descriptor") (Str.ofString "__delete__") = pure none := by rw [typeLookup_type, builtinLookup_eq_fast]; kernel_rfl
    repeat (any_goals (first | assumption | (rw [k1]; dsimp only) | wp_step))
    have hA : ∀ s : Shared, s.TypeIs (.builtin "list.append") "method_descriptor" := fun s => by show builtinType _ = _; unfold builtinType; kernel_rfl
    refine codeAny_call_builtin mdg_slot.plain mdg_entry (mdg_slot.check _ _ _ _ _ _ _ _ (hA _) (mdg_args _ _ _) ?_)
    unfold Builtin.«method_descriptor.__get__»
    repeat (any_goals (first | assumption | (rw [k1]; dsimp only) | wp_step))
    have k6 : isSubtype (.type "list") (.type (".".intercalate ("list.append".cutAt '.').dropLast)) = pure true := by
      rw [show ".".intercalate ("list.append".cutAt '.').dropLast = "list" from by decide +kernel, isSubtype_type]; kernel_rfl
    repeat (any_goals (first | assumption | (rw [k1]; dsimp only) | wp_step))
    exact ⟨_, rfl, hs⟩
theorem getAttr_append {prog : Program} {w : World} {A : Around} {E : Value → Shared → Prop} {s : Shared} {a : Addr} {xs : Array Value} {k : Nat} {Q : Value → Shared → Prop}
    (hx : s.heap.get? a = some (listOf xs k)) (h : ∀ tk, Q (.ref s.heap.objs.size) { s with heap := s.heap.push (appObj a), toks := tk }) :
    wpAny (model prog w) A (getAttr (.ref a) (Str.ofString "append") true) Q E s := by
  obtain ⟨hp, g, d, tk, os⟩ := s
  have hT : ∀ tk', (⟨hp, g, d, tk', os⟩ : Shared).TypeIs (.ref a) "list" := fun _ => ⟨_, hx, rfl⟩
  have f3 := F.slot_list_getattribute.lookup
  have f4 := F.slot_list_getattribute.bind (.ref a)
  unfold getAttr getAttrBy
  repeat (any_goals (first | assumption | exact hT _ | ((with_reducible show wpAny _ _ (call (Value.builtin "list.__getattribute__") _ _) _ _ _); refine call_meets F.slot_list_getattribute (hT _) am_entry_list_getattribute (F.args_list_getattribute_2 _ _) (meets_append a xs k #[] _) ⟨hx, ?_⟩) | wp_step))
  show wpAny _ _ (handedOut _) _ _ _
  unfold handedOut
  have hb : ∀ tk', ((⟨hp.push (appObj a), g, d, tk', os⟩ : Shared)).heap.get? hp.objs.size = some (appObj a) := fun _ => Heap.get?_push_size _ rfl
  repeat (any_goals (first | assumption | exact hb _ | wp_step))
  exact h _
end Mine
end
section
open PySem PySem.W PyProof.Rows PySem.Calls PySem.Spec
set_option linter.unusedVariables false
set_option maxRecDepth 100000
set_option maxHeartbeats 4000000
namespace Mine
theorem bound_check {M : Model} {A : Around} {E : Value → Shared → Prop} {s : Shared} {a : Addr} {xs : Array Value} {k : Nat} {x : Value} {Q : Unit → Shared → Prop} (hx : s.heap.get? a = some (listOf xs k)) (h : Q () s) :
    wpAny M A (checkBoundCall "list.append" ⟨[.ref a, x], []⟩) Q E s := by
  have hT : s.TypeIs (.ref a) "list" := ⟨_, hx, rfl⟩
  obtain ⟨sg, hsg⟩ : ∃ sg, Manifest.signature? "list.append" = some sg := Option.isSome_iff_exists.mp (by decide +kernel)
  unfold checkBoundCall
  rw [hsg, k1]
  have hv : Manifest.varargsMethods.contains "list.append" = false := by decide +kernel
  have f1 : isSubtype (.type "list") (.type "module") = pure false := by rw [isSubtype_type]; kernel_rfl
  have f2 : isSubtype (.type "list") (.type "type") = pure false := by rw [isSubtype_type]; kernel_rfl
  have hc : Bind.checkArgs "list.append" { sg with full := s!"{Bind.lastOf "list"}.{Bind.lastOf "list.append"}" } ⟨[.ref a, x], []⟩ = pure () := by
    obtain ⟨hh, rfl⟩ := Option.eq_some_iff_get_eq.mp hsg
    clear hsg
    kernel_rfl
  repeat (any_goals (first | assumption | ((with_reducible show wpAny _ _ (Bind.checkArgs _ _ _) _ _ _); exact wpAny_of_eq hc h) | wp_step))
theorem call_bound {prog : Program} {w : World} {A : Around} {E : Value → Shared → Prop} {s : Shared} {a b : Addr} {xs : Array Value} {k : Nat} {x : Value} {Q : Value → Shared → Prop}
    (hb : s.heap.get? b = some (appObj a)) (hx : s.heap.get? a = some (listOf xs k)) (hsz : xs.size ≤ sizeLine)
    (h : ∀ h', Heap.SameBut a s.heap h' → h'.get? a = some (listOf (xs.push x) (k + 1)) → Q .none { s with heap := h' }) :
    wpAny (model prog w) A (call (.ref b) [x]) Q E s := by
  refine wpAny_call (codeAny_of_tree ?_)
  show wpAny _ A.in1 (callAny (.ref b) ⟨[x], []⟩) _ _ s
  simp only [callAny]
  refine wpAny_bind (wpAny_load hb ?_)
  show wpAny _ _ (do checkBoundCall "list.append" ⟨[.ref a, x], []⟩; return ← again (.builtin "list.append" ⟨[.ref a, x], []⟩)) _ _ s
  refine wpAny_bind (bound_check hx ?_)
  refine wpAny_bind (wpAny_pure (wpAny_pure ⟨plainId_quiet slot_list_append.plain _, codeAny_builtin entry_list_append ?_⟩))
  show wpAny _ _ (updateSeq a (·.push x) >>= fun _ => ret .none) _ _ s
  refine wpAny_bind (wpAny_updateSeq hx rfl (hz := hsz) (wpAny_pure (h _ (Heap.SameBut.update ..) ?_)))
  rw [Heap.get?_update_self _ hx (by rw [mapSeq_push]; rfl), mapSeq_push]
section
variable {prog : Program} {w : World} {A : Around} {E : Value → Shared → Prop} {s : Shared} {h₀ : Heap} {L l b : Addr} {m : Str → Option Value} {news news' : List (Addr × Obj)} {Q : Value → Shared → Prop}
theorem getAppend_K {its : Array Value} {n : Nat} (F : Fr h₀ L s.heap m) (N : News h₀ L s.heap news) (hm : (l, listOf its n) ∈ news)
    (h : ∀ b h' tk, Fr h₀ L h' m → News h₀ L h' ((b, appObj l) :: news) → (∀ p ∈ news, p.1 < b) → Q (.ref b) { s with heap := h', toks := tk }) :
    wpAny (model prog w) A (getAttr (.ref l) (Str.ofString "append") true) Q E s :=
  getAttr_append (N.get hm) fun tk => h _ _ tk (F.push _) (N.push F _) fun p hp => Heap.lt_size (N p hp).1
theorem callAppend_K {its : Array Value} {n : Nat} {x : Value} (F : Fr h₀ L s.heap m) (N : News h₀ L s.heap news) (hb : (b, appObj l) ∈ news) (U : Upd l (listOf its n) (listOf (its.push x) (n + 1)) news news') (hsz : its.size ≤ sizeLine)
    (h : ∀ h', Fr h₀ L h' m → News h₀ L h' news' → Q .none { s with heap := h' }) : wpAny (model prog w) A (call (.ref b) [x]) Q E s := by
  obtain ⟨pre, post, rfl, rfl, a, c⟩ := U.split
  have z := N (l, listOf its n) (List.mem_append.mpr (.inr (.head _)))
  exact call_bound (N.get hb) z.1 hsz fun h' hs ho' => h h' (F.change hs z.2.1 z.2.2) (news_set N a c hs ho')
end
end Mine
end
section
open PySem PySem.W PyProof.Rows PySem.Calls PySem.Spec
set_option linter.unusedVariables false
set_option maxRecDepth 100000
set_option maxHeartbeats 4000000
namespace Mine
theorem tl_keep {prog : Program} {w : World} {A : Around} {E : Value → Shared → Prop} {s : Shared} {d : Addr} {D : List (PyData × PyData)} {c : Nat} {Q : Builtin.Str.Mapped → Shared → Prop} (T : IntTab prog w s.heap d D) (hh : A.handled = none) (hl : PySem.Spec.lookup (.int c) D = none)
    (h : ∀ h' tk, (∀ b o, s.heap.get? b = some o → h'.get? b = some o) → Q .keep { s with heap := h', toks := tk }) :
    wpAny (model prog w) A (Builtin.Str.tableLookup (.ref d) c) Q E s := by
  unfold Builtin.Str.tableLookup
  refine wpAny_bind (wpAny_attempt (wpAny_bind (wpAny_mkInt ?_)))
  obtain ⟨lo, kvs, hd, hf⟩ := T
  have hm : ∃ f, s.heap.MapOf (intKind prog w) d f ∧ f c = none := ⟨_, hd.mapOf, hf.none_of_lookup PyProof.V.same_int hl⟩
  obtain ⟨f, hm, hv⟩ := hm
  refine wpAny_getItem_missing_of (knd := intKind prog w) (intKind_is _ _ _ _) lo hh hm hv fun h' e hx => ?_
  dsimp only
  obtain ⟨ob, t, he, hc, hdat⟩ := hx.there
  have hT : ∀ tk', (⟨h', s.gens, s.drawn, tk', s.os⟩ : Shared).TypeIs (.ref e) "KeyError" := fun _ => ⟨_, he, hc⟩
  have f1 : isSubtype (.type "KeyError") (.type "LookupError") = pure true := by rw [isSubtype_type]; kernel_rfl
  refine wpAny_bind (wpAny_isInstance (hT _) f1 ?_)
  simp only [if_true]
  exact wpAny_bind (wpAny_rule (wpAny_pure (h _ _ hx.keeps)))
theorem translate_B {prog : Program} {w : World} {A : Around} {E : Value → Shared → Prop} {s : Shared} {d : Addr} {t : Tok} {D : List (PyData × PyData)} {Q : Value → Shared → Prop} (T : IntTab prog w s.heap d D) (hh : A.handled = none) (hl : PySem.Spec.lookup (.int 66) D = none)
    (h : ∀ h' tk t', (∀ b o, s.heap.get? b = some o → h'.get? b = some o) → Q (.str ⟨#[66]⟩ t') { s with heap := h', toks := tk }) :
    wpAny (model prog w) A (call (.builtin "str.translate") [.str ⟨#[66]⟩ t, .ref d]) Q E s := by
  refine wpAny_call_entry PySem.F.slot_str_translate (typeIs_str _ _ _) PySem.F.entry_str_translate ?_ (PySem.F.args_str_translate_2 _ _)
  unfold Builtin.«str.translate»
  repeat (any_goals (first | assumption | ((with_reducible show wpAny _ _ (Builtin.Str.tableLookup _ _) _ _ _); (show wpAny _ _ (Builtin.Str.tableLookup _ 66) _ _ _); refine tl_keep T hh hl fun h' tk' hk' => ?_) | wp_step))
  exact ⟨_, rfl, h h' _ tk' hk'⟩
/-- the dict of the special signs -/
def specD : List (Int × PyData) := [40, 41, 91, 93, 123, 125, 63, 42, 43, 45, 124, 94, 36, 92, 46, 38, 126, 35, 32, 9, 10, 13, 11, 12].map fun c : Nat => ((c : Int), PyData.str ⟨#[92, c]⟩)
theorem spec_tab {w : World} {h : Heap} (X : (K w.params).In h) : KTD.Keyed h 52 specD := kt_keyed_in X (by kernel_rfl)
theorem spec_66 : PySem.Spec.lookup (.int 66) (specD.map fun p => (PyData.int p.1, p.2)) = none := by kernel_rfl
theorem translate_K {prog : Program} {w : World} {A : Around} {E : Value → Shared → Prop} {s : Shared} {h₀ : Heap} {L : Addr} {m : Str → Option Value} {news : List (Addr × Obj)} {t : Tok} {Q : Value → Shared → Prop}
    (F : Fr h₀ L s.heap m) (N : News h₀ L s.heap news) (X : (K w.params).In h₀) (hh : A.handled = none)
    (h : ∀ h' tk t', Fr h₀ L h' m → News h₀ L h' news → Q (.str ⟨#[66]⟩ t') { s with heap := h', toks := tk }) :
    wpAny (model prog w) A (call (.builtin "str.translate") [.str ⟨#[66]⟩ t, .ref 52]) Q E s :=
  translate_B (spec_tab (X.keeps F.keep) prog w) hh spec_66 fun h' tk t' hk => h h' tk t' (F.keeps hk) fun p hp => ⟨hk _ _ (N p hp).1, (N p hp).2⟩
end Mine
end
section
open PySem PySem.W PyProof.Rows PySem.Calls PySem.Spec
set_option linter.unusedVariables false
namespace Mine
set_option maxRecDepth 100000
section
variable {prog : Program} {w : World} {A : Around} {E : Value → Shared → Prop} {s : Shared} {h₀ : Heap} {L l b : Addr} {m : Str → Option Value} {news news' : List (Addr × Obj)} {Q : Value → Shared → Prop}
def AppAt (b l : Addr) (h : Heap) : Prop := h.get? b = some (appObj l)
theorem app_at {h : Heap} (N : News h₀ L h news) (hm : (b, appObj l) ∈ news) : AppAt b l h := N.get hm
theorem keeps_app (h : Heap) (X : AppAt b l h) : ∃ k, (k = Keeper.frame ∨ k = Keeper.machine ∨ k = Keeper.boundFrame) ∧ Looks (model prog w) h (keeperOf (.ref b)) k :=
  ⟨.machine, .inr (.inl rfl), (Looks.ld (part := none) X).andThen .now⟩
theorem callWith_app {pos : Pos} {first : List Value} {env : Env} {e : Expr} {rest : List Expr} (_N : News h₀ L s.heap news) (_hb : (b, appObj l) ∈ news)
    (h : wpAny (model prog w) A (spliced (backTo pos (starEach (e :: rest) env))) (fun vs s₁ => AppAt b l s₁.heap ∧ wpAny (model prog w) A (call (.ref b) (first ++ vs)) Q E s₁) E s)
    (he : starEach (e :: rest) env = (false, eval e env) :: starEach rest env := by rfl) (hplain : (backTo pos (starEach rest env)).any (·.1) = false := by rfl) :
    wpAny (model prog w) A (callWith pos (.ref b) first (backTo pos (starEach (e :: rest) env)) []) Q E s := by
  rw [he] at h ⊢
  exact callWith_of (by show ((false || (backTo pos (starEach rest env)).any (·.1)) || false) = false; rw [hplain]; rfl) keeps_app (evalArgs_plain h)
end
end Mine
end
section
open PySem PySem.W PyProof.Rows PySem.Calls PySem.Spec
set_option linter.unusedVariables false
namespace Mine
section
variable {prog : Program} {w : World} {A : Around} {E : Value → Shared → Prop} {Q : Flow → Shared → Prop} {s : Shared} {env : Env}
/-- a loop of at most `k` turns, turn by turn -/
noncomputable def WhileU (prog : Program) (w : World) (A : Around) (E : Value → Shared → Prop) (Q : Flow → Shared → Prop) (env : Env) (test : Expr) (body : List Stmt) : Nat → Shared → Prop
  | 0, _ => False
  | k + 1, s => wpAny (model prog w) A (isTrue test env (eval test env)) (fun b s₂ =>
        if b = true then wpAny (model prog w) A (execs body env) (fun f s₃ => match f with
          | .next | .cont => WhileU prog w A E Q env test body k s₃
          | .brk => Q .next s₃
          | .ret v => Q (.ret v) s₃) E s₂ else Q .next s₂) E s
theorem While_unroll {test : Expr} {body : List Stmt} {pos : Pos} (k : Nat) (h : WhileU prog w A E Q env test body k s) (hE : PassesOwn (model prog w) A env E := by passes_own) :
    wpAny (model prog w) A (exec (.While test body [] pos) env) Q E s := by
  refine wpAny_While (codeAny_whileLoop (fun n s' => WhileU prog w A E Q env test body n s') ?_ k h)
  intro n s' hJ
  match n, hJ with
  | n + 1, hJ =>
    unfold WhileU at hJ
    refine wpAny_mono hJ (fun b s₂ h₂ => ?_) hE
    cases b with
    | false =>
      simp only [Bool.false_eq_true, if_false] at h₂ ⊢
      exact wpAny_execs_nil h₂
    | true =>
      simp only [if_true] at h₂ ⊢
      refine wpAny_mono h₂ (fun f s₃ h₃ => ?_) hE
      cases f with
      | next => exact ⟨n, Nat.lt_succ_self n, h₃⟩
      | cont => exact ⟨n, Nat.lt_succ_self n, h₃⟩
      | brk => exact h₃
      | ret v => exact h₃
/-- what is owed at the end of a turn -/
def UCont (prog : Program) (w : World) (A : Around) (E : Value → Shared → Prop) (Q : Flow → Shared → Prop) (env : Env) (test : Expr) (body : List Stmt) (k : Nat) (f : Flow) (s₃ : Shared) : Prop :=
  match f with
  | .next | .cont => WhileU prog w A E Q env test body k s₃
  | .brk => Q .next s₃
  | .ret v => Q (.ret v) s₃
theorem UCont_next {test : Expr} {body : List Stmt} {k : Nat} (h : WhileU prog w A E Q env test body k s) : UCont prog w A E Q env test body k .next s := h
theorem UCont_brk {test : Expr} {body : List Stmt} {k : Nat} (h : Q .next s) : UCont prog w A E Q env test body k .brk s := h
theorem WhileU_turn {test : Expr} {body : List Stmt} {k : Nat} (h : wpAny (model prog w) A (isTrue test env (eval test env)) (fun b s₂ =>
        if b = true then wpAny (model prog w) A (execs body env) (UCont prog w A E Q env test body k) E s₂ else Q .next s₂) E s) : WhileU prog w A E Q env test body (k + 1) s := by
  unfold WhileU; exact h
end
end Mine
end
section
open PySem PySem.W PyProof.Rows PySem.Calls PySem.Spec
open Builtin Builtin.Str
set_option linter.unusedVariables false
namespace Mine
set_option maxRecDepth 100000
def fnd (x y : Str) (i j : Int) : Int := match occurrences x y (fromIndex x.length i) (min (fromIndex x.length j) x.length) 1 with | k :: _ => (k : Int) | [] => -1
theorem gives_find4 (x y : Str) (i j : Int) (t u v v' : Tok) : Gives («str.find» ⟨[.str x t, .str y u, .int i v, .int j v'], []⟩) (.int (fnd x y i j)) := by
  unfold fnd
  show Gives (match occurrences x y (fromIndex x.length i) (min (fromIndex x.length j) x.length) 1 with | k :: _ => retInt k | [] => (do rule "str.find.not-found"; retInt (-1))) _
  cases occurrences x y (fromIndex x.length i) (min (fromIndex x.length j) x.length) 1 with
  | nil => exact .rule (.of_eq rfl)
  | cons k _ => exact .of_eq rfl
theorem find_K {prog : Program} {w : World} {A : Around} {E : Value → Shared → Prop} {s : Shared} {x y : Str} {i j : Int} {t u v v' : Tok} {Q : Value → Shared → Prop} (r : Int) (e : fnd x y i j = r)
    (h : Q (.int r s.toks) { s with toks := s.toks + 1 }) : wpAny (model prog w) A (call (.builtin "str.find") [.str x t, .str y u, .int i v, .int j v']) Q E s := by
  subst e
  exact call_gives F.slot_str_find (typeIs_str _ _ _) F.entry_str_find (F.args_str_find_4 _ _ _ _) (gives_find4 x y i j t u v v') h
end Mine
end
section
open PySem PySem.W PyProof.Rows PySem.Calls PySem.Spec
set_option linter.unusedVariables false
namespace Mine
set_option maxRecDepth 100000
/-- an item by its place, read off a written list -/
noncomputable def nthV : List Value → Nat → Option Value
  | [], _ => none
  | a :: _, 0 => some a
  | _ :: l, k + 1 => nthV l k
theorem nthV_eq : ∀ (l : List Value) (k : Nat), nthV l k = l[k]?
  | [], k => by simp [nthV]
  | a :: l, 0 => rfl
  | a :: l, k + 1 => by rw [List.getElem?_cons_succ, ← nthV_eq l k]; rfl
section
variable {prog : Program} {w : World} {A : Around} {E : Value → Shared → Prop} {s : Shared} {h₀ : Heap} {L l b : Addr} {m : Str → Option Value} {news news' : List (Addr × Obj)} {Q : Value → Shared → Prop}
/-- an item of a list of the ledger -/
theorem item_K {value slice : Expr} {its : Array Value} {n : Nat} {k : Int} {u : Tok} {v : Value} (N : News h₀ L s.heap news) (hm : (l, listOf its n) ∈ news) (h0 : 0 ≤ k) (hhi : k < 2 ^ 63) (hx : nthV its.toList k.toNat = some v) (h : Q v s)
    (hs : subscripted slice false (.ref l) (.int k u) = operate [.ref l, .int k u] (getItem (.ref l) (.int k u)) := by with_unfolding_all rfl) :
    wpAny (model prog w) A (subscriptTail value slice (.ref l) (.int k u)) Q E s :=
  tail_any (News.isList N hm).typeIs slot_list_getitem.lookup (wpAny_getItem_list (News.isList N hm) h0 hhi (by rw [← Array.getElem?_toList, ← nthV_eq]; exact hx) h) hs
end
end Mine
end
section
open PySem PySem.W PyProof.Rows PySem.Calls PySem.Spec
set_option linter.unusedVariables false
namespace Mine
section
variable {prog : Program} {w : World} {A : Around} {E : Value → Shared → Prop} {s : Shared} {env : Env} {h₀ : Heap} {L : Addr}
/-- a cut between two statements: what the names hold and what the ledger holds, all else forgotten -/
theorem cut {α : Type} {m₀ : Str → Option Value} {st : Stmt} {rest : List Stmt} {Q : Flow → Shared → Prop} (F : Fr h₀ L s.heap m₀) (ps : α → List (Str × Value)) (nx : α → List (Addr × Obj)) (P : α → Prop)
    (h1 : ∀ Q' : Flow → Shared → Prop, (∀ h tk m' y, Fr h₀ L h m' → News h₀ L h (nx y) → Pins m' (ps y) → P y → Q' .next { s with heap := h, toks := tk }) → wpAny (model prog w) A (exec st env) Q' E s)
    (h2 : ∀ h tk m' y, Fr h₀ L h m' → News h₀ L h (nx y) → Pins m' (ps y) → P y → wpAny (model prog w) A (execs rest env) Q E { s with heap := h, toks := tk }) :
    wpAny (model prog w) A (execs (st :: rest) env) Q E s :=
  wpAny_execs_cons (h1 _ fun h tk m' y F N hp hy => h2 h tk m' y F N hp hy)
/-- the same ahead of a list of statements, for a list that is left by its end alone -/
theorem cutE {α : Type} {m₀ : Str → Option Value} {v : Sem Value} {g : Value → Sem Flow} {Q : Flow → Shared → Prop} (F : Fr h₀ L s.heap m₀) (val : α → Value) (ps : α → List (Str × Value)) (nx : α → List (Addr × Obj)) (P : α → Prop)
    (h1 : ∀ Q' : Value → Shared → Prop, (∀ h tk m' y, Fr h₀ L h m' → News h₀ L h (nx y) → Pins m' (ps y) → P y → Q' (val y) { s with heap := h, toks := tk }) → wpAny (model prog w) A v Q' E s)
    (h2 : ∀ h tk m' y, Fr h₀ L h m' → News h₀ L h (nx y) → Pins m' (ps y) → P y → wpAny (model prog w) A (g (val y)) Q E { s with heap := h, toks := tk }) :
    wpAny (model prog w) A (v >>= g) Q E s := wpAny_bind (h1 _ fun h tk m' y F N hp hy => h2 h tk m' y F N hp hy)
end
theorem sub_cons {α : Type} {a : α} {r l : List α} (h : a ∈ l) (hr : ∀ p ∈ r, p ∈ l) : ∀ p ∈ a :: r, p ∈ l := fun p hp => by
  rcases List.mem_cons.mp hp with rfl | hp
  · exact h
  · exact hr p hp
theorem sub_tail {α : Type} {b : α} {r l : List α} (hr : ∀ p ∈ r, p ∈ l) : ∀ p ∈ r, p ∈ b :: l := fun p hp => .tail _ (hr p hp)
theorem news_sub {h₀ h : Heap} {L : Addr} {a b : List (Addr × Obj)} (N : News h₀ L h a) (hs : ∀ p ∈ b, p ∈ a) : News h₀ L h b := fun p hp => N p (hs p hp)
end Mine
end
section
open PySem PySem.W PyProof.Rows PySem.Calls PySem.Spec
set_option linter.unusedVariables false
set_option maxHeartbeats 4000000
namespace Mine
/-- a table of a def's blocks: in threes, each code an object -/
def Tb (ps : Array Value) : Prop := TriplesOk ps.toList ∧ ∀ pos v, codeAmong pos ps.toList = some v → ∃ c, v = .ref c
theorem among_snoc {pos q : Pos} {c : Addr} : ∀ {l : List Value}, TriplesOk l → (∀ v, codeAmong q l = some v → ∃ c, v = .ref c) → ∀ v, codeAmong q (l ++ [rawInt pos.line, rawInt pos.col, .ref c]) = some v → ∃ c, v = .ref c
  | [], _, _, v, h => by
    simp only [List.nil_append, rawInt, codeAmong] at h
    split at h
    · cases h; exact ⟨_, rfl⟩
    · cases h
  | .int _ _ :: .int _ _ :: _ :: rest, ht, hv, v, h => by
    simp only [List.cons_append, codeAmong] at h hv
    split at h
    · rename_i e
      exact hv v (by rw [if_pos e]; exact h)
    · rename_i e
      exact among_snoc (l := rest) ht (fun v' h' => hv v' (by rw [if_neg e]; exact h')) v h
theorem Tb.snoc {ps : Array Value} (t : Tb ps) (pos : Pos) (c : Addr) : Tb (ps ++ #[rawInt pos.line, rawInt pos.col, .ref c]) := by
  have e : (ps ++ #[rawInt pos.line, rawInt pos.col, Value.ref c]).toList = ps.toList ++ [rawInt pos.line, rawInt pos.col, .ref c] := by simp
  unfold Tb
  rw [e]
  exact ⟨TriplesOk_snoc _ _ _ _ t.1, fun q v h => among_snoc t.1 (fun v h => t.2 q v h) v h⟩
theorem Tb.nil : Tb #[] := ⟨trivial, fun _ _ h => nomatch h⟩
theorem pass_all (n : Nat) : passing (fun _ => true) n 0 = List.range n := by
  unfold passing
  rw [List.drop_zero, List.filter_eq_self.mpr fun _ _ => rfl]
section
variable {prog : Program} {w : World} {A : Around} {E : Value → Shared → Prop} {s : Shared} {h₀ : Heap} {L : Addr} {m mg mb : Str → Option Value} {news : List (Addr × Obj)} {Q : Value → Shared → Prop} {p : Program} {loose : List Str} {mean : ExcName → Option Value}
/-- what a generator over a made list of the ledger is: it gives texts -/
def GenTx (prog : Program) (w : World) (A : Around) (s₀ : Shared) (a : Addr) (n : Nat) (f : Nat → Str) (s : Shared) : Prop :=
  Gen prog w A (s₀.heap.objs.size - 1) a (passing (fun _ => true) n 0).length (fun j y => ∃ i, (passing (fun _ => true) n 0)[j]? = some i ∧ ∃ u, y = .str (f i) u) s
theorem genexp_K {env : Env} {elt iter : Expr} {x : Str} {px pos : Pos} {scope : Scope} {cl : List (Str × Addr)} {c P l : Addr} {ps : Array Value} {items : List Value} {n : Nat} {g : Obj → List (Addr × Obj)} (f : Nat → Str)
    (F : Fr h₀ L s.heap m) (N : News h₀ L s.heap news) (T : Top p loose mean mg mb h₀) (C : CodeHd h₀ c P) (hcode : env.code = .ref c) (U : UpdF P (tabObj ps) news g) (ht : Tb ps) (G : AllBare s.gens) (hl : (l, listOf items.toArray n) ∈ news)
    (hgl : env.globals = mainGlobals) (hh : A.handled = none) (hroom : A.depth < recursionLimit)
    (hco : scope.isCoroutine = false) (hclos : closureFor scope env = pure cl) (hcell : ∀ y ∈ scope.names, y.2 ≠ .cell) (h0 : scope.names.lookup (".0" : Str) = some NameKind.local)
    (hx : scope.names.lookup x = some .local) (hkind : scope.kind = .function) (hs : ∀ x, genFold iter env x = pure x)
    (hit : ∀ Q' : Value → Shared → Prop, Q' (.ref l) s → wpAny (model prog w) A (eval iter env) Q' E s)
    (hel : ∀ (C' bi : Addr) (cd : Value) (A' : Around) (E' : Value → Shared → Prop) i v (t : Shared) m₂, A'.handled = none → items[i]? = some v → t.heap.Ns C' m₂ → m₂ x = some v →
      wpAny (model prog w) A' (eval elt (genEnv scope cl C' cd bi env)) (fun y s₃ => (∃ u, y = .str (f i) u) ∧ Keeps t s₃) E' t)
    (h : ∀ a ps' s', Tb ps' → Fr h₀ L s'.heap m → News h₀ L s'.heap (g (tabObj ps')) → AllBare s'.gens → s'.os = s.os → L < s.heap.objs.size → (∀ q ∈ g (tabObj ps'), q.1 < s.heap.objs.size) → GenTx prog w A s a items.length f s' → Q (.ref a) s') :
    wpAny (model prog w) A (eval (.GeneratorExp elt [⟨.Name x px, iter, [], 0⟩] scope pos) env) Q E s := by
  obtain ⟨own, rest, rfl, hgr, o1, o2⟩ := U.split
  have hP := N (P, tabObj ps) (List.mem_append_right _ (.head _))
  have hLl := N _ hl
  have hli : s.heap.IsList l items.toArray := News.isList N hl
  have hlP : l ≠ P := fun e => by
    have := hLl.1
    rw [e, hP.1] at this
    cases this
  have hlt : l < s.heap.objs.size := Heap.lt_size hLl.1
  have hPlt : P < s.heap.objs.size := Heap.lt_size hP.1
  have hLlt : L < s.heap.objs.size := F.ns.lt
  refine wpAny_GeneratorExp_walksQD hh hco hclos hcell h0 hx hkind hroom (hit _ (wpAny_pyIter_list hli ?_)) hs
  have push : ∀ b o, s.heap.get? b = some o → (s.heap.push { cls := .type "list_iterator", data := .fields #[.ref l, .int 0 0] }).get? b = some o := fun b o e => Heap.get?_push_of_some _ e
  generalize hH2 : s.heap.push _ = H2 at push ⊢
  have hsz2 : H2.objs.size = s.heap.objs.size + 1 := by rw [← hH2, Heap.size_push]
  have hI2 : H2.get? s.heap.objs.size = some { cls := .type "list_iterator", data := .fields #[.ref l, .int 0 0] } := hH2 ▸ Heap.get?_push_size _ rfl
  have keep₂ : ∀ b o, h₀.get? b = some o → H2.get? b = some o := fun b o e => push _ _ (F.keep b o e)
  have hlim : H2.NoLimit := T.nolimit.keeps keep₂
  refine ⟨hlim, ?_⟩
  have rest_ : ∀ (cd : Value) (ps' : Array Value) (h₃ : Heap) (tk₃ : Nat), (∀ b o, b ≠ P → H2.get? b = some o → h₃.get? b = some o) → h₃.get? P = some (tabObj ps') → H2.objs.size ≤ h₃.objs.size → Tb ps' →
      wpAny (model prog w) A (builtinsFor env.globals env.builtins) (fun bi s₄ =>
        ∃ I fp wr n₀ P St₀ pz F, (Value.ref s.heap.objs.size) = .ref I ∧ (∀ A' : Around, A'.handled = none → Walks prog w A' I fp wr n₀ P St₀) ∧ St₀ 0 s₄.heap ∧ (∀ b ∈ fp, b < s₄.heap.objs.size) ∧ s₄.heap.NoLimit ∧ cStatics ∉ wr ∧
          (∀ href : Heap, (∀ b o, s₄.heap.get? b = some o → href.get? b = some o) →
            QuietGenD prog w (genEnv scope cl s₄.heap.objs.size cd bi env) x [] elt (List.range s₄.heap.objs.size) wr P pz F href (A.depth + 1) (A.units + 8)) ∧
          (∀ a h₅ tk gs, gs.bare = true → s₄.heap.objs.size < a → h₅.objs.size = a + 1 → (∀ b o, s₄.heap.get? b = some o → h₅.get? b = some o) →
            WalksS prog w A.in4 a (a :: s₄.heap.objs.size :: List.range s₄.heap.objs.size) (s₄.heap.objs.size :: wr) (GenOnlyQ s₄.gens.size) (passing pz n₀ 0).length
              (fun j y => ∃ i, (passing pz n₀ 0)[j]? = some i ∧ F i y) (GenAt prog w A.in4 a s₄.gens.size s₄.heap.objs.size (List.range s₄.heap.objs.size) wr pz n₀ F) →
            GenAt prog w A.in4 a s₄.gens.size s₄.heap.objs.size (List.range s₄.heap.objs.size) wr pz n₀ F 0 { s₄ with gens := s₄.gens.push gs, toks := tk, heap := h₅ } →
            Q (.ref a) { s₄ with gens := s₄.gens.push gs, toks := tk, heap := h₅ })) E { s with heap := h₃, toks := tk₃ } := by
    intro cd ps' h₃ tk₃ hk hp hge hps
    have keep₃ : ∀ b o, h₀.get? b = some o → h₃.get? b = some o := fun b o e => hk b o (fun q => by rw [q, hP.2.2] at e; cases e) (keep₂ b o e)
    obtain ⟨bm, ob, b1, b2, b3, b4, b5, b6⟩ := T.bmain
    have hsz : s.heap.objs.size < h₃.objs.size := by omega
    have hIP : s.heap.objs.size ≠ P := Nat.ne_of_gt hPlt
    refine wpAny_builtinsFor (by rw [hgl]; exact T.g.keeps keep₃) b1 b2 (keep₃ _ _ b3) b4 b5 b6 ?_
    refine ⟨s.heap.objs.size, [s.heap.objs.size, l], [s.heap.objs.size], items.toArray.size, _, _, fun _ => true, fun i y => ∃ u, y = .str (f i) u, rfl, fun A' hA => Walks.list hA _ _ (Nat.ne_of_lt hlt) items.toArray,
      ⟨⟨_, hk _ _ hIP hI2, rfl, rfl⟩, hli.at fun o e => hk _ _ hlP (push _ _ e)⟩, ?_, T.nolimit.keeps keep₃, ?_, ?_, ?_⟩
    · intro b hb
      show b < h₃.objs.size
      rcases List.mem_cons.mp hb with rfl | hb
      · exact hsz
      · rw [List.mem_singleton.mp hb]; exact Nat.lt_trans hlt hsz
    · intro hm
      have hcs : cStatics < s.heap.objs.size := by
        obtain ⟨mc, hn, _⟩ := T.nolimit
        exact (hn.keeps F.keep).lt
      rw [List.mem_singleton.mp hm] at hcs
      exact Nat.lt_irrefl _ hcs
    · intro href hhref
      exact ⟨fun A' E' i v t m₂ hA _ _ hP hn hm hkp => wpAny_pure ⟨rfl, ⟨t.heap, t.toks, rfl, fun _ _ e => e⟩⟩,
        fun A' E' i v t m₂ hA _ _ hP _ hn hm hkp => hel _ _ _ A' E' i v t m₂ hA (by simpa using hP) hn hm⟩
    · intro a h₅ tk gs hgb hag hsz₅ hk₅ W hat
      have keep₅ : ∀ b o, b ≠ P → s.heap.get? b = some o → h₅.get? b = some o := fun b o hb e => hk₅ b o (hk b o hb (push b o e))
      refine h a ps' _ hps ⟨F.ns.at' fun o e => keep₅ _ _ hP.2.1.symm e, fun b o e => hk₅ b o (keep₃ b o e), F.above⟩ (fun q hq => ?_) (G.push hgb) rfl hLlt (fun q hq => ?_) ⟨_, _, _, _, W, hat, (fun i s' st => st.1.typeIs), List.mem_cons_self, ?_, ?_⟩
      · rw [hgr] at hq
        rcases List.mem_append.mp hq with hq | hq
        · have z := N q (List.mem_append_left _ hq)
          exact ⟨keep₅ _ _ (o1 q hq) z.1, z.2⟩
        · rcases List.mem_cons.mp hq with rfl | hq
          · exact ⟨hk₅ _ _ hp, hP.2⟩
          · have z := N q (List.mem_append_right _ (.tail _ hq))
            exact ⟨keep₅ _ _ (o2 q hq) z.1, z.2⟩
      · rw [hgr] at hq
        rcases List.mem_append.mp hq with hq | hq
        · exact Heap.lt_size (N q (List.mem_append_left _ hq)).1
        · rcases List.mem_cons.mp hq with rfl | hq
          · exact hPlt
          · exact Heap.lt_size (N q (List.mem_append_right _ (.tail _ hq))).1
      · intro b hb
        show b < h₅.objs.size
        have hag' : h₃.objs.size < a := hag
        rw [hsz₅]
        rcases List.mem_cons.mp hb with rfl | hb
        · exact Nat.lt_succ_self _
        · rcases List.mem_cons.mp hb with rfl | hb
          · exact Nat.lt_succ_of_lt hag'
          · exact Nat.lt_succ_of_lt (Nat.lt_trans (List.mem_range.mp hb) hag')
      · intro b hb
        rcases List.mem_cons.mp hb with rfl | hb
        · exact Nat.lt_of_le_of_lt (Nat.sub_le _ _) hsz
        · rw [List.mem_singleton.mp hb]; exact Nat.sub_lt (Nat.lt_of_le_of_lt (Nat.zero_le _) hLlt) Nat.one_pos
  have hPl2 : H2.get? P = some (tabObj ps) := push _ _ hP.1
  cases hc : codeAmong pos ps.toList with
  | some v =>
    obtain ⟨c', rfl⟩ := ht.2 _ _ hc
    exact wpAny_genexprCode_hit hcode ((C.keeps keep₂).code hPl2 ht.1) hc (rest_ _ ps H2 _ (fun _ _ _ e => e) hPl2 (Nat.le_refl _) ht)
  | none =>
    refine wpAny_genexprCodeX hcode ((C.keeps keep₂).code hPl2 ht.1) ((C.keeps keep₂).tab hPl2) hc fun c' h₃ tk₃ hx₃ hge hlt' hcode₃ _ htab₃ _ => ?_
    exact rest_ _ _ h₃ tk₃ (fun b o hb e => hx₃ b o hb e) htab₃.2 (Nat.le_of_lt (Nat.lt_of_le_of_lt hge hlt')) (ht.snoc pos c')
/-- join over such a generator -/
theorem joinGen_K {sep z : Str} {t : Tok} {s₀ : Shared} {a : Addr} {n : Nat} {f : Nat → Str} (F : Fr h₀ L s.heap m) (N : News h₀ L s.heap news) (G : AllBare s.gens) (X : GenTx prog w A s₀ a n f s) (hL : L < s₀.heap.objs.size) (hN : ∀ p ∈ news, p.1 < s₀.heap.objs.size)
    (hok : JoinOk sep ((List.range n).map f) = true) (hn : n ≤ sizeLine) (hz : Txt.join sep ((List.range n).map f) = z)
    (h : ∀ s' t', Fr h₀ L s'.heap m → News h₀ L s'.heap news → AllBare s'.gens → s'.os = s.os → Q (.str z t') s') :
    wpAny (model prog w) A (call (.builtin "str.join") [.str sep t, .ref a]) Q E s := by
  subst hz
  unfold GenTx at X
  rw [pass_all, List.length_range] at X
  refine join_rowsK F G X (Nat.le_sub_one_of_lt hL) f (fun j v hv => ?_) hok (fun s' t' F' G' hos hk => h s' t' F' (fun q hq => ⟨hk _ _ (Nat.le_sub_one_of_lt (hN q hq)) (N q hq).1, (N q hq).2⟩) G' hos) hn
  obtain ⟨i, hi, u, rfl⟩ := hv
  have hj : j < n := by
    rcases Nat.lt_or_ge j n with h | h
    · exact h
    · rw [List.getElem?_eq_none (by simpa using h)] at hi; cases hi
  rw [List.getElem?_range hj] at hi
  cases hi
  exact ⟨u, rfl⟩
end
end Mine
end
section
open PySem PySem.W PyProof.Rows PySem.Calls PySem.Spec
set_option linter.unusedVariables false
set_option maxRecDepth 100000
set_option maxHeartbeats 4000000
namespace Mine
theorem sub_slot : Slot "re.Pattern" (Str.ofString "sub") "re.Pattern.sub" :=
  Slot.of (owner := "re.Pattern") (n := "sub") (by rw [typeLookup_type, builtinLookup_eq_fast]; kernel_rfl) (by decide +kernel) (by decide +kernel) (by decide +kernel) (by first | exact .inl (by decide +kernel) | exact .inr (by decide +kernel)) (by rw [isSubtype_type]; kernel_rfl)
theorem sub_entry : entryFor table "re.Pattern.sub" = some Builtin.«re.Pattern.sub» := entryFor_of_tree (by kernel_rfl)
theorem loop_entry : entryFor table "re.Pattern.sub.loop" = some Builtin.«re.Pattern.sub.loop» := entryFor_of_tree (by kernel_rfl)
theorem loop_plain : plainId "re.Pattern.sub.loop" = true := by decide +kernel
theorem sub_args (a b c : Value) : argsOk "re.Pattern.sub" ⟨[a, b, c], []⟩ := by unfold argsOk; kernel_rfl
abbrev patObj (c p : Tok) (q : Tok) : Obj := { cls := .type "re.Pattern", data := .fields #[.str (Str.ofString "([&~|])") c, .int 32 p, .int 1 0, .none, .none, .ref 42, .int 0 q] }
abbrev codeL : List Int := [14, 14, 4, 1, 1, 9, 0, 64, 0, 1342177280, 0, 0, 0, 0, 0, 17, 0, 13, 11, 9, 0, 64, 0, 1342177280, 0, 0, 0, 0, 0, 17, 1, 1]
theorem fn_call : typeLookup (.type "function") (Str.ofString "__call__") = pure (some (.builtin "function.__call__")) := by rw [typeLookup_type, builtinLookup_eq_fast]; kernel_rfl
def codeA : Array Nat := #[14, 14, 4, 1, 1, 9, 0, 64, 0, 1342177280, 0, 0, 0, 0, 0, 17, 0, 13, 11, 9, 0, 64, 0, 1342177280, 0, 0, 0, 0, 0, 17, 1, 1]
abbrev tupIts : Array Value := #[.int 14 0, .int 14 0, .int 4 0, .int 1 0, .int 1 0, .int 9 0, .int 0 0, .int 64 0, .int 0 0, .int 1342177280 0, .int 0 0, .int 0 0, .int 0 0, .int 0 0, .int 0 0, .int 17 0, .int 0 0, .int 13 0, .int 11 0, .int 9 0, .int 0 0, .int 64 0, .int 0 0, .int 1342177280 0, .int 0 0, .int 0 0, .int 0 0, .int 0 0, .int 0 0, .int 17 0, .int 1 0, .int 1 0]
abbrev tupObj : Obj := { cls := .type "tuple", data := .seq tupIts }
theorem code_eq : Array.map (fun x : Int => x.toNat) (Array.map Builtin.Re.reRawOf tupIts) = codeA := by kernel_rfl
noncomputable def driveN : Nat → Sre.M → Sre.M
  | 0, m => m
  | k + 1, m => if (m.runFor Builtin.Re.reTurnSteps).outcome.isSome then m.runFor Builtin.Re.reTurnSteps else driveN k (m.runFor Builtin.Re.reTurnSteps)
noncomputable def noMatch (x : Str) : Bool := match (driveN 30 (Sre.forSearch codeA x.cps 1 0 x.cps.size false)).outcome with
  | some .failed => true
  | _ => false
theorem noA : ∀ x : Fin 16, noMatch ⟨#[65, 45, 65 + x.1]⟩ = true := by decide +kernel
theorem noZ : ∀ z : Fin 17, noMatch ⟨#[33, 65 + z.1, 45, 80]⟩ = true := by decide +kernel
theorem noB : noMatch ⟨#[33]⟩ = true := by decide +kernel
section
open Builtin Builtin.Re
variable {prog : Program} {w : World} {A : Around} {E : Value → Shared → Prop} {s : Shared}
theorem wp_drive {M : Model} {Q : Sre.M → Shared → Prop} : ∀ (k N : Nat) (m : Sre.M), k < N → (driveN k m).outcome.isSome = true → 0 < k → Q (driveN k m) s → wpAny M A (reDrive N m) Q E s
  | 0, _, _, _, _, h, _ => absurd h (Nat.lt_irrefl _)
  | k + 1, N, m, hN, ho, _, hq => by
    obtain ⟨N, rfl⟩ : ∃ n, N = n + 1 := ⟨N - 1, by omega⟩
    unfold reDrive
    dsimp only
    unfold driveN at ho hq
    by_cases e : (m.runFor reTurnSteps).outcome.isSome = true
    · rw [if_pos e] at ho hq ⊢
      exact wpAny_pure hq
    · rw [if_neg e] at ho hq ⊢
      refine wpAny_bind (wpAny_rule ?_)
      cases k with
      | zero => exact absurd ho e
      | succ k => exact wp_drive (k + 1) N _ (by omega) ho (Nat.succ_pos _) hq
theorem wp_names {M : Model} {c : Nat → Bool} {g : Nat → String} {Q : PUnit → Shared → Prop} : ∀ (l : List Nat), Q PUnit.unit s → wpAny M A (forIn l PUnit.unit fun i r => if c i = true then (do rule (g i); pure (ForInStep.yield PUnit.unit)) else pure (ForInStep.yield PUnit.unit)) Q E s
  | [], h => wpAny_pure h
  | i :: l, h => by
    rw [List.forIn_cons]
    refine wpAny_bind ?_
    by_cases e : c i = true
    · rw [if_pos e]; exact wpAny_bind (wpAny_rule (wpAny_pure (wp_names l h)))
    · rw [if_neg e]; exact wpAny_pure (wp_names l h)
theorem next_none {M : Model} {x : Str} {pt st : Value} {Q : Option Sre.M → Shared → Prop} (hn : noMatch x = true) (h : Q none s) :
    wpAny M A (reNextFound { pattern := pt, string := st, code := codeA, text := x.cps, kind := 0, groups := 1, pos := 0, lim := x.cps.size } 0 false) Q E s := by
  unfold reNextFound reRunToEnd
  dsimp only
  unfold noMatch at hn
  have ho : (driveN 30 (Sre.forSearch codeA x.cps 1 0 x.cps.size false)).outcome = some .failed := by
    split at hn
    · assumption
    · cases hn
  refine wpAny_bind (wp_drive 30 _ _ (by decide) (by rw [ho]; rfl) (by decide) ?_)
  refine wpAny_bind (wp_names _ ?_)
  rw [ho]
  exact wpAny_pure h
theorem sub_K {h₀ : Heap} {L : Addr} {m : Str → Option Value} {news : List (Addr × Obj)} {f : Addr} {of : Obj} {x : Str} {t c p q : Tok} {Q : Value → Shared → Prop} (F : Fr h₀ L s.heap m) (N : News h₀ L s.heap news)
    (h3 : s.heap.get? 43 = some (patObj c p q)) (h2 : s.heap.get? 42 = some tupObj) (hf : s.heap.get? f = some of) (hfc : of.cls = .type "function") (hn : noMatch x = true) (hx : 0 < x.cps.size) (hx2 : x.cps.size ≤ 1000)
    (h : ∀ h' tk t', Fr h₀ L h' m → News h₀ L h' news → Q (.str x t') { s with heap := h', toks := tk }) :
    wpAny (model prog w) A (call (.builtin "re.Pattern.sub") [.ref 43, .ref f, .str x t]) Q E s := by
  obtain ⟨hp9, g, d, tk, os⟩ := s
  have hA : (⟨hp9, g, d, tk, os⟩ : Shared).TypeIs (.ref 43) "re.Pattern" := ⟨_, h3, rfl⟩
  have hF : (⟨hp9, g, d, tk, os⟩ : Shared).TypeIs (.ref f) "function" := ⟨_, hf, hfc⟩
  refine wpAny_call (codeAny_call_builtin sub_slot.plain sub_entry (sub_slot.check _ _ _ _ _ _ _ _ hA (sub_args _ _ _) ?_))
  unfold Builtin.«re.Pattern.sub» reSubstitute
  dsimp only
  have e1 : reNamed "re.Pattern.sub" "sub" ["repl", "string", "count"] 2 [Value.ref f, Value.str x t] [] = pure [some (.ref f), some (.str x t), none] := by kernel_rfl
  refine wpAny_bind (wpAny_of_eq e1 ?_)
  dsimp only
  refine wpAny_bind (wpAny_pure ?_)
  refine wpAny_bind (wpAny_specialOf hF fn_call ?_)
  simp only [Option.isSome_some, if_true]
  refine wpAny_bind (wpAny_pure (wpAny_bind (wpAny_pure ?_)))
  dsimp only
  have target : ∀ {A : Around} {E : Value → Shared → Prop} {s : Shared} {Q : ReTarget → Shared → Prop}, s.heap.get? 43 = some (patObj c p q) → s.heap.get? 42 = some tupObj → Q { pattern := .ref 43, string := .str x t, code := codeA, text := x.cps, kind := 0, groups := 1, pos := 0, lim := x.cps.size } s →
      wpAny (model prog w) A (reWholeTarget (.ref 43) (.str x t)) Q E s := by
    intro A E s Q g3 g2 hq
    unfold reWholeTarget
    refine wpAny_bind (wpAny_fieldsOf g3 rfl ?_)
    unfold reTextOf asStr?
    dsimp only
    refine wpAny_bind (wpAny_bind (wpAny_pure (wpAny_pure ?_)))
    refine wpAny_ite (PySem.W.ite_neg (Bool.eq_false_iff.mp rfl) ?_)
    refine wpAny_ite (PySem.W.ite_neg (Bool.eq_false_iff.mp rfl) ?_)
    refine wpAny_bind (wpAny_of_eq (a := ()) rfl ?_)
    unfold reRawItems
    refine wpAny_bind (wpAny_bind (wpAny_seqItems g2 rfl (wpAny_pure ?_)))
    refine wpAny_pure ?_
    rw [← code_eq] at hq
    exact hq
  refine wpAny_bind (wpAny_holding (target h3 h2 ?_))
  refine wpAny_ite (PySem.W.ite_pos rfl ?_)
  have hS : ∀ s : Shared, s.TypeIs (.str x t) "str" := fun s => typeIs_str _ _ _
  have i1 : isSubtype (.type "str") (.type "bytearray") = pure false := by rw [isSubtype_type]; kernel_rfl
  unfold reNotHeld
  refine wpAny_bind (wpAny_bind (wpAny_isInstance (hS _) i1 ?_))
  simp only [Bool.false_eq_true, if_false]
  refine wpAny_pure ?_
  refine wpAny_bind (wpAny_newList ?_ (Nat.zero_le _))
  refine wpAny_pure ⟨plainId_quiet loop_plain _, codeAny_builtin loop_entry ?_⟩
  unfold Builtin.«re.Pattern.sub.loop»
  simp only [rawInt]
  have hne : hp9.objs.size ≠ 43 := Nat.ne_of_gt (Heap.lt_size h3)
  refine wpAny_bind (target (Heap.get?_push_of_some _ h3) (Heap.get?_push_of_some _ h2) ?_)
  refine wpAny_ite (PySem.W.ite_neg (Bool.eq_false_iff.mp rfl) ?_)
  refine wpAny_bind (wpAny_ite (PySem.W.ite_neg (Bool.eq_false_iff.mp rfl) (next_none hn ?_)))
  refine wpAny_ite (PySem.W.ite_pos (by exact hx) ?_)
  have slice : ∀ {A : Around} {E : Value → Shared → Prop} {s : Shared} {Q : Value → Shared → Prop} (b e : Nat), e ≤ x.cps.size → Q (.str ⟨x.cps.extract b e⟩ s.toks) { s with toks := s.toks + 1 } → wpAny (model prog w) A (reSlice x.cps 0 b e) Q E s := by
    intro A E s Q b e he hq
    unfold reSlice
    refine wpAny_ite (PySem.W.ite_pos rfl ?_)
    refine wpAny_mkStr hq ?_
    show (x.cps.extract b e).size ≤ sizeLine
    rw [Array.size_extract, sizeLine_eq]; omega
  refine wpAny_bind (slice 0 _ (Nat.le_refl _) ?_)
  have hl : (hp9.push { cls := Value.type "list", data := Data.seq #[] }).get? hp9.objs.size = some (listOf #[] 0) := Heap.get?_push_size _ rfl
  have hex : (⟨x.cps.extract (Int.toNat 0) x.cps.size⟩ : Str) = x := by
    show (⟨x.cps.extract 0 x.cps.size⟩ : Str) = x
    rw [Array.extract_size]
  refine wpAny_bind (wpAny_updateSeq hl rfl ?_ (Nat.zero_le _) (by show 1 ≤ _; exact Nat.succ_le_succ (Nat.zero_le _)))
  have hl2 := Heap.get?_update_self (h := hp9.push { cls := Value.type "list", data := Data.seq #[] }) (Obj.mapSeq fun z => z.push (Value.str ⟨x.cps.extract (Int.toNat 0) x.cps.size⟩ tk)) hl (by rw [mapSeq_push]; rfl)
  rw [mapSeq_push] at hl2
  refine wpAny_bind (slice 0 0 (Nat.zero_le _) ?_)
  refine wpAny_bind (wpAny_seqItems hl2 rfl ?_)
  refine wpAny_ite (PySem.W.ite_neg (Bool.eq_false_iff.mp rfl) ?_)
  refine wpAny_bind (join_listW (D := hp9.objs.size) (items := #[Value.str ⟨x.cps.extract (Int.toNat 0) x.cps.size⟩ tk]) (ys := [⟨x.cps.extract (Int.toNat 0) x.cps.size⟩]) ⟨_, hl2, rfl, _, rfl⟩ (.cons _ _ .nil) ?_ ?_ fun t' k => ?_)
  · show (x.cps.extract 0 0).size ≤ 16
    rw [Array.size_extract]; omega
  · rw [hex]
    show x.cps.size + 0 + 1 ≤ 1048576
    omega
  · refine wpAny_ite (PySem.W.ite_neg (Bool.eq_false_iff.mp rfl) ?_)
    refine wpAny_pure ?_
    have e2 : Txt.join ⟨x.cps.extract 0 0⟩ [⟨x.cps.extract (Int.toNat 0) x.cps.size⟩] = x := by
      rw [hex]
      show Txt.join _ [x] = Str.join ⟨x.cps.extract 0 0⟩ [x]
      exact StrLaws.glued_eq_join _ _
    rw [e2]
    have hb := Heap.SameBut.update (h := hp9.push { cls := Value.type "list", data := Data.seq #[] }) hp9.objs.size (Obj.mapSeq fun z => z.push (Value.str ⟨x.cps.extract (Int.toNat 0) x.cps.size⟩ tk))
    have keep : ∀ b o, hp9.get? b = some o → ((hp9.push { cls := Value.type "list", data := Data.seq #[] }).update hp9.objs.size (Obj.mapSeq fun z => z.push (Value.str ⟨x.cps.extract (Int.toNat 0) x.cps.size⟩ tk))).get? b = some o :=
      fun b o e => hb.extBut b o (Nat.ne_of_lt (Heap.lt_size e)) (Heap.get?_push_of_some _ e)
    exact h _ _ _ (F.keeps keep) fun q hq => ⟨keep _ _ (N q hq).1, (N q hq).2⟩
theorem pat_plain : PlainAttrs "re.Pattern" :=
  ⟨⟨"object.__getattribute__", by rw [typeLookup_type, builtinLookup_eq_fast]; kernel_rfl, by decide +kernel⟩, by rw [typeLookup_type, builtinLookup_eq_fast]; kernel_rfl⟩
theorem sub_type : typeOf (.builtin "re.Pattern.sub") = pure (.type "method_descriptor") := by show builtinType _ = _; rw [builtinType_eq_fast]; kernel_rfl
theorem sub_meth {M : Model} {c p q : Tok} {pl : Sem Bool} {Q : Value × List Value → Shared → Prop} (h3 : s.heap.get? 43 = some (patObj c p q)) (h : Q (.builtin "re.Pattern.sub", [.ref 43]) s) :
    wpAny M A (getMethod (.ref 43) (Str.ofString "sub") pl) Q E s :=
  getMethod_builtin (⟨_, h3, rfl⟩ : s.TypeIs (.ref 43) "re.Pattern") pat_plain sub_slot sub_type (fun a e => by cases e; exact ⟨_, h3, rfl⟩) h
end
end Mine
end
section
open PySem PySem.W PyProof.Rows PySem.Calls PySem.Spec
set_option linter.unusedVariables false
set_option maxRecDepth 100000
namespace Mine
/-- the contract of a def that makes a generator on its way: the state behind may bear other (bare) generators -/
def SpcG (w : World) (lv : Nat) (f : Addr) (vs : List Value) (P : List (Addr × Obj) → Prop) (R : List (Addr × Obj) → Value → List (Addr × Obj) → Prop) : Prop :=
  ∀ (p : Program) (loose : List Str) (mean : ExcName → Option Value) (mg mb : Str → Option Value) (dp un : Nat) (gd : Option (List Code)) (cn : Str) (cs : Scope) (a : Addr) (ccd : Value) (cl : List (Str × Addr)) (outer : List Env) (A₀ : Around) (base h₀ : Heap) (L : Addr) (m : Str → Option Value) (news : List (Addr × Obj)) (s : Shared) (Q E : Value → Shared → Prop),
    Below A₀ base outer h₀ → Fr h₀ L s.heap m → (K w.params).In h₀ → News h₀ L s.heap news → Top p loose mean mg mb h₀ → cs.kind = .function → P news → AllBare s.gens → dp + lv < recursionLimit → un + 16 * lv < cLine →
    (∀ v s' news', Fr h₀ L s'.heap m → News h₀ L s'.heap news' → AllBare s'.gens → s'.os = s.os → R news v news' → Q v s') →
    wpAny (model PySem.Challenge.rw_in0242_01.row.prog w) (ktrTop dp un gd cn cs L a ccd cl outer) (call (.ref f) vs) Q E s
theorem SpcG.use {w : World} {lv : Nat} {f : Addr} {vs : List Value} {P : List (Addr × Obj) → Prop} {R : List (Addr × Obj) → Value → List (Addr × Obj) → Prop} (S : SpcG w lv f vs P R)
    {p : Program} {loose : List Str} {mean : ExcName → Option Value} {mg mb : Str → Option Value} {dp un : Nat} {gd : Option (List Code)} {cn : Str} {cs : Scope} {a : Addr} {ccd : Value} {cl : List (Str × Addr)} {outer : List Env} {A₀ : Around} {base h₀ : Heap} {L : Addr} {m : Str → Option Value} {news : List (Addr × Obj)} {s : Shared} {Q E : Value → Shared → Prop}
    (B : Below A₀ base outer h₀) (F : Fr h₀ L s.heap m) (X : (K w.params).In h₀) (N : News h₀ L s.heap news) (T : Top p loose mean mg mb h₀) (hk : cs.kind = .function) (hP : P news) (G : AllBare s.gens) (hd : dp + lv < recursionLimit) (hu : un + 16 * lv < cLine)
    (h : ∀ v s' news', Fr h₀ L s'.heap m → News h₀ L s'.heap news' → AllBare s'.gens → s'.os = s.os → R news v news' → Q v s') :
    wpAny (model PySem.Challenge.rw_in0242_01.row.prog w) (ktrTop dp un gd cn cs L a ccd cl outer) (call (.ref f) vs) Q E s :=
  S p loose mean mg mb dp un gd cn cs a ccd cl outer A₀ base h₀ L m news s Q E B F X N T hk hP G hd hu h
section
variable {prog : Program} {w : World} {A : Around} {E : Value → Shared → Prop} {s : Shared} {env : Env} {h₀ : Heap} {L : Addr}
/-- a cut behind which the generators may be others -/
theorem cutG {α : Type} {m₀ : Str → Option Value} {st : Stmt} {rest : List Stmt} {Q : Flow → Shared → Prop} (F : Fr h₀ L s.heap m₀) (ps : α → List (Str × Value)) (nx : α → List (Addr × Obj)) (P : α → Prop)
    (h1 : ∀ Q' : Flow → Shared → Prop, (∀ s' m' y, Fr h₀ L s'.heap m' → News h₀ L s'.heap (nx y) → AllBare s'.gens → s'.os = s.os → Pins m' (ps y) → P y → Q' .next s') → wpAny (model prog w) A (exec st env) Q' E s)
    (h2 : ∀ s' m' y, Fr h₀ L s'.heap m' → News h₀ L s'.heap (nx y) → AllBare s'.gens → s'.os = s.os → Pins m' (ps y) → P y → wpAny (model prog w) A (execs rest env) Q E s') :
    wpAny (model prog w) A (execs (st :: rest) env) Q E s :=
  wpAny_execs_cons (h1 _ fun s' m' y F N G o hp hy => h2 s' m' y F N G o hp hy)
theorem name_gen {M : Model} {scope : Scope} {cl : List (Str × Addr)} {C bi : Addr} {cd v : Value} {x : Str} {pos : Pos} {m₂ : Str → Option Value} {Q : Value → Shared → Prop} (hn : s.heap.Ns C m₂) (hv : m₂ x = some v) (h : Q v s)
    (hk : scope.kind = .function := by rfl) (hl : (genEnv scope cl C cd bi env).kindOf x = some .local := by rfl) (hd : (x == ("__debug__" : Str)) = false := by decide) :
    wpAny M A (eval (.Name x pos) (genEnv scope cl C cd bi env)) Q E s := by
  rw [eval_Name (x := x) (pos := pos) (hd := hd)]
  exact wpAny_bind (wpAny_standAt (wpAny_loadName_local hk hl hn hv h))
end
section
variable {prog : Program} {w : World} {A : Around} {E : Value → Shared → Prop} {s : Shared} {h₀ : Heap} {L a c P : Addr} {m mg mb : Str → Option Value} {news : List (Addr × Obj)} {Q : Value → Shared → Prop} {p : Program} {loose : List Str} {mean : ExcName → Option Value} {cn : Str} {cs : Scope} {ccd : Value} {cl : List (Str × Addr)}
/-- a lambda, its code in the def's table or not yet -/
theorem lam_K {params : Arguments} {body : Expr} {scope : Scope} {pos : Pos} {clos : List (Str × Addr)} {ps : Array Value} {g : Obj → List (Addr × Obj)} (F : Fr h₀ L s.heap m) (N : News h₀ L s.heap news) (T : Top p loose mean mg mb h₀) (C : CodeHd h₀ c P) (hcd : ccd = .ref c) (U : UpdF P (tabObj ps) news g) (ht : Tb ps)
    (hdef : defaultsOf params (envX cn cs L a ccd cl) = ([], [])) (hcl : closureFor scope (envX cn cs L a ccd cl) = pure clos)
    (h : ∀ f o ps' h' tk, Fr h₀ L h' m → News h₀ L h' ((f, o) :: g (tabObj ps')) → o.cls = .type "function" → Tb ps' → (∀ q ∈ news, q.1 < f) → Q (.ref f) { s with heap := h', toks := tk }) :
    wpAny (model prog w) A (eval (.Lambda params body scope pos) (envX cn cs L a ccd cl)) Q E s := by
  refine kla_eval hdef ?_
  cases hc : codeAmong pos ps.toList with
  | none =>
    refine kla_nest F N T C hcd U ht.1 hc hcl fun f c' oc vs t ctv h' tk F' N' _ _ l1 l2 => ?_
    have N9 : News h₀ L h' ((f, _) :: g (tabObj (ps ++ #[rawInt pos.line, rawInt pos.col, .ref c']))) := news_sub N' (sub_cons (.head _) (sub_tail (sub_tail fun _ h => h)))
    exact h f _ _ h' tk F' N9 rfl (ht.snoc pos c') fun q hq => Nat.lt_trans (l1 q hq) l2
  | some v =>
    obtain ⟨c', rfl⟩ := ht.2 _ _ hc
    obtain ⟨own, rest, rfl, hgr, _, _⟩ := U.split
    refine kla_hit F N T C hcd (List.mem_append_right _ (.head _)) ht.1 hc hcl fun f ctv h' tk F' N' l1 => ?_
    refine h f _ ps h' tk F' (by rw [hgr]; exact N') rfl ht l1
end
end Mine
end
section
open PySem PySem.W PyProof.Rows PySem.Calls PySem.Spec
open Builtin Builtin.Str
set_option linter.unusedVariables false
set_option maxRecDepth 100000
namespace Mine
section
variable {prog : Program} {w : World} {A : Around} {E : Value → Shared → Prop} {s : Shared}
theorem keeps_refl (s : Shared) : Keeps s s := ⟨s.heap, s.toks, rfl, fun _ _ e => e⟩
theorem keeps_tok (s : Shared) (k : Nat) : Keeps s { s with toks := k } := ⟨s.heap, k, rfl, fun _ _ e => e⟩
theorem rep_K {y a b : Str} {t u v : Tok} {Q : Value → Shared → Prop} (ho : (occurrences y a 0 y.length (y.length + 1)).isEmpty = true) (h : Q (.str y t) s) :
    wpAny (model prog w) A (call (.builtin "str.replace") [.str y t, .str a u, .str b v]) Q E s := by
  refine call_gives F.slot_str_replace (typeIs_str _ _ _) F.entry_str_replace (F.args_str_replace_3 _ _ _) (gives_str_replace y a b t u v fun hc => absurd hc (by rw [ho]; simp)) ?_
  rw [ho]
  exact h
end
theorem len_K {prog : Program} {w : World} {A : Around} {E : Value → Shared → Prop} {s : Shared} {h₀ : Heap} {L l : Addr} {news : List (Addr × Obj)} {its : Array Value} {n : Nat} {Q : Value → Shared → Prop} (k : Int) (N : News h₀ L s.heap news) (hm : (l, listOf its n) ∈ news) (hk : (its.size : Int) = k) (hb : k < 2 ^ 63)
    (h : Q (.int k (s.toks + 1)) { s with toks := s.toks + 1 + 1 }) : wpAny (model prog w) A (call (.builtin "len") [.ref l]) Q E s :=
  len_list (News.isList N hm) (by rw [hk]; exact hb) (by rw [hk]; exact h)
def hasNo (y a : Str) : Bool := (occurrences y a 0 y.length (y.length + 1)).isEmpty
theorem repA : ∀ x : Fin 16, hasNo ⟨#[65 + x.1]⟩ (Str.ofString "\\") = true := by decide +kernel
theorem repB : ∀ x : Fin 16, hasNo ⟨#[65 + x.1]⟩ (Str.ofString "-") = true := by decide +kernel
theorem repC : ∀ x : Fin 17, hasNo ⟨#[33, 65 + x.1]⟩ (Str.ofString "\\") = true := by decide +kernel
theorem repD : ∀ x : Fin 17, hasNo ⟨#[33, 65 + x.1]⟩ (Str.ofString "-") = true := by decide +kernel
theorem repE : hasNo ⟨#[33]⟩ (Str.ofString "\\") = true := by decide +kernel
theorem repF : hasNo ⟨#[33]⟩ (Str.ofString "-") = true := by decide +kernel
end Mine
end
section
open PySem PySem.W PyProof.Rows PySem.Calls PySem.Spec
set_option linter.unusedVariables false
namespace Mine
theorem isnot_str {M : Model} {A : Around} {E : Value → Shared → Prop} {s : Shared} {x : Str} {t : Tok} {a : Addr} {Q : Value → Shared → Prop} (h : Q (.bool true) s) : wpAny M A (compareOp .IsNot (.str x t) (.ref a)) Q E s := by
  have e : isSame (.str x t) (.ref a) = pure false := rfl
  show wpAny M A (do return .bool !(← isSame (.str x t) (.ref a))) Q E s
  exact wpAny_bind (wpAny_of_eq e (wpAny_pure h))
end Mine
end
section
open PySem PySem.W PyProof.Rows PySem.Calls PySem.Spec
set_option linter.unusedVariables false
set_option maxRecDepth 100000
set_option maxHeartbeats 4000000
namespace Mine
theorem mro_obj : mroOf (.type "object") = pure [.type "object"] := by rw [mroOf_type]; kernel_rfl
theorem look_obj_new : typeLookup (.type "object") "__new__" = pure (some (.builtin "object.__new__")) := by rw [typeLookup_type, builtinLookup_eq_fast]; kernel_rfl
theorem slot_obj_init : Slot "object" "__init__" "object.__init__" :=
  .of (owner := "object") (n := "__init__") (by rw [typeLookup_type, builtinLookup_eq_fast]; kernel_rfl) (by decide +kernel) (by decide +kernel) (by decide +kernel)
    (by first | exact .inl (by decide +kernel) | exact .inr (by decide +kernel)) (by rw [isSubtype_type]; kernel_rfl)
theorem obj_called : TypeCalled "object" "object.__new__" "object.__init__" :=
  ⟨by decide +kernel, by decide +kernel, ⟨_, _, mro_obj⟩, madeBy_type mro_obj look_obj_new (by decide +kernel), by decide +kernel, by rw [isSubtype_type]; kernel_rfl, slot_obj_init⟩
theorem obj_tc : checkTypeCall "object" ⟨[], []⟩ = pure () := by rw [PySem.W.Fast.te11612656972197000677]; kernel_rfl
theorem obj_nc : checkBuiltinCall "object.__new__" ⟨[.type "object"], []⟩ = pure () := by rw [PySem.W.Fast.te10254737850608025244]; kernel_rfl
theorem obj_new_entry : entryFor table "object.__new__" = some Builtin.«object.__new__» := entryFor_of_tree (by kernel_rfl)
theorem obj_init_entry : entryFor table "object.__init__" = some Builtin.«object.__init__» := entryFor_of_tree (by kernel_rfl)
theorem obj_init_args (a : Value) : argsOk "object.__init__" ⟨[a], []⟩ := by unfold argsOk; kernel_rfl
abbrev objObj : Obj := { cls := .type "object", data := .plain }
theorem obj_new_meets : Meets (Builtin.«object.__new__» ⟨[.type "object"], []⟩) (fun A R s => R (.ok (.ret (.ref s.heap.objs.size))) { s with heap := s.heap.push objObj }) :=
  Meets.of_wp fun prog w A R s hs => by
    have k1 := obj_called.made
    unfold Builtin.«object.__new__»
    repeat (any_goals (first | assumption | wp_step))
    exact ⟨_, rfl, hs⟩
theorem obj_init_meets (a : Value) : Meets (Builtin.«object.__init__» ⟨[a], []⟩) (fun _ R s => R (.ok (.ret .none)) s) :=
  Meets.of_wp fun prog w A R s hs => wpAny_pure ⟨_, rfl, hs⟩
/-- «object()» -/
theorem object_K {prog : Program} {w : World} {A : Around} {E : Value → Shared → Prop} {s : Shared} {h₀ : Heap} {L : Addr} {m : Str → Option Value} {news : List (Addr × Obj)} {Q : Value → Shared → Prop} (F : Fr h₀ L s.heap m) (N : News h₀ L s.heap news)
    (h : ∀ a h', Fr h₀ L h' m → News h₀ L h' ((a, objObj) :: news) → (∀ p ∈ news, p.1 < a) → Q (.ref a) { s with heap := h' }) :
    wpAny (model prog w) A (call (.type "object") []) Q E s := by
  refine callType_meets (Q₁ := fun v s₁ => v = .ref s.heap.objs.size ∧ s₁ = { s with heap := s.heap.push objObj }) obj_called obj_tc obj_nc obj_new_entry obj_init_entry obj_new_meets ⟨rfl, rfl⟩ ?_
  rintro obj s₁ ⟨rfl, rfl⟩
  exact ⟨⟨_, Heap.get?_push_size _ rfl, rfl⟩, obj_init_args _, _, obj_init_meets _, rfl, h _ _ (F.push _) (N.push F _) fun p hp => Heap.lt_size (N p hp).1⟩
end Mine
end
section
open PySem PySem.W PyProof.Rows PySem.Calls PySem.Spec
set_option linter.unusedVariables false
namespace Mine
theorem intSub {β : Type} {M : Model} {A : Around} {Q : β → Shared → Prop} {E : Value → Shared → Prop} {s : Shared} {a b : Int} (g : Int → Sem β) (e : a = b) (h : wpAny M A (g b) Q E s) : wpAny M A (g a) Q E s := e ▸ h
theorem chr_K {prog : Program} {w : World} {A : Around} {E : Value → Shared → Prop} {s : Shared} {n : Nat} {i : Int} {t : Tok} {Q : Value → Shared → Prop} (e : i = (n : Int)) (hn : n ≤ 1114111) (h : ∀ t' k, Q (.str ⟨#[n]⟩ t') { s with toks := k }) :
    wpAny (model prog w) A (call (.builtin "chr") [.int i t]) Q E s := by
  subst e
  exact chr_of_range (by omega) (by omega) (h _ _)
end Mine
end
section
open PySem PySem.W PyProof.Rows PySem.Calls PySem.Spec
set_option linter.unusedVariables false
namespace Mine
def sumF (a : Int) : Int := a / 16 + a % 16
def belowF (a b : Int) : Bool := decide (a ≤ b) && decide (sumF a + sumF (b - a) = sumF b)
set_option maxRecDepth 100000
set_option maxHeartbeats 8000000
theorem sum_spc (w : World) (n : Int) (t : Tok) (h0 : 0 ≤ n) (h1 : n < 256) : Spc w 1 128 [.int n t] (fun _ => True) (fun nw v nw' => nw = nw' ∧ ∃ t', v = .int (sumF n) t') := by
  unfold Spc
  k_fill
  intro p loose mean mg mb dp un gd cn cs a ccd cl outer A₀ base h₀ L m news s Q E B F X N T hk hP hd hu hret
  refine wpAny_call ?_
  k_dflt cell_enter
  repeat' (first
    | ((with_reducible show wpAny _ _ (exec (Stmt.While _ _ _ _) _) _ _ _); refine While_inv2 (fun n₁ m₁ nx => news = nx ∧ ∃ d td k tk, Pins m₁ [(Str.ofString "due", Value.int d td), (Str.ofString "number", Value.int k tk)] ∧ 0 ≤ k ∧ k < 256 ∧ d + k/16 + k%16 = n/16 + n%16 ∧ n₁ = k.toNat) (n₀ := n.toNat) (by assumption) (by assumption) ⟨rfl, 0, _, n, _, pin_cons rfl (pin_cons rfl pin_nil), h0, h1, (by omega), rfl⟩ ?turn
       rintro n₁ m₁ news₁ h₁ tk₁ F₁ N₁ ⟨rfl, d, td, k, tk, hps, q0, q1, q2, rfl⟩
       replace F₁ := fr_pin hps F₁
       (try k_fold))
    | ((fail_if_success (with_reducible show wpAny _ _ (exec (Stmt.While _ _ _ _) _) _ _ _)); first | (k_unfold; (try dsimp only)) | (k_end; wrow_close) | walk1 | (dsimp only; walk1) | (leave1; walk_say "STEP leave1"; try dsimp only) | fail "no step"))
  · have e1 := Int.fdiv_eq_ediv_of_nonneg k (show (0:Int) ≤ 16 by decide)
    have e2 := Int.fmod_eq_emod_of_nonneg k (show (0:Int) ≤ 16 by decide)
    refine ⟨_, _, _, _, _, rfl, (by assumption), (by assumption), ?lt, rfl, _, _, _, _, pin_cons rfl (pin_cons rfl pin_nil), ?_, ?_, ?_, rfl⟩ <;> omega
  · exact hret _ _ _ _ (by assumption) (by assumption) ⟨rfl, td, by unfold sumF; rw [show d = n / 16 + n % 16 by omega]⟩
end Mine
end
section
open PySem PySem.W PyProof.Rows PySem.Calls PySem.Spec
set_option linter.unusedVariables false
namespace Mine
set_option maxRecDepth 100000
set_option maxHeartbeats 8000000

theorem below_spc (w : World) (x y : Int) (t u : Tok) (h0 : 0 ≤ x) (h1 : x < 256) (h2 : 0 ≤ y) (h3 : y < 256) : Spc w 2 135 [.int x t, .int y u] (fun _ => True) (fun nw v nw' => nw' = nw ∧ v = .bool (belowF x y)) := by
  unfold Spc
  k_fill
  intro p loose mean mg mb dp un gd cn cs a ccd cl outer A₀ base h₀ L m news s Q E B F X N T hk hP hd hu hret
  refine wpAny_call ?_
  k_dflt cell_enter
  repeat' (first
    | ((with_reducible show wpAny _ _ (call (.ref 128) _) _ _ _); refine' (sum_spc w _ _ ?h0 ?h1).use ?k1 ?k2 ?k3 ?k4 ?k5 ?k6 trivial ?k7 ?k8 ?_; (case k1 => assumption); (case k2 => assumption); (case k3 => assumption); (case k4 => assumption); (case k5 => assumption); (case k6 => first | exact rfl | assumption); (case k7 => ktr_room); (case k8 => ktr_units); (case h0 => omega); (case h1 => omega); rintro _ h9 tk9 _ F9 N9 ⟨rfl, t9, rfl⟩; (try dsimp only); (try k_fold))
    | (k_unfold; (try dsimp only)) | (k_end; wrow_close) | walk1 | (dsimp only; walk1) | (leave1; walk_say "STEP leave1"; try dsimp only) | fail "no step")
  · rename_i hh _ _ _ _ _ _ _ _ _ _ _ _ _
    exact hret _ _ _ _ (by assumption) (by assumption) ⟨rfl, congrArg Value.bool (by simp [belowF, show x ≤ y by assumption]; rfl)⟩
  · exact hret _ _ _ _ (by assumption) (by assumption) ⟨rfl, congrArg Value.bool (by simp [belowF, show ¬ x ≤ y by assumption])⟩
end Mine
end
section
open PySem PySem.W PyProof.Rows PySem.Calls PySem.Spec
set_option linter.unusedVariables false
namespace Mine
set_option maxRecDepth 100000
set_option maxHeartbeats 8000000

def wordS (x y : Nat) : Str := ⟨#[66, 65 + x, 65 + y]⟩
def readN (x y : Nat) (i : Nat) : Int := [0, 1, 16 + (x : Int), 256 + 16 * (x : Int) + y].getD i 0
theorem read_step {x y i n : Nat} (h : (wordS x y).cps[i]? = some n) : readN x y (i + 1) = readN x y i * 16 + n - 65 := by
  match i, h with
  | 0, h => replace h : some 66 = some n := h; cases h; simp [readN]
  | 1, h => replace h : some (65 + x) = some n := h; cases h; simp [readN]; omega
  | 2, h => replace h : some (65 + y) = some n := h; cases h; simp [readN]; omega
  | i + 3, h => simp [wordS] at h
theorem read_bd {x y i : Nat} (h0 : x < 16) (h1 : y < 16) : 0 ≤ readN x y i ∧ readN x y i < 2 ^ 10 := by
  match i with
  | 0 => simp [readN]
  | 1 => simp [readN]
  | 2 => simp [readN]; omega
  | 3 => simp [readN]; omega
  | i + 4 => simp [readN]
theorem read_spc (w : World) (x y : Nat) (t : Tok) (h0 : x < 16) (h1 : y < 16) : Spc w 1 95 [.str (wordS x y) t] (fun _ => True) (fun nw v nw' => nw = nw' ∧ ∃ t', v = .int (16 * x + y) t') := by
  unfold Spc
  k_fill
  intro p loose mean mg mb dp un gd cn cs a ccd cl outer A₀ base h₀ L m news s Q E B F X N T hk hP hd hu hret
  refine wpAny_call ?_
  k_dflt cell_enter
  repeat' (first
    | ((fail_if_success (with_reducible show wpAny _ _ (exec (Stmt.For _ _ _ _ _) _) _ _ _)); first | (k_unfold; (try dsimp only)) | (k_end; wrow_close) | walk1 | (dsimp only; walk1) | (leave1; walk_say "STEP leave1"; try dsimp only) | fail "no step"))
  (rename Fr _ _ _ _ => lF'); (with_unfolding_all refine' For_invVF lF' ?k1 ?k2 ?_; (case k1 => exact rfl); (case k2 => exact rfl))
  repeat' (first
    | ((fail_if_success (with_reducible show wpAny _ _ (pyIter (.str _ _)) _ _ _)); first | (k_unfold; (try dsimp only)) | (k_end; wrow_close) | walk1 | (dsimp only; walk1) | (leave1; walk_say "STEP leave1"; try dsimp only) | fail "no step"))
  refine' str_loop (fun i m₁ nx => news = nx ∧ ∃ td, Pins m₁ [(Str.ofString "number", Value.int (readN x y i) td)]) ?kh ?kF ?kN ?kj ?kt ?kd
  case kh => exact rfl
  case kF => assumption
  case kN => assumption
  case kj => exact ⟨rfl, _, pin_cons rfl pin_nil⟩
  case kt =>
    rintro i n t' m₁ news₁ h tk own hn hoff ⟨rfl, td, hps⟩ F₁ N₁
    have q1 := read_step hn
    have q2 := read_bd (i := i) h0 h1
    replace F₁ := fr_upd hps F₁
    rw [q1]
    clear q1
    generalize readN x y i = r at *
    repeat' (first
      | (k_unfold; (try dsimp only)) | (k_end; wrow_close) | walk1 | (dsimp only; walk1) | (leave1; walk_say "STEP leave1"; try dsimp only) | fail "no step")
    exact InvEndN.intro (by assumption) (by assumption) ⟨rfl, _, pin_cons rfl pin_nil⟩ rfl mem_l mem_r
  case kd =>
    rintro m₁ news₁ h tk ⟨rfl, td, hps⟩ F₁ N₁
    replace F₁ := fr_pin hps F₁
    repeat' (first
      | (k_unfold; (try dsimp only)) | (k_end; wrow_close) | walk1 | (dsimp only; walk1) | (leave1; walk_say "STEP leave1"; try dsimp only) | fail "no step")
    exact hret _ _ _ _ (by assumption) (by assumption) ⟨rfl, _, congrArg (Value.int · _) (show (256 + 16 * (x : Int) + y) - 256 = _ by omega)⟩
end Mine
end
section
open PySem PySem.W PyProof.Rows PySem.Calls PySem.Spec
set_option linter.unusedVariables false
namespace Mine
set_option maxRecDepth 100000
set_option maxHeartbeats 8000000

def apN (x y : Nat) (i : Nat) : Int := [256 + 16 * (x : Int) + y, 16 + (x : Int), 1].getD i 0
def apL : Array UInt8 := #[65, 66, 67, 68, 69, 70, 71, 72, 73, 74, 75, 76, 77, 78, 79, 80]
def apV (x y : Nat) (i : Nat) : Array UInt8 := [#[], #[UInt8.ofNat (65 + y)], #[UInt8.ofNat (65 + x), UInt8.ofNat (65 + y)], #[66, UInt8.ofNat (65 + x), UInt8.ofNat (65 + y)]].getD i #[]
theorem ap_pick {y : Nat} (h : y < 16) : KBy.picked apL (some (y : Int)) (some ((y : Int) + 1)) = #[UInt8.ofNat (65 + y)] := by
  have all : ∀ y : Fin 16, KBy.picked apL (some (y.val : Int)) (some ((y.val : Int) + 1)) = #[UInt8.ofNat (65 + y.val)] := by decide +kernel
  exact all ⟨y, h⟩
theorem ap_pos {x y i : Nat} (hi : i ≤ 3) (h : apN x y i ≠ 0) : i < 3 := by
  match i, hi, h with
  | 0, _, _ => decide
  | 1, _, _ => decide
  | 2, _, _ => decide
  | 3, _, h => exact absurd rfl h
theorem ap_nil {x y i : Nat} (hi : i ≤ 3) (h : apN x y i = 0) : i = 3 := by
  match i, hi, h with
  | 0, _, h => simp only [apN, List.getD_cons_zero] at h; omega
  | 1, _, h => simp only [apN, List.getD_cons_succ, List.getD_cons_zero] at h; omega
  | 2, _, h => cases h
  | 3, _, h => rfl
theorem ap_turn {x y i : Nat} (h0 : x < 16) (h1 : y < 16) (h : i < 3) : (apN x y i).fdiv 16 = apN x y (i + 1) ∧ KBy.picked apL (some ((apN x y i).fmod 16)) (some ((apN x y i).fmod 16 + 1)) ++ apV x y i = apV x y (i + 1) := by
  rw [Int.fdiv_eq_ediv_of_nonneg _ (by decide), Int.fmod_eq_emod_of_nonneg _ (by decide)]
  match i, h with
  | 0, _ =>
    have e : (apN x y 0) % 16 = (y : Int) := by show (256 + 16 * (x : Int) + y) % 16 = _; omega
    have d : (apN x y 0) / 16 = apN x y 1 := by show (256 + 16 * (x : Int) + y) / 16 = 16 + (x : Int); omega
    rw [e, ap_pick h1]; exact ⟨d, rfl⟩
  | 1, _ =>
    have e : (apN x y 1) % 16 = (x : Int) := by show (16 + (x : Int)) % 16 = _; omega
    have d : (apN x y 1) / 16 = apN x y 2 := by show (16 + (x : Int)) / 16 = 1; omega
    rw [e, ap_pick h0]; exact ⟨d, rfl⟩
  | 2, _ => exact ⟨rfl, rfl⟩
theorem ap_sz {x y i : Nat} {lo hi : Option Int} (h : i ≤ 3) : (KBy.picked apL lo hi).size + (apV x y i).size ≤ 16777216 := by
  have h1 : (KBy.picked apL lo hi).size ≤ 16 := KBc.size_picked_le apL lo hi
  have h2 : (apV x y i).size ≤ 3 := by
    match i, h with
    | 0, _ => exact Nat.zero_le _
    | 1, _ => exact Nat.le_of_ble_eq_true rfl
    | 2, _ => exact Nat.le_of_ble_eq_true rfl
    | 3, _ => exact Nat.le_of_ble_eq_true rfl
  omega
theorem ap_spc (w : World) (x y : Nat) (n : Int) (t : Tok) (h0 : x < 16) (h1 : y < 16) (hn : n = 256 + 16 * (x : Int) + y) : Spc w 1 38 [.int n t] (fun _ => True) (fun nw v nw' => nw = nw' ∧ ∃ t', v = .bytes (apV x y 3) t') := by
  unfold Spc
  k_fill
  intro p loose mean mg mb dp un gd cn cs a ccd cl outer A₀ base h₀ L m news s Q E B F X N T hk hP hd hu hret
  refine wpAny_call ?_
  k_dflt cell_enter
  repeat' (first
    | ((fail_if_success (with_reducible show wpAny _ _ (exec (Stmt.While _ _ _ _) _) _ _ _)); first | (k_unfold; (try dsimp only)) | (k_end; wrow_close) | walk1 | (dsimp only; walk1) | (leave1; walk_say "STEP leave1"; try dsimp only) | fail "no step"))
  refine' While_inv2 (fun k m₁ nx => news = nx ∧ ∃ i tn tv ta, k = 3 - i ∧ i ≤ 3 ∧ Pins m₁ [(Str.ofString "num", Value.int (apN x y i) tn), (Str.ofString "val", Value.bytes (apV x y i) tv), (Str.ofString "AP", Value.bytes apL ta)]) (n₀ := 3) ?kF ?kN ?kj ?kt
  case kF => assumption
  case kN => assumption
  case kj => exact ⟨rfl, 0, _, _, _, rfl, Nat.zero_le _, pin_cons (congrArg (fun z => some (Value.int z _)) (show _ = 256 + 16 * (x : Int) + y by omega)) (pin_cons rfl (pin_cons rfl pin_nil))⟩
  rintro k m₁ nx₁ h tk F₁ N₁ ⟨rfl, i, tn, tv, ta, rfl, hi, hps⟩
  replace F₁ := fr_pin hps F₁
  repeat' (first
    | ((dsimp only); (with_reducible show wpAny _ _ (subscriptTail _ (Expr.Slice _ _ none _) (Value.bytes _ _) (Value.ref _)) _ _ _); (with_reducible rename Fr _ _ _ _ => F'); (with_reducible rename News _ _ _ _ => N'); (refine KBc.slice_K (s := ⟨_, _, _, _, _⟩) F' N' rfl (by constructor) (by constructor) (by decide) ?_); intro _ _ _ _ _ _)
    | ((dsimp only); (with_reducible show wpAny _ _ (binaryOp Operator.Add (Value.bytes _ _) (Value.bytes _ _)) _ _ _); (refine KBy.add_bytes (ap_sz hi) ?_); intro _ _)
    | (k_unfold; (try dsimp only)) | (k_end; wrow_close) | walk1 | (dsimp only; walk1) | (leave1; walk_say "STEP leave1"; try dsimp only) | fail "no step")
  · obtain ⟨e1, e2⟩ := ap_turn h0 h1 (ap_pos hi (by assumption))
    rename News _ _ _ (_ :: _) => N9
    exact ⟨_, _, _, _, 3 - (i + 1), rfl, (by assumption), (fun p hp => N9 p (.tail _ hp)), (by have := ap_pos hi (by assumption); omega), rfl, i + 1, _, _, _, rfl, ap_pos hi (by assumption), pin_cons (congrArg (fun z => some (Value.int z _)) e1) (pin_cons (congrArg (fun z => some (Value.bytes z _)) e2) (pin_cons rfl pin_nil))⟩
  · obtain rfl := ap_nil hi (by assumption)
    exact hret _ _ _ _ (by assumption) (by assumption) ⟨rfl, _, rfl⟩
end Mine
end
section
open PySem PySem.W PyProof.Rows PySem.Calls PySem.Spec
set_option linter.unusedVariables false
namespace Mine
set_option maxRecDepth 100000
set_option maxHeartbeats 8000000

/-- the signs so far -/
def chV (x y : Nat) (i : Nat) : List Str := ([66, 65 + x, 65 + y].take i).map fun c => ⟨#[c]⟩
theorem apc {x y i : Nat} {c : UInt8} (h0 : x < 16) (h1 : y < 16) (h : (apV x y 3)[i]? = some c) : chV x y (i + 1) = chV x y i ++ [⟨#[c.toNat]⟩] := by
  match i, h with
  | 0, h => replace h : some 66 = some c := h; cases h; rfl
  | 1, h =>
    replace h : some (UInt8.ofNat (65 + x)) = some c := h; cases h
    have e : (UInt8.ofNat (65 + x)).toNat = 65 + x := by rw [UInt8.toNat_ofNat']; omega
    rw [e]; rfl
  | 2, h =>
    replace h : some (UInt8.ofNat (65 + y)) = some c := h; cases h
    have e : (UInt8.ofNat (65 + y)).toNat = 65 + y := by rw [UInt8.toNat_ofNat']; omega
    rw [e]; rfl
  | i + 3, h => replace h : none = some c := h; cases h
theorem str3 {ys : List Value} {a b c : Str} (h : StrsAre ys [a, b, c]) : ∃ t1 t2 t3, ys = [.str a t1, .str b t2, .str c t3] := by
  cases h with | cons _ t1 h => cases h with | cons _ t2 h => cases h with | cons _ t3 h => cases h; exact ⟨t1, t2, t3, rfl⟩
theorem word_spc (w : World) (x y : Nat) (n : Int) (t : Tok) (h0 : x < 16) (h1 : y < 16) (hn : n = 16 * (x : Int) + y) : Spc w 2 88 [.int n t] (fun _ => True) (fun nw v nw' => nw = nw' ∧ ∃ t', v = .str (wordS x y) t') := by
  unfold Spc
  k_fill
  intro p loose mean mg mb dp un gd cn cs a ccd cl outer A₀ base h₀ L m news s Q E B F X N T hk hP hd hu hret
  refine wpAny_call ?_
  k_dflt cell_enter
  repeat' (first
    | ((fail_if_success (with_reducible show wpAny _ _ (eval (Expr.ListComp _ _ _ _) _) _ _ _)); first | (k_unfold; (try dsimp only)) | (k_end; wrow_close) | walk1 | (dsimp only; walk1) | (leave1; walk_say "STEP leave1"; try dsimp only) | fail "no step"))
  refine' comp_bytes (F₀ := ?kF) ?c1 ?c2 ?c3 ?c4 ?c5 ?_
  case kF => assumption
  case c1 => exact rfl
  case c2 => decide
  case c3 => rfl
  case c4 => decide
  case c5 => rfl
  repeat' (first
    | ((with_reducible show wpAny _ _ (call (.ref 38) _) _ _ _); refine' (ap_spc w x y _ _ h0 h1 ?hn).use ?k1 ?k2 ?k3 ?k4 ?k5 ?k6 trivial ?k7 ?k8 ?_; (case k1 => assumption); (case k2 => assumption); (case k3 => assumption); (case k4 => assumption); (case k5 => assumption); (case k6 => first | exact rfl | assumption); (case k7 => ktr_room); (case k8 => ktr_units); (case hn => omega); rintro _ h9 tk9 _ F9 N9 ⟨rfl, t9, rfl⟩; (try dsimp only); (try k_fold))
    | (k_unfold; (try dsimp only)) | (k_end; wrow_close) | walk1 | (dsimp only; walk1) | (leave1; walk_say "STEP leave1"; try dsimp only) | fail "no step")
  refine' BytesSrc.intro (fun i ys nx => news = nx ∧ StrsAre ys (chV x y i)) ?hh ?kF ?kN ?hz ?hj ?step ?fin
  case hh => exact rfl
  case kF => assumption
  case kN => assumption
  case hz => exact Nat.le_of_ble_eq_true rfl
  case hj => exact ⟨rfl, .nil⟩
  case step =>
    rintro i ys nx v I oI C oC D m₂ h tk E' hi ⟨c, u, hc, rfl⟩ ⟨rfl, hys⟩ hC hx F₁ N₁ off ne
    have hc' := apc h0 h1 hc
    have hb := c.toNat_lt
    repeat' (first
      | (k_unfold; (try dsimp only)) | (k_end; wrow_close) | walk1 | (dsimp only; walk1) | (leave1; walk_say "STEP leave1"; try dsimp only) | fail "no step")
    exact LCg.CompEnd.intro (by assumption) (by assumption) news (fun _ q => q) off trivial ⟨rfl, hc' ▸ hys.append' (.cons _ _ .nil)⟩
  case fin =>
    rintro ys nx D h tk ⟨rfl, hys⟩ F₁ N₁ off
    obtain ⟨t1, t2, t3, rfl⟩ := str3 (show StrsAre ys [⟨#[66]⟩, ⟨#[65 + x]⟩, ⟨#[65 + y]⟩] from hys)
    repeat' (first
      | ((with_reducible show wpAny _ _ (call (Value.builtin "str.join") [Value.str _ _, Value.ref _]) _ _ _); refine join_listW (News.isList N₁ (.head _)) (show StrsAre _ [⟨#[66]⟩, ⟨#[65 + x]⟩, ⟨#[65 + y]⟩] from hys) (Nat.le_of_ble_eq_true rfl) (Nat.le_of_ble_eq_true rfl) ?_; intro _ _)
      | (k_unfold; (try dsimp only)) | (k_end; wrow_close) | walk1 | (dsimp only; walk1) | (leave1; walk_say "STEP leave1"; try dsimp only) | fail "no step")
    rename News h₀ L _ _ => N9
    exact hret _ _ _ _ (by assumption) (fun p hp => N9 p (.tail _ hp)) ⟨rfl, _, rfl⟩
end Mine
end
section
open PySem PySem.W PyProof.Rows PySem.Calls PySem.Spec
set_option linter.unusedVariables false
namespace Mine
set_option maxRecDepth 100000
set_option maxHeartbeats 8000000

def textA (x y : Nat) : Str := ⟨#[40, 63, 115, 58, 66, 91, 65, 45, 65 + x, 93, 91, 94, 66 + y, 45, 80, 93, 41, 92, 90]⟩
def atA (i : Nat) : Int := [4, 5, 10, 16].getD i 0
theorem one_lt {p q : Nat} : [p] < [q] ↔ p < q := by
  constructor
  · intro h
    cases h with
    | rel h => exact h
    | cons h => cases h
  · exact fun h => .rel h
theorem nlt {p q : Nat} (h : q ≤ p) : (!decide ([p] < [q])) = true := by
  rw [decide_eq_false (fun z => absurd (one_lt.mp z) (Nat.not_lt.mpr h))]; rfl
theorem nltF {p q : Nat} (h : p < q) : ¬ (!decide ([p] < [q])) = true := by
  rw [decide_eq_true (one_lt.mpr h)]; exact Bool.false_ne_true
theorem c1 {p q : Nat} (h : p < q) : ((!decide ([p] < [q])) == false) = true := by
  rw [decide_eq_true (one_lt.mpr h)]; rfl
theorem c2 {p q : Nat} (h : q ≤ p) : ¬ ((!decide ([p] < [q])) == false) = true := by
  rw [nlt h]; exact Bool.false_ne_true
theorem c3 {p q : Nat} (h : q ≤ p) : ((!decide ([p] < [q])) == true) = true := by
  rw [nlt h]; rfl
theorem c4 {p q : Nat} (h : p < q) : ¬ ((!decide ([p] < [q])) == true) = true := by
  rw [decide_eq_true (one_lt.mpr h)]; exact Bool.false_ne_true
theorem takesA_spc (w : World) (x y a b : Nat) (t u : Tok) (h0 : x < 16) (h1 : y < 15) (h2 : a < 16) (h3 : b < 16) : Spc w 1 116 [.str (textA x y) t, .str (wordS a b) u] (fun _ => True) (fun nw v nw' => nw = nw' ∧ v = .bool (decide (a ≤ x ∧ b ≤ y))) := by
  unfold Spc
  k_fill
  intro p loose mean mg mb dp un gd cn cs fa ccd cl outer A₀ base h₀ L m news s Q E B F X N T hk hP hd hu hret
  refine wpAny_call ?_
  k_dflt cell_enter
  repeat' (first
    | ((with_reducible refine wpAny_execs_nil ?_); (try dsimp only))
    | (with_reducible refine wpAny_If ?_)
    | ((fail_if_success (with_reducible show ite ((!decide _) = true) _ _)); (fail_if_success (with_reducible show ite (((_ : Bool) == _) = true) _ _)); (with_reducible show ite (_ = true) _ _); first | refine PySem.W.ite_neg (Bool.eq_false_iff.mp rfl) ?_ | refine PySem.W.ite_pos rfl ?_)
    | ((fail_if_success (with_reducible show wpAny _ _ (exec (Stmt.For _ _ _ _ _) _) _ _ _)); first | (k_unfold; (try dsimp only)) | (k_end; wrow_close) | ((with_reducible show wpAny _ _ (subscriptTail _ (Expr.Slice none (some _) none _) (Value.str _ _) (Value.ref _)) _ _ _); (rename Fr _ _ _ _ => F7); (rename News _ _ _ _ => N7); (refine slice_strN_ns (hsz := ?hsz7) (s := ⟨_, _, _, _, _⟩) F7 N7 ?_); (case hsz7 => (with_unfolding_all exact Nat.le_of_ble_eq_true rfl)); intro _ _ _ _ _) | ((with_reducible show wpAny _ _ (subscriptTail _ (Expr.Slice (some _) none none _) (Value.str _ _) (Value.ref _)) _ _ _); (rename Fr _ _ _ _ => F7); (rename News _ _ _ _ => N7); (refine slice_strN_sn (hsz := ?hsz8) (s := ⟨_, _, _, _, _⟩) F7 N7 ?_); (case hsz8 => (with_unfolding_all exact Nat.le_of_ble_eq_true rfl)); intro _ _ _ _ _) | walk1 | (dsimp only; walk1) | (leave1; walk_say "STEP leave1"; try dsimp only) | fail "no step"))
  (rename Fr _ _ _ _ => lF'); (with_unfolding_all refine' For_invVF lF' ?k1 ?k2 ?_; (case k1 => exact rfl); (case k2 => exact rfl))
  repeat' (first
    | ((fail_if_success (with_reducible show wpAny _ _ (pyIter (.str _ _)) _ _ _)); first | (k_unfold; (try dsimp only)) | (k_end; wrow_close) | ((with_reducible show wpAny _ _ (subscriptTail _ (Expr.Slice none (some _) none _) (Value.str _ _) (Value.ref _)) _ _ _); (rename Fr _ _ _ _ => F7); (rename News _ _ _ _ => N7); (refine slice_strN_ns (hsz := ?hsz7) (s := ⟨_, _, _, _, _⟩) F7 N7 ?_); (case hsz7 => (with_unfolding_all exact Nat.le_of_ble_eq_true rfl)); intro _ _ _ _ _) | ((with_reducible show wpAny _ _ (subscriptTail _ (Expr.Slice (some _) none none _) (Value.str _ _) (Value.ref _)) _ _ _); (rename Fr _ _ _ _ => F7); (rename News _ _ _ _ => N7); (refine slice_strN_sn (hsz := ?hsz8) (s := ⟨_, _, _, _, _⟩) F7 N7 ?_); (case hsz8 => (with_unfolding_all exact Nat.le_of_ble_eq_true rfl)); intro _ _ _ _ _) | walk1 | (dsimp only; walk1) | (leave1; walk_say "STEP leave1"; try dsimp only) | fail "no step"))
  refine' str_loop (fun i m₁ nx => news = nx ∧ (2 ≤ i → a ≤ x) ∧ (3 ≤ i → b ≤ y) ∧ ∃ ta, Pins m₁ [(Str.ofString "at", Value.int (atA i) ta), (Str.ofString "text", Value.str (textA x y) t)]) ?kh ?kF ?kN ?kj ?kt ?kd
  case kh => exact rfl
  case kF => assumption
  case kN => assumption
  case kj => exact ⟨rfl, fun q => absurd q (by decide), fun q => absurd q (by decide), _, pin_cons rfl (pin_cons rfl pin_nil)⟩
  case kt =>
    rintro i n t' m₁ nx₁ h tk own hn hoff ⟨rfl, g1, g2, ta, hps⟩ F₁ N₁
    have hL : (textA x y).length = 19 := rfl
    match i, hn with
    | 0, hn =>
      obtain rfl : 66 = n := Option.some.inj hn
      replace F₁ := fr_upd (ps := [(Str.ofString "at", Value.int 4 ta), (Str.ofString "text", Value.str (textA x y) t)]) hps F₁
      clear hps hn
      repeat' (first
        | ((with_reducible refine wpAny_execs_nil ?_); (try dsimp only))
        | (with_reducible refine wpAny_If ?_)
        | ((fail_if_success (with_reducible show ite ((!decide _) = true) _ _)); (fail_if_success (with_reducible show ite (((_ : Bool) == _) = true) _ _)); (with_reducible show ite (_ = true) _ _); first | refine PySem.W.ite_neg (Bool.eq_false_iff.mp rfl) ?_ | refine PySem.W.ite_pos rfl ?_)
        | (k_unfold; (try dsimp only)) | (k_end; wrow_close) | ((with_reducible show wpAny _ _ (subscriptTail _ (Expr.Slice none (some _) none _) (Value.str _ _) (Value.ref _)) _ _ _); (rename Fr _ _ _ _ => F7); (rename News _ _ _ _ => N7); (refine slice_strN_ns (hsz := ?hsz7) (s := ⟨_, _, _, _, _⟩) F7 N7 ?_); (case hsz7 => (with_unfolding_all exact Nat.le_of_ble_eq_true rfl)); intro _ _ _ _ _) | ((with_reducible show wpAny _ _ (subscriptTail _ (Expr.Slice (some _) none none _) (Value.str _ _) (Value.ref _)) _ _ _); (rename Fr _ _ _ _ => F7); (rename News _ _ _ _ => N7); (refine slice_strN_sn (hsz := ?hsz8) (s := ⟨_, _, _, _, _⟩) F7 N7 ?_); (case hsz8 => (with_unfolding_all exact Nat.le_of_ble_eq_true rfl)); intro _ _ _ _ _) | walk1 | (dsimp only; walk1) | (leave1; walk_say "STEP leave1"; try dsimp only) | fail "no step")
      exact InvEndN.intro (by assumption) (by assumption) ⟨rfl, fun q => absurd q (by decide), fun q => absurd q (by decide), _, pin_cons rfl (pin_cons rfl pin_nil)⟩ rfl (fun p hp => .tail _ (mem_l p hp)) (fun p hp => .tail _ (mem_r p hp))
    | 1, hn =>
      obtain rfl : 65 + a = n := Option.some.inj hn
      replace F₁ := fr_upd (ps := [(Str.ofString "at", Value.int 5 ta), (Str.ofString "text", Value.str (textA x y) t)]) hps F₁
      clear hps hn
      rcases Nat.lt_or_ge x a with hx | hx
      · skip
        repeat' (first
          | ((with_reducible refine wpAny_execs_nil ?_); (try dsimp only))
          | (with_reducible refine wpAny_If ?_)
          | ((with_reducible show ite ((!decide (_ < _)) = true) _ _); refine PySem.W.ite_pos (nlt (p := 65 + a) (q := 65) (by omega)) ?_)
          | ((with_reducible show ite (((!decide (_ < _)) == _) = true) _ _); refine PySem.W.ite_pos (c1 (p := 65 + x) (q := 65 + a) (by omega)) ?_)
          | ((fail_if_success (with_reducible show ite ((!decide _) = true) _ _)); (fail_if_success (with_reducible show ite (((_ : Bool) == _) = true) _ _)); (with_reducible show ite (_ = true) _ _); first | refine PySem.W.ite_neg (Bool.eq_false_iff.mp rfl) ?_ | refine PySem.W.ite_pos rfl ?_)
          | (k_unfold; (try dsimp only)) | (k_end; wrow_close) | ((with_reducible show wpAny _ _ (subscriptTail _ (Expr.Slice none (some _) none _) (Value.str _ _) (Value.ref _)) _ _ _); (rename Fr _ _ _ _ => F7); (rename News _ _ _ _ => N7); (refine slice_strN_ns (hsz := ?hsz7) (s := ⟨_, _, _, _, _⟩) F7 N7 ?_); (case hsz7 => (with_unfolding_all exact Nat.le_of_ble_eq_true rfl)); intro _ _ _ _ _) | ((with_reducible show wpAny _ _ (subscriptTail _ (Expr.Slice (some _) none none _) (Value.str _ _) (Value.ref _)) _ _ _); (rename Fr _ _ _ _ => F7); (rename News _ _ _ _ => N7); (refine slice_strN_sn (hsz := ?hsz8) (s := ⟨_, _, _, _, _⟩) F7 N7 ?_); (case hsz8 => (with_unfolding_all exact Nat.le_of_ble_eq_true rfl)); intro _ _ _ _ _) | walk1 | (dsimp only; walk1) | (leave1; walk_say "STEP leave1"; try dsimp only) | fail "no step")
        rename News h₀ L _ _ => N9
        exact hret _ _ _ _ (by assumption) (fun p hp => N9 p (mem_l p hp)) ⟨rfl, congrArg Value.bool (decide_eq_false (by omega)).symm⟩
      · skip
        repeat' (first
          | ((with_reducible refine wpAny_execs_nil ?_); (try dsimp only))
          | (with_reducible refine wpAny_If ?_)
          | ((with_reducible show ite ((!decide (_ < _)) = true) _ _); refine PySem.W.ite_pos (nlt (p := 65 + a) (q := 65) (by omega)) ?_)
          | ((with_reducible show ite (((!decide (_ < _)) == _) = true) _ _); refine PySem.W.ite_neg (c2 (p := 65 + x) (q := 65 + a) (by omega)) ?_)
          | ((fail_if_success (with_reducible show ite ((!decide _) = true) _ _)); (fail_if_success (with_reducible show ite (((_ : Bool) == _) = true) _ _)); (with_reducible show ite (_ = true) _ _); first | refine PySem.W.ite_neg (Bool.eq_false_iff.mp rfl) ?_ | refine PySem.W.ite_pos rfl ?_)
          | (k_unfold; (try dsimp only)) | (k_end; wrow_close) | ((with_reducible show wpAny _ _ (subscriptTail _ (Expr.Slice none (some _) none _) (Value.str _ _) (Value.ref _)) _ _ _); (rename Fr _ _ _ _ => F7); (rename News _ _ _ _ => N7); (refine slice_strN_ns (hsz := ?hsz7) (s := ⟨_, _, _, _, _⟩) F7 N7 ?_); (case hsz7 => (with_unfolding_all exact Nat.le_of_ble_eq_true rfl)); intro _ _ _ _ _) | ((with_reducible show wpAny _ _ (subscriptTail _ (Expr.Slice (some _) none none _) (Value.str _ _) (Value.ref _)) _ _ _); (rename Fr _ _ _ _ => F7); (rename News _ _ _ _ => N7); (refine slice_strN_sn (hsz := ?hsz8) (s := ⟨_, _, _, _, _⟩) F7 N7 ?_); (case hsz8 => (with_unfolding_all exact Nat.le_of_ble_eq_true rfl)); intro _ _ _ _ _) | walk1 | (dsimp only; walk1) | (leave1; walk_say "STEP leave1"; try dsimp only) | fail "no step")
        exact InvEndN.intro (by assumption) (by assumption) ⟨rfl, fun _ => hx, fun q => absurd q (by decide), _, pin_cons rfl (pin_cons rfl pin_nil)⟩ rfl mem_l mem_r
    | 2, hn =>
      obtain rfl : 65 + b = n := Option.some.inj hn
      replace F₁ := fr_upd (ps := [(Str.ofString "at", Value.int 10 ta), (Str.ofString "text", Value.str (textA x y) t)]) hps F₁
      clear hps hn
      rcases Nat.lt_or_ge y b with hy | hy
      · skip
        repeat' (first
          | ((with_reducible refine wpAny_execs_nil ?_); (try dsimp only))
          | (with_reducible refine wpAny_If ?_)
          | ((with_reducible show ite ((!decide (_ < _)) = true) _ _); refine PySem.W.ite_pos (nlt (p := 65 + b) (q := 66 + y) (by omega)) ?_)
          | ((with_reducible show ite (((!decide (_ < _)) == _) = true) _ _); refine PySem.W.ite_pos (c3 (p := 80) (q := 65 + b) (by omega)) ?_)
          | ((fail_if_success (with_reducible show ite ((!decide _) = true) _ _)); (fail_if_success (with_reducible show ite (((_ : Bool) == _) = true) _ _)); (with_reducible show ite (_ = true) _ _); first | refine PySem.W.ite_neg (Bool.eq_false_iff.mp rfl) ?_ | refine PySem.W.ite_pos rfl ?_)
          | (k_unfold; (try dsimp only)) | (k_end; wrow_close) | ((with_reducible show wpAny _ _ (subscriptTail _ (Expr.Slice none (some _) none _) (Value.str _ _) (Value.ref _)) _ _ _); (rename Fr _ _ _ _ => F7); (rename News _ _ _ _ => N7); (refine slice_strN_ns (hsz := ?hsz7) (s := ⟨_, _, _, _, _⟩) F7 N7 ?_); (case hsz7 => (with_unfolding_all exact Nat.le_of_ble_eq_true rfl)); intro _ _ _ _ _) | ((with_reducible show wpAny _ _ (subscriptTail _ (Expr.Slice (some _) none none _) (Value.str _ _) (Value.ref _)) _ _ _); (rename Fr _ _ _ _ => F7); (rename News _ _ _ _ => N7); (refine slice_strN_sn (hsz := ?hsz8) (s := ⟨_, _, _, _, _⟩) F7 N7 ?_); (case hsz8 => (with_unfolding_all exact Nat.le_of_ble_eq_true rfl)); intro _ _ _ _ _) | walk1 | (dsimp only; walk1) | (leave1; walk_say "STEP leave1"; try dsimp only) | fail "no step")
        rename News h₀ L _ _ => N9
        exact hret _ _ _ _ (by assumption) (fun p hp => N9 p (mem_l p hp)) ⟨rfl, congrArg Value.bool (decide_eq_false (by omega)).symm⟩
      · skip
        repeat' (first
          | ((with_reducible refine wpAny_execs_nil ?_); (try dsimp only))
          | (with_reducible refine wpAny_If ?_)
          | ((with_reducible show ite ((!decide (_ < _)) = true) _ _); refine PySem.W.ite_neg (nltF (p := 65 + b) (q := 66 + y) (by omega)) ?_)
          | ((with_reducible show ite (((!decide (_ < _)) == _) = true) _ _); refine PySem.W.ite_neg (c4 (p := 65 + b) (q := 66 + y) (by omega)) ?_)
          | ((fail_if_success (with_reducible show ite ((!decide _) = true) _ _)); (fail_if_success (with_reducible show ite (((_ : Bool) == _) = true) _ _)); (with_reducible show ite (_ = true) _ _); first | refine PySem.W.ite_neg (Bool.eq_false_iff.mp rfl) ?_ | refine PySem.W.ite_pos rfl ?_)
          | (k_unfold; (try dsimp only)) | (k_end; wrow_close) | ((with_reducible show wpAny _ _ (subscriptTail _ (Expr.Slice none (some _) none _) (Value.str _ _) (Value.ref _)) _ _ _); (rename Fr _ _ _ _ => F7); (rename News _ _ _ _ => N7); (refine slice_strN_ns (hsz := ?hsz7) (s := ⟨_, _, _, _, _⟩) F7 N7 ?_); (case hsz7 => (with_unfolding_all exact Nat.le_of_ble_eq_true rfl)); intro _ _ _ _ _) | ((with_reducible show wpAny _ _ (subscriptTail _ (Expr.Slice (some _) none none _) (Value.str _ _) (Value.ref _)) _ _ _); (rename Fr _ _ _ _ => F7); (rename News _ _ _ _ => N7); (refine slice_strN_sn (hsz := ?hsz8) (s := ⟨_, _, _, _, _⟩) F7 N7 ?_); (case hsz8 => (with_unfolding_all exact Nat.le_of_ble_eq_true rfl)); intro _ _ _ _ _) | walk1 | (dsimp only; walk1) | (leave1; walk_say "STEP leave1"; try dsimp only) | fail "no step")
        exact InvEndN.intro (by assumption) (by assumption) ⟨rfl, fun _ => g1 (by decide), fun _ => hy, _, pin_cons rfl (pin_cons rfl pin_nil)⟩ rfl mem_l mem_r
    | i + 3, hn => exact absurd hn (by simp [wordS])
  case kd =>
    rintro m₁ nx₁ h tk ⟨rfl, g1, g2, ta, hps⟩ F₁ N₁
    replace F₁ := fr_pin (ps := [(Str.ofString "at", Value.int 16 ta), (Str.ofString "text", Value.str (textA x y) t)]) hps F₁
    clear hps
    repeat' (first
      | ((with_reducible refine wpAny_execs_nil ?_); (try dsimp only))
      | (with_reducible refine wpAny_If ?_)
      | ((fail_if_success (with_reducible show ite ((!decide _) = true) _ _)); (fail_if_success (with_reducible show ite (((_ : Bool) == _) = true) _ _)); (with_reducible show ite (_ = true) _ _); first | refine PySem.W.ite_neg (Bool.eq_false_iff.mp rfl) ?_ | refine PySem.W.ite_pos rfl ?_)
      | (k_unfold; (try dsimp only)) | (k_end; wrow_close) | ((with_reducible show wpAny _ _ (subscriptTail _ (Expr.Slice none (some _) none _) (Value.str _ _) (Value.ref _)) _ _ _); (rename Fr _ _ _ _ => F7); (rename News _ _ _ _ => N7); (refine slice_strN_ns (hsz := ?hsz7) (s := ⟨_, _, _, _, _⟩) F7 N7 ?_); (case hsz7 => (with_unfolding_all exact Nat.le_of_ble_eq_true rfl)); intro _ _ _ _ _) | ((with_reducible show wpAny _ _ (subscriptTail _ (Expr.Slice (some _) none none _) (Value.str _ _) (Value.ref _)) _ _ _); (rename Fr _ _ _ _ => F7); (rename News _ _ _ _ => N7); (refine slice_strN_sn (hsz := ?hsz8) (s := ⟨_, _, _, _, _⟩) F7 N7 ?_); (case hsz8 => (with_unfolding_all exact Nat.le_of_ble_eq_true rfl)); intro _ _ _ _ _) | walk1 | (dsimp only; walk1) | (leave1; walk_say "STEP leave1"; try dsimp only) | fail "no step")
    exact hret _ _ _ _ (by assumption) (by assumption) ⟨rfl, congrArg Value.bool (Eq.trans (b := true) (by kernel_rfl) (decide_eq_true (p := a ≤ x ∧ b ≤ y) ⟨g1 (Nat.le_of_ble_eq_true rfl), g2 (Nat.le_of_ble_eq_true rfl)⟩).symm)⟩
end Mine
end
section
open PySem PySem.W PyProof.Rows PySem.Calls PySem.Spec
set_option linter.unusedVariables false
namespace Mine
set_option maxRecDepth 100000
set_option maxHeartbeats 8000000

def textB (x : Nat) : Str := ⟨#[40, 63, 115, 58, 66, 91, 65, 45, 65 + x, 93, 46, 41, 92, 90]⟩
def atB (i : Nat) : Int := [4, 5, 10, 11].getD i 0
theorem takesB_spc (w : World) (x a b : Nat) (t u : Tok) (h0 : x < 16) (h2 : a < 16) (h3 : b < 16) : Spc w 1 116 [.str (textB x) t, .str (wordS a b) u] (fun _ => True) (fun nw v nw' => nw = nw' ∧ v = .bool (decide (a ≤ x))) := by
  unfold Spc
  k_fill
  intro p loose mean mg mb dp un gd cn cs fa ccd cl outer A₀ base h₀ L m news s Q E B F X N T hk hP hd hu hret
  refine wpAny_call ?_
  k_dflt cell_enter
  repeat' (first
    | ((with_reducible refine wpAny_execs_nil ?_); (try dsimp only))
    | (with_reducible refine wpAny_If ?_)
    | ((fail_if_success (with_reducible show ite ((!decide _) = true) _ _)); (fail_if_success (with_reducible show ite (((_ : Bool) == _) = true) _ _)); (with_reducible show ite (_ = true) _ _); first | refine PySem.W.ite_neg (Bool.eq_false_iff.mp rfl) ?_ | refine PySem.W.ite_pos rfl ?_)
    | ((fail_if_success (with_reducible show wpAny _ _ (exec (Stmt.For _ _ _ _ _) _) _ _ _)); first | (k_unfold; (try dsimp only)) | (k_end; wrow_close) | ((with_reducible show wpAny _ _ (subscriptTail _ (Expr.Slice none (some _) none _) (Value.str _ _) (Value.ref _)) _ _ _); (rename Fr _ _ _ _ => F7); (rename News _ _ _ _ => N7); (refine slice_strN_ns (hsz := ?hsz7) (s := ⟨_, _, _, _, _⟩) F7 N7 ?_); (case hsz7 => (with_unfolding_all exact Nat.le_of_ble_eq_true rfl)); intro _ _ _ _ _) | ((with_reducible show wpAny _ _ (subscriptTail _ (Expr.Slice (some _) none none _) (Value.str _ _) (Value.ref _)) _ _ _); (rename Fr _ _ _ _ => F7); (rename News _ _ _ _ => N7); (refine slice_strN_sn (hsz := ?hsz8) (s := ⟨_, _, _, _, _⟩) F7 N7 ?_); (case hsz8 => (with_unfolding_all exact Nat.le_of_ble_eq_true rfl)); intro _ _ _ _ _) | walk1 | (dsimp only; walk1) | (leave1; walk_say "STEP leave1"; try dsimp only) | fail "no step"))
  (rename Fr _ _ _ _ => lF'); (with_unfolding_all refine' For_invVF lF' ?k1 ?k2 ?_; (case k1 => exact rfl); (case k2 => exact rfl))
  repeat' (first
    | ((fail_if_success (with_reducible show wpAny _ _ (pyIter (.str _ _)) _ _ _)); first | (k_unfold; (try dsimp only)) | (k_end; wrow_close) | ((with_reducible show wpAny _ _ (subscriptTail _ (Expr.Slice none (some _) none _) (Value.str _ _) (Value.ref _)) _ _ _); (rename Fr _ _ _ _ => F7); (rename News _ _ _ _ => N7); (refine slice_strN_ns (hsz := ?hsz7) (s := ⟨_, _, _, _, _⟩) F7 N7 ?_); (case hsz7 => (with_unfolding_all exact Nat.le_of_ble_eq_true rfl)); intro _ _ _ _ _) | ((with_reducible show wpAny _ _ (subscriptTail _ (Expr.Slice (some _) none none _) (Value.str _ _) (Value.ref _)) _ _ _); (rename Fr _ _ _ _ => F7); (rename News _ _ _ _ => N7); (refine slice_strN_sn (hsz := ?hsz8) (s := ⟨_, _, _, _, _⟩) F7 N7 ?_); (case hsz8 => (with_unfolding_all exact Nat.le_of_ble_eq_true rfl)); intro _ _ _ _ _) | walk1 | (dsimp only; walk1) | (leave1; walk_say "STEP leave1"; try dsimp only) | fail "no step"))
  refine' str_loop (fun i m₁ nx => news = nx ∧ (2 ≤ i → a ≤ x) ∧ ∃ ta, Pins m₁ [(Str.ofString "at", Value.int (atB i) ta), (Str.ofString "text", Value.str (textB x) t)]) ?kh ?kF ?kN ?kj ?kt ?kd
  case kh => exact rfl
  case kF => assumption
  case kN => assumption
  case kj => exact ⟨rfl, fun q => absurd q (by decide), _, pin_cons rfl (pin_cons rfl pin_nil)⟩
  case kt =>
    rintro i n t' m₁ nx₁ h tk own hn hoff ⟨rfl, g1, ta, hps⟩ F₁ N₁
    have hL : (textB x).length = 14 := rfl
    match i, hn with
    | 0, hn =>
      obtain rfl : 66 = n := Option.some.inj hn
      replace F₁ := fr_upd (ps := [(Str.ofString "at", Value.int 4 ta), (Str.ofString "text", Value.str (textB x) t)]) hps F₁
      clear hps hn
      repeat' (first
        | ((with_reducible refine wpAny_execs_nil ?_); (try dsimp only))
        | (with_reducible refine wpAny_If ?_)
        | ((fail_if_success (with_reducible show ite ((!decide _) = true) _ _)); (fail_if_success (with_reducible show ite (((_ : Bool) == _) = true) _ _)); (with_reducible show ite (_ = true) _ _); first | refine PySem.W.ite_neg (Bool.eq_false_iff.mp rfl) ?_ | refine PySem.W.ite_pos rfl ?_)
        | (k_unfold; (try dsimp only)) | (k_end; wrow_close) | ((with_reducible show wpAny _ _ (subscriptTail _ (Expr.Slice none (some _) none _) (Value.str _ _) (Value.ref _)) _ _ _); (rename Fr _ _ _ _ => F7); (rename News _ _ _ _ => N7); (refine slice_strN_ns (hsz := ?hsz7) (s := ⟨_, _, _, _, _⟩) F7 N7 ?_); (case hsz7 => (with_unfolding_all exact Nat.le_of_ble_eq_true rfl)); intro _ _ _ _ _) | ((with_reducible show wpAny _ _ (subscriptTail _ (Expr.Slice (some _) none none _) (Value.str _ _) (Value.ref _)) _ _ _); (rename Fr _ _ _ _ => F7); (rename News _ _ _ _ => N7); (refine slice_strN_sn (hsz := ?hsz8) (s := ⟨_, _, _, _, _⟩) F7 N7 ?_); (case hsz8 => (with_unfolding_all exact Nat.le_of_ble_eq_true rfl)); intro _ _ _ _ _) | walk1 | (dsimp only; walk1) | (leave1; walk_say "STEP leave1"; try dsimp only) | fail "no step")
      exact InvEndN.intro (by assumption) (by assumption) ⟨rfl, fun q => absurd q (by decide), _, pin_cons rfl (pin_cons rfl pin_nil)⟩ rfl (fun p hp => .tail _ (mem_l p hp)) (fun p hp => .tail _ (mem_r p hp))
    | 1, hn =>
      obtain rfl : 65 + a = n := Option.some.inj hn
      replace F₁ := fr_upd (ps := [(Str.ofString "at", Value.int 5 ta), (Str.ofString "text", Value.str (textB x) t)]) hps F₁
      clear hps hn
      rcases Nat.lt_or_ge x a with hx | hx
      · skip
        repeat' (first
          | ((with_reducible refine wpAny_execs_nil ?_); (try dsimp only))
          | (with_reducible refine wpAny_If ?_)
          | ((with_reducible show ite ((!decide (_ < _)) = true) _ _); refine PySem.W.ite_pos (nlt (p := 65 + a) (q := 65) (by omega)) ?_)
          | ((with_reducible show ite (((!decide (_ < _)) == _) = true) _ _); refine PySem.W.ite_pos (c1 (p := 65 + x) (q := 65 + a) (by omega)) ?_)
          | ((fail_if_success (with_reducible show ite ((!decide _) = true) _ _)); (fail_if_success (with_reducible show ite (((_ : Bool) == _) = true) _ _)); (with_reducible show ite (_ = true) _ _); first | refine PySem.W.ite_neg (Bool.eq_false_iff.mp rfl) ?_ | refine PySem.W.ite_pos rfl ?_)
          | (k_unfold; (try dsimp only)) | (k_end; wrow_close) | ((with_reducible show wpAny _ _ (subscriptTail _ (Expr.Slice none (some _) none _) (Value.str _ _) (Value.ref _)) _ _ _); (rename Fr _ _ _ _ => F7); (rename News _ _ _ _ => N7); (refine slice_strN_ns (hsz := ?hsz7) (s := ⟨_, _, _, _, _⟩) F7 N7 ?_); (case hsz7 => (with_unfolding_all exact Nat.le_of_ble_eq_true rfl)); intro _ _ _ _ _) | ((with_reducible show wpAny _ _ (subscriptTail _ (Expr.Slice (some _) none none _) (Value.str _ _) (Value.ref _)) _ _ _); (rename Fr _ _ _ _ => F7); (rename News _ _ _ _ => N7); (refine slice_strN_sn (hsz := ?hsz8) (s := ⟨_, _, _, _, _⟩) F7 N7 ?_); (case hsz8 => (with_unfolding_all exact Nat.le_of_ble_eq_true rfl)); intro _ _ _ _ _) | walk1 | (dsimp only; walk1) | (leave1; walk_say "STEP leave1"; try dsimp only) | fail "no step")
        rename News h₀ L _ _ => N9
        exact hret _ _ _ _ (by assumption) (fun p hp => N9 p (mem_l p hp)) ⟨rfl, congrArg Value.bool (decide_eq_false (by omega)).symm⟩
      · skip
        repeat' (first
          | ((with_reducible refine wpAny_execs_nil ?_); (try dsimp only))
          | (with_reducible refine wpAny_If ?_)
          | ((with_reducible show ite ((!decide (_ < _)) = true) _ _); refine PySem.W.ite_pos (nlt (p := 65 + a) (q := 65) (by omega)) ?_)
          | ((with_reducible show ite (((!decide (_ < _)) == _) = true) _ _); refine PySem.W.ite_neg (c2 (p := 65 + x) (q := 65 + a) (by omega)) ?_)
          | ((fail_if_success (with_reducible show ite ((!decide _) = true) _ _)); (fail_if_success (with_reducible show ite (((_ : Bool) == _) = true) _ _)); (with_reducible show ite (_ = true) _ _); first | refine PySem.W.ite_neg (Bool.eq_false_iff.mp rfl) ?_ | refine PySem.W.ite_pos rfl ?_)
          | (k_unfold; (try dsimp only)) | (k_end; wrow_close) | ((with_reducible show wpAny _ _ (subscriptTail _ (Expr.Slice none (some _) none _) (Value.str _ _) (Value.ref _)) _ _ _); (rename Fr _ _ _ _ => F7); (rename News _ _ _ _ => N7); (refine slice_strN_ns (hsz := ?hsz7) (s := ⟨_, _, _, _, _⟩) F7 N7 ?_); (case hsz7 => (with_unfolding_all exact Nat.le_of_ble_eq_true rfl)); intro _ _ _ _ _) | ((with_reducible show wpAny _ _ (subscriptTail _ (Expr.Slice (some _) none none _) (Value.str _ _) (Value.ref _)) _ _ _); (rename Fr _ _ _ _ => F7); (rename News _ _ _ _ => N7); (refine slice_strN_sn (hsz := ?hsz8) (s := ⟨_, _, _, _, _⟩) F7 N7 ?_); (case hsz8 => (with_unfolding_all exact Nat.le_of_ble_eq_true rfl)); intro _ _ _ _ _) | walk1 | (dsimp only; walk1) | (leave1; walk_say "STEP leave1"; try dsimp only) | fail "no step")
        exact InvEndN.intro (by assumption) (by assumption) ⟨rfl, fun _ => hx, _, pin_cons rfl (pin_cons rfl pin_nil)⟩ rfl mem_l mem_r
    | 2, hn =>
      obtain rfl : 65 + b = n := Option.some.inj hn
      replace F₁ := fr_upd (ps := [(Str.ofString "at", Value.int 10 ta), (Str.ofString "text", Value.str (textB x) t)]) hps F₁
      clear hps hn
      repeat' (first
        | ((with_reducible refine wpAny_execs_nil ?_); (try dsimp only))
        | (with_reducible refine wpAny_If ?_)
        | ((fail_if_success (with_reducible show ite ((!decide _) = true) _ _)); (fail_if_success (with_reducible show ite (((_ : Bool) == _) = true) _ _)); (with_reducible show ite (_ = true) _ _); first | refine PySem.W.ite_neg (Bool.eq_false_iff.mp rfl) ?_ | refine PySem.W.ite_pos rfl ?_)
        | (k_unfold; (try dsimp only)) | (k_end; wrow_close) | ((with_reducible show wpAny _ _ (subscriptTail _ (Expr.Slice none (some _) none _) (Value.str _ _) (Value.ref _)) _ _ _); (rename Fr _ _ _ _ => F7); (rename News _ _ _ _ => N7); (refine slice_strN_ns (hsz := ?hsz7) (s := ⟨_, _, _, _, _⟩) F7 N7 ?_); (case hsz7 => (with_unfolding_all exact Nat.le_of_ble_eq_true rfl)); intro _ _ _ _ _) | ((with_reducible show wpAny _ _ (subscriptTail _ (Expr.Slice (some _) none none _) (Value.str _ _) (Value.ref _)) _ _ _); (rename Fr _ _ _ _ => F7); (rename News _ _ _ _ => N7); (refine slice_strN_sn (hsz := ?hsz8) (s := ⟨_, _, _, _, _⟩) F7 N7 ?_); (case hsz8 => (with_unfolding_all exact Nat.le_of_ble_eq_true rfl)); intro _ _ _ _ _) | walk1 | (dsimp only; walk1) | (leave1; walk_say "STEP leave1"; try dsimp only) | fail "no step")
      exact InvEndN.intro (by assumption) (by assumption) ⟨rfl, fun _ => g1 (by decide), _, pin_cons rfl (pin_cons rfl pin_nil)⟩ rfl (fun p hp => .tail _ (mem_l p hp)) (fun p hp => .tail _ (mem_r p hp))
    | i + 3, hn => exact absurd hn (by simp [wordS])
  case kd =>
    rintro m₁ nx₁ h tk ⟨rfl, g1, ta, hps⟩ F₁ N₁
    replace F₁ := fr_pin (ps := [(Str.ofString "at", Value.int 11 ta), (Str.ofString "text", Value.str (textB x) t)]) hps F₁
    clear hps
    repeat' (first
      | ((with_reducible refine wpAny_execs_nil ?_); (try dsimp only))
      | (with_reducible refine wpAny_If ?_)
      | ((fail_if_success (with_reducible show ite ((!decide _) = true) _ _)); (fail_if_success (with_reducible show ite (((_ : Bool) == _) = true) _ _)); (with_reducible show ite (_ = true) _ _); first | refine PySem.W.ite_neg (Bool.eq_false_iff.mp rfl) ?_ | refine PySem.W.ite_pos rfl ?_)
      | (k_unfold; (try dsimp only)) | (k_end; wrow_close) | ((with_reducible show wpAny _ _ (subscriptTail _ (Expr.Slice none (some _) none _) (Value.str _ _) (Value.ref _)) _ _ _); (rename Fr _ _ _ _ => F7); (rename News _ _ _ _ => N7); (refine slice_strN_ns (hsz := ?hsz7) (s := ⟨_, _, _, _, _⟩) F7 N7 ?_); (case hsz7 => (with_unfolding_all exact Nat.le_of_ble_eq_true rfl)); intro _ _ _ _ _) | ((with_reducible show wpAny _ _ (subscriptTail _ (Expr.Slice (some _) none none _) (Value.str _ _) (Value.ref _)) _ _ _); (rename Fr _ _ _ _ => F7); (rename News _ _ _ _ => N7); (refine slice_strN_sn (hsz := ?hsz8) (s := ⟨_, _, _, _, _⟩) F7 N7 ?_); (case hsz8 => (with_unfolding_all exact Nat.le_of_ble_eq_true rfl)); intro _ _ _ _ _) | walk1 | (dsimp only; walk1) | (leave1; walk_say "STEP leave1"; try dsimp only) | fail "no step")
    exact hret _ _ _ _ (by assumption) (by assumption) ⟨rfl, congrArg Value.bool (Eq.trans (b := true) (by kernel_rfl) (decide_eq_true (p := a ≤ x) (g1 (Nat.le_of_ble_eq_true rfl))).symm)⟩
end Mine
end
section
open PySem PySem.W PyProof.Rows PySem.Calls PySem.Spec
set_option linter.unusedVariables false
namespace Mine
set_option maxRecDepth 100000
set_option maxHeartbeats 8000000

theorem escape_spc (w : World) (t : Tok) : Spc w 1 62 [.str ⟨#[66]⟩ t] (fun _ => True) (fun nw v nw' => nw = nw' ∧ ∃ t', v = .str ⟨#[66]⟩ t') := by
  unfold Spc
  k_fill
  intro p loose mean mg mb dp un gd cn cs a ccd cl outer A₀ base h₀ L m news s Q E B F X N T hk hP hd hu hret
  refine wpAny_call ?_
  k_dflt cell_enter
  repeat' (first
    | ((with_reducible refine wpAny_execs_nil ?_); (try dsimp only))
    | (with_reducible refine wpAny_If ?_)
    | ((fail_if_success (with_reducible show ite (((_ : Bool) == _) = true) _ _)); (with_reducible show ite (_ = true) _ _); first | refine PySem.W.ite_neg (Bool.eq_false_iff.mp rfl) ?_ | refine PySem.W.ite_pos rfl ?_)
    | ((with_reducible show wpAny _ _ (getMethod (Value.str _ _) (Str.ofString "translate") _) _ _ _); (with_reducible refine' getMethod_builtin ?g1 ?g2 ?g3 ?g4 ?g5 ?_); (case g1 => exact typeIs_str _ _ _); (case g2 => exact PySem.F.plainAttrs_str); (case g3 => exact PySem.F.slot_str_translate); (case g4 => exact PySem.F.type_str_translate); (case g5 => exact fun _ e => nomatch e); (try dsimp only))
    | ((with_reducible show wpAny _ _ (call (Value.builtin "str.translate") _) _ _ _); refine' translate_K ?F ?N ?X ?hh ?_; (case F => assumption); (case N => assumption); (case X => assumption); (case hh => exact rfl); intro h9 tk9 t9 F9 N9)
    | (k_unfold; (try dsimp only)) | (k_end; wrow_close) | walk1 | (dsimp only; walk1) | (leave1; walk_say "STEP leave1"; try dsimp only) | fail "no step")
  exact hret _ _ _ _ (by assumption) (by assumption) ⟨rfl, _, rfl⟩
end Mine
end
section
open PySem PySem.W PyProof.Rows PySem.Calls PySem.Spec
set_option linter.unusedVariables false
namespace Mine
set_option maxRecDepth 100000
set_option maxHeartbeats 8000000

theorem join3_len {a b c : Str} (ha : a.length ≤ 8) (hb : b.length ≤ 8) (hc : c.length ≤ 8) : (Txt.join (Str.ofString "") [a, b, c]).length ≤ 24 := by
  have e : Txt.join (Str.ofString "") [a, b, c] = Str.join (Str.ofString "") [a, b, c] := StrLaws.glued_eq_join _ _
  have e0 : (Str.ofString "").length = 0 := by decide +kernel
  rw [e]
  simp only [Str.join, Str.length_append, e0]
  omega
theorem join_spc (w : World) (xa xb xc : Str) (ta tb tc : Tok) (l S : Addr) (n : Nat) (ha : xa.length ≤ 8) (hb : xb.length ≤ 8) (hc : xc.length ≤ 8) :
    Spc w 1 76 [.ref l, .ref S] (fun nw => (l, listOf #[.str xa ta, .str xb tb, .str xc tc] n) ∈ nw) (fun nw v nw' => nw' = nw ∧ ∃ t, v = .str (Str.empty ++ Str.ofString "(?s:" ++ Txt.join (Str.ofString "") [xa, xb, xc] ++ Str.ofString ")\\Z") t) := by
  unfold Spc
  k_fill
  intro p loose mean mg mb dp un gd cn cs a ccd cl outer A₀ base h₀ L m news s Q E B F X N T hk hP hd hu hret
  refine wpAny_call ?_
  k_dflt cell_enter

  (try dsimp only at hP)
  repeat' (first
    | ((fail_if_success (with_reducible show wpAny _ _ (execs (Stmt.While _ _ _ _ :: _) _) _ _ _)); first
        | ((with_reducible refine wpAny_execs_nil ?_); (try dsimp only))
        | (with_reducible refine wpAny_If ?_)
        | ((with_reducible show ite (_ = true) _ _); (fail_if_success (with_reducible show ite (((_ : Bool) == _) = true) _ _)); first | refine PySem.W.ite_neg (Bool.eq_false_iff.mp rfl) ?_ | refine PySem.W.ite_pos rfl ?_)
        | ((with_reducible show wpAny _ _ (getAttr (Value.ref _) _ _) _ _ _); (refine' getAppend_K ?F ?N ?hm ?_; (case F => assumption); (case N => assumption); (case hm => k_mem); intro b9 h9 tk9 F9 N9 l9; (try k_lt l9)))
        | ((with_reducible show wpAny _ _ (call (Value.ref _) [_]) _ _ _); refine' callAppend_K ?F ?N ?hb ?U ?sz ?_; (case F => assumption); (case N => assumption); (case hb => k_mem); (case U => k_upd); (case sz => first | exact Nat.le_of_ble_eq_true rfl | size_fits); intro h9 F9 N9)
        | ((try dsimp only); (with_reducible show wpAny _ _ (callWith _ (Value.ref _) _ (backTo _ (starEach (_ :: _) _)) []) _ _ _); refine' callWith_app ?N ?hb ?_; (case N => assumption); (case hb => k_mem))
        | ((with_reducible show AppAt _ _ _ ∧ _); refine' ⟨app_at ?N ?hm, ?_⟩; (case N => assumption); (case hm => k_mem))
        | ((with_reducible show wpAny _ _ (newList _) _ _ _); refine' newList_K ?F ?N ?_; (case F => assumption); (case N => assumption); intro l8 hl F8 N8 ol; (try k_lt ol); (try k_sweep))
        | ((with_reducible show wpAny _ _ (call (Value.builtin "len") [Value.ref _]) _ _ _); ((rename News _ _ _ _ => lN'); refine len_K 3 lN' (.tail _ (.tail _ hP)) rfl (by decide) ?_; (try dsimp only)))
        | (k_unfold; (try dsimp only)) | (k_end; wrow_close) | walk1 | (dsimp only; walk1) | (leave1; walk_say "STEP leave1"; try dsimp only) | fail "no step"))
  (rename Fr _ _ _ _ => lF'); (refine cut (α := Tok × Tok × Tok × Tok × Tok) lF' (fun (y : Tok × Tok × Tok × Tok × Tok) => match y with | (ti, tn, ta, tb, tc) => [(Str.ofString "i", Value.int 3 ti), (Str.ofString "n", Value.int 3 tn), (Str.ofString "inp", Value.ref l), (Str.ofString "STAR", Value.ref S), (Str.ofString "add", Value.ref b9), (Str.ofString "res", Value.ref l8)]) (fun (y : Tok × Tok × Tok × Tok × Tok) => match y with | (ti, tn, ta, tb, tc) => (b9, appObj l8) :: (l8, listOf #[Value.str xa ta, Value.str xb tb, Value.str xc tc] 3) :: news) (fun (y : Tok × Tok × Tok × Tok × Tok) => match y with | (ti, tn, ta, tb, tc) => True) ?_ ?_)
  · intro Q' hq
    repeat' (first
      | ((fail_if_success (with_reducible show Q' _ _)); first
          | ((with_reducible show wpAny _ _ (subscriptTail _ _ (Value.ref _) (Value.int _ _)) _ _ _); refine' item_K ?N ?hm ?h0 ?hhi ?hx ?_; (case N => assumption); (case hm => first | k_mem | (repeat (first | exact hP | refine List.Mem.tail _ ?_))); (case h0 => decide); (case hhi => decide); (case hx => rfl); (try dsimp only))
          | ((with_reducible show wpAny _ _ (compareOp CmpOp.IsNot (Value.str _ _) (Value.ref _)) _ _ _); refine isnot_str ?_)
          | ((with_reducible refine wpAny_execs_nil ?_); (try dsimp only))
          | (with_reducible refine wpAny_If ?_)
          | ((with_reducible show ite (_ = true) _ _); (fail_if_success (with_reducible show ite (((_ : Bool) == _) = true) _ _)); first | refine PySem.W.ite_neg (Bool.eq_false_iff.mp rfl) ?_ | refine PySem.W.ite_pos rfl ?_)
          | ((with_reducible show wpAny _ _ (getAttr (Value.ref _) _ _) _ _ _); (refine' getAppend_K ?F ?N ?hm ?_; (case F => assumption); (case N => assumption); (case hm => k_mem); intro b9 h9 tk9 F9 N9 l9; (try k_lt l9)))
          | ((with_reducible show wpAny _ _ (call (Value.ref _) [_]) _ _ _); refine' callAppend_K ?F ?N ?hb ?U ?sz ?_; (case F => assumption); (case N => assumption); (case hb => k_mem); (case U => k_upd); (case sz => first | exact Nat.le_of_ble_eq_true rfl | size_fits); intro h9 F9 N9)
          | ((try dsimp only); (with_reducible show wpAny _ _ (callWith _ (Value.ref _) _ (backTo _ (starEach (_ :: _) _)) []) _ _ _); refine' callWith_app ?N ?hb ?_; (case N => assumption); (case hb => k_mem))
          | ((with_reducible show AppAt _ _ _ ∧ _); refine' ⟨app_at ?N ?hm, ?_⟩; (case N => assumption); (case hm => k_mem))
          | ((with_reducible show wpAny _ _ (exec (Stmt.While _ _ _ _) _) _ _ _); refine While_unroll 6 ?_)
          | (with_reducible refine WhileU_turn ?_)
          | ((with_reducible show UCont _ _ _ _ _ _ _ _ _ _ _); (try dsimp only); with_reducible first | refine UCont_next ?_ | refine UCont_brk ?_)
          | (k_unfold; (try dsimp only)) | (k_end; wrow_close) | walk1 | (dsimp only; walk1) | (leave1; walk_say "STEP leave1"; try dsimp only) | fail "no step"))
    (rename News _ _ _ _ => lN'); exact hq _ _ _ (_, _, _, _, _) (by assumption) (news_sub lN' (by dsimp only; (repeat (first | exact fun _ h9 => h9 | refine sub_cons (by k_mem) ?_ | refine sub_tail ?_)))) (pin_cons rfl (pin_cons rfl (pin_cons rfl (pin_cons rfl (pin_cons rfl (pin_cons rfl (pin_nil))))))) trivial
  clear lF'
  rintro h9 tk9 m9 ⟨ti, tn, ta, tb, tc⟩ F9 N9 hp9 _
  (try dsimp only at F9 N9 hp9 ⊢)
  replace F9 := fr_pin hp9 F9
  clear hp9
  repeat' (first
    | ((fail_if_success (with_reducible show wpAny _ _ (execs (Stmt.Assign _ (Expr.Call _ _ _ _) _ :: _) _) _ _ _)); first
        | ((with_reducible show wpAny _ _ (call (Value.builtin "str.join") [Value.str _ _, Value.ref _]) _ _ _); ((rename News _ _ _ _ => lN'); refine join_listW (ys := [xa, xb, xc]) (News.isList lN' (by k_mem)) (.cons _ _ (.cons _ _ (.cons _ _ .nil))) (Nat.le_of_ble_eq_true rfl) (by show xa.length + (xb.length + (xc.length + 0)) + 3 ≤ _; omega) ?_; intro jt jk))
        | ((with_reducible refine wpAny_execs_nil ?_); (try dsimp only))
        | (with_reducible refine wpAny_If ?_)
        | ((with_reducible show ite (_ = true) _ _); (fail_if_success (with_reducible show ite (((_ : Bool) == _) = true) _ _)); first | refine PySem.W.ite_neg (Bool.eq_false_iff.mp rfl) ?_ | refine PySem.W.ite_pos rfl ?_)
        | ((with_reducible show wpAny _ _ (getAttr (Value.ref _) _ _) _ _ _); (refine' getAppend_K ?F ?N ?hm ?_; (case F => assumption); (case N => assumption); (case hm => k_mem); intro b9 h9 tk9 F9 N9 l9; (try k_lt l9)))
        | ((with_reducible show wpAny _ _ (call (Value.ref _) [_]) _ _ _); refine' callAppend_K ?F ?N ?hb ?U ?sz ?_; (case F => assumption); (case N => assumption); (case hb => k_mem); (case U => k_upd); (case sz => first | exact Nat.le_of_ble_eq_true rfl | size_fits); intro h9 F9 N9)
        | ((try dsimp only); (with_reducible show wpAny _ _ (callWith _ (Value.ref _) _ (backTo _ (starEach (_ :: _) _)) []) _ _ _); refine' callWith_app ?N ?hb ?_; (case N => assumption); (case hb => k_mem))
        | ((with_reducible show AppAt _ _ _ ∧ _); refine' ⟨app_at ?N ?hm, ?_⟩; (case N => assumption); (case hm => k_mem))
        | (k_unfold; (try dsimp only)) | (k_end; wrow_close) | walk1 | (dsimp only; walk1) | (leave1; walk_say "STEP leave1"; try dsimp only) | fail "no step"))
  (rename Fr _ _ _ _ => lF'); (refine cut (α := Tok × Str) lF' (fun (y : Tok × Str) => match y with | (tj, J) => [(Str.ofString "res", Value.str J tj)]) (fun (y : Tok × Str) => match y with | (tj, J) => news) (fun (y : Tok × Str) => match y with | (tj, J) => J = Txt.join (Str.ofString "") [xa, xb, xc]) ?_ ?_)
  · intro Q' hq
    repeat' (first
      | ((fail_if_success (with_reducible show Q' _ _)); first
          | ((with_reducible show wpAny _ _ (call (Value.builtin "str.join") [Value.str _ _, Value.ref _]) _ _ _); ((rename News _ _ _ _ => lN'); refine join_listW (ys := [xa, xb, xc]) (News.isList lN' (by k_mem)) (.cons _ _ (.cons _ _ (.cons _ _ .nil))) (Nat.le_of_ble_eq_true rfl) (by show xa.length + (xb.length + (xc.length + 0)) + 3 ≤ _; omega) ?_; intro jt jk))
          | ((with_reducible refine wpAny_execs_nil ?_); (try dsimp only))
          | (with_reducible refine wpAny_If ?_)
          | ((with_reducible show ite (_ = true) _ _); (fail_if_success (with_reducible show ite (((_ : Bool) == _) = true) _ _)); first | refine PySem.W.ite_neg (Bool.eq_false_iff.mp rfl) ?_ | refine PySem.W.ite_pos rfl ?_)
          | ((with_reducible show wpAny _ _ (getAttr (Value.ref _) _ _) _ _ _); (refine' getAppend_K ?F ?N ?hm ?_; (case F => assumption); (case N => assumption); (case hm => k_mem); intro b9 h9 tk9 F9 N9 l9; (try k_lt l9)))
          | ((with_reducible show wpAny _ _ (call (Value.ref _) [_]) _ _ _); refine' callAppend_K ?F ?N ?hb ?U ?sz ?_; (case F => assumption); (case N => assumption); (case hb => k_mem); (case U => k_upd); (case sz => first | exact Nat.le_of_ble_eq_true rfl | size_fits); intro h9 F9 N9)
          | ((try dsimp only); (with_reducible show wpAny _ _ (callWith _ (Value.ref _) _ (backTo _ (starEach (_ :: _) _)) []) _ _ _); refine' callWith_app ?N ?hb ?_; (case N => assumption); (case hb => k_mem))
          | ((with_reducible show AppAt _ _ _ ∧ _); refine' ⟨app_at ?N ?hm, ?_⟩; (case N => assumption); (case hm => k_mem))
          | (k_unfold; (try dsimp only)) | (k_end; wrow_close) | walk1 | (dsimp only; walk1) | (leave1; walk_say "STEP leave1"; try dsimp only) | fail "no step"))
    (rename News _ _ _ _ => lN'); exact hq _ _ _ (_, _) (by assumption) (news_sub lN' (by dsimp only; (repeat (first | exact fun _ h9 => h9 | refine sub_cons (by k_mem) ?_ | refine sub_tail ?_)))) (pin_cons rfl (pin_nil)) rfl
  clear lF'
  rintro h9 tk9 m9 ⟨tj, J⟩ F9 N9 hp9 hJ
  (try dsimp only at F9 N9 hp9 ⊢)
  replace F9 := fr_pin hp9 F9
  clear hp9
  have hJl : J.length ≤ 24 := by rw [hJ]; exact join3_len ha hb hc
  repeat' (first
    | ((with_reducible refine wpAny_execs_nil ?_); (try dsimp only))
    | (with_reducible refine wpAny_If ?_)
    | ((with_reducible show ite (_ = true) _ _); (fail_if_success (with_reducible show ite (((_ : Bool) == _) = true) _ _)); first | refine PySem.W.ite_neg (Bool.eq_false_iff.mp rfl) ?_ | refine PySem.W.ite_pos rfl ?_)
    | ((with_reducible show wpAny _ _ (getAttr (Value.ref _) _ _) _ _ _); (refine' getAppend_K ?F ?N ?hm ?_; (case F => assumption); (case N => assumption); (case hm => k_mem); intro b9 h9 tk9 F9 N9 l9; (try k_lt l9)))
    | ((with_reducible show wpAny _ _ (call (Value.ref _) [_]) _ _ _); refine' callAppend_K ?F ?N ?hb ?U ?sz ?_; (case F => assumption); (case N => assumption); (case hb => k_mem); (case U => k_upd); (case sz => first | exact Nat.le_of_ble_eq_true rfl | size_fits); intro h9 F9 N9)
    | ((try dsimp only); (with_reducible show wpAny _ _ (callWith _ (Value.ref _) _ (backTo _ (starEach (_ :: _) _)) []) _ _ _); refine' callWith_app ?N ?hb ?_; (case N => assumption); (case hb => k_mem))
    | ((with_reducible show AppAt _ _ _ ∧ _); refine' ⟨app_at ?N ?hm, ?_⟩; (case N => assumption); (case hm => k_mem))
    | (k_unfold; (try dsimp only)) | (k_end; wrow_close) | walk1 | (dsimp only; walk1) | (leave1; walk_say "STEP leave1"; try dsimp only) | fail "no step")
  subst hJ
  exact hret _ _ _ _ (by assumption) (by assumption) ⟨rfl, _, rfl⟩
end Mine
end
section
open PySem PySem.W PyProof.Rows PySem.Calls PySem.Spec
set_option linter.unusedVariables false
namespace Mine
set_option maxRecDepth 100000
set_option maxHeartbeats 8000000
def patS (x z : Nat) : Str := ⟨#[66, 91, 65, 45, 65 + x, 93, 91, 33, 65 + z, 45, 80, 93]⟩
def part3 (z : Nat) : Str := if z = 16 then ⟨#[46]⟩ else ⟨#[91, 94, 65 + z, 45, 80, 93]⟩
def parts (x z : Nat) : List Str := [⟨#[66]⟩, ⟨#[91, 65, 45, 65 + x, 93]⟩, part3 z]
def posI (i : Nat) : Int := [0, 1, 6, 12].getD i 0
/-- the table of a def's blocks that have their code: empty, or with the one lambda's -/
def tabC (c : Addr) : Array Value := #[rawInt 72, rawInt 39, .ref c]
theorem len12 {prog : Program} {w : World} {A : Around} {E : Value → Shared → Prop} {s : Shared} {x z : Nat} {t : Tok} {Q : Value → Shared → Prop} (h : Q (.int 12 (s.toks + 1)) { s with toks := s.toks + 1 + 1 }) : wpAny (model prog w) A (call (.builtin "len") [.str (patS x z) t]) Q E s :=
  PySem.P.len_str (x := patS x z) (by show ¬ ((12 : Int) ≥ 2 ^ 63); decide) h
theorem chrNe {p q : Nat} (h : p ≠ q) : ((⟨#[p]⟩ : Str) != ⟨#[q]⟩) = true := bne_iff_ne.mpr fun e => h (by injection e with e; injection e with e; injection e)
theorem strSub {β : Type} {M : Model} {A : Around} {Q : β → Shared → Prop} {E : Value → Shared → Prop} {s : Shared} {a b : Str} (g : Str → Sem β) (e : a = b) (h : wpAny M A (g b) Q E s) : wpAny M A (g a) Q E s := e ▸ h
theorem occ1 {x : Nat} (h : x < 16) : ¬ (!!(Builtin.Str.occurrences ⟨#[65, 45, 65 + x]⟩ (Str.ofString "-") 0 3 1).isEmpty) = true := (by decide +kernel : ∀ x : Fin 16, ¬ (!!(Builtin.Str.occurrences ⟨#[65, 45, 65 + x.1]⟩ (Str.ofString "-") 0 3 1).isEmpty) = true) ⟨x, h⟩
theorem notLt {x : Nat} (h : x < 16) : ¬ decide ((Txt.item { cps := #[65 + x] } 0).cps.toList < (Txt.item (Str.ofString "A") (-1)).cps.toList) = true := (by decide +kernel : ∀ x : Fin 16, ¬ decide ((Txt.item { cps := #[65 + x.1] } 0).cps.toList < (Txt.item (Str.ofString "A") (-1)).cps.toList) = true) ⟨x, h⟩
theorem fA {x z : Nat} (h : x < 16) (g : z ≤ 16) : fnd (patS x z) (Str.ofString "-") 3 5 = 3 := (by decide +kernel : ∀ (x : Fin 16) (z : Fin 17), fnd (patS x z) (Str.ofString "-") 3 5 = 3) ⟨x, h⟩ ⟨z, Nat.lt_succ_of_le g⟩
theorem fB {x z : Nat} (h : x < 16) (g : z ≤ 16) : fnd (patS x z) (Str.ofString "-") 6 5 = -1 := (by decide +kernel : ∀ (x : Fin 16) (z : Fin 17), fnd (patS x z) (Str.ofString "-") 6 5 = -1) ⟨x, h⟩ ⟨z, Nat.lt_succ_of_le g⟩
theorem fC {x z : Nat} (h : x < 16) (g : z ≤ 16) : fnd (patS x z) (Str.ofString "-") 9 11 = 9 := (by decide +kernel : ∀ (x : Fin 16) (z : Fin 17), fnd (patS x z) (Str.ofString "-") 9 11 = 9) ⟨x, h⟩ ⟨z, Nat.lt_succ_of_le g⟩
theorem fD {x z : Nat} (h : x < 16) (g : z ≤ 16) : fnd (patS x z) (Str.ofString "-") 12 11 = -1 := (by decide +kernel : ∀ (x : Fin 16) (z : Fin 17), fnd (patS x z) (Str.ofString "-") 12 11 = -1) ⟨x, h⟩ ⟨z, Nat.lt_succ_of_le g⟩


theorem chrEqF {p q : Nat} (h : p ≠ q) : ¬ ((⟨#[p]⟩ : Str) == ⟨#[q]⟩) = true := fun e => h (by have e := beq_iff_eq.mp e; injection e with e; injection e with e; injection e)
def stuffZ (z : Nat) : Str := if z = 16 then ⟨#[33]⟩ else ⟨#[33, 65 + z, 45, 80]⟩
theorem stuffZ_pos {z : Nat} : 0 < (stuffZ z).cps.size := by unfold stuffZ; split <;> exact Nat.le_of_ble_eq_true rfl
theorem stuffZ_le {z : Nat} : (stuffZ z).cps.size ≤ 1000 := by unfold stuffZ; split <;> exact Nat.le_of_ble_eq_true rfl
theorem noS {z : Nat} (h : z ≤ 16) : noMatch (stuffZ z) = true := by
  unfold stuffZ
  split
  · exact noB
  · exact noZ ⟨z, Nat.lt_succ_of_le h⟩
theorem occ2 {z : Nat} (h : z ≤ 16) : ¬ (!!(Builtin.Str.occurrences ⟨#[33, 65 + z, 45, 80]⟩ (Str.ofString "-") 0 4 1).isEmpty) = true := (by decide +kernel : ∀ z : Fin 17, ¬ (!!(Builtin.Str.occurrences ⟨#[33, 65 + z.1, 45, 80]⟩ (Str.ofString "-") 0 4 1).isEmpty) = true) ⟨z, Nat.lt_succ_of_le h⟩
theorem notLtZ {z : Nat} (h : z < 16) : ¬ decide ((Txt.item { cps := #[80] } 0).cps.toList < (Txt.item { cps := #[33, 65 + z] } (-1)).cps.toList) = true := (by decide +kernel : ∀ z : Fin 16, ¬ decide ((Txt.item { cps := #[80] } 0).cps.toList < (Txt.item { cps := #[33, 65 + z.1] } (-1)).cps.toList) = true) ⟨z, h⟩
theorem ltQ : decide ((Txt.item { cps := #[80] } 0).cps.toList < (Txt.item { cps := #[33, 65 + 16] } (-1)).cps.toList) = true := by decide +kernel


theorem sub_hd {a : Addr} {b b' : Obj} {r l : List (Addr × Obj)} (hb : b = b') (hr : ∀ p ∈ r, p ∈ l) : ∀ p ∈ (a, b) :: r, p ∈ (a, b') :: l := fun p hp => by
  subst hb
  rcases List.mem_cons.mp hp with rfl | hp
  · exact .head _
  · exact .tail _ (hr p hp)
theorem tr_spc (w : World) (x z : Nat) (t u : Tok) (S : Addr) (rest : List (Addr × Obj)) (h0 : x < 16) (h1 : 1 ≤ z) (h2 : z ≤ 16) (hoff : ∀ p ∈ rest, p.1 ≠ 64) :
    SpcG w 3 69 [.str (patS x z) t, .ref S, .str (Str.ofString ".") u] (fun nw => ∃ ps, Tb ps ∧ nw = (64, tabObj ps) :: rest) (fun nw v nw' => ∃ l vs n ps, v = .ref l ∧ StrsAre vs (parts x z) ∧ Tb ps ∧ nw' = (l, listOf vs.toArray n) :: (64, tabObj ps) :: rest) := by
  unfold SpcG
  k_fill
  intro p loose mean mg mb dp un gd cn cs a ccd cl outer A₀ base h₀ L m news s Q E B F X N T hk hP hG hd hu hret
  refine wpAny_call ?_
  k_dflt cell_enter
  obtain ⟨ps, hps, rfl⟩ := hP
  have hL : (patS x z).length = 12 := rfl
  repeat' (first
    | ((fail_if_success (with_reducible show wpAny _ _ (exec (Stmt.While _ _ _ _) _) _ _ _)); first
        | ((with_reducible refine wpAny_execs_nil ?_); (try dsimp only))
        | (with_reducible refine wpAny_If ?_)
        | ((with_reducible show ite (_ = true) _ _); (fail_if_success (with_reducible show ite (((_ : Bool) == _) = true) _ _)); first | refine PySem.W.ite_neg (Bool.eq_false_iff.mp rfl) ?_ | refine PySem.W.ite_pos rfl ?_)
        | ((with_reducible show wpAny _ _ (getAttr (Value.ref _) _ _) _ _ _); (refine' getAppend_K ?F ?N ?hm ?_; (case F => assumption); (case N => assumption); (case hm => k_mem); intro b9 h9 tk9 F9 N9 l9; (try k_lt l9)))
        | ((with_reducible show wpAny _ _ (call (Value.ref _) [_]) _ _ _); refine' callAppend_K ?F ?N ?hb ?U ?sz ?_; (case F => assumption); (case N => assumption); (case hb => k_mem); (case U => k_upd); (case sz => first | exact Nat.le_of_ble_eq_true rfl | size_fits); intro h9 F9 N9)
        | ((try dsimp only); (with_reducible show wpAny _ _ (callWith _ (Value.ref _) _ (backTo _ (starEach (_ :: _) _)) []) _ _ _); refine' callWith_app ?N ?hb ?_; (case N => assumption); (case hb => k_mem))
        | ((with_reducible show AppAt _ _ _ ∧ _); refine' ⟨app_at ?N ?hm, ?_⟩; (case N => assumption); (case hm => k_mem))
        | ((with_reducible show wpAny _ _ (call (Value.builtin "len") [Value.str _ _]) _ _ _); refine len12 ?_)
        | ((with_reducible show wpAny _ _ (newList _) _ _ _); refine' newList_K ?F ?N ?_; (case F => assumption); (case N => assumption); intro l8 hl F8 N8 ol; (try k_lt ol); (try k_sweep))
        | (k_unfold; (try dsimp only)) | (k_end; wrow_close) | walk1 | (dsimp only; walk1) | (leave1; walk_say "STEP leave1"; try dsimp only) | fail "no step"))
  rename (K w.params).In _ => X9; (have C9 := codeHd_of_K (c := 68) (P := 64) X9 (by kernel_rfl)); (have Q3 := X9 43 (patObj 297 332 0) (by kernel_rfl)); (have Q2 := X9 42 tupObj (by kernel_rfl))
  refine While_unroll 4 (WhileU_turn ?_)
  repeat' (first
    | ((fail_if_success (with_reducible show wpAny _ _ (execs [Stmt.If (Expr.Compare (Expr.Name _ _) [CmpOp.Eq] _ _) _ _ _] _) _ _ _)); first
        | ((with_reducible refine wpAny_execs_nil ?_); (try dsimp only))
        | (with_reducible refine wpAny_If ?_)
        | ((with_reducible show ite (_ = true) _ _); (fail_if_success (with_reducible show ite (((_ : Bool) == _) = true) _ _)); first | refine PySem.W.ite_neg (Bool.eq_false_iff.mp rfl) ?_ | refine PySem.W.ite_pos rfl ?_)
        | ((with_reducible show wpAny _ _ (getAttr (Value.ref _) _ _) _ _ _); (refine' getAppend_K ?F ?N ?hm ?_; (case F => assumption); (case N => assumption); (case hm => k_mem); intro b9 h9 tk9 F9 N9 l9; (try k_lt l9)))
        | ((with_reducible show wpAny _ _ (call (Value.ref _) [_]) _ _ _); refine' callAppend_K ?F ?N ?hb ?U ?sz ?_; (case F => assumption); (case N => assumption); (case hb => k_mem); (case U => k_upd); (case sz => first | exact Nat.le_of_ble_eq_true rfl | size_fits); intro h9 F9 N9)
        | ((try dsimp only); (with_reducible show wpAny _ _ (callWith _ (Value.ref _) _ (backTo _ (starEach (_ :: _) _)) []) _ _ _); refine' callWith_app ?N ?hb ?_; (case N => assumption); (case hb => k_mem))
        | ((with_reducible show AppAt _ _ _ ∧ _); refine' ⟨app_at ?N ?hm, ?_⟩; (case N => assumption); (case hm => k_mem))
        | ((with_reducible show wpAny _ _ (call (Value.builtin "len") [Value.str _ _]) _ _ _); refine len12 ?_)
        | (k_unfold; (try dsimp only)) | (k_end; wrow_close) | walk1 | (dsimp only; walk1) | (leave1; walk_say "STEP leave1"; try dsimp only) | fail "no step"))
  (rename Fr _ _ _ _ => lF'); (refine cut (α := Tok × Tok × Tok) lF' (fun (y : Tok × Tok × Tok) => match y with | (ti, tn, u1) => [(Str.ofString "i", Value.int 1 ti), (Str.ofString "n", Value.int 12 tn), (Str.ofString "pat", Value.str (patS x z) t), (Str.ofString "add", Value.ref b9), (Str.ofString "res", Value.ref l8)]) (fun (y : Tok × Tok × Tok) => match y with | (ti, tn, u1) => (b9, appObj l8) :: (l8, listOf #[Value.str ⟨#[66]⟩ u1] 1) :: (64, tabObj ps) :: rest) (fun (y : Tok × Tok × Tok) => match y with | (ti, tn, u1) => True) ?_ ?_)
  · intro Q' hq
    repeat' (first
      | ((fail_if_success (with_reducible show Q' _ _)); first
          | ((with_reducible show wpAny _ _ (call (.ref 62) _) _ _ _); (refine' (escape_spc w _).use ?k1 ?k2 ?k3 ?k4 ?k5 ?k6 trivial ?k7 ?k8 ?_; (case k1 => assumption); (case k2 => assumption); (case k3 => assumption); (case k4 => assumption); (case k5 => assumption); (case k6 => first | exact rfl | assumption); (case k7 => ktr_room); (case k8 => ktr_units); rintro _ h9 tk9 _ F9 N9 ⟨rfl, t9, rfl⟩; (try dsimp only); (try k_fold)))
          | ((with_reducible refine wpAny_execs_nil ?_); (try dsimp only))
          | (with_reducible refine wpAny_If ?_)
          | ((with_reducible show ite (_ = true) _ _); (fail_if_success (with_reducible show ite (((_ : Bool) == _) = true) _ _)); first | refine PySem.W.ite_neg (Bool.eq_false_iff.mp rfl) ?_ | refine PySem.W.ite_pos rfl ?_)
          | ((with_reducible show wpAny _ _ (getAttr (Value.ref _) _ _) _ _ _); (refine' getAppend_K ?F ?N ?hm ?_; (case F => assumption); (case N => assumption); (case hm => k_mem); intro b9 h9 tk9 F9 N9 l9; (try k_lt l9)))
          | ((with_reducible show wpAny _ _ (call (Value.ref _) [_]) _ _ _); refine' callAppend_K ?F ?N ?hb ?U ?sz ?_; (case F => assumption); (case N => assumption); (case hb => k_mem); (case U => k_upd); (case sz => first | exact Nat.le_of_ble_eq_true rfl | size_fits); intro h9 F9 N9)
          | ((try dsimp only); (with_reducible show wpAny _ _ (callWith _ (Value.ref _) _ (backTo _ (starEach (_ :: _) _)) []) _ _ _); refine' callWith_app ?N ?hb ?_; (case N => assumption); (case hb => k_mem))
          | ((with_reducible show AppAt _ _ _ ∧ _); refine' ⟨app_at ?N ?hm, ?_⟩; (case N => assumption); (case hm => k_mem))
          | ((with_reducible show wpAny _ _ (call (Value.builtin "len") [Value.str _ _]) _ _ _); refine len12 ?_)
          | (k_unfold; (try dsimp only)) | (k_end; wrow_close) | walk1 | (dsimp only; walk1) | (leave1; walk_say "STEP leave1"; try dsimp only) | fail "no step"))
    (rename News _ _ _ _ => lN'); exact hq _ _ _ (_, _, _) (by assumption) (news_sub lN' (by dsimp only; (first | ((repeat (first | (with_reducible exact fun _ h9 => h9) | ((with_reducible refine sub_hd ?_ ?_); exact rfl) | refine sub_tail ?_)); done) | (repeat (first | exact fun _ h9 => h9 | refine sub_cons (by k_mem) ?_ | refine sub_tail ?_))))) (pin_cons rfl (pin_cons rfl (pin_cons rfl (pin_cons rfl (pin_cons rfl (pin_nil)))))) trivial
  clear lF'
  rintro h9 tk9 m9 ⟨ti, tn, u1⟩ F9 N9 hp9 _
  (try dsimp only at F9 N9 hp9 ⊢)
  replace F9 := fr_pin hp9 F9
  clear hp9
  repeat' (first
    | ((fail_if_success (with_reducible show WhileU _ _ _ _ _ _ _ _ _ _)); first
        | ((with_reducible refine wpAny_execs_nil ?_); (try dsimp only))
        | ((with_reducible show UCont _ _ _ _ _ _ _ _ _ _ _); (try dsimp only); with_reducible first | refine UCont_next ?_ | refine UCont_brk ?_)
        | (k_unfold; (try dsimp only)) | (k_end; wrow_close) | walk1 | (dsimp only; walk1) | (leave1; walk_say "STEP leave1"; try dsimp only) | fail "no step"))
  refine WhileU_turn ?_
  repeat' (first
    | ((fail_if_success (with_reducible show wpAny _ _ (execs [Stmt.If (Expr.Compare (Expr.Name _ _) [CmpOp.Eq] _ _) _ _ _] _) _ _ _)); first
        | ((with_reducible refine wpAny_execs_nil ?_); (try dsimp only))
        | (with_reducible refine wpAny_If ?_)
        | ((with_reducible show ite (_ = true) _ _); (fail_if_success (with_reducible show ite (((_ : Bool) == _) = true) _ _)); first | refine PySem.W.ite_neg (Bool.eq_false_iff.mp rfl) ?_ | refine PySem.W.ite_pos rfl ?_)
        | ((with_reducible show wpAny _ _ (getAttr (Value.ref _) _ _) _ _ _); (refine' getAppend_K ?F ?N ?hm ?_; (case F => assumption); (case N => assumption); (case hm => k_mem); intro b9 h9 tk9 F9 N9 l9; (try k_lt l9)))
        | ((with_reducible show wpAny _ _ (call (Value.ref _) [_]) _ _ _); refine' callAppend_K ?F ?N ?hb ?U ?sz ?_; (case F => assumption); (case N => assumption); (case hb => k_mem); (case U => k_upd); (case sz => first | exact Nat.le_of_ble_eq_true rfl | size_fits); intro h9 F9 N9)
        | ((try dsimp only); (with_reducible show wpAny _ _ (callWith _ (Value.ref _) _ (backTo _ (starEach (_ :: _) _)) []) _ _ _); refine' callWith_app ?N ?hb ?_; (case N => assumption); (case hb => k_mem))
        | ((with_reducible show AppAt _ _ _ ∧ _); refine' ⟨app_at ?N ?hm, ?_⟩; (case N => assumption); (case hm => k_mem))
        | ((with_reducible show wpAny _ _ (call (Value.builtin "len") [Value.str _ _]) _ _ _); refine len12 ?_)
        | (k_unfold; (try dsimp only)) | (k_end; wrow_close) | walk1 | (dsimp only; walk1) | (leave1; walk_say "STEP leave1"; try dsimp only) | fail "no step"))
  (rename Fr _ _ _ _ => lF'); (refine cutG (α := Tok × Tok × Tok × Tok × Array Value) lF' (fun (y : Tok × Tok × Tok × Tok × Array Value) => match y with | (ti, tn, u1, u2, ps) => [(Str.ofString "i", Value.int 6 ti), (Str.ofString "n", Value.int 12 tn), (Str.ofString "pat", Value.str (patS x z) t), (Str.ofString "add", Value.ref b9), (Str.ofString "res", Value.ref l8)]) (fun (y : Tok × Tok × Tok × Tok × Array Value) => match y with | (ti, tn, u1, u2, ps) => (b9, appObj l8) :: (l8, listOf #[Value.str ⟨#[66]⟩ u1, Value.str ⟨#[91, 65, 45, 65 + x, 93]⟩ u2] 2) :: (64, tabObj ps) :: rest) (fun (y : Tok × Tok × Tok × Tok × Array Value) => match y with | (ti, tn, u1, u2, ps) => Tb ps) ?_ ?_)
  · intro Q' hq
    repeat' (first
      | ((fail_if_success (with_reducible show wpAny _ _ (execs (Stmt.While _ _ _ _ :: _) _) _ _ _)); first
          | ((with_reducible refine wpAny_execs_nil ?_); (try dsimp only))
          | (with_reducible refine wpAny_If ?_)
          | ((with_reducible show ite (_ = true) _ _); (fail_if_success (with_reducible show ite (((_ : Bool) == _) = true) _ _)); first | refine PySem.W.ite_neg (Bool.eq_false_iff.mp rfl) ?_ | refine PySem.W.ite_pos rfl ?_)
          | ((with_reducible show wpAny _ _ (getAttr (Value.ref _) _ _) _ _ _); (refine' getAppend_K ?F ?N ?hm ?_; (case F => assumption); (case N => assumption); (case hm => k_mem); intro b9 h9 tk9 F9 N9 l9; (try k_lt l9)))
          | ((with_reducible show wpAny _ _ (call (Value.ref _) [_]) _ _ _); refine' callAppend_K ?F ?N ?hb ?U ?sz ?_; (case F => assumption); (case N => assumption); (case hb => k_mem); (case U => k_upd); (case sz => first | exact Nat.le_of_ble_eq_true rfl | size_fits); intro h9 F9 N9)
          | ((try dsimp only); (with_reducible show wpAny _ _ (callWith _ (Value.ref _) _ (backTo _ (starEach (_ :: _) _)) []) _ _ _); refine' callWith_app ?N ?hb ?_; (case N => assumption); (case hb => k_mem))
          | ((with_reducible show AppAt _ _ _ ∧ _); refine' ⟨app_at ?N ?hm, ?_⟩; (case N => assumption); (case hm => k_mem))
          | ((with_reducible show wpAny _ _ (call (Value.builtin "len") [Value.str _ _]) _ _ _); refine len12 ?_)
          | (k_unfold; (try dsimp only)) | (k_end; wrow_close) | walk1 | (dsimp only; walk1) | (leave1; walk_say "STEP leave1"; try dsimp only) | fail "no step"))
    (rename Fr _ _ _ _ => lF'); (refine cut (α := Tok × Tok) lF' (fun (y : Tok × Tok) => match y with | (ti, tj) => [(Str.ofString "i", Value.int 2 ti), (Str.ofString "j", Value.int 5 tj), (Str.ofString "n", Value.int 12 tn), (Str.ofString "pat", Value.str (patS x z) t), (Str.ofString "add", Value.ref b9), (Str.ofString "res", Value.ref l8)]) (fun (y : Tok × Tok) => match y with | (ti, tj) => (b9, appObj l8) :: (l8, listOf #[Value.str ⟨#[66]⟩ u1] 1) :: (64, tabObj ps) :: rest) (fun (y : Tok × Tok) => match y with | (ti, tj) => True) ?_ ?_)
    · intro Q2 hq2
      repeat' (first
        | ((fail_if_success (with_reducible show Q2 _ _)); first
            | ((with_reducible show ite ((_ != Str.ofString "]") = true) _ _); refine PySem.W.ite_pos (chrNe (p := 65 + x) (q := 93) (by omega)) ?_)
            | ((with_reducible refine wpAny_execs_nil ?_); (try dsimp only))
            | (with_reducible refine wpAny_If ?_)
            | ((with_reducible show ite (_ = true) _ _); (fail_if_success (with_reducible show ite (((_ : Bool) == _) = true) _ _)); first | refine PySem.W.ite_neg (Bool.eq_false_iff.mp rfl) ?_ | refine PySem.W.ite_pos rfl ?_)
            | ((with_reducible show wpAny _ _ (getAttr (Value.ref _) _ _) _ _ _); (refine' getAppend_K ?F ?N ?hm ?_; (case F => assumption); (case N => assumption); (case hm => k_mem); intro b9 h9 tk9 F9 N9 l9; (try k_lt l9)))
            | ((with_reducible show wpAny _ _ (call (Value.ref _) [_]) _ _ _); refine' callAppend_K ?F ?N ?hb ?U ?sz ?_; (case F => assumption); (case N => assumption); (case hb => k_mem); (case U => k_upd); (case sz => first | exact Nat.le_of_ble_eq_true rfl | size_fits); intro h9 F9 N9)
            | ((try dsimp only); (with_reducible show wpAny _ _ (callWith _ (Value.ref _) _ (backTo _ (starEach (_ :: _) _)) []) _ _ _); refine' callWith_app ?N ?hb ?_; (case N => assumption); (case hb => k_mem))
            | ((with_reducible show AppAt _ _ _ ∧ _); refine' ⟨app_at ?N ?hm, ?_⟩; (case N => assumption); (case hm => k_mem))
            | ((with_reducible show wpAny _ _ (call (Value.builtin "len") [Value.str _ _]) _ _ _); refine len12 ?_)
            | ((with_reducible show wpAny _ _ (exec (Stmt.While _ _ _ _) _) _ _ _); refine While_unroll 6 ?_)
            | (with_reducible refine WhileU_turn ?_)
            | ((with_reducible show UCont _ _ _ _ _ _ _ _ _ _ _); (try dsimp only); with_reducible first | refine UCont_next ?_ | refine UCont_brk ?_)
            | (k_unfold; (try dsimp only)) | (k_end; wrow_close) | walk1 | (dsimp only; walk1) | (leave1; walk_say "STEP leave1"; try dsimp only) | fail "no step"))
      (rename News _ _ _ _ => lN'); exact hq2 _ _ _ (_, _) (by assumption) (news_sub lN' (by dsimp only; (first | ((repeat (first | (with_reducible exact fun _ h9 => h9) | ((with_reducible refine sub_hd ?_ ?_); exact rfl) | refine sub_tail ?_)); done) | (repeat (first | exact fun _ h9 => h9 | refine sub_cons (by k_mem) ?_ | refine sub_tail ?_))))) (pin_cons rfl (pin_cons rfl (pin_cons rfl (pin_cons rfl (pin_cons rfl (pin_cons rfl (pin_nil))))))) trivial
    clear lF'
    rintro h9 tk9 m9 ⟨ti, tj⟩ F9 N9 hp9 _
    (try dsimp only at F9 N9 hp9 ⊢)
    replace F9 := fr_pin hp9 F9
    clear hp9
    repeat' (first
      | ((fail_if_success (with_reducible show wpAny _ _ (execs (Stmt.If (Expr.Compare (Expr.Constant _ _ _) _ _ _) _ _ _ :: _) _) _ _ _)); first
          | ((with_reducible show wpAny _ _ (storeName _ (Str.ofString "stuff") (Value.str (Txt.slice _ _ _) _)) _ _ _); refine strSub (fun z9 => storeName _ _ (Value.str z9 _)) (b := ⟨#[65, 45, 65 + x]⟩) (by kernel_rfl) ?_)
          | ((with_reducible refine wpAny_execs_nil ?_); (try dsimp only))
          | (with_reducible refine wpAny_If ?_)
          | ((with_reducible show ite (_ = true) _ _); (fail_if_success (with_reducible show ite (((_ : Bool) == _) = true) _ _)); first | refine PySem.W.ite_neg (Bool.eq_false_iff.mp rfl) ?_ | refine PySem.W.ite_pos rfl ?_)
          | ((with_reducible show wpAny _ _ (getAttr (Value.ref _) _ _) _ _ _); (refine' getAppend_K ?F ?N ?hm ?_; (case F => assumption); (case N => assumption); (case hm => k_mem); intro b9 h9 tk9 F9 N9 l9; (try k_lt l9)))
          | ((with_reducible show wpAny _ _ (call (Value.ref _) [_]) _ _ _); refine' callAppend_K ?F ?N ?hb ?U ?sz ?_; (case F => assumption); (case N => assumption); (case hb => k_mem); (case U => k_upd); (case sz => first | exact Nat.le_of_ble_eq_true rfl | size_fits); intro h9 F9 N9)
          | ((try dsimp only); (with_reducible show wpAny _ _ (callWith _ (Value.ref _) _ (backTo _ (starEach (_ :: _) _)) []) _ _ _); refine' callWith_app ?N ?hb ?_; (case N => assumption); (case hb => k_mem))
          | ((with_reducible show AppAt _ _ _ ∧ _); refine' ⟨app_at ?N ?hm, ?_⟩; (case N => assumption); (case hm => k_mem))
          | ((with_reducible show wpAny _ _ (call (Value.builtin "len") [Value.str _ _]) _ _ _); refine len12 ?_)
          | (k_unfold; (try dsimp only)) | (k_end; wrow_close) | walk1 | (dsimp only; walk1) | (leave1; walk_say "STEP leave1"; try dsimp only) | fail "no step"))
    (rename Fr _ _ _ _ => lF'); (refine cutG (α := Tok × Tok × Array Value) lF' (fun (y : Tok × Tok × Array Value) => match y with | (tj, ts, ps) => [(Str.ofString "stuff", Value.str ⟨#[65, 45, 65 + x]⟩ ts), (Str.ofString "j", Value.int 5 tj), (Str.ofString "n", Value.int 12 tn), (Str.ofString "pat", Value.str (patS x z) t), (Str.ofString "add", Value.ref b9), (Str.ofString "res", Value.ref l8)]) (fun (y : Tok × Tok × Array Value) => match y with | (tj, ts, ps) => (b9, appObj l8) :: (l8, listOf #[Value.str ⟨#[66]⟩ u1] 1) :: (64, tabObj ps) :: rest) (fun (y : Tok × Tok × Array Value) => match y with | (tj, ts, ps) => Tb ps) ?_ ?_)
    · intro Q2 hq2
      repeat' (first
        | ((fail_if_success (with_reducible show wpAny _ _ (execs (Stmt.While _ _ _ _ :: _) _) _ _ _)); first
            | ((with_reducible show ite ((!!_) = true) _ _); refine PySem.W.ite_neg (occ1 h0) ?_)
            | ((with_reducible show wpAny _ _ (newList _) _ _ _); refine' newList_K ?F ?N ?_; (case F => assumption); (case N => assumption); intro q8 hq F8 N8 oq; (try k_lt oq); (try k_sweep))
            | ((with_reducible refine wpAny_execs_nil ?_); (try dsimp only))
            | (with_reducible refine wpAny_If ?_)
            | ((with_reducible show ite (_ = true) _ _); (fail_if_success (with_reducible show ite (((_ : Bool) == _) = true) _ _)); first | refine PySem.W.ite_neg (Bool.eq_false_iff.mp rfl) ?_ | refine PySem.W.ite_pos rfl ?_)
            | ((with_reducible show wpAny _ _ (getAttr (Value.ref _) _ _) _ _ _); (refine' getAppend_K ?F ?N ?hm ?_; (case F => assumption); (case N => assumption); (case hm => k_mem); intro b9 h9 tk9 F9 N9 l9; (try k_lt l9)))
            | ((with_reducible show wpAny _ _ (call (Value.ref _) [_]) _ _ _); refine' callAppend_K ?F ?N ?hb ?U ?sz ?_; (case F => assumption); (case N => assumption); (case hb => k_mem); (case U => k_upd); (case sz => first | exact Nat.le_of_ble_eq_true rfl | size_fits); intro h9 F9 N9)
            | ((try dsimp only); (with_reducible show wpAny _ _ (callWith _ (Value.ref _) _ (backTo _ (starEach (_ :: _) _)) []) _ _ _); refine' callWith_app ?N ?hb ?_; (case N => assumption); (case hb => k_mem))
            | ((with_reducible show AppAt _ _ _ ∧ _); refine' ⟨app_at ?N ?hm, ?_⟩; (case N => assumption); (case hm => k_mem))
            | ((with_reducible show wpAny _ _ (call (Value.builtin "len") [Value.str _ _]) _ _ _); refine len12 ?_)
            | (k_unfold; (try dsimp only)) | (k_end; wrow_close) | walk1 | (dsimp only; walk1) | (leave1; walk_say "STEP leave1"; try dsimp only) | fail "no step"))
      (rename Fr _ _ _ _ => lF'); (refine cut (α := Tok × Tok × Tok) lF' (fun (y : Tok × Tok × Tok) => match y with | (ti, tj, tc) => [(Str.ofString "chunks", Value.ref q8), (Str.ofString "i", Value.int 4 ti), (Str.ofString "j", Value.int 5 tj), (Str.ofString "n", Value.int 12 tn), (Str.ofString "pat", Value.str (patS x z) t), (Str.ofString "add", Value.ref b9), (Str.ofString "res", Value.ref l8)]) (fun (y : Tok × Tok × Tok) => match y with | (ti, tj, tc) => (q8, listOf #[Value.str ⟨#[65]⟩ tc] 1) :: (b9, appObj l8) :: (l8, listOf #[Value.str ⟨#[66]⟩ u1] 1) :: (64, tabObj ps) :: rest) (fun (y : Tok × Tok × Tok) => match y with | (ti, tj, tc) => True) ?_ ?_)
      · intro Q4 hq4
        repeat' (first
          | ((fail_if_success (with_reducible show Q4 _ _)); first
              | ((with_reducible show wpAny _ _ (call (Value.builtin "str.find") _) _ _ _); first | refine find_K 3 (fA h0 h2) ?_ | refine find_K (-1) (fB h0 h2) ?_)
              | ((with_reducible show wpAny _ _ (call (Value.builtin "list.append") [_, Value.str (Txt.slice _ _ _) _]) _ _ _); refine strSub (fun z9 => call (Value.builtin "list.append") [_, Value.str z9 _]) (b := ⟨#[65]⟩) (by kernel_rfl) ?_)
              | ((with_reducible refine wpAny_execs_nil ?_); (try dsimp only))
              | (with_reducible refine wpAny_If ?_)
              | ((with_reducible show ite (_ = true) _ _); (fail_if_success (with_reducible show ite (((_ : Bool) == _) = true) _ _)); first | refine PySem.W.ite_neg (Bool.eq_false_iff.mp rfl) ?_ | refine PySem.W.ite_pos rfl ?_)
              | ((with_reducible show wpAny _ _ (getAttr (Value.ref _) _ _) _ _ _); (refine' getAppend_K ?F ?N ?hm ?_; (case F => assumption); (case N => assumption); (case hm => k_mem); intro b9 h9 tk9 F9 N9 l9; (try k_lt l9)))
              | ((with_reducible show wpAny _ _ (call (Value.ref _) [_]) _ _ _); refine' callAppend_K ?F ?N ?hb ?U ?sz ?_; (case F => assumption); (case N => assumption); (case hb => k_mem); (case U => k_upd); (case sz => first | exact Nat.le_of_ble_eq_true rfl | size_fits); intro h9 F9 N9)
              | ((try dsimp only); (with_reducible show wpAny _ _ (callWith _ (Value.ref _) _ (backTo _ (starEach (_ :: _) _)) []) _ _ _); refine' callWith_app ?N ?hb ?_; (case N => assumption); (case hb => k_mem))
              | ((with_reducible show AppAt _ _ _ ∧ _); refine' ⟨app_at ?N ?hm, ?_⟩; (case N => assumption); (case hm => k_mem))
              | ((with_reducible show wpAny _ _ (call (Value.builtin "len") [Value.str _ _]) _ _ _); refine len12 ?_)
              | ((with_reducible show wpAny _ _ (exec (Stmt.While _ _ _ _) _) _ _ _); refine While_unroll 6 ?_)
              | (with_reducible refine WhileU_turn ?_)
              | ((with_reducible show UCont _ _ _ _ _ _ _ _ _ _ _); (try dsimp only); with_reducible first | refine UCont_next ?_ | refine UCont_brk ?_)
              | (k_unfold; (try dsimp only)) | (k_end; wrow_close) | walk1 | (dsimp only; walk1) | (leave1; walk_say "STEP leave1"; try dsimp only) | fail "no step"))
        (rename News _ _ _ _ => lN'); exact hq4 _ _ _ (_, _, _) (by assumption) (news_sub lN' (by dsimp only; (first | ((repeat (first | (with_reducible exact fun _ h9 => h9) | ((with_reducible refine sub_hd ?_ ?_); exact rfl) | refine sub_tail ?_)); done) | (repeat (first | exact fun _ h9 => h9 | refine sub_cons (by k_mem) ?_ | refine sub_tail ?_))))) (pin_cons rfl (pin_cons rfl (pin_cons rfl (pin_cons rfl (pin_cons rfl (pin_cons rfl (pin_cons rfl (pin_nil)))))))) trivial
      clear lF'
      rintro h9 tk9 m9 ⟨ti, tj, tc⟩ F9 N9 hp9 _
      (try dsimp only at F9 N9 hp9 ⊢)
      replace F9 := fr_pin hp9 F9
      clear hp9
      repeat' (first
        | ((fail_if_success (with_reducible show wpAny _ _ (execs (Stmt.For _ _ _ _ _ :: _) _) _ _ _)); first
            | ((with_reducible show wpAny _ _ (storeName _ (Str.ofString "chunk") (Value.str (Txt.slice _ _ _) _)) _ _ _); refine strSub (fun z9 => storeName _ _ (Value.str z9 _)) (b := ⟨#[65 + x]⟩) (by kernel_rfl) ?_)
            | ((with_reducible refine wpAny_execs_nil ?_); (try dsimp only))
            | (with_reducible refine wpAny_If ?_)
            | ((with_reducible show ite (_ = true) _ _); (fail_if_success (with_reducible show ite (((_ : Bool) == _) = true) _ _)); first | refine PySem.W.ite_neg (Bool.eq_false_iff.mp rfl) ?_ | refine PySem.W.ite_pos rfl ?_)
            | ((with_reducible show wpAny _ _ (getAttr (Value.ref _) _ _) _ _ _); (refine' getAppend_K ?F ?N ?hm ?_; (case F => assumption); (case N => assumption); (case hm => k_mem); intro b9 h9 tk9 F9 N9 l9; (try k_lt l9)))
            | ((with_reducible show wpAny _ _ (call (Value.ref _) [_]) _ _ _); refine' callAppend_K ?F ?N ?hb ?U ?sz ?_; (case F => assumption); (case N => assumption); (case hb => k_mem); (case U => k_upd); (case sz => first | exact Nat.le_of_ble_eq_true rfl | size_fits); intro h9 F9 N9)
            | ((try dsimp only); (with_reducible show wpAny _ _ (callWith _ (Value.ref _) _ (backTo _ (starEach (_ :: _) _)) []) _ _ _); refine' callWith_app ?N ?hb ?_; (case N => assumption); (case hb => k_mem))
            | ((with_reducible show AppAt _ _ _ ∧ _); refine' ⟨app_at ?N ?hm, ?_⟩; (case N => assumption); (case hm => k_mem))
            | ((with_reducible show wpAny _ _ (call (Value.builtin "len") [Value.str _ _]) _ _ _); refine len12 ?_)
            | (k_unfold; (try dsimp only)) | (k_end; wrow_close) | walk1 | (dsimp only; walk1) | (leave1; walk_say "STEP leave1"; try dsimp only) | fail "no step"))
      (rename Fr _ _ _ _ => lF'); (refine cut (α := Tok × Tok × Tok) lF' (fun (y : Tok × Tok × Tok) => match y with | (tj, tc, tx) => [(Str.ofString "chunks", Value.ref q8), (Str.ofString "j", Value.int 5 tj), (Str.ofString "n", Value.int 12 tn), (Str.ofString "pat", Value.str (patS x z) t), (Str.ofString "add", Value.ref b9), (Str.ofString "res", Value.ref l8)]) (fun (y : Tok × Tok × Tok) => match y with | (tj, tc, tx) => (q8, listOf #[Value.str ⟨#[65]⟩ tc, Value.str ⟨#[65 + x]⟩ tx] 2) :: (b9, appObj l8) :: (l8, listOf #[Value.str ⟨#[66]⟩ u1] 1) :: (64, tabObj ps) :: rest) (fun (y : Tok × Tok × Tok) => match y with | (tj, tc, tx) => True) ?_ ?_)
      · intro Q4 hq4
        repeat' (first
          | ((fail_if_success (with_reducible show Q4 _ _)); first
              | ((with_reducible show wpAny _ _ (subscriptTail _ _ (Value.ref _) (Value.int _ _)) _ _ _); refine' item_K ?N ?hm ?h0 ?hhi ?hx ?_; (case N => assumption); (case hm => k_mem); (case h0 => decide); (case hhi => decide); (case hx => rfl); (try dsimp only))
              | ((with_reducible show UnrEnd _ _ _ _ _ _ _); (rename News _ _ _ _ => lN'); refine UnrEnd.intro (by assumption) lN' _ (fun _ h9 => h9) (by first | k_all | exact allLt_ne (by assumption)) ?_)
              | ((with_reducible show wpAny _ _ (pyIter (Value.ref _)) _ _ _); krs_unr)
              | ((with_reducible show ite (decide _ = true) _ _); refine PySem.W.ite_neg (notLt h0) ?_)
              | ((with_reducible refine wpAny_execs_nil ?_); (try dsimp only))
              | (with_reducible refine wpAny_If ?_)
              | ((with_reducible show ite (_ = true) _ _); (fail_if_success (with_reducible show ite (((_ : Bool) == _) = true) _ _)); first | refine PySem.W.ite_neg (Bool.eq_false_iff.mp rfl) ?_ | refine PySem.W.ite_pos rfl ?_)
              | ((with_reducible show wpAny _ _ (getAttr (Value.ref _) _ _) _ _ _); (refine' getAppend_K ?F ?N ?hm ?_; (case F => assumption); (case N => assumption); (case hm => k_mem); intro b9 h9 tk9 F9 N9 l9; (try k_lt l9)))
              | ((with_reducible show wpAny _ _ (call (Value.ref _) [_]) _ _ _); refine' callAppend_K ?F ?N ?hb ?U ?sz ?_; (case F => assumption); (case N => assumption); (case hb => k_mem); (case U => k_upd); (case sz => first | exact Nat.le_of_ble_eq_true rfl | size_fits); intro h9 F9 N9)
              | ((try dsimp only); (with_reducible show wpAny _ _ (callWith _ (Value.ref _) _ (backTo _ (starEach (_ :: _) _)) []) _ _ _); refine' callWith_app ?N ?hb ?_; (case N => assumption); (case hb => k_mem))
              | ((with_reducible show AppAt _ _ _ ∧ _); refine' ⟨app_at ?N ?hm, ?_⟩; (case N => assumption); (case hm => k_mem))
              | ((with_reducible show wpAny _ _ (call (Value.builtin "len") [Value.str _ _]) _ _ _); refine len12 ?_)
              | (k_unfold; (try dsimp only)) | (k_end; wrow_close) | walk1 | (dsimp only; walk1) | (leave1; walk_say "STEP leave1"; try dsimp only) | fail "no step"))
        (rename News _ _ _ _ => lN'); exact hq4 _ _ _ (_, _, _) (by assumption) (news_sub lN' (by dsimp only; (first | ((repeat (first | (with_reducible exact fun _ h9 => h9) | ((with_reducible refine sub_hd ?_ ?_); exact rfl) | refine sub_tail ?_)); done) | (repeat (first | exact fun _ h9 => h9 | refine sub_cons (by k_mem) ?_ | refine sub_tail ?_))))) (pin_cons rfl (pin_cons rfl (pin_cons rfl (pin_cons rfl (pin_cons rfl (pin_cons rfl (pin_nil))))))) trivial
      clear lF'
      rintro h9 tk9 m9 ⟨tj, tc, tx⟩ F9 N9 hp9 _
      (try dsimp only at F9 N9 hp9 ⊢)
      replace F9 := fr_pin hp9 F9
      clear hp9
      repeat' (first
        | ((fail_if_success (with_reducible show wpAny _ _ (eval (Expr.GeneratorExp _ _ _ _) _) _ _ _)); first
            | ((with_reducible refine wpAny_execs_nil ?_); (try dsimp only))
            | (with_reducible refine wpAny_If ?_)
            | ((with_reducible show ite (_ = true) _ _); (fail_if_success (with_reducible show ite (((_ : Bool) == _) = true) _ _)); first | refine PySem.W.ite_neg (Bool.eq_false_iff.mp rfl) ?_ | refine PySem.W.ite_pos rfl ?_)
            | ((with_reducible show wpAny _ _ (getAttr (Value.ref _) _ _) _ _ _); (refine' getAppend_K ?F ?N ?hm ?_; (case F => assumption); (case N => assumption); (case hm => k_mem); intro b9 h9 tk9 F9 N9 l9; (try k_lt l9)))
            | ((with_reducible show wpAny _ _ (call (Value.ref _) [_]) _ _ _); refine' callAppend_K ?F ?N ?hb ?U ?sz ?_; (case F => assumption); (case N => assumption); (case hb => k_mem); (case U => k_upd); (case sz => first | exact Nat.le_of_ble_eq_true rfl | size_fits); intro h9 F9 N9)
            | ((try dsimp only); (with_reducible show wpAny _ _ (callWith _ (Value.ref _) _ (backTo _ (starEach (_ :: _) _)) []) _ _ _); refine' callWith_app ?N ?hb ?_; (case N => assumption); (case hb => k_mem))
            | ((with_reducible show AppAt _ _ _ ∧ _); refine' ⟨app_at ?N ?hm, ?_⟩; (case N => assumption); (case hm => k_mem))
            | ((with_reducible show wpAny _ _ (call (Value.builtin "len") [Value.str _ _]) _ _ _); refine len12 ?_)
            | (k_unfold; (try dsimp only)) | (k_end; wrow_close) | walk1 | (dsimp only; walk1) | (leave1; walk_say "STEP leave1"; try dsimp only) | fail "no step"))
      refine' genexp_K (items := [Value.str ⟨#[65]⟩ tc, Value.str ⟨#[65 + x]⟩ tx]) (fun i => [⟨#[65]⟩, ⟨#[65 + x]⟩].getD i ⟨#[]⟩) ?F ?N ?T ?C ?code ?U hps ?G ?hl ?gl ?hh ?room ?co ?clos ?cell ?h0 ?hx ?kind ?hs ?hit ?hel ?_
      case F => assumption
      case N => assumption
      case T => assumption
      case C => assumption
      case code => rfl
      case U => exact UpdF.tail (by k_ne) (UpdF.tail (by k_ne) (UpdF.tail (by k_ne) (UpdF.head hoff)))
      case G => assumption
      case hl => k_mem
      case gl => rfl
      case hh => rfl
      case room => ktr_room
      case co => rfl
      case clos => rfl
      case cell => decide
      case h0 => rfl
      case hx => rfl
      case kind => rfl
      case hs => intro _; rfl
      case hit => (intro Q9 hq9; walk1; exact hq9)
      case hel =>
        intro C' bi cd A' E' i v t' m₂ hA hi hn hx
        match i, hi with
        | 0, hi =>
          cases hi
          repeat' ((fail_if_success (with_reducible show _ ∧ _)); first
            | ((with_reducible show wpAny _ _ (eval (Expr.Name _ _) (genEnv _ _ _ _ _ _)) _ _ _); refine name_gen hn hx ?_)
            | ((with_reducible show wpAny _ _ (call (Value.builtin "str.replace") _) _ _ _); first | ((with_reducible show wpAny _ _ (call _ [_, Value.str (Str.ofString "\\") _, _]) _ _ _); refine rep_K (repA ⟨0, by decide⟩) ?_) | refine rep_K (repB ⟨0, by decide⟩) ?_)
            | walk1)
          exact ⟨⟨_, rfl⟩, keeps_tok _ _⟩
        | 1, hi =>
          cases hi
          repeat' ((fail_if_success (with_reducible show _ ∧ _)); first
            | ((with_reducible show wpAny _ _ (eval (Expr.Name _ _) (genEnv _ _ _ _ _ _)) _ _ _); refine name_gen hn hx ?_)
            | ((with_reducible show wpAny _ _ (call (Value.builtin "str.replace") _) _ _ _); first | ((with_reducible show wpAny _ _ (call _ [_, Value.str (Str.ofString "\\") _, _]) _ _ _); refine rep_K (repA ⟨x, h0⟩) ?_) | refine rep_K (repB ⟨x, h0⟩) ?_)
            | walk1)
          exact ⟨⟨_, rfl⟩, keeps_tok _ _⟩
        | i + 2, hi => cases hi
      intro ga ps' ⟨h7, g7, d7, tk7, os7⟩ hps' F7 N7 G7 o7 hLs hNs X7
      dsimp only at F7 N7 G7 o7
      repeat' (first
        | ((fail_if_success (with_reducible show Q2 _ _)); first
            | ((with_reducible show wpAny _ _ (call (Value.builtin "str.join") _) _ _ _); refine joinGen_K F7 N7 G7 X7 hLs hNs (by kernel_rfl) (Nat.le_of_ble_eq_true rfl) (z := ⟨#[65, 45, 65 + x]⟩) (by kernel_rfl) ?_; rintro ⟨h8, g8, d8, tk8, os8⟩ t8 F8 N8 G8 o8; (try dsimp only at F8 N8 G8 o8 ⊢); clear F7 N7 G7 X7)
            | ((with_reducible refine wpAny_execs_nil ?_); (try dsimp only))
            | (with_reducible refine wpAny_If ?_)
            | ((with_reducible show ite (_ = true) _ _); (fail_if_success (with_reducible show ite (((_ : Bool) == _) = true) _ _)); first | refine PySem.W.ite_neg (Bool.eq_false_iff.mp rfl) ?_ | refine PySem.W.ite_pos rfl ?_)
            | ((with_reducible show wpAny _ _ (getAttr (Value.ref _) _ _) _ _ _); (refine' getAppend_K ?F ?N ?hm ?_; (case F => assumption); (case N => assumption); (case hm => k_mem); intro b9 h9 tk9 F9 N9 l9; (try k_lt l9)))
            | ((with_reducible show wpAny _ _ (call (Value.ref _) [_]) _ _ _); refine' callAppend_K ?F ?N ?hb ?U ?sz ?_; (case F => assumption); (case N => assumption); (case hb => k_mem); (case U => k_upd); (case sz => first | exact Nat.le_of_ble_eq_true rfl | size_fits); intro h9 F9 N9)
            | ((try dsimp only); (with_reducible show wpAny _ _ (callWith _ (Value.ref _) _ (backTo _ (starEach (_ :: _) _)) []) _ _ _); refine' callWith_app ?N ?hb ?_; (case N => assumption); (case hb => k_mem))
            | ((with_reducible show AppAt _ _ _ ∧ _); refine' ⟨app_at ?N ?hm, ?_⟩; (case N => assumption); (case hm => k_mem))
            | ((with_reducible show wpAny _ _ (call (Value.builtin "len") [Value.str _ _]) _ _ _); refine len12 ?_)
            | (k_unfold; (try dsimp only)) | (k_end; wrow_close) | walk1 | (dsimp only; walk1) | (leave1; walk_say "STEP leave1"; try dsimp only) | fail "no step"))
      (rename News _ _ _ _ => lN'); exact hq2 _ _ (_, _, ps') (by assumption) (news_sub lN' (by dsimp only; (first | ((repeat (first | (with_reducible exact fun _ h9 => h9) | ((with_reducible refine sub_hd ?_ ?_); exact rfl) | refine sub_tail ?_)); done) | (repeat (first | exact fun _ h9 => h9 | refine sub_cons (by k_mem) ?_ | refine sub_tail ?_))))) (G8) ((o8.trans o7)) (pin_cons rfl (pin_cons rfl (pin_cons rfl (pin_cons rfl (pin_cons rfl (pin_cons rfl (pin_nil))))))) hps'
    clear lF'
    rintro ⟨h5, g5, d5, tk5, os5⟩ m9 ⟨tj, ts, ps⟩ F9 N9 G5 o5 hp9 hps
    (try dsimp only at F9 N9 hp9 G5 o5 ⊢)
    replace F9 := fr_pin hp9 F9
    clear hp9
    repeat' (first
      | ((fail_if_success (with_reducible show Q' _ _)); first
          | ((with_reducible show wpAny _ _ (getMethod (Value.ref 43) _ _) _ _ _); (rename Fr _ _ _ _ => lF'); refine sub_meth (lF'.keep _ _ Q3) ?_)
          | ((with_reducible show wpAny _ _ (eval (Expr.Lambda _ _ _ _) _) _ _ _); refine' lam_K ?F ?N ?T ?C ?cd ?U hps ?d ?cl ?_; (case F => assumption); (case N => assumption); (case T => assumption); (case C => assumption); (case cd => rfl); (case U => exact UpdF.tail (by k_ne) (UpdF.tail (by k_ne) (UpdF.head hoff))); (case d => rfl); (case cl => rfl); intro lf lo lps lh ltk lF lN lc hps lo1; (try dsimp only at lN); (try k_lt lo1))
          | ((with_reducible show wpAny _ _ (call (Value.builtin "re.Pattern.sub") _) _ _ _); refine sub_K lF lN (lF.keep _ _ Q3) (lF.keep _ _ Q2) (lN _ (.head _)).1 lc (noA ⟨x, h0⟩) (Nat.le_of_ble_eq_true rfl) (Nat.le_of_ble_eq_true rfl) ?_; intro sh stk st sF sN; clear lF lN)
          | ((with_reducible show wpAny _ _ (call (Value.ref _) [Value.str (_ ++ _ ++ _ ++ _) _]) _ _ _); refine strSub (fun z9 => call (Value.ref _) [Value.str z9 _]) (b := ⟨#[91, 65, 45, 65 + x, 93]⟩) (by kernel_rfl) ?_)
          | ((with_reducible refine wpAny_execs_nil ?_); (try dsimp only))
          | (with_reducible refine wpAny_If ?_)
          | ((with_reducible show ite (_ = true) _ _); (fail_if_success (with_reducible show ite (((_ : Bool) == _) = true) _ _)); first | refine PySem.W.ite_neg (Bool.eq_false_iff.mp rfl) ?_ | refine PySem.W.ite_pos rfl ?_)
          | ((with_reducible show wpAny _ _ (getAttr (Value.ref _) _ _) _ _ _); (refine' getAppend_K ?F ?N ?hm ?_; (case F => assumption); (case N => assumption); (case hm => k_mem); intro b9 h9 tk9 F9 N9 l9; (try k_lt l9)))
          | ((with_reducible show wpAny _ _ (call (Value.ref _) [_]) _ _ _); refine' callAppend_K ?F ?N ?hb ?U ?sz ?_; (case F => assumption); (case N => assumption); (case hb => k_mem); (case U => k_upd); (case sz => first | exact Nat.le_of_ble_eq_true rfl | size_fits); intro h9 F9 N9)
          | ((try dsimp only); (with_reducible show wpAny _ _ (callWith _ (Value.ref _) _ (backTo _ (starEach (_ :: _) _)) []) _ _ _); refine' callWith_app ?N ?hb ?_; (case N => assumption); (case hb => k_mem))
          | ((with_reducible show AppAt _ _ _ ∧ _); refine' ⟨app_at ?N ?hm, ?_⟩; (case N => assumption); (case hm => k_mem))
          | ((with_reducible show wpAny _ _ (call (Value.builtin "len") [Value.str _ _]) _ _ _); refine len12 ?_)
          | (k_unfold; (try dsimp only)) | (k_end; wrow_close) | walk1 | (dsimp only; walk1) | (leave1; walk_say "STEP leave1"; try dsimp only) | fail "no step"))
    (rename News _ _ _ _ => lN'); exact hq _ _ (_, _, _, _, _) (by assumption) (news_sub lN' (by dsimp only; (first | ((repeat (first | (with_reducible exact fun _ h9 => h9) | ((with_reducible refine sub_hd ?_ ?_); exact rfl) | refine sub_tail ?_)); done) | (repeat (first | exact fun _ h9 => h9 | refine sub_cons (by k_mem) ?_ | refine sub_tail ?_))))) (G5) (o5) (pin_cons rfl (pin_cons rfl (pin_cons rfl (pin_cons rfl (pin_cons rfl (pin_nil)))))) hps
  clear lF'
  rintro ⟨h7, g7, d7, tk7, os7⟩ m9 ⟨ti, tn, u1, u2, ps⟩ F9 N9 G7 o7 hp9 hps
  (try dsimp only at F9 N9 hp9 G7 o7 ⊢)
  replace F9 := fr_pin hp9 F9
  clear hp9
  repeat' (first
    | ((fail_if_success (with_reducible show WhileU _ _ _ _ _ _ _ _ _ _)); first
        | ((with_reducible refine wpAny_execs_nil ?_); (try dsimp only))
        | ((with_reducible show UCont _ _ _ _ _ _ _ _ _ _ _); (try dsimp only); with_reducible first | refine UCont_next ?_ | refine UCont_brk ?_)
        | (k_unfold; (try dsimp only)) | (k_end; wrow_close) | walk1 | (dsimp only; walk1) | (leave1; walk_say "STEP leave1"; try dsimp only) | fail "no step"))
  refine WhileU_turn ?_
  repeat' (first
    | ((fail_if_success (with_reducible show wpAny _ _ (execs [Stmt.If (Expr.Compare (Expr.Name _ _) [CmpOp.Eq] _ _) _ _ _] _) _ _ _)); first
        | ((with_reducible refine wpAny_execs_nil ?_); (try dsimp only))
        | (with_reducible refine wpAny_If ?_)
        | ((with_reducible show ite (_ = true) _ _); (fail_if_success (with_reducible show ite (((_ : Bool) == _) = true) _ _)); first | refine PySem.W.ite_neg (Bool.eq_false_iff.mp rfl) ?_ | refine PySem.W.ite_pos rfl ?_)
        | ((with_reducible show wpAny _ _ (getAttr (Value.ref _) _ _) _ _ _); (refine' getAppend_K ?F ?N ?hm ?_; (case F => assumption); (case N => assumption); (case hm => k_mem); intro b9 h9 tk9 F9 N9 l9; (try k_lt l9)))
        | ((with_reducible show wpAny _ _ (call (Value.ref _) [_]) _ _ _); refine' callAppend_K ?F ?N ?hb ?U ?sz ?_; (case F => assumption); (case N => assumption); (case hb => k_mem); (case U => k_upd); (case sz => first | exact Nat.le_of_ble_eq_true rfl | size_fits); intro h9 F9 N9)
        | ((try dsimp only); (with_reducible show wpAny _ _ (callWith _ (Value.ref _) _ (backTo _ (starEach (_ :: _) _)) []) _ _ _); refine' callWith_app ?N ?hb ?_; (case N => assumption); (case hb => k_mem))
        | ((with_reducible show AppAt _ _ _ ∧ _); refine' ⟨app_at ?N ?hm, ?_⟩; (case N => assumption); (case hm => k_mem))
        | ((with_reducible show wpAny _ _ (call (Value.builtin "len") [Value.str _ _]) _ _ _); refine len12 ?_)
        | (k_unfold; (try dsimp only)) | (k_end; wrow_close) | walk1 | (dsimp only; walk1) | (leave1; walk_say "STEP leave1"; try dsimp only) | fail "no step"))
  (rename Fr _ _ _ _ => lF'); (refine cutG (α := Tok × Tok × Tok × Tok × Tok × Array Value) lF' (fun (y : Tok × Tok × Tok × Tok × Tok × Array Value) => match y with | (ti, tn, u1, u2, u3, ps) => [(Str.ofString "i", Value.int 12 ti), (Str.ofString "n", Value.int 12 tn), (Str.ofString "pat", Value.str (patS x z) t), (Str.ofString "add", Value.ref b9), (Str.ofString "res", Value.ref l8)]) (fun (y : Tok × Tok × Tok × Tok × Tok × Array Value) => match y with | (ti, tn, u1, u2, u3, ps) => (b9, appObj l8) :: (l8, listOf #[Value.str ⟨#[66]⟩ u1, Value.str ⟨#[91, 65, 45, 65 + x, 93]⟩ u2, Value.str (part3 z) u3] 3) :: (64, tabObj ps) :: rest) (fun (y : Tok × Tok × Tok × Tok × Tok × Array Value) => match y with | (ti, tn, u1, u2, u3, ps) => Tb ps) ?_ ?_)
  · intro Q' hq
    repeat' (first
      | ((fail_if_success (with_reducible show wpAny _ _ (execs (Stmt.While _ _ _ _ :: _) _) _ _ _)); first
          | ((with_reducible show ite ((_ == Str.ofString "]") = true) _ _); refine PySem.W.ite_neg (chrEqF (p := 65 + z) (q := 93) (by omega)) ?_)
          | ((with_reducible refine wpAny_execs_nil ?_); (try dsimp only))
          | (with_reducible refine wpAny_If ?_)
          | ((with_reducible show ite (_ = true) _ _); (fail_if_success (with_reducible show ite (((_ : Bool) == _) = true) _ _)); first | refine PySem.W.ite_neg (Bool.eq_false_iff.mp rfl) ?_ | refine PySem.W.ite_pos rfl ?_)
          | ((with_reducible show wpAny _ _ (getAttr (Value.ref _) _ _) _ _ _); (refine' getAppend_K ?F ?N ?hm ?_; (case F => assumption); (case N => assumption); (case hm => k_mem); intro b9 h9 tk9 F9 N9 l9; (try k_lt l9)))
          | ((with_reducible show wpAny _ _ (call (Value.ref _) [_]) _ _ _); refine' callAppend_K ?F ?N ?hb ?U ?sz ?_; (case F => assumption); (case N => assumption); (case hb => k_mem); (case U => k_upd); (case sz => first | exact Nat.le_of_ble_eq_true rfl | size_fits); intro h9 F9 N9)
          | ((try dsimp only); (with_reducible show wpAny _ _ (callWith _ (Value.ref _) _ (backTo _ (starEach (_ :: _) _)) []) _ _ _); refine' callWith_app ?N ?hb ?_; (case N => assumption); (case hb => k_mem))
          | ((with_reducible show AppAt _ _ _ ∧ _); refine' ⟨app_at ?N ?hm, ?_⟩; (case N => assumption); (case hm => k_mem))
          | ((with_reducible show wpAny _ _ (call (Value.builtin "len") [Value.str _ _]) _ _ _); refine len12 ?_)
          | (k_unfold; (try dsimp only)) | (k_end; wrow_close) | walk1 | (dsimp only; walk1) | (leave1; walk_say "STEP leave1"; try dsimp only) | fail "no step"))
    (rename Fr _ _ _ _ => lF'); (refine cut (α := Tok × Tok) lF' (fun (y : Tok × Tok) => match y with | (ti, tj) => [(Str.ofString "i", Value.int 7 ti), (Str.ofString "j", Value.int 11 tj), (Str.ofString "n", Value.int 12 tn), (Str.ofString "pat", Value.str (patS x z) t), (Str.ofString "add", Value.ref b9), (Str.ofString "res", Value.ref l8)]) (fun (y : Tok × Tok) => match y with | (ti, tj) => (b9, appObj l8) :: (l8, listOf #[Value.str ⟨#[66]⟩ u1, Value.str ⟨#[91, 65, 45, 65 + x, 93]⟩ u2] 2) :: (64, tabObj ps) :: rest) (fun (y : Tok × Tok) => match y with | (ti, tj) => True) ?_ ?_)
    · intro Q2 hq2
      repeat' (first
        | ((fail_if_success (with_reducible show Q2 _ _)); first
            | ((with_reducible show ite ((_ != Str.ofString "]") = true) _ _); refine PySem.W.ite_pos (chrNe (p := 65 + z) (q := 93) (by omega)) ?_)
            | ((with_reducible refine wpAny_execs_nil ?_); (try dsimp only))
            | (with_reducible refine wpAny_If ?_)
            | ((with_reducible show ite (_ = true) _ _); (fail_if_success (with_reducible show ite (((_ : Bool) == _) = true) _ _)); first | refine PySem.W.ite_neg (Bool.eq_false_iff.mp rfl) ?_ | refine PySem.W.ite_pos rfl ?_)
            | ((with_reducible show wpAny _ _ (getAttr (Value.ref _) _ _) _ _ _); (refine' getAppend_K ?F ?N ?hm ?_; (case F => assumption); (case N => assumption); (case hm => k_mem); intro b9 h9 tk9 F9 N9 l9; (try k_lt l9)))
            | ((with_reducible show wpAny _ _ (call (Value.ref _) [_]) _ _ _); refine' callAppend_K ?F ?N ?hb ?U ?sz ?_; (case F => assumption); (case N => assumption); (case hb => k_mem); (case U => k_upd); (case sz => first | exact Nat.le_of_ble_eq_true rfl | size_fits); intro h9 F9 N9)
            | ((try dsimp only); (with_reducible show wpAny _ _ (callWith _ (Value.ref _) _ (backTo _ (starEach (_ :: _) _)) []) _ _ _); refine' callWith_app ?N ?hb ?_; (case N => assumption); (case hb => k_mem))
            | ((with_reducible show AppAt _ _ _ ∧ _); refine' ⟨app_at ?N ?hm, ?_⟩; (case N => assumption); (case hm => k_mem))
            | ((with_reducible show wpAny _ _ (call (Value.builtin "len") [Value.str _ _]) _ _ _); refine len12 ?_)
            | ((with_reducible show wpAny _ _ (exec (Stmt.While _ _ _ _) _) _ _ _); refine While_unroll 6 ?_)
            | (with_reducible refine WhileU_turn ?_)
            | ((with_reducible show UCont _ _ _ _ _ _ _ _ _ _ _); (try dsimp only); with_reducible first | refine UCont_next ?_ | refine UCont_brk ?_)
            | (k_unfold; (try dsimp only)) | (k_end; wrow_close) | walk1 | (dsimp only; walk1) | (leave1; walk_say "STEP leave1"; try dsimp only) | fail "no step"))
      (rename News _ _ _ _ => lN'); exact hq2 _ _ _ (_, _) (by assumption) (news_sub lN' (by dsimp only; (first | ((repeat (first | (with_reducible exact fun _ h9 => h9) | ((with_reducible refine sub_hd ?_ ?_); exact rfl) | refine sub_tail ?_)); done) | (repeat (first | exact fun _ h9 => h9 | refine sub_cons (by k_mem) ?_ | refine sub_tail ?_))))) (pin_cons rfl (pin_cons rfl (pin_cons rfl (pin_cons rfl (pin_cons rfl (pin_cons rfl (pin_nil))))))) trivial
    clear lF'
    rintro h9 tk9 m9 ⟨ti, tj⟩ F9 N9 hp9 _
    (try dsimp only at F9 N9 hp9 ⊢)
    replace F9 := fr_pin hp9 F9
    clear hp9
    repeat' (first
      | ((fail_if_success (with_reducible show wpAny _ _ (execs (Stmt.If (Expr.Compare (Expr.Constant _ _ _) _ _ _) _ _ _ :: _) _) _ _ _)); first
          | ((with_reducible show wpAny _ _ (storeName _ (Str.ofString "stuff") (Value.str (Txt.slice _ _ _) _)) _ _ _); refine strSub (fun z9 => storeName _ _ (Value.str z9 _)) (b := ⟨#[33, 65 + z, 45, 80]⟩) (by kernel_rfl) ?_)
          | ((with_reducible refine wpAny_execs_nil ?_); (try dsimp only))
          | (with_reducible refine wpAny_If ?_)
          | ((with_reducible show ite (_ = true) _ _); (fail_if_success (with_reducible show ite (((_ : Bool) == _) = true) _ _)); first | refine PySem.W.ite_neg (Bool.eq_false_iff.mp rfl) ?_ | refine PySem.W.ite_pos rfl ?_)
          | ((with_reducible show wpAny _ _ (getAttr (Value.ref _) _ _) _ _ _); (refine' getAppend_K ?F ?N ?hm ?_; (case F => assumption); (case N => assumption); (case hm => k_mem); intro b9 h9 tk9 F9 N9 l9; (try k_lt l9)))
          | ((with_reducible show wpAny _ _ (call (Value.ref _) [_]) _ _ _); refine' callAppend_K ?F ?N ?hb ?U ?sz ?_; (case F => assumption); (case N => assumption); (case hb => k_mem); (case U => k_upd); (case sz => first | exact Nat.le_of_ble_eq_true rfl | size_fits); intro h9 F9 N9)
          | ((try dsimp only); (with_reducible show wpAny _ _ (callWith _ (Value.ref _) _ (backTo _ (starEach (_ :: _) _)) []) _ _ _); refine' callWith_app ?N ?hb ?_; (case N => assumption); (case hb => k_mem))
          | ((with_reducible show AppAt _ _ _ ∧ _); refine' ⟨app_at ?N ?hm, ?_⟩; (case N => assumption); (case hm => k_mem))
          | ((with_reducible show wpAny _ _ (call (Value.builtin "len") [Value.str _ _]) _ _ _); refine len12 ?_)
          | (k_unfold; (try dsimp only)) | (k_end; wrow_close) | walk1 | (dsimp only; walk1) | (leave1; walk_say "STEP leave1"; try dsimp only) | fail "no step"))
    (rename Fr _ _ _ _ => lF'); (refine cutG (α := Tok × Tok × Array Value) lF' (fun (y : Tok × Tok × Array Value) => match y with | (tj, ts, ps) => [(Str.ofString "stuff", Value.str (stuffZ z) ts), (Str.ofString "j", Value.int 11 tj), (Str.ofString "n", Value.int 12 tn), (Str.ofString "pat", Value.str (patS x z) t), (Str.ofString "add", Value.ref b9), (Str.ofString "res", Value.ref l8)]) (fun (y : Tok × Tok × Array Value) => match y with | (tj, ts, ps) => (b9, appObj l8) :: (l8, listOf #[Value.str ⟨#[66]⟩ u1, Value.str ⟨#[91, 65, 45, 65 + x, 93]⟩ u2] 2) :: (64, tabObj ps) :: rest) (fun (y : Tok × Tok × Array Value) => match y with | (tj, ts, ps) => Tb ps) ?_ ?_)
    · intro Q2 hq2
      repeat' (first
        | ((fail_if_success (with_reducible show wpAny _ _ (execs (Stmt.While _ _ _ _ :: _) _) _ _ _)); first
            | ((with_reducible show ite ((!!_) = true) _ _); refine PySem.W.ite_neg (occ2 h2) ?_)
            | ((with_reducible show wpAny _ _ (newList _) _ _ _); refine' newList_K ?F ?N ?_; (case F => assumption); (case N => assumption); intro q8 hq F8 N8 oq; (try k_lt oq); (try k_sweep))
            | ((with_reducible refine wpAny_execs_nil ?_); (try dsimp only))
            | (with_reducible refine wpAny_If ?_)
            | ((with_reducible show ite (_ = true) _ _); (fail_if_success (with_reducible show ite (((_ : Bool) == _) = true) _ _)); first | refine PySem.W.ite_neg (Bool.eq_false_iff.mp rfl) ?_ | refine PySem.W.ite_pos rfl ?_)
            | ((with_reducible show wpAny _ _ (getAttr (Value.ref _) _ _) _ _ _); (refine' getAppend_K ?F ?N ?hm ?_; (case F => assumption); (case N => assumption); (case hm => k_mem); intro b9 h9 tk9 F9 N9 l9; (try k_lt l9)))
            | ((with_reducible show wpAny _ _ (call (Value.ref _) [_]) _ _ _); refine' callAppend_K ?F ?N ?hb ?U ?sz ?_; (case F => assumption); (case N => assumption); (case hb => k_mem); (case U => k_upd); (case sz => first | exact Nat.le_of_ble_eq_true rfl | size_fits); intro h9 F9 N9)
            | ((try dsimp only); (with_reducible show wpAny _ _ (callWith _ (Value.ref _) _ (backTo _ (starEach (_ :: _) _)) []) _ _ _); refine' callWith_app ?N ?hb ?_; (case N => assumption); (case hb => k_mem))
            | ((with_reducible show AppAt _ _ _ ∧ _); refine' ⟨app_at ?N ?hm, ?_⟩; (case N => assumption); (case hm => k_mem))
            | ((with_reducible show wpAny _ _ (call (Value.builtin "len") [Value.str _ _]) _ _ _); refine len12 ?_)
            | (k_unfold; (try dsimp only)) | (k_end; wrow_close) | walk1 | (dsimp only; walk1) | (leave1; walk_say "STEP leave1"; try dsimp only) | fail "no step"))
      (rename Fr _ _ _ _ => lF'); (refine cut (α := Tok × Tok × Tok) lF' (fun (y : Tok × Tok × Tok) => match y with | (ti, tj, tc) => [(Str.ofString "chunks", Value.ref q8), (Str.ofString "i", Value.int 10 ti), (Str.ofString "j", Value.int 11 tj), (Str.ofString "n", Value.int 12 tn), (Str.ofString "pat", Value.str (patS x z) t), (Str.ofString "add", Value.ref b9), (Str.ofString "res", Value.ref l8)]) (fun (y : Tok × Tok × Tok) => match y with | (ti, tj, tc) => (q8, listOf #[Value.str ⟨#[33, 65 + z]⟩ tc] 1) :: (b9, appObj l8) :: (l8, listOf #[Value.str ⟨#[66]⟩ u1, Value.str ⟨#[91, 65, 45, 65 + x, 93]⟩ u2] 2) :: (64, tabObj ps) :: rest) (fun (y : Tok × Tok × Tok) => match y with | (ti, tj, tc) => True) ?_ ?_)
      · intro Q4 hq4
        repeat' (first
          | ((fail_if_success (with_reducible show Q4 _ _)); first
              | ((with_reducible show wpAny _ _ (call (Value.builtin "str.find") _) _ _ _); first | refine find_K 9 (fC h0 h2) ?_ | refine find_K (-1) (fD h0 h2) ?_)
              | ((with_reducible show wpAny _ _ (call (Value.builtin "list.append") [_, Value.str (Txt.slice _ _ _) _]) _ _ _); refine strSub (fun z9 => call (Value.builtin "list.append") [_, Value.str z9 _]) (b := ⟨#[33, 65 + z]⟩) (by kernel_rfl) ?_)
              | ((with_reducible refine wpAny_execs_nil ?_); (try dsimp only))
              | (with_reducible refine wpAny_If ?_)
              | ((with_reducible show ite (_ = true) _ _); (fail_if_success (with_reducible show ite (((_ : Bool) == _) = true) _ _)); first | refine PySem.W.ite_neg (Bool.eq_false_iff.mp rfl) ?_ | refine PySem.W.ite_pos rfl ?_)
              | ((with_reducible show wpAny _ _ (getAttr (Value.ref _) _ _) _ _ _); (refine' getAppend_K ?F ?N ?hm ?_; (case F => assumption); (case N => assumption); (case hm => k_mem); intro b9 h9 tk9 F9 N9 l9; (try k_lt l9)))
              | ((with_reducible show wpAny _ _ (call (Value.ref _) [_]) _ _ _); refine' callAppend_K ?F ?N ?hb ?U ?sz ?_; (case F => assumption); (case N => assumption); (case hb => k_mem); (case U => k_upd); (case sz => first | exact Nat.le_of_ble_eq_true rfl | size_fits); intro h9 F9 N9)
              | ((try dsimp only); (with_reducible show wpAny _ _ (callWith _ (Value.ref _) _ (backTo _ (starEach (_ :: _) _)) []) _ _ _); refine' callWith_app ?N ?hb ?_; (case N => assumption); (case hb => k_mem))
              | ((with_reducible show AppAt _ _ _ ∧ _); refine' ⟨app_at ?N ?hm, ?_⟩; (case N => assumption); (case hm => k_mem))
              | ((with_reducible show wpAny _ _ (call (Value.builtin "len") [Value.str _ _]) _ _ _); refine len12 ?_)
              | ((with_reducible show wpAny _ _ (exec (Stmt.While _ _ _ _) _) _ _ _); refine While_unroll 6 ?_)
              | (with_reducible refine WhileU_turn ?_)
              | ((with_reducible show UCont _ _ _ _ _ _ _ _ _ _ _); (try dsimp only); with_reducible first | refine UCont_next ?_ | refine UCont_brk ?_)
              | (k_unfold; (try dsimp only)) | (k_end; wrow_close) | walk1 | (dsimp only; walk1) | (leave1; walk_say "STEP leave1"; try dsimp only) | fail "no step"))
        (rename News _ _ _ _ => lN'); exact hq4 _ _ _ (_, _, _) (by assumption) (news_sub lN' (by dsimp only; (first | ((repeat (first | (with_reducible exact fun _ h9 => h9) | ((with_reducible refine sub_hd ?_ ?_); exact rfl) | refine sub_tail ?_)); done) | (repeat (first | exact fun _ h9 => h9 | refine sub_cons (by k_mem) ?_ | refine sub_tail ?_))))) (pin_cons rfl (pin_cons rfl (pin_cons rfl (pin_cons rfl (pin_cons rfl (pin_cons rfl (pin_cons rfl (pin_nil)))))))) trivial
      clear lF'
      rintro h9 tk9 m9 ⟨ti, tj, tc⟩ F9 N9 hp9 _
      (try dsimp only at F9 N9 hp9 ⊢)
      replace F9 := fr_pin hp9 F9
      clear hp9
      repeat' (first
        | ((fail_if_success (with_reducible show wpAny _ _ (execs (Stmt.For _ _ _ _ _ :: _) _) _ _ _)); first
            | ((with_reducible show wpAny _ _ (storeName _ (Str.ofString "chunk") (Value.str (Txt.slice _ _ _) _)) _ _ _); refine strSub (fun z9 => storeName _ _ (Value.str z9 _)) (b := ⟨#[80]⟩) (by kernel_rfl) ?_)
            | ((with_reducible refine wpAny_execs_nil ?_); (try dsimp only))
            | (with_reducible refine wpAny_If ?_)
            | ((with_reducible show ite (_ = true) _ _); (fail_if_success (with_reducible show ite (((_ : Bool) == _) = true) _ _)); first | refine PySem.W.ite_neg (Bool.eq_false_iff.mp rfl) ?_ | refine PySem.W.ite_pos rfl ?_)
            | ((with_reducible show wpAny _ _ (getAttr (Value.ref _) _ _) _ _ _); (refine' getAppend_K ?F ?N ?hm ?_; (case F => assumption); (case N => assumption); (case hm => k_mem); intro b9 h9 tk9 F9 N9 l9; (try k_lt l9)))
            | ((with_reducible show wpAny _ _ (call (Value.ref _) [_]) _ _ _); refine' callAppend_K ?F ?N ?hb ?U ?sz ?_; (case F => assumption); (case N => assumption); (case hb => k_mem); (case U => k_upd); (case sz => first | exact Nat.le_of_ble_eq_true rfl | size_fits); intro h9 F9 N9)
            | ((try dsimp only); (with_reducible show wpAny _ _ (callWith _ (Value.ref _) _ (backTo _ (starEach (_ :: _) _)) []) _ _ _); refine' callWith_app ?N ?hb ?_; (case N => assumption); (case hb => k_mem))
            | ((with_reducible show AppAt _ _ _ ∧ _); refine' ⟨app_at ?N ?hm, ?_⟩; (case N => assumption); (case hm => k_mem))
            | ((with_reducible show wpAny _ _ (call (Value.builtin "len") [Value.str _ _]) _ _ _); refine len12 ?_)
            | (k_unfold; (try dsimp only)) | (k_end; wrow_close) | walk1 | (dsimp only; walk1) | (leave1; walk_say "STEP leave1"; try dsimp only) | fail "no step"))
      rcases Nat.lt_or_ge z 16 with hz | hz
      · have ez : stuffZ z = ⟨#[33, 65 + z, 45, 80]⟩ := if_neg (by omega)
        (rename Fr _ _ _ _ => lF'); (refine cut (α := Tok × Tok × Tok) lF' (fun (y : Tok × Tok × Tok) => match y with | (tj, tc, tx) => [(Str.ofString "chunks", Value.ref q8), (Str.ofString "j", Value.int 11 tj), (Str.ofString "n", Value.int 12 tn), (Str.ofString "pat", Value.str (patS x z) t), (Str.ofString "add", Value.ref b9), (Str.ofString "res", Value.ref l8)]) (fun (y : Tok × Tok × Tok) => match y with | (tj, tc, tx) => (q8, listOf #[Value.str ⟨#[33, 65 + z]⟩ tc, Value.str ⟨#[80]⟩ tx] 2) :: (b9, appObj l8) :: (l8, listOf #[Value.str ⟨#[66]⟩ u1, Value.str ⟨#[91, 65, 45, 65 + x, 93]⟩ u2] 2) :: (64, tabObj ps) :: rest) (fun (y : Tok × Tok × Tok) => match y with | (tj, tc, tx) => True) ?_ ?_)
        · intro Q4 hq4
          repeat' (first
            | ((fail_if_success (with_reducible show Q4 _ _)); first
                | ((with_reducible show wpAny _ _ (subscriptTail _ _ (Value.ref _) (Value.int _ _)) _ _ _); refine' item_K ?N ?hm ?h0 ?hhi ?hx ?_; (case N => assumption); (case hm => k_mem); (case h0 => decide); (case hhi => decide); (case hx => rfl); (try dsimp only))
                | ((with_reducible show UnrEnd _ _ _ _ _ _ _); (rename News _ _ _ _ => lN'); refine UnrEnd.intro (by assumption) lN' _ (fun _ h9 => h9) (by first | k_all | exact allLt_ne (by assumption)) ?_)
                | ((with_reducible show wpAny _ _ (pyIter (Value.ref _)) _ _ _); krs_unr)
                | ((with_reducible show ite (decide _ = true) _ _); refine PySem.W.ite_neg (notLtZ hz) ?_)
                | ((with_reducible refine wpAny_execs_nil ?_); (try dsimp only))
                | (with_reducible refine wpAny_If ?_)
                | ((with_reducible show ite (_ = true) _ _); (fail_if_success (with_reducible show ite (((_ : Bool) == _) = true) _ _)); first | refine PySem.W.ite_neg (Bool.eq_false_iff.mp rfl) ?_ | refine PySem.W.ite_pos rfl ?_)
                | ((with_reducible show wpAny _ _ (getAttr (Value.ref _) _ _) _ _ _); (refine' getAppend_K ?F ?N ?hm ?_; (case F => assumption); (case N => assumption); (case hm => k_mem); intro b9 h9 tk9 F9 N9 l9; (try k_lt l9)))
                | ((with_reducible show wpAny _ _ (call (Value.ref _) [_]) _ _ _); refine' callAppend_K ?F ?N ?hb ?U ?sz ?_; (case F => assumption); (case N => assumption); (case hb => k_mem); (case U => k_upd); (case sz => first | exact Nat.le_of_ble_eq_true rfl | size_fits); intro h9 F9 N9)
                | ((try dsimp only); (with_reducible show wpAny _ _ (callWith _ (Value.ref _) _ (backTo _ (starEach (_ :: _) _)) []) _ _ _); refine' callWith_app ?N ?hb ?_; (case N => assumption); (case hb => k_mem))
                | ((with_reducible show AppAt _ _ _ ∧ _); refine' ⟨app_at ?N ?hm, ?_⟩; (case N => assumption); (case hm => k_mem))
                | ((with_reducible show wpAny _ _ (call (Value.builtin "len") [Value.str _ _]) _ _ _); refine len12 ?_)
                | (k_unfold; (try dsimp only)) | (k_end; wrow_close) | walk1 | (dsimp only; walk1) | (leave1; walk_say "STEP leave1"; try dsimp only) | fail "no step"))
          (rename News _ _ _ _ => lN'); exact hq4 _ _ _ (_, _, _) (by assumption) (news_sub lN' (by dsimp only; (first | ((repeat (first | (with_reducible exact fun _ h9 => h9) | ((with_reducible refine sub_hd ?_ ?_); exact rfl) | refine sub_tail ?_)); done) | (repeat (first | exact fun _ h9 => h9 | refine sub_cons (by k_mem) ?_ | refine sub_tail ?_))))) (pin_cons rfl (pin_cons rfl (pin_cons rfl (pin_cons rfl (pin_cons rfl (pin_cons rfl (pin_nil))))))) trivial
        clear lF'
        rintro h9 tk9 m9 ⟨tj, tc, tx⟩ F9 N9 hp9 _
        (try dsimp only at F9 N9 hp9 ⊢)
        replace F9 := fr_pin hp9 F9
        clear hp9
        repeat' (first
          | ((fail_if_success (with_reducible show wpAny _ _ (eval (Expr.GeneratorExp _ _ _ _) _) _ _ _)); first
              | ((with_reducible refine wpAny_execs_nil ?_); (try dsimp only))
              | (with_reducible refine wpAny_If ?_)
              | ((with_reducible show ite (_ = true) _ _); (fail_if_success (with_reducible show ite (((_ : Bool) == _) = true) _ _)); first | refine PySem.W.ite_neg (Bool.eq_false_iff.mp rfl) ?_ | refine PySem.W.ite_pos rfl ?_)
              | ((with_reducible show wpAny _ _ (getAttr (Value.ref _) _ _) _ _ _); (refine' getAppend_K ?F ?N ?hm ?_; (case F => assumption); (case N => assumption); (case hm => k_mem); intro b9 h9 tk9 F9 N9 l9; (try k_lt l9)))
              | ((with_reducible show wpAny _ _ (call (Value.ref _) [_]) _ _ _); refine' callAppend_K ?F ?N ?hb ?U ?sz ?_; (case F => assumption); (case N => assumption); (case hb => k_mem); (case U => k_upd); (case sz => first | exact Nat.le_of_ble_eq_true rfl | size_fits); intro h9 F9 N9)
              | ((try dsimp only); (with_reducible show wpAny _ _ (callWith _ (Value.ref _) _ (backTo _ (starEach (_ :: _) _)) []) _ _ _); refine' callWith_app ?N ?hb ?_; (case N => assumption); (case hb => k_mem))
              | ((with_reducible show AppAt _ _ _ ∧ _); refine' ⟨app_at ?N ?hm, ?_⟩; (case N => assumption); (case hm => k_mem))
              | ((with_reducible show wpAny _ _ (call (Value.builtin "len") [Value.str _ _]) _ _ _); refine len12 ?_)
              | (k_unfold; (try dsimp only)) | (k_end; wrow_close) | walk1 | (dsimp only; walk1) | (leave1; walk_say "STEP leave1"; try dsimp only) | fail "no step"))
        refine' genexp_K (items := [Value.str ⟨#[33, 65 + z]⟩ tc, Value.str ⟨#[80]⟩ tx]) (fun i => ([⟨#[33, 65 + z]⟩, ⟨#[80]⟩] : List Str).getD i ⟨#[]⟩) ?F ?N ?T ?C ?code ?U hps ?G ?hl ?gl ?hh ?room ?co ?clos ?cell ?h0 ?hx ?kind ?hs ?hit ?hel ?_
        case F => assumption
        case N => assumption
        case T => assumption
        case C => assumption
        case code => rfl
        case U => exact UpdF.tail (by k_ne) (UpdF.tail (by k_ne) (UpdF.tail (by k_ne) (UpdF.head hoff)))
        case G => assumption
        case hl => k_mem
        case gl => rfl
        case hh => rfl
        case room => ktr_room
        case co => rfl
        case clos => rfl
        case cell => decide
        case h0 => rfl
        case hx => rfl
        case kind => rfl
        case hs => intro _; rfl
        case hit => (intro Q9 hq9; walk1; exact hq9)
        case hel =>
          intro C' bi cd A' E' i v t' m₂ hA hi hn hx
          match i, hi with
          | 0, hi =>
            cases hi
            repeat' ((fail_if_success (with_reducible show _ ∧ _)); first
              | ((with_reducible show wpAny _ _ (eval (Expr.Name _ _) (genEnv _ _ _ _ _ _)) _ _ _); refine name_gen hn hx ?_)
              | ((with_reducible show wpAny _ _ (call (Value.builtin "str.replace") _) _ _ _); first | ((with_reducible show wpAny _ _ (call _ [_, Value.str (Str.ofString "\\") _, _]) _ _ _); refine rep_K (repC ⟨z, by omega⟩) ?_) | refine rep_K (repD ⟨z, by omega⟩) ?_)
              | walk1)
            exact ⟨⟨_, rfl⟩, keeps_tok _ _⟩
          | 1, hi =>
            cases hi
            repeat' ((fail_if_success (with_reducible show _ ∧ _)); first
              | ((with_reducible show wpAny _ _ (eval (Expr.Name _ _) (genEnv _ _ _ _ _ _)) _ _ _); refine name_gen hn hx ?_)
              | ((with_reducible show wpAny _ _ (call (Value.builtin "str.replace") _) _ _ _); first | ((with_reducible show wpAny _ _ (call _ [_, Value.str (Str.ofString "\\") _, _]) _ _ _); refine rep_K (repA ⟨15, by decide⟩) ?_) | refine rep_K (repB ⟨15, by decide⟩) ?_)
              | walk1)
            exact ⟨⟨_, rfl⟩, keeps_tok _ _⟩
          | i + 2, hi => cases hi
        intro ga ps' ⟨h8, g8, d8, tk8, os8⟩ hps' F7 N7 G8 o8 hLs hNs X7
        dsimp only at F7 N7 G8 o8
        repeat' (first
          | ((fail_if_success (with_reducible show Q2 _ _)); first
              | ((with_reducible show wpAny _ _ (call (Value.builtin "str.join") _) _ _ _); refine joinGen_K F7 N7 G8 X7 hLs hNs (by kernel_rfl) (Nat.le_of_ble_eq_true rfl) (z := ⟨#[33, 65 + z, 45, 80]⟩) (by kernel_rfl) ?_; rintro ⟨h6, g6, d6, tk6, os6⟩ t6 F6 N6 G6 o6; (try dsimp only at F6 N6 G6 o6 ⊢); clear F7 N7 G8 X7)
              | ((with_reducible refine wpAny_execs_nil ?_); (try dsimp only))
              | (with_reducible refine wpAny_If ?_)
              | ((with_reducible show ite (_ = true) _ _); (fail_if_success (with_reducible show ite (((_ : Bool) == _) = true) _ _)); first | refine PySem.W.ite_neg (Bool.eq_false_iff.mp rfl) ?_ | refine PySem.W.ite_pos rfl ?_)
              | ((with_reducible show wpAny _ _ (getAttr (Value.ref _) _ _) _ _ _); (refine' getAppend_K ?F ?N ?hm ?_; (case F => assumption); (case N => assumption); (case hm => k_mem); intro b9 h9 tk9 F9 N9 l9; (try k_lt l9)))
              | ((with_reducible show wpAny _ _ (call (Value.ref _) [_]) _ _ _); refine' callAppend_K ?F ?N ?hb ?U ?sz ?_; (case F => assumption); (case N => assumption); (case hb => k_mem); (case U => k_upd); (case sz => first | exact Nat.le_of_ble_eq_true rfl | size_fits); intro h9 F9 N9)
              | ((try dsimp only); (with_reducible show wpAny _ _ (callWith _ (Value.ref _) _ (backTo _ (starEach (_ :: _) _)) []) _ _ _); refine' callWith_app ?N ?hb ?_; (case N => assumption); (case hb => k_mem))
              | ((with_reducible show AppAt _ _ _ ∧ _); refine' ⟨app_at ?N ?hm, ?_⟩; (case N => assumption); (case hm => k_mem))
              | ((with_reducible show wpAny _ _ (call (Value.builtin "len") [Value.str _ _]) _ _ _); refine len12 ?_)
              | (k_unfold; (try dsimp only)) | (k_end; wrow_close) | walk1 | (dsimp only; walk1) | (leave1; walk_say "STEP leave1"; try dsimp only) | fail "no step"))
        rw [ez] at hq2
        (rename News _ _ _ _ => lN'); exact hq2 _ _ (_, _, ps') (by assumption) (news_sub lN' (by dsimp only; (first | ((repeat (first | (with_reducible exact fun _ h9 => h9) | ((with_reducible refine sub_hd ?_ ?_); exact rfl) | refine sub_tail ?_)); done) | (repeat (first | exact fun _ h9 => h9 | refine sub_cons (by k_mem) ?_ | refine sub_tail ?_))))) (G6) ((o6.trans o8)) (pin_cons rfl (pin_cons rfl (pin_cons rfl (pin_cons rfl (pin_cons rfl (pin_cons rfl (pin_nil))))))) hps'
      · obtain rfl : z = 16 := by omega
        (rename Fr _ _ _ _ => lF'); (refine cut (α := Tok × Tok × Tok) lF' (fun (y : Tok × Tok × Tok) => match y with | (tj, tc, tx) => [(Str.ofString "chunks", Value.ref q8), (Str.ofString "j", Value.int 11 tj), (Str.ofString "n", Value.int 12 tn), (Str.ofString "pat", Value.str (patS x 16) t), (Str.ofString "add", Value.ref b9), (Str.ofString "res", Value.ref l8)]) (fun (y : Tok × Tok × Tok) => match y with | (tj, tc, tx) => (q8, listOf #[Value.str ⟨#[33]⟩ tx] 3) :: (b9, appObj l8) :: (l8, listOf #[Value.str ⟨#[66]⟩ u1, Value.str ⟨#[91, 65, 45, 65 + x, 93]⟩ u2] 2) :: (64, tabObj ps) :: rest) (fun (y : Tok × Tok × Tok) => match y with | (tj, tc, tx) => True) ?_ ?_)
        · intro Q4 hq4
          repeat' (first
            | ((fail_if_success (with_reducible show Q4 _ _)); first
                | ((with_reducible show wpAny _ _ (subscriptTail _ _ (Value.ref _) (Value.int _ _)) _ _ _); refine' item_K ?N ?hm ?h0 ?hhi ?hx ?_; (case N => assumption); (case hm => k_mem); (case h0 => decide); (case hhi => decide); (case hx => rfl); (try dsimp only))
                | ((with_reducible show UnrEnd _ _ _ _ _ _ _); (rename News _ _ _ _ => lN'); refine UnrEnd.intro (by assumption) lN' _ (fun _ h9 => h9) (by first | k_all | exact allLt_ne (by assumption)) ?_)
                | ((with_reducible show wpAny _ _ (pyIter (Value.ref _)) _ _ _); krs_unr)
                | ((with_reducible show ite (decide _ = true) _ _); refine PySem.W.ite_pos ltQ ?_)
                | ((with_reducible refine wpAny_execs_nil ?_); (try dsimp only))
                | (with_reducible refine wpAny_If ?_)
                | ((with_reducible show ite (_ = true) _ _); (fail_if_success (with_reducible show ite (((_ : Bool) == _) = true) _ _)); first | refine PySem.W.ite_neg (Bool.eq_false_iff.mp rfl) ?_ | refine PySem.W.ite_pos rfl ?_)
                | ((with_reducible show wpAny _ _ (getAttr (Value.ref _) _ _) _ _ _); (refine' getAppend_K ?F ?N ?hm ?_; (case F => assumption); (case N => assumption); (case hm => k_mem); intro b9 h9 tk9 F9 N9 l9; (try k_lt l9)))
                | ((with_reducible show wpAny _ _ (call (Value.ref _) [_]) _ _ _); refine' callAppend_K ?F ?N ?hb ?U ?sz ?_; (case F => assumption); (case N => assumption); (case hb => k_mem); (case U => k_upd); (case sz => first | exact Nat.le_of_ble_eq_true rfl | size_fits); intro h9 F9 N9)
                | ((try dsimp only); (with_reducible show wpAny _ _ (callWith _ (Value.ref _) _ (backTo _ (starEach (_ :: _) _)) []) _ _ _); refine' callWith_app ?N ?hb ?_; (case N => assumption); (case hb => k_mem))
                | ((with_reducible show AppAt _ _ _ ∧ _); refine' ⟨app_at ?N ?hm, ?_⟩; (case N => assumption); (case hm => k_mem))
                | ((with_reducible show wpAny _ _ (call (Value.builtin "len") [Value.str _ _]) _ _ _); refine len12 ?_)
                | (k_unfold; (try dsimp only)) | (k_end; wrow_close) | walk1 | (dsimp only; walk1) | (leave1; walk_say "STEP leave1"; try dsimp only) | fail "no step"))
          rename News _ _ _ _ => lN9; rw [show (Txt.slice { cps := #[33, 65 + 16] } none (some (-1)) ++ Txt.slice (Str.ofString "P") (some 1) none) = (⟨#[33]⟩ : Str) from by decide +kernel] at lN9
          (rename News _ _ _ _ => lN'); exact hq4 _ _ _ (_, 0, _) (by assumption) (news_sub lN' (by dsimp only; (first | ((repeat (first | (with_reducible exact fun _ h9 => h9) | ((with_reducible refine sub_hd ?_ ?_); exact rfl) | refine sub_tail ?_)); done) | (repeat (first | exact fun _ h9 => h9 | refine sub_cons (by k_mem) ?_ | refine sub_tail ?_))))) (pin_cons rfl (pin_cons rfl (pin_cons rfl (pin_cons rfl (pin_cons rfl (pin_cons rfl (pin_nil))))))) trivial
        clear lF'
        rintro h9 tk9 m9 ⟨tj, tc, tx⟩ F9 N9 hp9 _
        (try dsimp only at F9 N9 hp9 ⊢)
        replace F9 := fr_pin hp9 F9
        clear hp9
        repeat' (first
          | ((fail_if_success (with_reducible show wpAny _ _ (eval (Expr.GeneratorExp _ _ _ _) _) _ _ _)); first
              | ((with_reducible refine wpAny_execs_nil ?_); (try dsimp only))
              | (with_reducible refine wpAny_If ?_)
              | ((with_reducible show ite (_ = true) _ _); (fail_if_success (with_reducible show ite (((_ : Bool) == _) = true) _ _)); first | refine PySem.W.ite_neg (Bool.eq_false_iff.mp rfl) ?_ | refine PySem.W.ite_pos rfl ?_)
              | ((with_reducible show wpAny _ _ (getAttr (Value.ref _) _ _) _ _ _); (refine' getAppend_K ?F ?N ?hm ?_; (case F => assumption); (case N => assumption); (case hm => k_mem); intro b9 h9 tk9 F9 N9 l9; (try k_lt l9)))
              | ((with_reducible show wpAny _ _ (call (Value.ref _) [_]) _ _ _); refine' callAppend_K ?F ?N ?hb ?U ?sz ?_; (case F => assumption); (case N => assumption); (case hb => k_mem); (case U => k_upd); (case sz => first | exact Nat.le_of_ble_eq_true rfl | size_fits); intro h9 F9 N9)
              | ((try dsimp only); (with_reducible show wpAny _ _ (callWith _ (Value.ref _) _ (backTo _ (starEach (_ :: _) _)) []) _ _ _); refine' callWith_app ?N ?hb ?_; (case N => assumption); (case hb => k_mem))
              | ((with_reducible show AppAt _ _ _ ∧ _); refine' ⟨app_at ?N ?hm, ?_⟩; (case N => assumption); (case hm => k_mem))
              | ((with_reducible show wpAny _ _ (call (Value.builtin "len") [Value.str _ _]) _ _ _); refine len12 ?_)
              | (k_unfold; (try dsimp only)) | (k_end; wrow_close) | walk1 | (dsimp only; walk1) | (leave1; walk_say "STEP leave1"; try dsimp only) | fail "no step"))
        refine' genexp_K (items := [Value.str ⟨#[33]⟩ tx]) (fun i => ([⟨#[33]⟩] : List Str).getD i ⟨#[]⟩) ?F ?N ?T ?C ?code ?U hps ?G ?hl ?gl ?hh ?room ?co ?clos ?cell ?h0 ?hx ?kind ?hs ?hit ?hel ?_
        case F => assumption
        case N => assumption
        case T => assumption
        case C => assumption
        case code => rfl
        case U => exact UpdF.tail (by k_ne) (UpdF.tail (by k_ne) (UpdF.tail (by k_ne) (UpdF.head hoff)))
        case G => assumption
        case hl => k_mem
        case gl => rfl
        case hh => rfl
        case room => ktr_room
        case co => rfl
        case clos => rfl
        case cell => decide
        case h0 => rfl
        case hx => rfl
        case kind => rfl
        case hs => intro _; rfl
        case hit => (intro Q9 hq9; walk1; exact hq9)
        case hel =>
          intro C' bi cd A' E' i v t' m₂ hA hi hn hx
          match i, hi with
          | 0, hi =>
            cases hi
            repeat' ((fail_if_success (with_reducible show _ ∧ _)); first
              | ((with_reducible show wpAny _ _ (eval (Expr.Name _ _) (genEnv _ _ _ _ _ _)) _ _ _); refine name_gen hn hx ?_)
              | ((with_reducible show wpAny _ _ (call (Value.builtin "str.replace") _) _ _ _); first | ((with_reducible show wpAny _ _ (call _ [_, Value.str (Str.ofString "\\") _, _]) _ _ _); refine rep_K (repE) ?_) | refine rep_K (repF) ?_)
              | walk1)
            exact ⟨⟨_, rfl⟩, keeps_tok _ _⟩
          | i + 1, hi => cases hi
        intro ga ps' ⟨h8, g8, d8, tk8, os8⟩ hps' F7 N7 G8 o8 hLs hNs X7
        dsimp only at F7 N7 G8 o8
        repeat' (first
          | ((fail_if_success (with_reducible show Q2 _ _)); first
              | ((with_reducible show wpAny _ _ (call (Value.builtin "str.join") _) _ _ _); refine joinGen_K F7 N7 G8 X7 hLs hNs (by kernel_rfl) (Nat.le_of_ble_eq_true rfl) (z := ⟨#[33]⟩) (by kernel_rfl) ?_; rintro ⟨h6, g6, d6, tk6, os6⟩ t6 F6 N6 G6 o6; (try dsimp only at F6 N6 G6 o6 ⊢); clear F7 N7 G8 X7)
              | ((with_reducible refine wpAny_execs_nil ?_); (try dsimp only))
              | (with_reducible refine wpAny_If ?_)
              | ((with_reducible show ite (_ = true) _ _); (fail_if_success (with_reducible show ite (((_ : Bool) == _) = true) _ _)); first | refine PySem.W.ite_neg (Bool.eq_false_iff.mp rfl) ?_ | refine PySem.W.ite_pos rfl ?_)
              | ((with_reducible show wpAny _ _ (getAttr (Value.ref _) _ _) _ _ _); (refine' getAppend_K ?F ?N ?hm ?_; (case F => assumption); (case N => assumption); (case hm => k_mem); intro b9 h9 tk9 F9 N9 l9; (try k_lt l9)))
              | ((with_reducible show wpAny _ _ (call (Value.ref _) [_]) _ _ _); refine' callAppend_K ?F ?N ?hb ?U ?sz ?_; (case F => assumption); (case N => assumption); (case hb => k_mem); (case U => k_upd); (case sz => first | exact Nat.le_of_ble_eq_true rfl | size_fits); intro h9 F9 N9)
              | ((try dsimp only); (with_reducible show wpAny _ _ (callWith _ (Value.ref _) _ (backTo _ (starEach (_ :: _) _)) []) _ _ _); refine' callWith_app ?N ?hb ?_; (case N => assumption); (case hb => k_mem))
              | ((with_reducible show AppAt _ _ _ ∧ _); refine' ⟨app_at ?N ?hm, ?_⟩; (case N => assumption); (case hm => k_mem))
              | ((with_reducible show wpAny _ _ (call (Value.builtin "len") [Value.str _ _]) _ _ _); refine len12 ?_)
              | (k_unfold; (try dsimp only)) | (k_end; wrow_close) | walk1 | (dsimp only; walk1) | (leave1; walk_say "STEP leave1"; try dsimp only) | fail "no step"))
        (rename News _ _ _ _ => lN'); exact hq2 _ _ (_, _, ps') (by assumption) (news_sub lN' (by dsimp only; (first | ((repeat (first | (with_reducible exact fun _ h9 => h9) | ((with_reducible refine sub_hd ?_ ?_); exact rfl) | refine sub_tail ?_)); done) | (repeat (first | exact fun _ h9 => h9 | refine sub_cons (by k_mem) ?_ | refine sub_tail ?_))))) (G6) ((o6.trans o8)) (pin_cons rfl (pin_cons rfl (pin_cons rfl (pin_cons rfl (pin_cons rfl (pin_cons rfl (pin_nil))))))) hps'
    clear lF'
    rintro ⟨h5, g5, d5, tk5, os5⟩ m9 ⟨tj, ts, ps⟩ F9 N9 G5 o5 hp9 hps
    (try dsimp only at F9 N9 hp9 G5 o5 ⊢)
    replace F9 := fr_pin hp9 F9
    clear hp9
    repeat' (first
      | ((fail_if_success (with_reducible show wpAny _ _ (execs [Stmt.If (Expr.UnaryOp _ _ _) _ _ _] _) _ _ _)); first
          | ((with_reducible show wpAny _ _ (getMethod (Value.ref 43) _ _) _ _ _); (rename Fr _ _ _ _ => lF'); refine sub_meth (lF'.keep _ _ Q3) ?_)
          | ((with_reducible show wpAny _ _ (eval (Expr.Lambda _ _ _ _) _) _ _ _); refine' lam_K ?F ?N ?T ?C ?cd ?U hps ?d ?cl ?_; (case F => assumption); (case N => assumption); (case T => assumption); (case C => assumption); (case cd => rfl); (case U => exact UpdF.tail (by k_ne) (UpdF.tail (by k_ne) (UpdF.head hoff))); (case d => rfl); (case cl => rfl); intro lf lo lps lh ltk lF lN lc hps lo1; (try dsimp only at lN); (try k_lt lo1))
          | ((with_reducible show wpAny _ _ (call (Value.builtin "re.Pattern.sub") _) _ _ _); refine sub_K lF lN (lF.keep _ _ Q3) (lF.keep _ _ Q2) (lN _ (.head _)).1 lc (noS h2) stuffZ_pos stuffZ_le ?_; intro sh stk st sF sN; clear lF lN)
          | ((with_reducible refine wpAny_execs_nil ?_); (try dsimp only))
          | (with_reducible refine wpAny_If ?_)
          | ((with_reducible show ite (_ = true) _ _); (fail_if_success (with_reducible show ite (((_ : Bool) == _) = true) _ _)); first | refine PySem.W.ite_neg (Bool.eq_false_iff.mp rfl) ?_ | refine PySem.W.ite_pos rfl ?_)
          | ((with_reducible show wpAny _ _ (getAttr (Value.ref _) _ _) _ _ _); (refine' getAppend_K ?F ?N ?hm ?_; (case F => assumption); (case N => assumption); (case hm => k_mem); intro b9 h9 tk9 F9 N9 l9; (try k_lt l9)))
          | ((with_reducible show wpAny _ _ (call (Value.ref _) [_]) _ _ _); refine' callAppend_K ?F ?N ?hb ?U ?sz ?_; (case F => assumption); (case N => assumption); (case hb => k_mem); (case U => k_upd); (case sz => first | exact Nat.le_of_ble_eq_true rfl | size_fits); intro h9 F9 N9)
          | ((try dsimp only); (with_reducible show wpAny _ _ (callWith _ (Value.ref _) _ (backTo _ (starEach (_ :: _) _)) []) _ _ _); refine' callWith_app ?N ?hb ?_; (case N => assumption); (case hb => k_mem))
          | ((with_reducible show AppAt _ _ _ ∧ _); refine' ⟨app_at ?N ?hm, ?_⟩; (case N => assumption); (case hm => k_mem))
          | ((with_reducible show wpAny _ _ (call (Value.builtin "len") [Value.str _ _]) _ _ _); refine len12 ?_)
          | (k_unfold; (try dsimp only)) | (k_end; wrow_close) | walk1 | (dsimp only; walk1) | (leave1; walk_say "STEP leave1"; try dsimp only) | fail "no step"))
    rcases Nat.lt_or_ge z 16 with hz | hz
    · rw [show stuffZ z = ⟨#[33, 65 + z, 45, 80]⟩ from if_neg (by omega)] at *
      repeat' (first
        | ((fail_if_success (with_reducible show Q' _ _)); first
            | ((with_reducible show wpAny _ _ (storeName _ (Str.ofString "stuff") (Value.str (_ ++ _) _)) _ _ _); refine strSub (fun z9 => storeName _ _ (Value.str z9 _)) (b := ⟨#[94, 65 + z, 45, 80]⟩) (by kernel_rfl) ?_)
            | ((with_reducible show wpAny _ _ (call (Value.ref _) [Value.str (_ ++ _ ++ _ ++ _) _]) _ _ _); refine strSub (fun z9 => call (Value.ref _) [Value.str z9 _]) (b := ⟨#[91, 94, 65 + z, 45, 80, 93]⟩) (by kernel_rfl) ?_)
            | ((with_reducible refine wpAny_execs_nil ?_); (try dsimp only))
            | (with_reducible refine wpAny_If ?_)
            | ((with_reducible show ite (_ = true) _ _); (fail_if_success (with_reducible show ite (((_ : Bool) == _) = true) _ _)); first | refine PySem.W.ite_neg (Bool.eq_false_iff.mp rfl) ?_ | refine PySem.W.ite_pos rfl ?_)
            | ((with_reducible show wpAny _ _ (getAttr (Value.ref _) _ _) _ _ _); (refine' getAppend_K ?F ?N ?hm ?_; (case F => assumption); (case N => assumption); (case hm => k_mem); intro b9 h9 tk9 F9 N9 l9; (try k_lt l9)))
            | ((with_reducible show wpAny _ _ (call (Value.ref _) [_]) _ _ _); refine' callAppend_K ?F ?N ?hb ?U ?sz ?_; (case F => assumption); (case N => assumption); (case hb => k_mem); (case U => k_upd); (case sz => first | exact Nat.le_of_ble_eq_true rfl | size_fits); intro h9 F9 N9)
            | ((try dsimp only); (with_reducible show wpAny _ _ (callWith _ (Value.ref _) _ (backTo _ (starEach (_ :: _) _)) []) _ _ _); refine' callWith_app ?N ?hb ?_; (case N => assumption); (case hb => k_mem))
            | ((with_reducible show AppAt _ _ _ ∧ _); refine' ⟨app_at ?N ?hm, ?_⟩; (case N => assumption); (case hm => k_mem))
            | ((with_reducible show wpAny _ _ (call (Value.builtin "len") [Value.str _ _]) _ _ _); refine len12 ?_)
            | (k_unfold; (try dsimp only)) | (k_end; wrow_close) | walk1 | (dsimp only; walk1) | (leave1; walk_say "STEP leave1"; try dsimp only) | fail "no step"))
      rw [show part3 z = ⟨#[91, 94, 65 + z, 45, 80, 93]⟩ from if_neg (by omega)] at hq
      (rename News _ _ _ _ => lN'); exact hq _ _ (_, _, _, _, _, _) (by assumption) (news_sub lN' (by dsimp only; (first | ((repeat (first | (with_reducible exact fun _ h9 => h9) | ((with_reducible refine sub_hd ?_ ?_); exact rfl) | refine sub_tail ?_)); done) | (repeat (first | exact fun _ h9 => h9 | refine sub_cons (by k_mem) ?_ | refine sub_tail ?_))))) (G5) (o5) (pin_cons rfl (pin_cons rfl (pin_cons rfl (pin_cons rfl (pin_cons rfl (pin_nil)))))) hps
    · obtain rfl : z = 16 := by omega
      repeat' (first
        | ((fail_if_success (with_reducible show Q' _ _)); first
            | ((with_reducible refine wpAny_execs_nil ?_); (try dsimp only))
            | (with_reducible refine wpAny_If ?_)
            | ((with_reducible show ite (_ = true) _ _); (fail_if_success (with_reducible show ite (((_ : Bool) == _) = true) _ _)); first | refine PySem.W.ite_neg (Bool.eq_false_iff.mp rfl) ?_ | refine PySem.W.ite_pos rfl ?_)
            | ((with_reducible show wpAny _ _ (getAttr (Value.ref _) _ _) _ _ _); (refine' getAppend_K ?F ?N ?hm ?_; (case F => assumption); (case N => assumption); (case hm => k_mem); intro b9 h9 tk9 F9 N9 l9; (try k_lt l9)))
            | ((with_reducible show wpAny _ _ (call (Value.ref _) [_]) _ _ _); refine' callAppend_K ?F ?N ?hb ?U ?sz ?_; (case F => assumption); (case N => assumption); (case hb => k_mem); (case U => k_upd); (case sz => first | exact Nat.le_of_ble_eq_true rfl | size_fits); intro h9 F9 N9)
            | ((try dsimp only); (with_reducible show wpAny _ _ (callWith _ (Value.ref _) _ (backTo _ (starEach (_ :: _) _)) []) _ _ _); refine' callWith_app ?N ?hb ?_; (case N => assumption); (case hb => k_mem))
            | ((with_reducible show AppAt _ _ _ ∧ _); refine' ⟨app_at ?N ?hm, ?_⟩; (case N => assumption); (case hm => k_mem))
            | ((with_reducible show wpAny _ _ (call (Value.builtin "len") [Value.str _ _]) _ _ _); refine len12 ?_)
            | (k_unfold; (try dsimp only)) | (k_end; wrow_close) | walk1 | (dsimp only; walk1) | (leave1; walk_say "STEP leave1"; try dsimp only) | fail "no step"))
      (rename News _ _ _ _ => lN'); exact hq _ _ (_, _, _, _, _, _) (by assumption) (news_sub lN' (by dsimp only; (first | ((repeat (first | (with_reducible exact fun _ h9 => h9) | ((with_reducible refine sub_hd ?_ ?_); exact rfl) | refine sub_tail ?_)); done) | (repeat (first | exact fun _ h9 => h9 | refine sub_cons (by k_mem) ?_ | refine sub_tail ?_))))) (G5) (o5) (pin_cons rfl (pin_cons rfl (pin_cons rfl (pin_cons rfl (pin_cons rfl (pin_nil)))))) hps
  clear lF'
  rintro ⟨h8, g8, d8, tk8, os8⟩ m9 ⟨ti, tn, u1, u2, u3, ps⟩ F9 N9 G8 o8 hp9 hps
  (try dsimp only at F9 N9 hp9 G8 o8 ⊢)
  replace F9 := fr_pin hp9 F9
  clear hp9
  repeat' (first
    | ((fail_if_success (with_reducible show WhileU _ _ _ _ _ _ _ _ _ _)); first
        | ((with_reducible refine wpAny_execs_nil ?_); (try dsimp only))
        | ((with_reducible show UCont _ _ _ _ _ _ _ _ _ _ _); (try dsimp only); with_reducible first | refine UCont_next ?_ | refine UCont_brk ?_)
        | (k_unfold; (try dsimp only)) | (k_end; wrow_close) | walk1 | (dsimp only; walk1) | (leave1; walk_say "STEP leave1"; try dsimp only) | fail "no step"))
  refine WhileU_turn ?_
  repeat' (first
    | ((with_reducible refine wpAny_execs_nil ?_); (try dsimp only))
    | (with_reducible refine wpAny_If ?_)
    | ((with_reducible show ite (_ = true) _ _); (fail_if_success (with_reducible show ite (((_ : Bool) == _) = true) _ _)); first | refine PySem.W.ite_neg (Bool.eq_false_iff.mp rfl) ?_ | refine PySem.W.ite_pos rfl ?_)
    | ((with_reducible show wpAny _ _ (getAttr (Value.ref _) _ _) _ _ _); (refine' getAppend_K ?F ?N ?hm ?_; (case F => assumption); (case N => assumption); (case hm => k_mem); intro b9 h9 tk9 F9 N9 l9; (try k_lt l9)))
    | ((with_reducible show wpAny _ _ (call (Value.ref _) [_]) _ _ _); refine' callAppend_K ?F ?N ?hb ?U ?sz ?_; (case F => assumption); (case N => assumption); (case hb => k_mem); (case U => k_upd); (case sz => first | exact Nat.le_of_ble_eq_true rfl | size_fits); intro h9 F9 N9)
    | ((try dsimp only); (with_reducible show wpAny _ _ (callWith _ (Value.ref _) _ (backTo _ (starEach (_ :: _) _)) []) _ _ _); refine' callWith_app ?N ?hb ?_; (case N => assumption); (case hb => k_mem))
    | ((with_reducible show AppAt _ _ _ ∧ _); refine' ⟨app_at ?N ?hm, ?_⟩; (case N => assumption); (case hm => k_mem))
    | ((with_reducible show wpAny _ _ (call (Value.builtin "len") [Value.str _ _]) _ _ _); refine len12 ?_)
    | (k_unfold; (try dsimp only)) | (k_end; wrow_close) | walk1 | (dsimp only; walk1) | (leave1; walk_say "STEP leave1"; try dsimp only) | fail "no step")
  rename News h₀ L _ _ => N9
  exact hret _ _ _ (by assumption) (news_sub N9 (sub_tail fun _ h => h)) G8 (o8.trans o7) ⟨l8, [Value.str ⟨#[66]⟩ u1, Value.str ⟨#[91, 65, 45, 65 + x, 93]⟩ u2, Value.str (part3 z) u3], 3, ps, rfl, .cons _ _ (.cons _ _ (.cons _ _ .nil)), hps, rfl⟩
end Mine
end
section
open PySem PySem.W PyProof.Rows PySem.Calls PySem.Spec
set_option linter.unusedVariables false
namespace Mine
set_option maxRecDepth 100000
set_option maxHeartbeats 8000000

def textXZ (x z : Nat) : Str := if z = 16 then textB x else textA x (z - 1)
theorem joined_is {x z : Nat} (h1 : 1 ≤ z) (h2 : z ≤ 16) : Str.empty ++ Str.ofString "(?s:" ++ Txt.join (Str.ofString "") [⟨#[66]⟩, ⟨#[91, 65, 45, 65 + x, 93]⟩, part3 z] ++ Str.ofString ")\\Z" = textXZ x z := by
  unfold part3 textXZ
  by_cases hz : z = 16
  · rw [if_pos hz, if_pos hz]
    kernel_rfl
  · rw [if_neg hz, if_neg hz]
    obtain ⟨y, rfl⟩ : ∃ y, z = y + 1 := ⟨z - 1, by omega⟩
    rw [Nat.add_sub_cancel, show 65 + (y + 1) = 66 + y by omega]
    kernel_rfl
theorem part3_len {z : Nat} : (part3 z).length ≤ 8 := by unfold part3; split <;> exact Nat.le_of_ble_eq_true rfl
theorem str3p {ys : List Value} {a b c : Str} (h : StrsAre ys [a, b, c]) : ∃ t1 t2 t3, ys = [.str a t1, .str b t2, .str c t3] := by
  cases h with | cons _ t1 h => cases h with | cons _ t2 h => cases h with | cons _ t3 h => cases h; exact ⟨t1, t2, t3, rfl⟩
theorem translate_spc (w : World) (x z : Nat) (t : Tok) (rest : List (Addr × Obj)) (h0 : x < 16) (h1 : 1 ≤ z) (h2 : z ≤ 16) (hoff : ∀ p ∈ rest, p.1 ≠ 64) :
    SpcG w 4 50 [.str (patS x z) t] (fun nw => ∃ ps, Tb ps ∧ nw = (64, tabObj ps) :: rest) (fun nw v nw' => ∃ ps t', v = .str (textXZ x z) t' ∧ Tb ps ∧ nw' = (64, tabObj ps) :: rest) := by
  unfold SpcG
  k_fill
  intro p loose mean mg mb dp un gd cn cs a ccd cl outer A₀ base h₀ L m news s Q E B F X N T hk hP hG hd hu hret
  refine wpAny_call ?_
  k_dflt cell_enter
  obtain ⟨ps, hps, rfl⟩ := hP
  repeat' (first
    | ((fail_if_success (with_reducible show wpAny _ _ (call (.ref 69) _) _ _ _)); first
        | ((with_reducible refine wpAny_execs_nil ?_); (try dsimp only))
        | (with_reducible refine wpAny_If ?_)
        | ((with_reducible show ite (_ = true) _ _); (fail_if_success (with_reducible show ite (((_ : Bool) == _) = true) _ _)); first | refine PySem.W.ite_neg (Bool.eq_false_iff.mp rfl) ?_ | refine PySem.W.ite_pos rfl ?_)
        | ((with_reducible show wpAny _ _ (call (Value.type "object") []) _ _ _); refine object_K (by assumption) (by assumption) ?_; intro S8 hS FS NS oS; (try k_lt oS))
        | (k_unfold; (try dsimp only)) | (k_end; wrow_close) | walk1 | (dsimp only; walk1) | (leave1; walk_say "STEP leave1"; try dsimp only) | fail "no step"))
  rename News _ _ _ _ => NS
  have Nt := news_sub (b := (64, tabObj ps) :: (S8, objObj) :: rest) NS (sub_cons (.tail _ (.head _)) (sub_cons (.head _) (sub_tail (sub_tail fun _ h => h))))
  refine' (tr_spc w x z _ _ S8 ((S8, objObj) :: rest) h0 h1 h2 (List.forall_mem_cons.mpr ⟨by k_ne, hoff⟩)).use ?k1 ?k2 ?k3 Nt ?k5 ?k6 ⟨ps, hps, rfl⟩ ?kG ?k7 ?k8 ?_
  case k1 => assumption
  case k2 => assumption
  case k3 => assumption
  case k5 => assumption
  case k6 => first | exact rfl | assumption
  case kG => assumption
  case k7 => ktr_room
  case k8 => ktr_units
  rintro _ ⟨h7, g7, d7, tk7, os7⟩ news7 F7 N7 G7 o7 ⟨l7, vs, n7, ps7, rfl, hvs, hps7, rfl⟩
  obtain ⟨t1, t2, t3, rfl⟩ := str3p hvs
  (try dsimp only at F7 N7 G7 o7 ⊢)
  repeat' (first
    | ((fail_if_success (with_reducible show wpAny _ _ (call (.ref 76) _) _ _ _)); first
        | ((with_reducible refine wpAny_execs_nil ?_); (try dsimp only))
        | (with_reducible refine wpAny_If ?_)
        | ((with_reducible show ite (_ = true) _ _); (fail_if_success (with_reducible show ite (((_ : Bool) == _) = true) _ _)); first | refine PySem.W.ite_neg (Bool.eq_false_iff.mp rfl) ?_ | refine PySem.W.ite_pos rfl ?_)
        | ((with_reducible show wpAny _ _ (call (Value.type "object") []) _ _ _); refine object_K (by assumption) (by assumption) ?_; intro S8 hS FS NS oS; (try k_lt oS))
        | (k_unfold; (try dsimp only)) | (k_end; wrow_close) | walk1 | (dsimp only; walk1) | (leave1; walk_say "STEP leave1"; try dsimp only) | fail "no step"))
  rename News _ _ _ ((l7, _) :: _) => N7
  refine' (join_spc w ⟨#[66]⟩ ⟨#[91, 65, 45, 65 + x, 93]⟩ (part3 z) t1 t2 t3 l7 S8 n7 (Nat.le_of_ble_eq_true rfl) (Nat.le_of_ble_eq_true rfl) part3_len).use ?k1 ?k2 ?k3 N7 ?k5 ?k6 (.head _) ?k7 ?k8 ?_
  case k1 => assumption
  case k2 => assumption
  case k3 => assumption
  case k5 => assumption
  case k6 => first | exact rfl | assumption
  case k7 => ktr_room
  case k8 => ktr_units
  rintro _ h9 tk9 _ F9 N9 ⟨rfl, t9, rfl⟩
  rw [joined_is h1 h2]
  repeat' (first
    | ((with_reducible refine wpAny_execs_nil ?_); (try dsimp only))
    | (with_reducible refine wpAny_If ?_)
    | ((with_reducible show ite (_ = true) _ _); (fail_if_success (with_reducible show ite (((_ : Bool) == _) = true) _ _)); first | refine PySem.W.ite_neg (Bool.eq_false_iff.mp rfl) ?_ | refine PySem.W.ite_pos rfl ?_)
    | ((with_reducible show wpAny _ _ (call (Value.type "object") []) _ _ _); refine object_K (by assumption) (by assumption) ?_; intro S8 hS FS NS oS; (try k_lt oS))
    | (k_unfold; (try dsimp only)) | (k_end; wrow_close) | walk1 | (dsimp only; walk1) | (leave1; walk_say "STEP leave1"; try dsimp only) | fail "no step")
  rename News h₀ L _ _ => N9
  refine hret (Value.str _ _) ⟨_, g7, d7, _, os7⟩ ((64, tabObj ps7) :: rest) ?_ ?_ G7 o7 ⟨ps7, _, rfl, hps7, rfl⟩
  · assumption
  · refine news_sub N9 ?_; (repeat (first | exact fun _ h9 => h9 | refine sub_cons (by k_mem) ?_ | refine sub_tail ?_))
end Mine
end
section
open PySem PySem.W PyProof.Rows PySem.Calls PySem.Spec
set_option linter.unusedVariables false
namespace Mine
set_option maxRecDepth 100000
set_option maxHeartbeats 8000000

theorem text_spc (w : World) (x y : Nat) (t : Tok) (rest : List (Addr × Obj)) (h0 : x < 16) (h1 : y < 16) (hoff : ∀ p ∈ rest, p.1 ≠ 64) :
    SpcG w 5 109 [.str (wordS x y) t] (fun nw => ∃ ps, Tb ps ∧ nw = (64, tabObj ps) :: rest) (fun nw v nw' => ∃ ps t', v = .str (textXZ x (y + 1)) t' ∧ Tb ps ∧ nw' = (64, tabObj ps) :: rest) := by
  unfold SpcG
  k_fill
  intro p loose mean mg mb dp un gd cn cs a ccd cl outer A₀ base h₀ L m news s Q E B F X N T hk hP hG hd hu hret
  refine wpAny_call ?_
  k_dflt cell_enter
  have hL : (wordS x y).length = 3 := rfl
  repeat' (first
    | ((fail_if_success (with_reducible show wpAny _ _ (call (.ref 50) _) _ _ _)); first
        | ((with_reducible show wpAny _ _ (call (Value.builtin "chr") _) _ _ _); refine chr_K (n := 65 + (y + 1)) (by show ((65 + y : Nat) : Int) + 1 = _; omega) (by omega) ?_; intro ct ck)
        | ((with_reducible refine wpAny_execs_nil ?_); (try dsimp only))
        | (with_reducible refine wpAny_If ?_)
        | ((with_reducible show ite (_ = true) _ _); (fail_if_success (with_reducible show ite (((_ : Bool) == _) = true) _ _)); first | refine PySem.W.ite_neg (Bool.eq_false_iff.mp rfl) ?_ | refine PySem.W.ite_pos rfl ?_)
        | (k_unfold; (try dsimp only)) | (k_end; wrow_close) | walk1 | (dsimp only; walk1) | (leave1; walk_say "STEP leave1"; try dsimp only) | fail "no step"))
  refine strSub (fun z9 => call (.ref 50) [Value.str z9 _]) (b := patS x (y + 1)) (by kernel_rfl) ?_
  obtain ⟨ps, hps, rfl⟩ := hP
  refine' (translate_spc w x (y + 1) _ rest h0 (by omega) (by omega) hoff).use ?k1 ?k2 ?k3 ?k4 ?k5 ?k6 ⟨ps, hps, rfl⟩ ?kG ?k7 ?k8 ?_
  case k1 => assumption
  case k2 => assumption
  case k3 => assumption
  case k4 => assumption
  case k5 => assumption
  case k6 => first | exact rfl | assumption
  case kG => assumption
  case k7 => ktr_room
  case k8 => ktr_units
  rintro _ ⟨h7, g7, d7, tk7, os7⟩ news7 F7 N7 G7 o7 ⟨ps7, t7, rfl, hps7, rfl⟩
  (try dsimp only at F7 N7 G7 o7 ⊢)
  repeat' (first
    | ((with_reducible refine wpAny_execs_nil ?_); (try dsimp only))
    | (with_reducible refine wpAny_If ?_)
    | ((with_reducible show ite (_ = true) _ _); (fail_if_success (with_reducible show ite (((_ : Bool) == _) = true) _ _)); first | refine PySem.W.ite_neg (Bool.eq_false_iff.mp rfl) ?_ | refine PySem.W.ite_pos rfl ?_)
    | (k_unfold; (try dsimp only)) | (k_end; wrow_close) | walk1 | (dsimp only; walk1) | (leave1; walk_say "STEP leave1"; try dsimp only) | fail "no step")
  refine hret (Value.str _ _) ⟨_, g7, d7, _, os7⟩ ((64, tabObj ps7) :: rest) ?_ ?_ G7 o7 ⟨ps7, _, rfl, hps7, rfl⟩
  · assumption
  · assumption
end Mine
end
section
set_option linter.unusedVariables false
namespace Mine
/-- the lesser number is reached from the greater one without a carry: figure by figure -/
def le2 (a b : Nat) : Bool := decide (a / 16 ≤ b / 16) && decide (a % 16 ≤ b % 16)
theorem below_eq {a b : Nat} (ha : a < 256) (hb : b < 256) : belowF a b = le2 a b := by
  unfold belowF le2 sumF
  rw [Bool.eq_iff_iff]
  simp only [Bool.and_eq_true, decide_eq_true_eq]
  omega
theorem le2_le {a b : Nat} (h : le2 a b = true) : a ≤ b := by
  unfold le2 at h
  simp only [Bool.and_eq_true, decide_eq_true_eq] at h
  omega
noncomputable def maxl : List Nat → Nat
  | [] => 0
  | a :: r => max a (maxl r)
theorem le_maxl {l : List Nat} : ∀ {a : Nat}, a ∈ l → a ≤ maxl l := by
  induction l with
  | nil => intro a h; cases h
  | cons b r ih =>
    intro a h
    unfold maxl
    rcases List.mem_cons.mp h with rfl | h
    · omega
    · have := ih h; omega
theorem maxl_mem {l : List Nat} : maxl l = 0 ∨ maxl l ∈ l := by
  induction l with
  | nil => exact .inl rfl
  | cons b r ih =>
    unfold maxl
    rcases Nat.le_total b (maxl r) with h | h
    · rw [Nat.max_eq_right h]
      exact ih.imp id (List.mem_cons_of_mem _)
    · rw [Nat.max_eq_left h]
      exact .inr List.mem_cons_self
theorem maxl_le {l : List Nat} {n : Nat} (h : ∀ a ∈ l, a ≤ n) : maxl l ≤ n := by
  rcases maxl_mem (l := l) with e | e
  · omega
  · exact h _ e
/-- what leads up from a number, among numbers told with their levels -/
def overF (n : Nat) (L : List (Nat × Nat)) : List Nat := (L.filter fun p => le2 n p.1).map (·.2)
/-- the numbers, rising, each with the length of the longest row that leads up from it -/
noncomputable def levs : List Nat → List (Nat × Nat)
  | [] => []
  | n :: r => (n, 1 + maxl (overF n (levs r))) :: levs r
theorem levs_fst : ∀ rs : List Nat, (levs rs).map (·.1) = rs
  | [] => rfl
  | n :: r => by unfold levs; rw [List.map_cons, levs_fst r]
theorem levs_pos : ∀ {rs : List Nat} {p : Nat × Nat}, p ∈ levs rs → 1 ≤ p.2
  | [], p, h => nomatch h
  | n :: r, p, h => by
    rcases List.mem_cons.mp h with rfl | h
    · exact Nat.le_add_right 1 _
    · exact levs_pos h
theorem levs_le : ∀ {rs : List Nat} {p : Nat × Nat}, p ∈ levs rs → p.2 ≤ rs.length
  | [], p, h => nomatch h
  | n :: r, p, h => by
    rcases List.mem_cons.mp h with rfl | h
    · have := maxl_le (l := overF n (levs r)) (n := r.length) fun a ha => by
        obtain ⟨q, hq, rfl⟩ := List.mem_map.mp ha
        exact levs_le (List.mem_filter.mp hq).1
      show 1 + _ ≤ r.length + 1
      omega
    · exact Nat.le_succ_of_le (levs_le h)
theorem levs_mem {rs : List Nat} {p : Nat × Nat} (h : p ∈ levs rs) : p.1 ∈ rs := by
  have := List.mem_map_of_mem (f := (·.1)) h
  rwa [levs_fst] at this
theorem levs_up : ∀ {rs : List Nat}, rs.Pairwise (· < ·) → ∀ {p q : Nat × Nat}, p ∈ levs rs → q ∈ levs rs → q.1 ≠ p.1 → le2 p.1 q.1 = true → q.2 < p.2
  | [], _, p, _, h, _, _, _ => nomatch h
  | n :: r, hs, p, q, hp, hq, hne, hl => by
    obtain ⟨hn, hr⟩ := List.pairwise_cons.mp hs
    rcases List.mem_cons.mp hp with rfl | hp
    · rcases List.mem_cons.mp hq with rfl | hq
      · exact absurd rfl hne
      · have : q.2 ≤ maxl (overF n (levs r)) := le_maxl (List.mem_map_of_mem (List.mem_filter.mpr ⟨hq, hl⟩))
        show q.2 < 1 + _
        omega
    · rcases List.mem_cons.mp hq with rfl | hq
      · have h1 := hn _ (levs_mem hp)
        have h2 := le2_le hl
        dsimp only at h2
        omega
      · exact levs_up hr hp hq hne hl
theorem levs_next : ∀ {rs : List Nat}, rs.Pairwise (· < ·) → ∀ {p : Nat × Nat}, p ∈ levs rs → p.2 = 1 ∨ ∃ q ∈ levs rs, q.1 ≠ p.1 ∧ le2 p.1 q.1 = true ∧ q.2 + 1 = p.2
  | [], _, p, h => nomatch h
  | n :: r, hs, p, hp => by
    obtain ⟨hn, hr⟩ := List.pairwise_cons.mp hs
    rcases List.mem_cons.mp hp with rfl | hp
    · rcases maxl_mem (l := overF n (levs r)) with e | e
      · exact .inl (by show 1 + _ = 1; omega)
      · obtain ⟨q, hq, hv⟩ := List.mem_map.mp e
        obtain ⟨hq, hl⟩ := List.mem_filter.mp hq
        refine .inr ⟨q, List.mem_cons_of_mem _ hq, ?_, hl, by show q.2 + 1 = 1 + _; omega⟩
        have := hn _ (levs_mem hq)
        show q.1 ≠ n
        omega
    · rcases levs_next hr hp with e | ⟨q, hq, h⟩
      · exact .inl e
      · exact .inr ⟨q, List.mem_cons_of_mem _ hq, h⟩
/-- the words of `left` that no other text of `left` takes -/
def topsF (rs left : List Nat) : List Nat := left.filter fun n => (rs.filter fun a => left.contains a && a != n && le2 n a) == []
/-- the rounds -/
noncomputable def goF (rs : List Nat) : List Nat → List Nat → List (List Nat) → List (List Nat)
  | [], left, acc => if left = [] then acc else []
  | _ :: ws, left, acc => if left = [] then acc else goF rs ws (left.filter fun n => !(topsF rs left).contains n) (acc ++ [topsF rs left])
noncomputable def leftF (rs : List Nat) (c : Nat) : List Nat := ((levs rs).filter fun p => decide (c < p.2)).map (·.1)
noncomputable def partF (rs : List Nat) (c : Nat) : List Nat := ((levs rs).filter fun p => p.2 == c).map (·.1)
theorem leftF_zero (rs : List Nat) : leftF rs 0 = rs := by
  unfold leftF
  have e : (levs rs).filter (fun p => decide (0 < p.2)) = levs rs := List.filter_eq_self.mpr fun p hp => decide_eq_true (levs_pos hp)
  rw [e, levs_fst]
theorem mem_leftF {rs : List Nat} {c n : Nat} : n ∈ leftF rs c ↔ ∃ p ∈ levs rs, c < p.2 ∧ p.1 = n := by
  unfold leftF
  simp only [List.mem_map, List.mem_filter, decide_eq_true_eq, and_assoc]
theorem fst_inj' : ∀ {L : List (Nat × Nat)}, (L.map (·.1)).Nodup → ∀ {p q : Nat × Nat}, p ∈ L → q ∈ L → p.1 = q.1 → p = q
  | [], _, p, _, h, _, _ => nomatch h
  | a :: l, hn, p, q, hp, hq, e => by
    rw [List.map_cons, List.nodup_cons] at hn
    rcases List.mem_cons.mp hp with h1 | h1
    · rcases List.mem_cons.mp hq with h2 | h2
      · rw [h1, h2]
      · exact absurd (by rw [← h1, e]; exact List.mem_map_of_mem h2) hn.1
    · rcases List.mem_cons.mp hq with h2 | h2
      · exact absurd (by rw [← h2, ← e]; exact List.mem_map_of_mem h1) hn.1
      · exact fst_inj' hn.2 h1 h2 e
theorem fst_inj {rs : List Nat} (hs : rs.Pairwise (· < ·)) {p q : Nat × Nat} (hp : p ∈ levs rs) (hq : q ∈ levs rs) (e : p.1 = q.1) : p = q :=
  fst_inj' (by rw [levs_fst]; exact hs.imp fun h => Nat.ne_of_lt h) hp hq e
theorem topsF_left {rs : List Nat} (hs : rs.Pairwise (· < ·)) (c : Nat) : topsF rs (leftF rs c) = partF rs (c + 1) := by
  unfold topsF partF
  conv => lhs; arg 2; unfold leftF
  rw [List.filter_map, List.filter_filter]
  congr 1
  refine List.filter_congr fun p hp => ?_
  rw [Bool.eq_iff_iff]
  simp only [Bool.and_eq_true, decide_eq_true_eq, Function.comp_apply, beq_iff_eq, List.filter_eq_nil_iff, bne_iff_ne, List.contains_iff_mem, mem_leftF]
  constructor
  · rintro ⟨h1, h2⟩
    rcases levs_next hs hp with e | ⟨q, hq, hne, hl, e⟩
    · omega
    · by_cases hc : c < q.2
      · exact absurd ⟨⟨⟨q, hq, hc, rfl⟩, hne⟩, hl⟩ (h1 q.1 (levs_mem hq))
      · omega
  · intro e
    refine ⟨?_, by omega⟩
    rintro a ha ⟨⟨⟨q, hq, hc, rfl⟩, hne⟩, hl⟩
    have := levs_up hs hp hq hne hl
    omega
theorem leftF_succ {rs : List Nat} (hs : rs.Pairwise (· < ·)) (c : Nat) : (leftF rs c).filter (fun n => !(partF rs (c + 1)).contains n) = leftF rs (c + 1) := by
  unfold leftF partF
  rw [List.filter_map, List.filter_filter]
  congr 1
  refine List.filter_congr fun p hp => ?_
  rw [Bool.eq_iff_iff]
  simp only [Bool.and_eq_true, Bool.not_eq_true', decide_eq_true_eq, Function.comp_apply, ← Bool.not_eq_true, List.contains_iff_mem, List.mem_map, List.mem_filter, beq_iff_eq, not_exists, not_and, and_imp]
  constructor
  · rintro ⟨h1, h2⟩
    have := h1 p hp
    by_cases e : p.2 = c + 1
    · exact absurd rfl (this e)
    · omega
  · intro h
    refine ⟨fun q hq e e' => ?_, by omega⟩
    have := fst_inj hs hq hp e'
    subst this
    omega
noncomputable def depthF (rs : List Nat) : Nat := maxl ((levs rs).map (·.2))
theorem leftF_nil {rs : List Nat} {c : Nat} : leftF rs c = [] ↔ depthF rs ≤ c := by
  unfold depthF
  constructor
  · intro h
    refine maxl_le fun a ha => ?_
    obtain ⟨p, hp, rfl⟩ := List.mem_map.mp ha
    rcases Nat.lt_or_ge c p.2 with hc | hc
    · exact absurd (mem_leftF.mpr ⟨p, hp, hc, rfl⟩) (by rw [h]; exact List.not_mem_nil)
    · exact hc
  · intro h
    rcases e : leftF rs c with _ | ⟨a, l⟩
    · rfl
    · obtain ⟨p, hp, hc, _⟩ := mem_leftF.mp (show a ∈ leftF rs c by rw [e]; exact List.mem_cons_self)
      have := le_maxl (l := (levs rs).map (·.2)) (List.mem_map_of_mem hp)
      omega
theorem depthF_le (rs : List Nat) : depthF rs ≤ rs.length := maxl_le fun a ha => by
  obtain ⟨p, hp, rfl⟩ := List.mem_map.mp ha
  exact levs_le hp
theorem goF_eq {rs : List Nat} (hs : rs.Pairwise (· < ·)) : ∀ (ws : List Nat) (c : Nat), ws.length + c = rs.length → c ≤ depthF rs → goF rs ws (leftF rs c) ((List.range c).map fun k => partF rs (k + 1)) = (List.range (depthF rs)).map fun k => partF rs (k + 1)
  | [], c, hl, hc => by
    have := depthF_le rs
    have e : leftF rs c = [] := leftF_nil.mpr (by simp only [List.length_nil] at hl; omega)
    unfold goF
    rw [if_pos e, show c = depthF rs by simp only [List.length_nil] at hl; omega]
  | _ :: ws, c, hl, hc => by
    unfold goF
    by_cases e : leftF rs c = []
    · rw [if_pos e, show c = depthF rs by have := leftF_nil.mp e; omega]
    · rw [if_neg e, topsF_left hs, leftF_succ hs]
      have e2 : c < depthF rs := by
        rcases Nat.lt_or_ge c (depthF rs) with h | h
        · exact h
        · exact absurd (leftF_nil.mpr h) e
      rw [show ((List.range c).map fun k => partF rs (k + 1)) ++ [partF rs (c + 1)] = (List.range (c + 1)).map fun k => partF rs (k + 1) by rw [List.range_succ, List.map_append]; rfl]
      exact goF_eq hs ws (c + 1) (by simp only [List.length_cons] at hl; omega) e2
/-- the plain law: the rounds are the levels -/
theorem plain_law {rs : List Nat} (hs : rs.Pairwise (· < ·)) : goF rs rs rs [] = (List.range (depthF rs)).map fun k => partF rs (k + 1) := by
  have := goF_eq hs rs 0 (by omega) (Nat.zero_le _)
  rwa [leftF_zero] at this
end Mine
end
section
open PySem PySem.W PyProof.Rows PySem.Calls PySem.Spec
set_option linter.unusedVariables false
namespace Mine
theorem strs_len {vs : List Value} {xs : List Str} (h : StrsAre vs xs) : vs.length = xs.length := by
  induction h with
  | nil => rfl
  | cons _ _ _ ih => rw [List.length_cons, List.length_cons, ih]
def wd (n : Nat) : Str := wordS (n / 16) (n % 16)
theorem wd_inj {a b : Nat} (ha : a < 256) (hb : b < 256) (h : wd a = wd b) : a = b := by
  unfold wd wordS at h
  injection h with h
  have h1 := congrArg (fun x : Array Nat => x[1]?) h
  have h2 := congrArg (fun x : Array Nat => x[2]?) h
  simp at h1 h2
  omega
section
variable {es as : List Nat} {i j : Nat}
def Inv (es as : List Nat) (i j : Nat) : Prop := i ≤ es.length ∧ j ≤ as.length ∧ (∀ a ∈ as.drop j, a ∈ es.drop i) ∧ (∀ a ∈ as.take j, a ∈ es.take i)
theorem mem_drop' {l : List Nat} {a n : Nat} : a ∈ l.drop n ↔ ∃ k, ∃ h : k < l.length, n ≤ k ∧ l[k] = a := by
  rw [List.mem_iff_getElem]
  constructor
  · rintro ⟨k, hk, e⟩
    rw [List.length_drop] at hk
    rw [List.getElem_drop] at e
    exact ⟨n + k, by omega, by omega, e⟩
  · rintro ⟨k, hk, hn, e⟩
    refine ⟨k - n, by rw [List.length_drop]; omega, ?_⟩
    rw [List.getElem_drop, ← e]
    congr 1; omega
theorem mem_take' {l : List Nat} {a n : Nat} : a ∈ l.take n ↔ ∃ k, ∃ h : k < l.length, k < n ∧ l[k] = a := by
  rw [List.mem_iff_getElem]
  constructor
  · rintro ⟨k, hk, e⟩
    rw [List.length_take] at hk
    rw [List.getElem_take] at e
    exact ⟨k, by omega, by omega, e⟩
  · rintro ⟨k, hk, hn, e⟩
    refine ⟨k, by rw [List.length_take]; omega, ?_⟩
    rw [List.getElem_take, ← e]
theorem up_lt {l : List Nat} (s : l.Pairwise (· < ·)) {a b : Nat} (hb : b < l.length) (h : a < b) : l[a]'(by omega) < l[b] := List.pairwise_iff_getElem.mp s a b (by omega) hb h
theorem up_of {l : List Nat} (s : l.Pairwise (· < ·)) {a b : Nat} (ha : a < l.length) (hb : b < l.length) (h : l[a] < l[b]) : a < b := by
  rcases Nat.lt_trichotomy a b with q | q | q
  · exact q
  · subst q; omega
  · have := up_lt s ha q; omega
theorem take_snoc {l : List Nat} {i : Nat} (h : i < l.length) : l.take (i + 1) = l.take i ++ [l[i]] := by
  rw [List.take_succ, List.getElem?_eq_getElem h]; rfl
theorem inv_C (sE : es.Pairwise (· < ·)) (I : Inv es as i j) (hi : i < es.length) (hj : j < as.length) : es[i] ≤ as[j] := by
  obtain ⟨k, hk, h1, h2⟩ := mem_drop'.mp (I.2.2.1 as[j] (mem_drop'.mpr ⟨j, hj, Nat.le_refl _, rfl⟩))
  rw [← h2]
  rcases Nat.lt_or_ge i k with q | q
  · exact Nat.le_of_lt (up_lt sE hk q)
  · have : i = k := by omega
    subst this; exact Nat.le_refl _
theorem inv_A (sE : es.Pairwise (· < ·)) (sA : as.Pairwise (· < ·)) (I : Inv es as i j) (hi : i < es.length) (hj : j < as.length) (h : es[i] < as[j]) :
    i + 1 < es.length ∧ Inv es as (i + 1) j ∧ (es.take (i + 1)).filter (fun n => !as.contains n) = (es.take i).filter (fun n => !as.contains n) ++ [es[i]] := by
  have key : ∀ a ∈ as.drop j, a ∈ es.drop (i + 1) := fun a ha => by
    obtain ⟨k, hk, h1, h2⟩ := mem_drop'.mp (I.2.2.1 a ha)
    obtain ⟨l, hl, h3, h4⟩ := mem_drop'.mp ha
    have : as[j] ≤ as[l] := by
      rcases Nat.lt_or_ge j l with q | q
      · exact Nat.le_of_lt (up_lt sA hl q)
      · have : j = l := by omega
        subst this; exact Nat.le_refl _
    exact mem_drop'.mpr ⟨k, hk, up_of sE hi hk (by omega), h2⟩
  refine ⟨?_, ⟨hi, I.2.1, key, fun a ha => ?_⟩, ?_⟩
  · obtain ⟨k, hk, h1, h2⟩ := mem_drop'.mp (key as[j] (mem_drop'.mpr ⟨j, hj, Nat.le_refl _, rfl⟩))
    omega
  · obtain ⟨k, hk, h1, h2⟩ := mem_take'.mp (I.2.2.2 a ha)
    exact mem_take'.mpr ⟨k, hk, by omega, h2⟩
  · rw [take_snoc hi, List.filter_append]
    congr 1
    rw [List.filter_cons_of_pos, List.filter_nil]
    simp only [Bool.not_eq_true', List.contains_eq_mem, decide_eq_false_iff_not]
    intro hm
    obtain ⟨l, hl, e⟩ := List.mem_iff_getElem.mp hm
    rcases Nat.lt_or_ge l j with q | q
    · obtain ⟨k, hk, h1, h2⟩ := mem_take'.mp (I.2.2.2 _ (mem_take'.mpr ⟨l, hl, q, rfl⟩))
      have := up_lt sE hi h1
      omega
    · obtain ⟨k, hk, h1, h2⟩ := mem_drop'.mp (key _ (mem_drop'.mpr ⟨l, hl, q, rfl⟩))
      have := up_lt sE hk (show i < k by omega)
      omega
theorem inv_B (sE : es.Pairwise (· < ·)) (sA : as.Pairwise (· < ·)) (I : Inv es as i j) (hi : i < es.length) (hj : j < as.length) (h : es[i] = as[j]) :
    Inv es as (i + 1) (j + 1) ∧ (es.take (i + 1)).filter (fun n => !as.contains n) = (es.take i).filter (fun n => !as.contains n) := by
  refine ⟨⟨hi, hj, fun a ha => ?_, fun a ha => ?_⟩, ?_⟩
  · obtain ⟨l, hl, h3, h4⟩ := mem_drop'.mp ha
    obtain ⟨k, hk, h1, h2⟩ := mem_drop'.mp (I.2.2.1 a (mem_drop'.mpr ⟨l, hl, by omega, h4⟩))
    have := up_lt sA hl (show j < l by omega)
    exact mem_drop'.mpr ⟨k, hk, up_of sE hi hk (by omega), h2⟩
  · obtain ⟨l, hl, h3, h4⟩ := mem_take'.mp ha
    rcases Nat.lt_or_ge l j with q | q
    · obtain ⟨k, hk, h1, h2⟩ := mem_take'.mp (I.2.2.2 a (mem_take'.mpr ⟨l, hl, q, h4⟩))
      exact mem_take'.mpr ⟨k, hk, by omega, h2⟩
    · have : l = j := by omega
      subst this
      exact mem_take'.mpr ⟨i, hi, by omega, h.trans h4⟩
  · rw [take_snoc hi, List.filter_append, List.filter_cons_of_neg, List.filter_nil, List.append_nil]
    simp only [Bool.not_eq_true', List.contains_eq_mem, decide_eq_false_iff_not, Classical.not_not]
    rw [h]; exact List.getElem_mem hj
theorem inv_end1 (hsub : ∀ a ∈ as, a ∈ es) (I : Inv es as i j) (h : es.length ≤ i) : j = as.length ∧ ∀ a ∈ as, a ∈ es.take i := by
  refine ⟨?_, fun a ha => ?_⟩
  · rcases Nat.lt_or_ge j as.length with q | q
    · obtain ⟨k, hk, h1, h2⟩ := mem_drop'.mp (I.2.2.1 as[j] (mem_drop'.mpr ⟨j, q, Nat.le_refl _, rfl⟩))
      omega
    · exact Nat.le_antisymm I.2.1 q
  · rw [List.take_of_length_le h]; exact hsub a ha
theorem inv_end2 (I : Inv es as i j) (h : as.length ≤ j) : j = as.length ∧ ∀ a ∈ as, a ∈ es.take i :=
  ⟨Nat.le_antisymm I.2.1 h, fun a ha => I.2.2.2 a (by rw [List.take_of_length_le h]; exact ha)⟩
theorem inv_fin (sE : es.Pairwise (· < ·)) (h : ∀ a ∈ as, a ∈ es.take i) : (es.take i).filter (fun n => !as.contains n) ++ es.drop i = es.filter (fun n => !as.contains n) := by
  have e : (es.drop i).filter (fun n => !as.contains n) = es.drop i := List.filter_eq_self.mpr fun a ha => by
    simp only [Bool.not_eq_true', List.contains_eq_mem, decide_eq_false_iff_not]
    intro hm
    obtain ⟨k, hk, h1, h2⟩ := mem_take'.mp (h a hm)
    obtain ⟨l, hl, h3, h4⟩ := mem_drop'.mp ha
    have := up_lt sE hl (show k < l by omega)
    omega
  conv => rhs; rw [← List.take_append_drop i es, List.filter_append, e]
theorem up_ne (sE : es.Pairwise (· < ·)) (h : i + 1 < es.length) : es[i + 1] ≠ es[i] := by
  have := up_lt sE h (Nat.lt_succ_self i)
  omega
theorem inv_0 (hsub : ∀ a ∈ as, a ∈ es) : Inv es as 0 0 := ⟨Nat.zero_le _, Nat.zero_le _, hsub, fun a h => nomatch h⟩
end
section
variable {prog : Program} {w : World} {A : Around} {E : Value → Shared → Prop} {s : Shared}
theorem item_wd {value slice : Expr} {l : Addr} {vs : List Value} {ns : List Nat} {k : Nat} {j : Int} {u : Tok} {Q : Value → Shared → Prop} (hi : StrsAre vs (ns.map wd)) (hl : s.heap.IsList l vs.toArray) (e : j = (k : Int)) (hk : k < ns.length) (hs : ns.length < 2 ^ 62)
    (h : ∀ t, Q (.str (wd ns[k]) t) s) (hs : subscripted slice false (.ref l) (.int j u) = operate [.ref l, .int j u] (getItem (.ref l) (.int j u)) := by with_unfolding_all rfl)
    (hg : ∀ r, letTemporaryGo value (.ref l) r = pure () := by intro _; with_unfolding_all rfl) :
    wpAny (model prog w) A (subscriptTail value slice (.ref l) (.int j u)) Q E s := by
  subst e
  refine item_strsA hl hi (by omega) (by rw [List.length_map]; omega) (by omega) (fun t => ?_) hs hg
  have e : (ns.map wd).getD ((k : Int)).toNat Str.empty = wd ns[k] := by simp [List.getD, hk]
  rw [e]
  exact h t
theorem wd_lt {a b : Nat} (ha : a < 256) (hb : b < 256) : (wd a).cps.toList < (wd b).cps.toList ↔ a < b := by
  show [66, 65 + a / 16, 65 + a % 16] < [66, 65 + b / 16, 65 + b % 16] ↔ _
  simp only [List.cons_lt_cons_iff, List.not_lt_nil, Nat.lt_irrefl, false_or, true_and, and_false, or_false]
  omega
theorem lt_wd {a b : Nat} {t u : Tok} {c : Bool} {Q : Value → Shared → Prop} (ha : a < 256) (hb : b < 256) (e : decide (a < b) = c) (h : Q (.bool c) s) : wpAny (model prog w) A (compareOp .Lt (.str (wd a) t) (.str (wd b) u)) Q E s := by
  refine PyProof.Rows.lt_str ?_
  rw [show (decide ((wd a).cps.toList < (wd b).cps.toList)) = c from by rw [← e]; exact decide_eq_decide.mpr (wd_lt ha hb)]
  exact h
theorem gt_wd {a b : Nat} {t u : Tok} {c : Bool} {Q : Value → Shared → Prop} (ha : a < 256) (hb : b < 256) (e : decide (b < a) = c) (h : Q (.bool c) s) : wpAny (model prog w) A (compareOp .Gt (.str (wd a) t) (.str (wd b) u)) Q E s := by
  refine P.gt_str ?_
  rw [show (decide ((wd b).cps.toList < (wd a).cps.toList)) = c from by rw [← e]; exact decide_eq_decide.mpr (wd_lt hb ha)]
  exact h
theorem eq_wd {a b : Nat} {t u : Tok} {c : Bool} {Q : Value → Shared → Prop} (ha : a < 256) (hb : b < 256) (e : decide (a = b) = c) (h : Q (.bool c) s) : wpAny (model prog w) A (compareOp .Eq (.str (wd a) t) (.str (wd b) u)) Q E s := by
  refine PyProof.Rows.eq_str ?_
  have q : (wd a == wd b) = c := by
    rw [← e]
    by_cases h : a = b
    · subst h; simp
    · rw [decide_eq_false h]
      exact beq_false_of_ne fun hw => h (wd_inj ha hb hw)
  rw [q]; exact h
end
end Mine
end
section
open PySem PySem.W PyProof.Rows PySem.Calls PySem.Spec
set_option linter.unusedVariables false
namespace Mine
theorem exU : ∀ (S : List Addr) (g H : Heap), (∀ b o, g.get? b = some o → ∃ sl, H.get? b = some { o with slots := sl } ∧ (b ∉ S → sl = o.slots)) →
    ∃ g', Heap.SlotsOnly S g g' ∧ g'.StaysIn H ∧ ∀ b, g.get? b = none → g'.get? b = none
  | [], g, H, hk => ⟨g, Heap.SlotsOnly.refl _ _, fun b o e => by
      obtain ⟨sl, h1, h2⟩ := hk b o e
      rw [h2 (fun q => nomatch q)] at h1
      exact h1, fun _ e => e⟩
  | a :: r, g, H, hk => by
    cases q : g.get? a with
    | none =>
      obtain ⟨g', h1, h2, h3⟩ := exU r g H fun b o e => by
        obtain ⟨sl, h1, h2⟩ := hk b o e
        refine ⟨sl, h1, fun hb => h2 fun hm => ?_⟩
        rcases List.mem_cons.mp hm with rfl | hm
        · rw [q] at e; cases e
        · exact hb hm
      exact ⟨g', h1.mono fun b hb => .tail _ hb, h2, h3⟩
    | some oa =>
      obtain ⟨sa, ha, _⟩ := hk a oa q
      have hfr : ({ oa with slots := sa } : Obj).isFreed = false := (Heap.get?_some_iff.mp ha).2
      have ga : (g.update a fun o => { o with slots := sa }).get? a = some { oa with slots := sa } := Heap.get?_update_self _ q hfr
      have go : ∀ b, b ≠ a → (g.update a fun o => { o with slots := sa }).get? b = g.get? b := fun b hb => Heap.get?_update_other _ _ (Ne.symm hb)
      obtain ⟨g', h1, h2, h3⟩ := exU r (g.update a fun o => { o with slots := sa }) H fun b o e => by
        by_cases hb : b = a
        · subst hb
          rw [ga] at e; cases e
          exact ⟨sa, ha, fun _ => rfl⟩
        · rw [go b hb] at e
          obtain ⟨sl, h1, h2⟩ := hk b o e
          refine ⟨sl, h1, fun hn => h2 fun hm => ?_⟩
          rcases List.mem_cons.mp hm with rfl | hm
          · exact hb rfl
          · exact hn hm
      refine ⟨g', Heap.SlotsOnly.trans ⟨?_, fun b hb => ?_, fun b o e => ?_⟩ (h1.mono fun b hb => .tail _ hb), h2, fun b e => h3 b ?_⟩
      · simp [Heap.update]
      · exact go b fun q => hb (q ▸ .head _)
      · by_cases hb : b = a
        · subst hb
          rw [q] at e; cases e
          exact ⟨sa, ga⟩
        · exact ⟨o.slots, (go b hb).trans e⟩
      · by_cases hb : b = a
        · subst hb; rw [q] at e; cases e
        · exact (go b hb).trans e

section
variable {A₀ : Around} {base g h H : Heap} {outer : List Env} {L : Addr} {m : Str → Option Value} {news : List (Addr × Obj)}
theorem frames_in {base g : Heap} : ∀ {l : List Env}, g.FunFrames base l → ∀ b ∈ l.filterMap (·.frame), base.get? b = none ∧ ∃ o, g.get? b = some o
  | [], _, b, hb => nomatch hb
  | env :: r, ⟨_, ⟨L, o, hf, hn, ho, _⟩, hr⟩, b, hb => by
    rw [List.filterMap_cons, hf] at hb
    rcases List.mem_cons.mp hb with rfl | hb
    · exact ⟨hn, o, ho⟩
    · exact frames_in hr b hb
/-- the frames below may have got new slots: another ground for the same facts -/
theorem switch (B : Below A₀ base outer g) (F : Fr g L h m) (N : News g L h news)
    (hk : ∀ b o, h.get? b = some o → ∃ sl, H.get? b = some { o with slots := sl } ∧ (b ∉ L :: outer.filterMap (·.frame) → sl = o.slots)) :
    ∃ g', Below A₀ base outer g' ∧ Fr g' L H m ∧ News g' L H news ∧ (∀ b, g.get? b = none → g'.get? b = none) ∧ Heap.SlotsOnly (outer.filterMap (·.frame)) g g' := by
  obtain ⟨g', h1, h2, h3⟩ := exU (outer.filterMap (·.frame)) g H fun b o e => by
    obtain ⟨sl, e1, e2⟩ := hk b o (F.keep b o e)
    refine ⟨sl, e1, fun hn => e2 fun hm => ?_⟩
    rcases List.mem_cons.mp hm with rfl | hm
    · exact absurd (Heap.lt_size e) (Nat.not_lt.mpr F.above)
    · exact hn hm
  refine ⟨g', ⟨B.stack, fun b o e => ?_, B.frames.of_keeps fun b o e _ => ?_⟩, ⟨?_, h2, ?_⟩, fun p hp => ⟨?_, (N p hp).2.1, h3 _ (N p hp).2.2⟩, h3, h1⟩
  · refine (h1.2.1 b fun hm => ?_).trans (B.stays b o e)
    rw [(frames_in B.frames b hm).1] at e; cases e
  · obtain ⟨sl, e1⟩ := h1.2.2 b o e
    exact ⟨_, e1, rfl⟩
  · exact Heap.UpToSlots.ns (fun b o e _ => let ⟨sl, e1, _⟩ := hk b o e; ⟨sl, e1⟩) F.ns
  · rw [h1.1]; exact F.above
  · obtain ⟨sl, e1, e2⟩ := hk _ _ (N p hp).1
    rw [e1, e2 fun hm => ?_]
    rcases List.mem_cons.mp hm with q | hm
    · exact (N p hp).2.1 q
    · obtain ⟨o, ho⟩ := (frames_in B.frames _ hm).2
      rw [(N p hp).2.2] at ho; cases ho
end
/-- an exception and the head of its trace -/
structure Trc (e T : Addr) (X : String) (c2 fl : Value) (oe oT : Obj) : Prop where
  ne : T ≠ e
  cls : oe.cls = .type X
  dat : ∃ vs, oe.data = .fields vs ∧ vs[1]? = some (.ref T) ∧ vs[2]? = some c2
  tb : ∃ ts, oT.data = .fields ts ∧ ts[3]? = some fl
section
variable {M : Model} {A : Around} {E : Value → Shared → Prop} {s' : Shared} {base g h : Heap} {outer : List Env} {L a e T : Addr} {m : Str → Option Value} {name : Str} {scope : Scope} {cd : Value} {news : List (Addr × Obj)} {oe oT : Obj} {X : String} {c2 fl : Value}
theorem note_new {Q : Unit → Shared → Prop} {ob : Obj} {vs : Array Value} (B : Below A base outer g) (F : Fr g L h m) (N : News g L h news) (hk : ∀ b o, h.get? b = some o → s'.heap.get? b = some o) (hn : h.get? e = none)
    (he : s'.heap.get? e = some ob) (hc : ob.cls = .type X) (hd : ob.data = .fields vs) (h0 : vs[1]? = some .none) (h2 : vs[2]? = some c2)
    (k : ∀ g' h' T oe oT, Below A base outer g' → Fr g' L h' m → News g' L h' ((e, oe) :: (T, oT) :: news) → Trc e T X c2 (rawInt L) oe oT → h.get? T = none → Heap.SlotsOnly (outer.filterMap (·.frame)) g g' → (∀ b, g.get? b = none → g'.get? b = none) → Q () { s' with heap := h' })
    {A' : Around} (hA' : A'.frames = (A.deeper (envOf name scope L a cd)).frames) (hkd : scope.kind = .function := by rfl) :
    wpAny M A' (noteFrame (.ref e) (envOf name scope L a cd)) Q E s' := by
  have K' := B.push (name := name) (a := a) (cd := cd) F hkd
  have hsz : 1 < vs.size := (Array.getElem?_eq_some_iff.mp h0).1
  have FF : s'.heap.FunFrames base (envOf name scope L a cd :: outer) := K'.frames.of_keeps fun b o hb _ => ⟨o, hk b o hb, rfl⟩
  have hene : e ∉ (envOf name scope L a cd :: outer).filterMap (·.frame) := fun hm => by
    obtain ⟨o, ho⟩ := (frames_in K'.frames e hm).2
    rw [hn] at ho; cases ho
  unfold noteFrame
  simp only [show (envOf name scope L a cd).frame = some L from rfl]
  refine wpAny_bind (wpAny_field he hd h0 ?_)
  rw [if_neg (by decide)]
  refine wpAny_bind (wpAny_frameOf_fun (hA'.trans K'.stack) FF rfl fun h₁ hs₁ => ?_)
  refine wpAny_bind (wpAny_entryPlaceOf fun pl hpl => ?_)
  unfold EntryCells.newEntry newFields
  refine wpAny_bind (wpAny_newObj_type ?_ (hpl.sizeOk5 _ _ _ _ _))
  have he₁ : h₁.get? e = some ob := (hs₁.2.1 e hene).trans he
  have he₂ := Heap.get?_push_of_some (h := h₁) { cls := .type "traceback", dict := none, data := .fields ([Value.none, .ref L, .none, rawInt L, .none] ++ (if pl.isEmpty then List.replicate 6 Value.none else pl)).toArray } he₁
  refine wpAny_setField he₂ hd hsz ?_
  have hTe : h₁.objs.size ≠ e := Nat.ne_of_gt (Heap.lt_size he₁)
  have hd₃ := Obj.data_mapFields hd (·.setIfInBounds 1 (Value.ref h₁.objs.size))
  have he₃ := Heap.get?_update_self (Obj.mapFields (·.setIfInBounds 1 (Value.ref h₁.objs.size))) he₂ (Obj.isFreed_of_fields hd₃)
  have hT₃ := (Heap.get?_update_other (h₁.push { cls := .type "traceback", dict := none, data := .fields ([Value.none, .ref L, .none, rawInt L, .none] ++ (if pl.isEmpty then List.replicate 6 Value.none else pl)).toArray })
    (Obj.mapFields (·.setIfInBounds 1 (Value.ref h₁.objs.size))) (Ne.symm hTe)).trans (Heap.get?_push_size h₁ rfl)
  obtain ⟨g', B', F', N', hg, hS⟩ := switch (H := (h₁.push { cls := .type "traceback", dict := none, data := .fields ([Value.none, .ref L, .none, rawInt L, .none] ++ (if pl.isEmpty then List.replicate 6 Value.none else pl)).toArray }).update e (Obj.mapFields (·.setIfInBounds 1 (Value.ref h₁.objs.size)))) B F N fun b o hb => by
    have hbe : b ≠ e := fun q => by rw [q, hn] at hb; cases hb
    have hb' := hk b o hb
    obtain ⟨sl, e1⟩ := hs₁.2.2 b o hb'
    refine ⟨sl, ?_, fun hm => ?_⟩
    · rw [Heap.get?_update_other _ _ (Ne.symm hbe)]
      exact Heap.get?_push_of_some _ e1
    · have := hs₁.2.1 b hm
      rw [hb', e1] at this
      have := Option.some.inj this
      exact congrArg Obj.slots this
  have hTn : h.get? h₁.objs.size = none := by
    cases q : h.get? h₁.objs.size with
    | none => rfl
    | some o =>
      have q1 := Heap.lt_size (hk _ _ q)
      have q2 : h₁.objs.size = s'.heap.objs.size := hs₁.1
      rw [q2] at q1
      exact absurd q1 (Nat.lt_irrefl _)
  refine k g' _ h₁.objs.size _ { cls := .type "traceback", dict := none, data := .fields ([Value.none, .ref L, .none, rawInt L, .none] ++ (if pl.isEmpty then List.replicate 6 Value.none else pl)).toArray } B' F' (fun p hp => ?_) ⟨hTe, (Obj.cls_mapFields _ _).trans hc, ⟨_, hd₃, ?_, ?_⟩, ⟨_, rfl, ?_⟩⟩ hTn hS hg
  · have hLh : h.get? L ≠ none := fun q => by
      obtain ⟨oL, es, ep, hL, _⟩ := F.ns
      rw [q] at hL; cases hL
    have gn : ∀ b, h.get? b = none → g.get? b = none := fun b hb => by
      cases q : g.get? b with
      | none => rfl
      | some o => rw [F.keep b o q] at hb; cases hb
    rcases List.mem_cons.mp hp with rfl | hp
    · exact ⟨he₃, fun q => hLh (q ▸ hn), hg _ (gn _ hn)⟩
    rcases List.mem_cons.mp hp with rfl | hp
    · exact ⟨hT₃, fun q => hLh (q ▸ hTn), hg _ (gn _ hTn)⟩
    · exact N' p hp
  · simp [hsz]
  · rw [Array.getElem?_setIfInBounds_ne (by decide)]; exact h2
  · rfl
end
end Mine
end
section
open PySem PySem.W PyProof.Rows PySem.Calls PySem.Spec
set_option linter.unusedVariables false
namespace Mine
section
variable {M : Model} {A : Around} {E : Value → Shared → Prop} {s' : Shared} {g : Heap} {L e T : Addr} {m : Str → Option Value} {news : List (Addr × Obj)} {oe oT : Obj} {X : String} {c2 fl : Value}
theorem trc_note {env : Env} {Q : Unit → Shared → Prop} (N : News g L s'.heap ((e, oe) :: (T, oT) :: news)) (hx : Trc e T X c2 (rawInt L) oe oT) (hf : env.frame = some L) (h : Q () s') :
    wpAny M A (noteFrame (.ref e) env) Q E s' := by
  obtain ⟨vs, hd, h1, _⟩ := hx.dat
  obtain ⟨ts, hdT, h3⟩ := hx.tb
  have he := (N _ (.head _)).1
  have hT := (N _ (.tail _ (.head _))).1
  unfold noteFrame
  simp only [hf]
  refine wpAny_bind (wpAny_field he hd h1 ?_)
  rw [if_pos (show (Value.ref T != Value.none) = true from by simp)]
  refine wpAny_bind (wpAny_field hT hdT h3 ?_)
  rw [if_pos (show (rawInt L == rawInt L) = true from by simp)]
  exact wpAny_pure h
theorem trc_flight {to : Option Addr} {Q : Unit → Shared → Prop} (F : Fr g L s'.heap m) (N : News g L s'.heap ((e, oe) :: (T, oT) :: news)) (hx : Trc e T X c2 fl oe oT) (hn : ∀ p ∈ news, p.1 ≠ T)
    (k : ∀ h' oT', Fr g L h' m → News g L h' ((e, oe) :: (T, oT') :: news) → Trc e T X c2 (to.elim .none fun f => rawInt f) oe oT' → Q () { s' with heap := h' }) :
    wpAny M A (setFlight (.ref e) to) Q E s' := by
  obtain ⟨vs, hd, h1, h2⟩ := hx.dat
  obtain ⟨ts, hdT, h3⟩ := hx.tb
  have he := (N _ (.head _)).1
  have hT := (N _ (.tail _ (.head _))).1
  have nT := (N _ (.tail _ (.head _))).2
  have hsz3 : 3 < ts.size := (Array.getElem?_eq_some_iff.mp h3).1
  have other : ∀ b, b ≠ T → (s'.heap.update T (Obj.mapFields (·.setIfInBounds 3 (to.elim Value.none fun f => rawInt f)))).get? b = s'.heap.get? b :=
    fun b hb => Heap.get?_update_other _ _ (Ne.symm hb)
  have hd₃ := Obj.data_mapFields hdT (·.setIfInBounds 3 (to.elim Value.none fun f => rawInt f))
  have hT₃ := Heap.get?_update_self (Obj.mapFields (·.setIfInBounds 3 (to.elim Value.none fun f => rawInt f))) hT (Obj.isFreed_of_fields hd₃)
  unfold setFlight
  refine wpAny_bind (wpAny_field he hd h1 ?_)
  rw [if_pos (show (Value.ref T != Value.none) = true from by simp)]
  refine wpAny_setField hT hdT hsz3 (k _ _ ⟨?_, fun b o hb => ?_, F.above⟩ (fun p hp => ?_) ⟨hx.ne, hx.cls, ⟨vs, hd, h1, h2⟩, ⟨_, hd₃, ?_⟩⟩)
  · obtain ⟨oL, es, ep, hL, r⟩ := F.ns
    exact ⟨oL, es, ep, (other L (Ne.symm nT.1)).trans hL, r⟩
  · exact (other b fun q => by rw [q, nT.2] at hb; cases hb).trans (F.keep b o hb)
  · rcases List.mem_cons.mp hp with rfl | hp
    · exact ⟨(other _ (Ne.symm hx.ne)).trans he, (N _ (.head _)).2⟩
    rcases List.mem_cons.mp hp with rfl | hp
    · exact ⟨hT₃, nT⟩
    · exact ⟨(other _ (hn p hp)).trans (N p (.tail _ (.tail _ hp))).1, (N p (.tail _ (.tail _ hp))).2⟩
  · simp [hsz3]
theorem trc_pass {α : Type} {what : String} {env : Env} {Q : α → Shared → Prop} (F : Fr g L s'.heap m) (N : News g L s'.heap ((e, oe) :: (T, oT) :: news)) (hx : Trc e T X c2 fl oe oT) (hn : ∀ p ∈ news, p.1 ≠ T) (hf : env.frame = some L)
    (k : ∀ h' oT', Fr g L h' m → News g L h' ((e, oe) :: (T, oT') :: news) → Trc e T X c2 (rawInt L) oe oT' → E (.ref e) { s' with heap := h' }) :
    wpAny M A (PySem.passOn what (.ref e) env : Sem α) Q E s' := by
  obtain ⟨vs, hd, h1, h2⟩ := hx.dat
  have he := (N _ (.head _)).1
  unfold PySem.passOn
  refine wpAny_bind (wpAny_field he hd h1 ?_)
  rw [if_neg (show ¬ ((Value.ref T == Value.none) = true) from by simp)]
  refine wpAny_bind (trc_flight F N hx hn fun h' oT' F' N' hx' => ?_)
  rw [hf] at hx'
  exact wpAny_throw (k h' oT' F' N' hx')
theorem trc_back {env : Env} {E₁ : Value → Shared → Prop} (F : Fr g L s'.heap m) (N : News g L s'.heap ((e, oe) :: (T, oT) :: news)) (hx : Trc e T X c2 fl oe oT) (hn : ∀ p ∈ news, p.1 ≠ T) (hf : env.frame = some L)
    (k : ∀ h' oT', Fr g L h' m → News g L h' ((e, oe) :: (T, oT') :: news) → Trc e T X c2 (rawInt L) oe oT' → E₁ (.ref e) { s' with heap := h' }) :
    cameBackBy M A env E₁ (.ref e) s' := by
  obtain ⟨vs, hd, h1, h2⟩ := hx.dat
  have he := (N _ (.head _)).1
  unfold cameBackBy
  refine wpAny_bind (wpAny_field he hd h1 ?_)
  rw [if_neg (show ¬ ((Value.ref T == Value.none) = true) from by simp)]
  refine trc_flight F N hx hn fun h' oT' F' N' hx' => ?_
  rw [hf] at hx'
  exact k h' oT' F' N' hx'
end
section
variable {prog : Program} {w : World} {A : Around} {E : Value → Shared → Prop} {s : Shared} {e₁ : Addr} {o₁ : Obj} {vs₁ : Array Value}
/-- a new exception while another one is handled -/
structure NewEx2 (h h' : Heap) (e : Addr) (cls : String) : Prop where
  keeps : ∀ b o, h.get? b = some o → h'.get? b = some o
  new : h.get? e = none
  there : ∃ ob vs c2, h'.get? e = some ob ∧ ob.cls = .type cls ∧ ob.data = .fields vs ∧ vs[1]? = some .none ∧ vs[2]? = some c2
theorem raise_more {α : Type} {cls msg : String} {Q : α → Shared → Prop} (hp : PlainExc cls) (hh : A.handled = some (.ref e₁)) (h1 : s.heap.get? e₁ = some o₁) (hd : o₁.data = .fields vs₁) (h2 : vs₁[2]? = some .none)
    (h : ∀ h' tk e, NewEx2 s.heap h' e cls → E (.ref e) { s with heap := h', toks := tk }) :
    wpAny (model prog w) A (raiseErrorWords cls msg : Sem α) Q E s := by
  unfold raiseErrorWords
  refine wpAny_bind (wpAny_mkText (wpAny_bind ?_))
  unfold newExc newTuple
  refine wpAny_bind (wpAny_newObj_type ?_)
  refine wpAny_bind (m := firstArgMember _ _) (wpAny_of_eq (a := Value.none) (by simp only [firstArgMember, hp.first]; rfl) ?_)
  rw [hp.own]
  refine wpAny_newObj_type ?_
  unfold raiseNew
  refine wpAny_bind (wpAny_handled ?_)
  rw [hh]
  dsimp only
  have h1a := Heap.get?_push_of_some (h := s.heap.push { cls := .type "tuple", data := .seq #[.str msg s.toks] }) { cls := .type cls, data := .fields (#[.ref s.heap.objs.size, .none, .none, .none, .bool false, .none] ++ #[]) } (Heap.get?_push_of_some _ h1)
  have h2a := Heap.get?_push_size (s.heap.push { cls := .type "tuple", data := .seq #[.str msg s.toks] }) (o := { cls := .type cls, data := .fields (#[.ref s.heap.objs.size, .none, .none, .none, .bool false, .none] ++ #[]) }) rfl
  have hne : (s.heap.push { cls := .type "tuple", data := .seq #[.str msg s.toks] }).objs.size ≠ e₁ := Nat.ne_of_gt (Heap.lt_size (Heap.get?_push_of_some _ h1))
  rw [if_pos (by simpa using Ne.symm hne)]
  refine wpAny_bind (wpAny_holding (wpAny_runValue (codeAny_builtin (b := Builtin.«proto.unchain») (entryFor_of_tree (by kernel_rfl)) ?_)))
  unfold Builtin.«proto.unchain»
  dsimp only
  refine wpAny_bind (wpAny_field h1a hd h2 ?_)
  rw [if_pos (by decide)]
  refine wpAny_bind (wpAny_pure (wpAny_pure ?_))
  dsimp only
  refine wpAny_bind ?_
  show wpAny _ _ (setField (.ref _) 2 _) _ _ _
  refine wpAny_setField h2a rfl (by show 2 < 6; decide) (wpAny_throw (h _ _ _ ⟨fun b o hb => ?_, ?_, _, _, _, Heap.get?_update_self _ h2a rfl, rfl, rfl, rfl, rfl⟩))
  · have hb' := Heap.get?_push_of_some (h := s.heap.push { cls := .type "tuple", data := .seq #[.str msg s.toks] }) { cls := .type cls, data := .fields (#[.ref s.heap.objs.size, .none, .none, .none, .bool false, .none] ++ #[]) } (Heap.get?_push_of_some _ hb)
    refine (Heap.get?_update_other _ _ fun q => ?_).trans hb'
    have q1 := Heap.lt_size (Heap.get?_push_of_some { cls := .type "tuple", data := .seq #[.str msg s.toks] } hb)
    rw [← q] at q1
    exact absurd q1 (Nat.lt_irrefl _)
  · exact Heap.get?_none_of_le (by simp)
end
end Mine
end
section
open PySem PySem.W PyProof.Rows PySem.Calls PySem.Spec
set_option linter.unusedVariables false
namespace Mine
set_option maxRecDepth 100000
theorem ix_isExc : isSubtype (.type "IndexError") (.type "BaseException") = pure true := by rw [isSubtype_type]; kernel_rfl
theorem ix_notTuple : isSubtype (.type ((Manifest.find? "IndexError").elim "type" fun x => x.metatype)) (.type "tuple") = pure false := by
  rw [show ((Manifest.find? "IndexError").elim "type" fun x => x.metatype) = "type" from by kernel_rfl, isSubtype_type]; kernel_rfl
theorem ix_self : isSubtype (.type "IndexError") (.type "IndexError") = pure true := by rw [isSubtype_type]; kernel_rfl
theorem slots_mono {S S' : List Addr} {g h : Heap} (x : Heap.SlotsOnly S g h) (hs : ∀ b ∈ S, b ∈ S') : Heap.SlotsOnly S' g h := x.mono hs
/-- an exception that is still to be noted, or that was noted in this frame -/
def ExAB (C : Value → Prop) (g : Heap) (L : Addr) (m : Str → Option Value) (news : List (Addr × Obj)) (e : Addr) (h' : Heap) : Prop :=
  (∃ h ob vs c2, Fr g L h m ∧ News g L h news ∧ (∀ b o, h.get? b = some o → h'.get? b = some o) ∧ h.get? e = none ∧ h'.get? e = some ob ∧ ob.cls = .type "IndexError" ∧ ob.data = .fields vs ∧ vs[1]? = some .none ∧ vs[2]? = some c2 ∧ C c2) ∨
  (∃ T oe oT c2, Fr g L h' m ∧ News g L h' ((e, oe) :: (T, oT) :: news) ∧ Trc e T "IndexError" c2 (rawInt L) oe oT ∧ (∀ p ∈ news, p.1 ≠ T) ∧ C c2)
structure Gnd (A₀ : Around) (base : Heap) (outer : List Env) (g g₁ : Heap) : Prop where
  below : Below A₀ base outer g₁
  slots : Heap.SlotsOnly (outer.filterMap (·.frame)) g g₁
  none : ∀ b, g.get? b = none → g₁.get? b = none
theorem Gnd.rfl {A₀ : Around} {base g : Heap} {outer : List Env} (B : Below A₀ base outer g) : Gnd A₀ base outer g g := ⟨B, Heap.SlotsOnly.refl _ _, fun _ h => h⟩
theorem Gnd.trans {A₀ : Around} {base g g₁ g₂ : Heap} {outer : List Env} (x : Gnd A₀ base outer g g₁) (y : Gnd A₀ base outer g₁ g₂) : Gnd A₀ base outer g g₂ := ⟨y.below, x.slots.trans y.slots, fun b h => y.none b (x.none b h)⟩
/-- what flies out: an IndexError, with what the frame and the ledger hold -/
def ExE (C : Value → Prop) (A₀ : Around) (base : Heap) (outer : List Env) (g : Heap) (L : Addr) (s : Shared) (J : (Str → Option Value) → List (Addr × Obj) → Prop) (v : Value) (s' : Shared) : Prop :=
  ∃ e h' tk' m news g₁, v = .ref e ∧ s' = { s with heap := h', toks := tk' } ∧ J m news ∧ Gnd A₀ base outer g g₁ ∧ ExAB C g₁ L m news e h'
section
variable {M : Model} {A A' A'' : Around} {E : Value → Shared → Prop} {s s' : Shared} {base g h : Heap} {outer : List Env} {L a e T : Addr} {m : Str → Option Value} {name : Str} {scope : Scope} {cd : Value} {news : List (Addr × Obj)} {oe oT : Obj} {X : String} {c2 fl : Value} {C : Value → Prop}
theorem ex_noted {Q : Unit → Shared → Prop} (B : Below A base outer g) (x : ExAB C g L m news e s'.heap)
    (k : ∀ g₁ h' T oe oT c2, Gnd A base outer g g₁ → Fr g₁ L h' m → News g₁ L h' ((e, oe) :: (T, oT) :: news) → Trc e T "IndexError" c2 (rawInt L) oe oT → (∀ p ∈ news, p.1 ≠ T) → C c2 → Q () { s' with heap := h' })
    (hA' : A'.frames = (A.deeper (envOf name scope L a cd)).frames) (hkd : scope.kind = .function := by rfl) :
    wpAny M A' (noteFrame (.ref e) (envOf name scope L a cd)) Q E s' := by
  rcases x with ⟨h, ob, vs, c2, F, N, hk, hn, he, hc, hd, h0, h2, hC⟩ | ⟨T, oe, oT, c2, F, N, hx, hT, hC⟩
  · refine note_new B F N hk hn he hc hd h0 h2 (fun g₁ h' T oe oT B' F' N' hx hT hs hg => k g₁ h' T oe oT c2 ⟨B', hs, hg⟩ F' N' hx (fun p hp q => ?_) hC) hA' hkd
    have := (N p hp).1
    rw [q, hT] at this; cases this
  · exact trc_note N hx rfl (k g s'.heap T oe oT c2 (Gnd.rfl B) F N hx hT hC)
theorem exE_note {Q : Unit → Shared → Prop} {v : Value} {J : (Str → Option Value) → List (Addr × Obj) → Prop} (x : ExE C A base outer g L s J v s')
    (k : ∀ e g₁ h' tk m news T oe oT c2, v = .ref e → J m news → Gnd A base outer g g₁ → Fr g₁ L h' m → News g₁ L h' ((e, oe) :: (T, oT) :: news) → Trc e T "IndexError" c2 (rawInt L) oe oT → (∀ p ∈ news, p.1 ≠ T) → C c2 → Q () { s with heap := h', toks := tk })
    (hA' : A'.frames = (A.deeper (envOf name scope L a cd)).frames) (hkd : scope.kind = .function := by rfl) :
    wpAny M A' (noteFrame v (envOf name scope L a cd)) Q E s' := by
  obtain ⟨e, h', tk', m, news, g₁, rfl, rfl, hJ, G, x⟩ := x
  exact ex_noted G.below x (fun g₂ h₂ T oe oT c2 G₂ F N hx hT hC => k e g₂ h₂ tk' m news T oe oT c2 rfl hJ (G.trans G₂) F N hx hT hC) hA' hkd
theorem exE_own {J : (Str → Option Value) → List (Addr × Obj) → Prop} (hA' : A'.frames = (A.deeper (envOf name scope L a cd)).frames) (hkd : scope.kind = .function := by rfl) :
    PassesOwnAt M A' A'' (envOf name scope L a cd) (ExE C A base outer g L s J) := by
  intro v s' x
  unfold notedBy
  refine exE_note x (fun e g₁ h' tk m news T oe oT c2 hv hJ G F N hx hT hC => ?_) hA' hkd
  subst hv
  refine trc_back (s' := { s with heap := h', toks := tk }) F N hx hT rfl fun h₂ oT' F₂ N₂ hx₂ => ⟨e, h₂, tk, m, news, g₁, rfl, rfl, hJ, G, .inr ⟨T, oe, oT', c2, F₂, N₂, hx₂, hT, hC⟩⟩
theorem exE_self {J : (Str → Option Value) → List (Addr × Obj) → Prop} (hA' : A'.frames = (A.deeper (envOf name scope L a cd)).frames) (hkd : scope.kind = .function := by rfl) :
    PassesOwn M A' (envOf name scope L a cd) (ExE C A base outer g L s J) := exE_own hA' hkd
theorem exE_mono {C' : Value → Prop} {J J' : (Str → Option Value) → List (Addr × Obj) → Prop} {g₀ : Heap} {v : Value} (x : ExE C A base outer g L s J v s') (G : Gnd A base outer g₀ g) (hJ : ∀ m news, J m news → J' m news) (hC : ∀ c, C c → C' c) : ExE C' A base outer g₀ L s J' v s' := by
  obtain ⟨e, h', tk', m, news, g₁, rfl, rfl, h1, G₁, x⟩ := x
  refine ⟨e, h', tk', m, news, g₁, rfl, rfl, hJ _ _ h1, G.trans G₁, ?_⟩
  rcases x with ⟨h, ob, vs, c2, x1, x2, x3, x4, x5, x6, x7, x8, x9, hc⟩ | ⟨T, oe, oT, c2, x1, x2, x3, x4, hc⟩
  · exact .inl ⟨h, ob, vs, c2, x1, x2, x3, x4, x5, x6, x7, x8, x9, hC _ hc⟩
  · exact .inr ⟨T, oe, oT, c2, x1, x2, x3, x4, hC _ hc⟩
theorem exE_tk {J : (Str → Option Value) → List (Addr × Obj) → Prop} {h₁ : Heap} {tk₁ : Nat} {v : Value} (x : ExE C A base outer g L { s with heap := h₁, toks := tk₁ } J v s') : ExE C A base outer g L s J v s' := x
end
section
variable {prog : Program} {w : World} {A : Around} {E : Value → Shared → Prop} {s : Shared} {g h₀ : Heap} {L a e T : Addr} {m mg mb : Str → Option Value} {news : List (Addr × Obj)} {oe oT : Obj} {c2 fl : Value} {name : Str} {scope : Scope} {cd : Value}
  {K : Frag} {p : Program} {loose : List Str}
/-- the clause «except IndexError» with an IndexError in hand -/
theorem ix_handle {b₀ : Stmt} {suite : List Stmt} {pos np : Pos} {rest : List ExceptHandler} {Q : Flow → Shared → Prop} (F : Fr g L s.heap m) (N : News g L s.heap ((e, oe) :: (T, oT) :: news)) (hx : Trc e T "IndexError" c2 fl oe oT) (hT : ∀ p ∈ news, p.1 ≠ T)
    (X : K.In g) (Tp : TopRead p loose mg mb g) (hi : nsIn K mainGlobals (Str.ofString "IndexError") = some none)
    (k : ∀ h', Fr g L h' m → News g L h' news →
      wpAny (model prog w) (A.mark (some (.ref e))) (execs (b₀ :: suite) (envOf name scope L a cd)) Q (notedBy (model prog w) (A.mark (some (.ref e))) (envOf name scope L a cd) (cameBackBy (model prog w) A (envOf name scope L a cd) E)) { s with heap := h' })
    (hk : scope.kind = .function := by rfl) (hix : (envOf name scope L a cd).kindOf (Str.ofString "IndexError") = some .globalImplicit := by rfl) :
    wpAny (model prog w) A (handleBy (.ref e) (envOf name scope L a cd) (.ExceptHandler (some (.Name (Str.ofString "IndexError") np)) none (b₀ :: suite) pos :: rest)) Q E s := by
  refine wpAny_handleBy_builtin ix_isExc ix_notTuple ix_self (b := true) (X := "IndexError") ?_
  refine ld_builtin_at F Tp.g (mg_none_of X Tp.g hi) Tp.b ((Tp.builtins (Str.ofString "IndexError") (by decide)).trans (show bootBuiltins (Str.ofString "IndexError") = some (.type "IndexError") by boot_by_name)) ⟨rfl, ?_, ?_⟩ hk hix (by decide)
  · exact ⟨_, (N _ (.head _)).1, hx.cls⟩
  · rw [if_pos rfl]
    exact trc_flight F N hx hT fun h' oT' F' N' hx' => k h' F' fun p hp => N' p (.tail _ (.tail _ hp))
end
section
variable {prog : Program} {w : World} {A : Around} {E : Value → Shared → Prop} {s : Shared}
/-- an index beyond the list while another exception is handled -/
theorem getItem_out_more {l : Addr} {items : Array Value} {k : Int} {t : Tok} {Q : Value → Shared → Prop} {e₁ : Addr} {o₁ : Obj} {vs₁ : Array Value} (hh : A.handled = some (.ref e₁)) (h1 : s.heap.get? e₁ = some o₁) (hd1 : o₁.data = .fields vs₁) (h2 : vs₁[2]? = some .none)
    (hl : s.heap.IsList l items) (hout : (items.size : Int) ≤ k) (hhi : k < 2 ^ 63)
    (hE : ∀ h' tk e, NewEx2 s.heap h' e "IndexError" → E (.ref e) { s with heap := h', toks := tk }) :
    wpAny (model prog w) A (getItem (.ref l) (.int k t)) Q E s := by
  obtain ⟨o, ho, hc, ne, hd⟩ := id hl
  unfold getItem
  try with_reducible refine wpAny_holding ?_
  first | refine wpAny_bind (wpAny_pure ?_) | skip
  refine wpAny_bind (wpAny_sequenceKey hl.typeIs (by decide) ?_)
  refine wpAny_bind (wpAny_callSpecial?_slot (name := Str.ofString "__getitem__") hl.typeIs slot_list_getitem
    (wpAny_call_entry slot_list_getitem hl.typeIs entry_list_getitem ?_ (args_list_getitem _ _)))
  show wpAny _ _ (Builtin.List.listSubscript? (.int k t) >>= _) _ _ s
  have hlo : -(2 ^ 63) ≤ k := by omega
  refine wpAny_bind (wpAny_listSubscript_int (fitsIndex_both hlo hhi) ?_)
  clear hlo hhi
  cases k with
  | negSucc j => exact absurd hout (by have := Int.negSucc_lt_zero j; omega)
  | ofNat j =>
  have hx : items[j]? = none := Array.getElem?_eq_none (by have : (items.size : Int) ≤ (j : Int) := hout; omega)
  show wpAny _ _ ((seqItemAt l j >>= fun r => pure (r.map (j, ·))) >>= _) _ _ s
  refine wpAny_bind (wpAny_bind (wpAny_seqItemAt ho hd (wpAny_pure ?_)))
  rw [hx]
  first
    | exact wpAny_bind (wpAny_rule (raise_more plainExc_IndexError hh h1 hd1 h2 hE))
    | exact wpAny_bind (wpAny_rule (wpAny_bind (raise_more plainExc_IndexError hh h1 hd1 h2 hE)))
    | exact wpAny_bind (wpAny_bind (wpAny_rule (raise_more plainExc_IndexError hh h1 hd1 h2 hE)))
    | exact wpAny_rule (raise_more plainExc_IndexError hh h1 hd1 h2 hE)
theorem item_out_more {value slice : PySem.Expr} {l : Addr} {items : Array Value} {k : Int} {u : Tok} {Q : Value → Shared → Prop} {e₁ : Addr} {o₁ : Obj} {vs₁ : Array Value} (hh : A.handled = some (.ref e₁)) (h1 : s.heap.get? e₁ = some o₁) (hd1 : o₁.data = .fields vs₁) (h2 : vs₁[2]? = some .none)
    (hl : s.heap.IsList l items) (hout : (items.size : Int) ≤ k) (hhi : k < 2 ^ 63)
    (hE : ∀ h' tk e, NewEx2 s.heap h' e "IndexError" → E (.ref e) { s with heap := h', toks := tk })
    (hs : subscripted slice false (.ref l) (.int k u) = operate [.ref l, .int k u] (getItem (.ref l) (.int k u)) := by with_unfolding_all rfl) :
    wpAny (model prog w) A (subscriptTail value slice (.ref l) (.int k u)) Q E s := by
  exact tail_any hl.typeIs slot_list_getitem.lookup (getItem_out_more hh h1 hd1 h2 hl hout hhi hE) hs
end
section
variable {prog : Program} {w : World} {A A₀ : Around} {s : Shared} {K : Frag} {base h₀ : Heap} {outer : List Env} {L a : Addr} {m mg mb : Str → Option Value} {news : List (Addr × Obj)} {p : Program} {loose : List Str} {mean : ExcName → Option Value}
/-- the way back from a callee that changed the slots of the frames below -/
def BackU (A₀ : Around) (base : Heap) (outer : List Env) (env : Env) (h₀ : Heap) (L : Addr) (m : Str → Option Value) (g : Heap) : Prop :=
  ∀ (A₁ : Around) g' L' h' m' news', Gnd A₁ base (env :: outer) g g' → Fr g' L' h' m' → News g' L' h' news' → ∃ h₀', Gnd A₀ base outer h₀ h₀' ∧ Fr h₀' L h' m ∧ News h₀' L h' news'
theorem code_raw {env : Env} {R : Result → Shared → Prop} {name qual : Str} {params : Arguments} {body : List Stmt} {scope : Scope} {dV kV doc pm cdv ct oc : Value} {an od : Option Addr} {osl : Array (Option Value)} {f : Addr} {args : Args} {binds : List (Str × Value)}
    (B : Below A₀ base outer h₀) (F : Fr h₀ L s.heap m) (X₀ : K.In base) (N : News h₀ L s.heap news) (T : Top p loose mean mg mb base) (hA : A.frames = some (env :: outer)) (hf : env.frame = some L) (hke : env.scope.kind = .function)
    (ho : K.lookup f = some ⟨oc, od, .func (fnOf name qual params body scope dV kV doc pm an cdv ct), osl⟩) (hcd : codeIn K cdv qual = true) (hroom : A.depth < recursionLimit)
    (hbind : BindsTo s (fnOf name qual params body scope dV kV doc pm an cdv ct) args binds) (hloc : ∀ y ∈ binds, scope.names.lookup y.1 = some .local)
    (h : ∀ g L' h₁, Fr g L' h₁ (fun y => binds.reverse.lookup y) → News g L' h₁ news → Below A base (env :: outer) g → K.In g → Top p loose mean mg mb g → BackU A₀ base outer env h₀ L m g →
      wpAny (model prog w) (A.deeper (envOf qual scope L' f cdv)) (execs body (envOf qual scope L' f cdv))
        (fun fl s' => R (.ok (.ret (match fl with | .ret v => v | _ => .none))) s') (fun _ _ => False) { s with heap := h₁, toks := s.toks + binds.length })
    (hco : scope.isCoroutine = false) (hgen : scope.isGenerator = false) (hk : scope.kind = .function)
    (hcell : ∀ x ∈ scope.names, x.2 ≠ .cell) : codeAny (model prog w) A (.call (.ref f) args) R s := by
  obtain ⟨FG, BG, st, lv⟩ := groundX (R := R) B F N hA hf hke
  have Kh := X₀.keeps B.stays
  have KG := Kh.keeps st
  have TG := (T.keeps B.stays).keeps st
  refine codeAny_call_def (fd := fnOf name qual params body scope dV kV doc pm an cdv ct) (body := body) (binds := binds) hroom ((Kh.keeps F.keep) _ _ ho) rfl ((T.keeps B.stays).nolimit.keeps F.keep) (codeRec_of (Kh.keeps F.keep) hcd) rfl hbind hcell hloc (fun h₁ hns hk₁ => ?_) hco hgen hk
  refine wpAny_mono (h (hideAll s.heap (news.map (·.1))) s.heap.objs.size h₁ ⟨hns, fun b o e => hk₁ b o (of_hideAll _ e), Nat.le_of_eq (hideAll_size _ _)⟩
    (fun p hp => ⟨hk₁ _ _ (N p hp).1, Nat.ne_of_lt (Heap.lt_size (N p hp).1), hideAll_none _ (List.mem_map_of_mem hp)⟩) BG KG TG ?_) (fun fl s' hl => hl) fun _ _ y => y.elim
  generalize hideAll s.heap (news.map (·.1)) = G at FG BG st
  intro A₁ g' L' h' m' news' GG F' N'
  have kg : ∀ b o, G.get? b = some o → ∃ sl, h'.get? b = some { o with slots := sl } ∧ (b ∉ (env :: outer).filterMap (·.frame) → sl = o.slots) := fun b o e => by
    obtain ⟨sl, e1⟩ := GG.slots.2.2 b o e
    refine ⟨sl, F'.keep _ _ e1, fun hm => ?_⟩
    have := GG.slots.2.1 b hm
    rw [e, e1] at this
    exact congrArg Obj.slots (Option.some.inj this)
  obtain ⟨oL, es, ep, hL, hLd, hLk, hLf⟩ := FG.ns
  obtain ⟨slL, hL'⟩ := GG.slots.2.2 _ _ hL
  have gn : ∀ b, g'.get? b = none → h₀.get? b = none := fun b hb => by
    cases q : h₀.get? b with
    | none => rfl
    | some o =>
      obtain ⟨sl, e1⟩ := GG.slots.2.2 b o (st b o q)
      rw [hb] at e1; cases e1
  obtain ⟨h₀', B', F₂, N₂, hg, hs⟩ := switch B (h := G) (L := L) (m := m) (news := []) ⟨FG.ns, st, FG.above⟩ (fun _ hp => nomatch hp) (H := h') fun b o e => by
    obtain ⟨sl, e1, e2⟩ := kg b o e
    refine ⟨sl, e1, fun hm => e2 ?_⟩
    rw [List.filterMap_cons, hf]
    exact hm
  refine ⟨h₀', ⟨B', hs, hg⟩, F₂, fun p hp => ⟨(N' p hp).1, fun q => ?_, hg _ (gn _ (N' p hp).2.2)⟩⟩
  have := (N' p hp).2.2
  rw [q, hL'] at this; cases this
end
end Mine
end
section
open PySem PySem.W PyProof.Rows PySem.Calls PySem.Spec
set_option linter.unusedVariables false
namespace Mine
set_option maxRecDepth 100000
section
variable {prog : Program} {w : World} {A A₁ : Around} {E : Value → Shared → Prop} {s : Shared} {base g h : Heap} {outer : List Env} {L a e : Addr} {m : Str → Option Value} {name : Str} {scope : Scope} {cd : Value} {news : List (Addr × Obj)} {C : Value → Prop}
  {K : Frag} {p : Program} {loose : List Str} {mean : ExcName → Option Value} {mg mb : Str → Option Value}
/-- a loop of which the test fails at once -/
theorem while_once {env : Env} {test : Expr} {body : List Stmt} {pos : Pos} {Q : Flow → Shared → Prop} (hE : PassesOwn (model prog w) A env E)
    (h : wpAny (model prog w) A (isTrue test env (eval test env)) (fun b s₂ => b = false ∧ Q .next s₂) E s) : wpAny (model prog w) A (exec (.While test body [] pos) env) Q E s := by
  refine wpAny_While (codeAny_whileLoop (fun _ s' => s' = s) ?_ 0 rfl)
  rintro n s' rfl
  refine wpAny_mono h (fun b s₂ h₂ => ?_) hE
  obtain ⟨rfl, hq⟩ := h₂
  rw [if_neg (by decide)]
  exact wpAny_execs_nil hq
/-- try .. except IndexError -/
theorem try_ix {body : List Stmt} {b₀ : Stmt} {suite : List Stmt} {pos hpos np : Pos} {Q : Flow → Shared → Prop} (J : (Str → Option Value) → List (Addr × Obj) → Prop) (B : Below A base outer g) (X : K.In base) (Tp : Top p loose mean mg mb base) (hi : nsIn K mainGlobals (Str.ofString "IndexError") = some none)
    (hbody : wpAny (model prog w) (A.deeper (envOf name scope L a cd)) (execs body (envOf name scope L a cd)) (fun f s₁ => match f with | .next => Q .next s₁ | f => Q f s₁) (ExE (fun _ => True) A base outer g L s J) s)
    (hh : ∀ e h' tk m news g₁, J m news → Gnd A base outer g g₁ → K.In g₁ → Top p loose mean mg mb g₁ → Fr g₁ L h' m → News g₁ L h' news →
      wpAny (model prog w) ((A.deeper (envOf name scope L a cd)).mark (some (.ref e))) (execs (b₀ :: suite) (envOf name scope L a cd)) Q
        (notedBy (model prog w) ((A.deeper (envOf name scope L a cd)).mark (some (.ref e))) (envOf name scope L a cd) (cameBackBy (model prog w) (A.deeper (envOf name scope L a cd)) (envOf name scope L a cd) E)) { s with heap := h', toks := tk })
    (hk : scope.kind = .function := by rfl) (hix : (envOf name scope L a cd).kindOf (Str.ofString "IndexError") = some .globalImplicit := by rfl) :
    wpAny (model prog w) (A.deeper (envOf name scope L a cd)) (exec (.Try body [.ExceptHandler (some (.Name (Str.ofString "IndexError") np)) none (b₀ :: suite) hpos] [] [] pos) (envOf name scope L a cd)) Q E s := by
  refine wpAny_Try_except (wpAny_mono hbody (fun f s₁ hf => ?_) fun v s' x => ?_)
  · cases f <;> first | exact hf | exact wpAny_execs_nil hf
  refine exE_note x (fun e g₁ h' tk m news T oe oT c2 hv hJ G F N hx hT _ => ?_) rfl hk
  subst hv
  have Xg := X.keeps G.below.stays
  have Tg := Tp.keeps G.below.stays
  refine trc_flight (s' := { s with heap := h', toks := tk }) F N hx hT fun h₂ oT' F₂ N₂ hx₂ => ?_
  exact ix_handle (s := { s with heap := h₂, toks := tk }) F₂ N₂ hx₂ hT Xg (topRead_of Tg) hi (fun h₃ F₃ N₃ => hh e h₃ tk m news g₁ hJ G Xg Tg F₃ N₃) hk hix
/-- try .. finally over what may raise IndexError -/
theorem fin_ix {body : List Stmt} {f₀ : Stmt} {fs : List Stmt} {pos : Pos} {Q : Flow → Shared → Prop} {s₀ : Shared} {g₀ : Heap} (J J' : (Str → Option Value) → List (Addr × Obj) → Prop) (B : Below A base outer g) (X : K.In base) (Tp : Top p loose mean mg mb base)
    (hbody : wpAny (model prog w) (A.deeper (envOf name scope L a cd)) (execs body (envOf name scope L a cd))
      (fun f s₁ => f = .next ∧ wpAny (model prog w) (A.deeper (envOf name scope L a cd)) (execs (f₀ :: fs) (envOf name scope L a cd)) Q (ExE C A base outer g₀ L s₀ J') s₁) (ExE (fun c => c = .none) A base outer g L s J) s)
    (hh : ∀ e h' tk m news g₁ oe vs T, J m news → Gnd A base outer g g₁ → K.In g₁ → Top p loose mean mg mb g₁ → Fr g₁ L h' m → News g₁ L h' ((e, oe) :: news) → oe.data = .fields vs → vs[2]? = some .none → (∀ p ∈ news, p.1 ≠ T) → oe.cls = .type "IndexError" →
      wpAny (model prog w) ((A.deeper (envOf name scope L a cd)).mark (some (.ref e))) (execs (f₀ :: fs) (envOf name scope L a cd)) (fun _ _ => False) (ExE C A base outer g₀ L s₀ J') { s with heap := h', toks := tk })
    (hk : scope.kind = .function := by rfl) :
    wpAny (model prog w) (A.deeper (envOf name scope L a cd)) (exec (.Try body [] [] (f₀ :: fs) pos) (envOf name scope L a cd)) Q (ExE C A base outer g₀ L s₀ J') s := by
  have raised : ∀ v s', ExE (fun c => c = .none) A base outer g L s J v s' → FinallyRaised prog w (A.deeper (envOf name scope L a cd)) (ExE C A base outer g₀ L s₀ J') (envOf name scope L a cd) (f₀ :: fs) Q v s' := fun v s' x => by
    refine ⟨?_, ?_⟩
    · obtain ⟨e, _, _, _, _, _, rfl, _⟩ := x
      exact ref_ne_byPass e
    refine exE_note x (fun e g₁ h' tk m news T oe oT c2 hv hJ G F N hx hT hc => ?_) rfl hk
    subst hv
    subst hc
    refine trc_flight (s' := { s with heap := h', toks := tk }) F N hx hT fun h₂ oT' F₂ N₂ hx₂ => ?_
    obtain ⟨vs, hd, h1, h2⟩ := hx₂.dat
    refine wpAny_mono (hh e h₂ tk m news g₁ oe vs T hJ G (X.keeps G.below.stays) (Tp.keeps G.below.stays) F₂ (fun p hp => ?_) hd h2 hT hx₂.cls) (fun _ _ q => q.elim) (exE_own rfl hk)
    rcases List.mem_cons.mp hp with rfl | hp
    · exact N₂ _ (.head _)
    · exact N₂ _ (.tail _ (.tail _ hp))
  refine wpAny_Try_finally (wpAny_mono hbody (fun f s₁ hf => ?_) fun v s' x => ?_)
  · obtain ⟨rfl, hf⟩ := hf
    refine wpAny_execs_nil ?_
    refine wpAny_mono hf (fun g s₂ hg => ?_) (exE_own rfl hk)
    cases g <;> exact hg
  · refine exE_note x (fun e g₁ h' tk m news T oe oT c2 hv hJ G F N hx hT hc => ?_) rfl hk
    subst hv
    exact raised _ _ ⟨e, h', tk, m, news, g₁, rfl, rfl, hJ, G, .inr ⟨T, oe, oT, c2, F, N, hx, hT, hc⟩⟩
/-- an item beyond a list: nothing handled -/
theorem item_ixA {value slice : Expr} {l : Addr} {items : Array Value} {k : Int} {u : Tok} {Q : Value → Shared → Prop} {s₀ : Shared} {h₁ : Heap} {tk₁ : Nat} {g₀ : Heap} {J : (Str → Option Value) → List (Addr × Obj) → Prop}
    (B : Below A base outer g) (F : Fr g L h₁ m) (N : News g L h₁ news) (hJ : J m news) (G : Gnd A base outer g₀ g) (hC : C .none)
    (hA : A₁.handled = none) (hl : h₁.IsList l items) (hout : (items.size : Int) ≤ k) (hhi : k < 2 ^ 63)
    (hs : subscripted slice false (.ref l) (.int k u) = operate [.ref l, .int k u] (getItem (.ref l) (.int k u)) := by with_unfolding_all rfl) :
    wpAny (model prog w) A₁ (subscriptTail value slice (.ref l) (.int k u)) Q (ExE C A base outer g₀ L s₀ J) { s₀ with heap := h₁, toks := tk₁ } := by
  refine item_outK hA hl (.inr hout) (by omega) hhi (fun h' tk e x => ?_) hs
  obtain ⟨ob, tp, he, hc, hd⟩ := x.there
  exact ⟨e, h', tk, m, news, g, rfl, rfl, hJ, G, .inl ⟨h₁, ob, _, .none, F, N, x.keeps, x.new, he, hc, hd, rfl, rfl, hC⟩⟩
/-- an item beyond a list, another exception in hand -/
theorem item_ixB {value slice : Expr} {l : Addr} {items : Array Value} {k : Int} {u : Tok} {Q : Value → Shared → Prop} {s₀ : Shared} {h₁ : Heap} {tk₁ : Nat} {g₀ : Heap} {J : (Str → Option Value) → List (Addr × Obj) → Prop} {e₁ : Addr} {o₁ : Obj} {vs₁ : Array Value}
    (B : Below A base outer g) (F : Fr g L h₁ m) (N : News g L h₁ news) (hJ : J m news) (G : Gnd A base outer g₀ g) (hC : ∀ c, C c)
    (hA : A₁.handled = some (.ref e₁)) (h1 : h₁.get? e₁ = some o₁) (hd1 : o₁.data = .fields vs₁) (h2 : vs₁[2]? = some .none) (hl : h₁.IsList l items) (hout : (items.size : Int) ≤ k) (hhi : k < 2 ^ 63)
    (hs : subscripted slice false (.ref l) (.int k u) = operate [.ref l, .int k u] (getItem (.ref l) (.int k u)) := by with_unfolding_all rfl) :
    wpAny (model prog w) A₁ (subscriptTail value slice (.ref l) (.int k u)) Q (ExE C A base outer g₀ L s₀ J) { s₀ with heap := h₁, toks := tk₁ } := by
  refine item_out_more hA h1 hd1 h2 hl hout hhi (fun h' tk e x => ?_) hs
  obtain ⟨ob, vs, c2, he, hc, hd, q1, q2⟩ := x.there
  exact ⟨e, h', tk, m, news, g, rfl, rfl, hJ, G, .inl ⟨h₁, ob, vs, c2, F, N, x.keeps, x.new, he, hc, hd, q1, q2, hC _⟩⟩
end
end Mine
end
section
open PySem PySem.W PyProof.Rows PySem.Calls PySem.Spec
set_option linter.unusedVariables false
namespace Mine
set_option maxRecDepth 100000
section
variable {prog : Program} {w : World} {A A₀ : Around} {s : Shared} {K : Frag} {base h₀ : Heap} {outer : List Env} {L a : Addr} {m mg mb : Str → Option Value} {news : List (Addr × Obj)} {p : Program} {loose : List Str} {mean : ExcName → Option Value}
theorem backU_of {env : Env} {G : Heap} (B : Below A₀ base outer h₀) (FG : Fr h₀ L G m) (st : h₀.StaysIn G) (hf : env.frame = some L) : BackU A₀ base outer env h₀ L m G := by
  intro A₁ g' L' h' m' news' GG F' N'
  have kg : ∀ b o, G.get? b = some o → ∃ sl, h'.get? b = some { o with slots := sl } ∧ (b ∉ (env :: outer).filterMap (·.frame) → sl = o.slots) := fun b o e => by
    obtain ⟨sl, e1⟩ := GG.slots.2.2 b o e
    refine ⟨sl, F'.keep _ _ e1, fun hm => ?_⟩
    have := GG.slots.2.1 b hm
    rw [e, e1] at this
    exact congrArg Obj.slots (Option.some.inj this)
  obtain ⟨oL, es, ep, hL, hLd, hLk, hLf⟩ := FG.ns
  obtain ⟨slL, hL'⟩ := GG.slots.2.2 _ _ hL
  have gn : ∀ b, g'.get? b = none → h₀.get? b = none := fun b hb => by
    cases q : h₀.get? b with
    | none => rfl
    | some o =>
      obtain ⟨sl, e1⟩ := GG.slots.2.2 b o (st b o q)
      rw [hb] at e1; cases e1
  obtain ⟨h₀', B', F₂, N₂, hg, hs⟩ := switch B (h := G) (L := L) (m := m) (news := []) ⟨FG.ns, st, FG.above⟩ (fun _ hp => nomatch hp) (H := h') fun b o e => by
    obtain ⟨sl, e1, e2⟩ := kg b o e
    refine ⟨sl, e1, fun hm => e2 ?_⟩
    rw [List.filterMap_cons, hf]
    exact hm
  refine ⟨h₀', ⟨B', hs, hg⟩, F₂, fun p hp => ⟨(N' p hp).1, fun q => ?_, hg _ (gn _ (N' p hp).2.2)⟩⟩
  have := (N' p hp).2.2
  rw [q, hL'] at this; cases this
theorem code_rawC {env : Env} {R : Result → Shared → Prop} {name qual : Str} {params : Arguments} {body : List Stmt} {scope : Scope} {dV kV doc pm cdv ct oc : Value} {an od : Option Addr} {osl : Array (Option Value)} {f : Addr} {args : Args} {binds : List (Str × Value)}
    (B : Below A₀ base outer h₀) (F : Fr h₀ L s.heap m) (X₀ : K.In base) (N : News h₀ L s.heap news) (T : Top p loose mean mg mb base) (hA : A.frames = some (env :: outer)) (hf : env.frame = some L) (hke : env.scope.kind = .function)
    (ho : K.lookup f = some ⟨oc, od, .func (fnOf name qual params body scope dV kV doc pm an cdv ct), osl⟩) (hcd : codeIn K cdv qual = true) (hroom : A.depth < recursionLimit)
    (hbind : BindsTo s (fnOf name qual params body scope dV kV doc pm an cdv ct) args binds) (hkind : (binds.all fun y => scope.names.lookup y.1 == some .local || scope.names.lookup y.1 == some .cell) = true)
    (hnd : ((cellsFrom 0 scope.names []).map (·.1)).Nodup)
    (h : ∀ g L' h₁ tk cells, Fr g L' h₁ (bindL (envOfC qual scope L' f cdv).kindOf binds fun _ => none) → News g L' h₁ (cells ++ news) →
      CellsAre (bindC (envOfC qual scope L' f cdv).kindOf binds fun _ => none) (cellsFrom (L' + 1) scope.names []) cells → Below A base (env :: outer) g → K.In g → Top p loose mean mg mb g → BackU A₀ base outer env h₀ L m g → (∀ p ∈ news, p.1 < L') →
      wpAny (model prog w) (A.deeper (envOfC qual scope L' f cdv)) (execs body (envOfC qual scope L' f cdv))
        (fun fl s' => R (.ok (.ret (match fl with | .ret v => v | _ => .none))) s') (fun _ _ => False) { s with heap := h₁, toks := tk })
    (hco : scope.isCoroutine = false) (hgen : scope.isGenerator = false) (hk : scope.kind = .function) : codeAny (model prog w) A (.call (.ref f) args) R s := by
  obtain ⟨FG, BG, st, lv⟩ := groundX (R := R) B F N hA hf hke
  have Kh := X₀.keeps B.stays
  have KG := Kh.keeps st
  have TG := (T.keeps B.stays).keeps st
  refine codeAny_call_function hroom ((Kh.keeps F.keep) _ _ ho) rfl hco hgen rfl (codeRec_of (Kh.keeps F.keep) hcd) (hbind _ _ _ _ ?_)
  refine wpAny_newFunctionEnv_cells hk (kindsX hkind _) fun env' he s' x => ?_
  subst he
  refine ⟨((T.keeps B.stays).nolimit.keeps F.keep).keeps x.toInCall.keep, codeAny_func ?_⟩
  obtain ⟨h₁, tk, rfl, _⟩ := x.done
  have hk₁ := x.toInCall.keep
  obtain ⟨cells, NC, Y⟩ := Cl.news (h₀ := s.heap) (Nat.le_refl _) fun n c hm => ⟨x.cell n c (lookup_of_mem_nodup (cellsFrom_names scope.names 0 (s.heap.objs.size + 1) [] [] rfl ▸ hnd) hm), x.above n c hm⟩
  refine wpAny_mono (h (hideAll s.heap (news.map (·.1))) s.heap.objs.size h₁ tk cells ⟨x.toInCall.ns, fun b o e => hk₁ b o (of_hideAll _ e), Nat.le_of_eq (hideAll_size _ _)⟩ (fun p hp => ?_) Y BG KG TG (backU_of B FG st hf) (fun p hp => Heap.lt_size (N p hp).1)) (fun fl s' hl => hl) fun _ _ y => y.elim
  rcases List.mem_append.mp hp with hp | hp
  · refine ⟨(NC p hp).1, (NC p hp).2.1, ?_⟩
    cases q : (hideAll s.heap (news.map (·.1))).get? p.1 with
    | none => rfl
    | some o => have := of_hideAll _ q; rw [(NC p hp).2.2] at this; cases this
  · exact ⟨hk₁ _ _ (N p hp).1, Nat.ne_of_lt (Heap.lt_size (N p hp).1), hideAll_none _ (List.mem_map_of_mem hp)⟩
end
end Mine
end
section
open PySem PySem.W PyProof.Rows PySem.Calls PySem.Spec
set_option linter.unusedVariables false
namespace Mine
set_option maxRecDepth 100000
section
variable {M : Model} {A : Around} {E : Value → Shared → Prop} {s : Shared} {h₀ : Heap} {L a : Addr} {m : Str → Option Value} {cn : Str} {cs : Scope} {ccd : Value} {cl : List (Str × Addr)} {x : Str} {v : Value} {c : Addr} {o : Obj} {u : Option Value} {rest : List (Addr × Obj)} {Q : Unit → Shared → Prop}
/-- a name of the frame that is a cell -/
theorem store_cell (F : Fr h₀ L s.heap m) (N : News h₀ L s.heap ((c, o) :: rest)) (hd : o.data = .cell u) (hr : ∀ p ∈ rest, p.1 ≠ c) (hc : cl.lookup x = some c)
    (h : ∀ h' o', Fr h₀ L h' m → News h₀ L h' ((c, o') :: rest) → o'.data = .cell (some v) → Q () { s with heap := h' })
    (hk : cs.kind = .function := by rfl) (hx : (envX cn cs L a ccd cl).kindOf x = some .cell := by rfl) : wpAny M A (storeName (envX cn cs L a ccd cl) x v) Q E s := by
  have hmem := N _ (.head _)
  refine wpAny_storeName_cell hk hx hc ⟨o, hmem.1, hd⟩ fun h' hv hs => ?_
  obtain ⟨o', ho', hd'⟩ := hv
  refine h h' o' (F.change hs hmem.2.1 hmem.2.2) (fun p hp => ?_) hd'
  rcases List.mem_cons.mp hp with rfl | hp
  · exact ⟨ho', hmem.2⟩
  · exact ⟨hs.extBut _ _ (hr p hp) (N p (.tail _ hp)).1, (N p (.tail _ hp)).2⟩
theorem news_of {h : Heap} {n₁ n₂ : List (Addr × Obj)} (N : News h₀ L h n₁) (k : ∀ p ∈ n₂, p ∈ n₁) : News h₀ L h n₂ := fun p hp => N p (k p hp)
end
end Mine
end
section
open PySem PySem.W PyProof.Rows PySem.Calls PySem.Spec
set_option linter.unusedVariables false
namespace Mine
set_option maxRecDepth 100000
set_option maxHeartbeats 8000000

/-- the contract of a def that may change the slots of the frames below -/
def SpcU (w : World) (lv : Nat) (f : Addr) (vs : List Value) (P : List (Addr × Obj) → Prop) (R : List (Addr × Obj) → Value → List (Addr × Obj) → Prop) : Prop :=
  ∀ (p : Program) (loose : List Str) (mean : ExcName → Option Value) (mg mb : Str → Option Value) (dp un : Nat) (gd : Option (List Code)) (cn : Str) (cs : Scope) (a : Addr) (ccd : Value) (cl : List (Str × Addr)) (outer : List Env) (A₀ : Around) (base h₀ : Heap) (L : Addr) (m : Str → Option Value) (news : List (Addr × Obj)) (s : Shared) (Q E : Value → Shared → Prop),
    Below A₀ base outer h₀ → Fr h₀ L s.heap m → (K w.params).In base → News h₀ L s.heap news → Top p loose mean mg mb base → cs.kind = .function → P news → dp + lv < recursionLimit → un + 16 * lv < cLine →
    (∀ v h₀' h' tk' news', Gnd A₀ base outer h₀ h₀' → Fr h₀' L h' m → News h₀' L h' news' → R news v news' → Q v { s with heap := h', toks := tk' }) →
    wpAny (model PySem.Challenge.rw_in0242_01.row.prog w) (ktrTop dp un gd cn cs L a ccd cl outer) (call (.ref f) vs) Q E s
theorem drop_pick (vs : List Value) (i : Nat) : (slicePick vs.toArray (some (i : Int)) none none).toList = vs.drop i := by
  rw [slicePick_from']
theorem strs_fin {es as : List Nat} {vs vE : List Value} {i : Nat} (sE : es.Pairwise (· < ·)) (has : ∀ a ∈ as, a ∈ es.take i) (hvs : StrsAre vs (((es.take i).filter fun n => !as.contains n).map wd)) (hE : StrsAre vE (es.map wd)) :
    StrsAre (vs ++ (List.drop i vE).toArray.toList) ((es.filter fun n => !as.contains n).map wd) := by
  rw [← inv_fin sE has, List.map_append, List.map_drop]
  exact hvs.append' (hE.drop' i)
theorem diff_spc (w : World) (es as : List Nat) (vE vA : List Value) (lE lA : Addr) (nE nA : Nat) (hE : StrsAre vE (es.map wd)) (hA : StrsAre vA (as.map wd)) (sE : es.Pairwise (· < ·)) (sA : as.Pairwise (· < ·)) (hsub : ∀ a ∈ as, a ∈ es) (h2 : ∀ a ∈ es, a < 256) (hlen : es.length ≤ 11) (hlenA : as.length ≤ 11) :
    SpcU w 1 83 [.ref lE, .ref lA] (fun nw => (lE, listOf vE.toArray nE) ∈ nw ∧ (lA, listOf vA.toArray nA) ∈ nw) (fun nw v nw' => ∃ T D U vs n nu, v = .ref T ∧ StrsAre vs ((es.filter fun n => !as.contains n).map wd) ∧ nw' = (T, { cls := .type "tuple", data := .seq #[.ref D, .ref U] }) :: (U, listOf #[] nu) :: (D, listOf vs.toArray n) :: nw ∧ ∀ p ∈ nw, p.1 ≠ D ∧ p.1 ≠ U) := by
  unfold SpcU
  k_fill
  intro p loose mean mg mb dp un gd cn cs a ccd cl outer A₀ base h₀ L m news s Q E B F X N Tp hk hP hd hu hret
  refine wpAny_call ?_
  k_dflt (refine' code_raw (K := K w.params) ?k1 ?k2 ?k3 ?k4 ?k5 ?kA ?kF ?kK ?k6 ?k7 ?k8 ?k9 ?kB ?_ ?c2 ?c3 ?c4 ?c5; (case kA => exact rfl); (case kF => exact rfl); (case kK => assumption); (case k1 => exact B); (case k2 => exact F); (case k3 => exact X); (case k4 => exact N); (case k5 => exact Tp); (case k6 => k_is); (case k7 => k_is); (case k8 => ktr_room); (case k9 => exact BindsTo.of_eq rfl); (case c5 => decide); (case kB => exact locs rfl); (case c2 => exact rfl); (case c3 => exact rfl); (case c4 => exact rfl); k_whole; intro g' L' h' F' N' B' X' T' U'; (try dsimp only); (try k_fold))
  obtain ⟨hPE, hPA⟩ := hP
  repeat' (first
    | ((fail_if_success (with_reducible show wpAny _ _ (execs (Stmt.Assign _ (Expr.List _ _) _ :: Stmt.While _ _ _ _ :: _) _) _ _ _)); first
        | ((with_reducible show wpAny _ _ (newList _) _ _ _); refine' newList_K ?F ?N ?_; (case F => assumption); (case N => assumption); intro l8 hl F8 N8 ol; (try k_lt ol); (try k_sweep))
        | ((with_reducible refine wpAny_execs_nil ?_); (try dsimp only))
        | (with_reducible refine wpAny_If ?_)
        | ((with_reducible show ite (_ = true) _ _); (fail_if_success (with_reducible show ite (((_ : Bool) == _) = true) _ _)); first | refine PySem.W.ite_neg (Bool.eq_false_iff.mp rfl) ?_ | refine PySem.W.ite_pos rfl ?_)
        | (k_unfold; (try dsimp only)) | (k_end; wrow_close) | walk1 | (dsimp only; walk1) | (leave1; walk_say "STEP leave1"; try dsimp only) | fail "no step"))
  repeat' (first
    | ((fail_if_success (with_reducible show wpAny _ _ (execs (Stmt.While _ _ _ _ :: _) _) _ _ _)); first
        | ((with_reducible show wpAny _ _ (newList _) _ _ _); refine' newList_K ?F ?N ?_; (case F => assumption); (case N => assumption); intro u8 hu F8 N8 ou; (try k_lt ou); (try k_sweep))
        | ((with_reducible refine wpAny_execs_nil ?_); (try dsimp only))
        | (with_reducible refine wpAny_If ?_)
        | ((with_reducible show ite (_ = true) _ _); (fail_if_success (with_reducible show ite (((_ : Bool) == _) = true) _ _)); first | refine PySem.W.ite_neg (Bool.eq_false_iff.mp rfl) ?_ | refine PySem.W.ite_pos rfl ?_)
        | (k_unfold; (try dsimp only)) | (k_end; wrow_close) | walk1 | (dsimp only; walk1) | (leave1; walk_say "STEP leave1"; try dsimp only) | fail "no step"))
  repeat' (first
    | ((fail_if_success (with_reducible show wpAny _ _ (exec (Stmt.While _ _ _ _) _) _ _ _)); first
        | ((with_reducible refine wpAny_execs_nil ?_); (try dsimp only))
        | (with_reducible refine wpAny_If ?_)
        | ((with_reducible show ite (_ = true) _ _); (fail_if_success (with_reducible show ite (((_ : Bool) == _) = true) _ _)); first | refine PySem.W.ite_neg (Bool.eq_false_iff.mp rfl) ?_ | refine PySem.W.ite_pos rfl ?_)
        | (k_unfold; (try dsimp only)) | (k_end; wrow_close) | walk1 | (dsimp only; walk1) | (leave1; walk_say "STEP leave1"; try dsimp only) | fail "no step"))
  refine' While_inv2 (fun k m₁ nx => ∃ (i j : Nat) (ti tj : Tok) (vs : List Value) (n : Nat), k = es.length - i ∧ Inv es as i j ∧ StrsAre vs (((es.take i).filter fun n => !as.contains n).map wd) ∧ nx = (u8, listOf #[] 0) :: (l8, listOf vs.toArray n) :: news ∧ Pins m₁ [(Str.ofString "i", Value.int i ti), (Str.ofString "j", Value.int j tj), (Str.ofString "expected", Value.ref lE), (Str.ofString "actual", Value.ref lA), (Str.ofString "missing", Value.ref l8), (Str.ofString "unexpected", Value.ref u8)]) (n₀ := es.length) ?kF ?kN ?kj ?kt
  case kF => assumption
  case kN => assumption
  case kj => exact ⟨0, 0, _, _, [], 0, rfl, inv_0 hsub, .nil, rfl, pin_cons rfl (pin_cons rfl (pin_cons rfl (pin_cons rfl (pin_cons rfl (pin_cons rfl (pin_nil))))))⟩
  rintro k m₁ nx₁ h tk F₁ N₁ ⟨i, j, ti, tj, vs, n, rfl, hI, hvs, rfl, hps₁⟩
  replace F₁ := fr_pin (ps := [(Str.ofString "i", Value.int i ti), (Str.ofString "j", Value.int j tj), (Str.ofString "expected", Value.ref lE), (Str.ofString "actual", Value.ref lA), (Str.ofString "missing", Value.ref l8), (Str.ofString "unexpected", Value.ref u8)]) hps₁ F₁
  clear hps₁
  repeat' (first
    | ((fail_if_success (with_reducible show wpAny _ _ (exec (Stmt.Try _ _ _ _ _) _) _ _ _)); first
        | ((with_reducible refine wpAny_execs_nil ?_); (try dsimp only))
        | (with_reducible refine wpAny_If ?_)
        | ((with_reducible show ite (_ = true) _ _); (fail_if_success (with_reducible show ite (((_ : Bool) == _) = true) _ _)); first | refine PySem.W.ite_neg (Bool.eq_false_iff.mp rfl) ?_ | refine PySem.W.ite_pos rfl ?_)
        | (k_unfold; (try dsimp only)) | (k_end; wrow_close) | walk1 | (dsimp only; walk1) | (leave1; walk_say "STEP leave1"; try dsimp only) | fail "no step"))
  have zE : vE.toArray.size = es.length := by rw [List.size_toArray, strs_len hE, List.length_map]
  have zA : vA.toArray.size = as.length := by rw [List.size_toArray, strs_len hA, List.length_map]
  refine try_ix (K := K w.params) (fun m nx => ∃ (i : Nat) (ti tj : Tok) (vs : List Value) (n : Nat), i ≤ es.length ∧ StrsAre vs (((es.take i).filter fun n => !as.contains n).map wd) ∧ (∀ a ∈ as, a ∈ es.take i) ∧ nx = (u8, listOf #[] 0) :: (l8, listOf vs.toArray n) :: news ∧ Pins m [(Str.ofString "i", Value.int i ti), (Str.ofString "j", Value.int as.length tj), (Str.ofString "expected", Value.ref lE), (Str.ofString "actual", Value.ref lA), (Str.ofString "missing", Value.ref l8), (Str.ofString "unexpected", Value.ref u8)]) B' X Tp (by with_unfolding_all rfl) ?hb ?hh
  case hb =>
    have hi := hI.1
    have hj := hI.2.1
    repeat' (first
      | ((fail_if_success (with_reducible show wpAny _ _ (subscriptTail (Expr.Name (Str.ofString "expected") _) _ _ _) _ _ _)); first
          | ((with_reducible refine wpAny_execs_nil ?_); (try dsimp only))
          | (with_reducible refine wpAny_If ?_)
          | ((with_reducible show ite (_ = true) _ _); (fail_if_success (with_reducible show ite (((_ : Bool) == _) = true) _ _)); first | refine PySem.W.ite_neg (Bool.eq_false_iff.mp rfl) ?_ | refine PySem.W.ite_pos rfl ?_)
          | (k_unfold; (try dsimp only)) | (k_end; wrow_close) | walk1 | (dsimp only; walk1) | (leave1; walk_say "STEP leave1"; try dsimp only) | fail "no step"))
    dsimp only
    rcases Nat.lt_or_ge i es.length with i1 | i1
    rotate_left
    · obtain ⟨e1, e2⟩ := inv_end1 hsub hI i1
      subst e1
      refine item_ixA B' (by assumption) (by assumption) (⟨i, ti, tj, vs, n, hI.1, hvs, e2, rfl, pin_cons rfl (pin_cons rfl (pin_cons rfl (pin_cons rfl (pin_cons rfl (pin_cons rfl (pin_nil))))))⟩) (Gnd.rfl B') trivial rfl (by (rename News _ _ _ _ => lN'); exact News.isList lN' (.tail _ (.tail _ hPE))) (by rw [zE]; omega) (by omega)
    refine item_wd hE (by (rename News _ _ _ _ => lN'); exact News.isList lN' (.tail _ (.tail _ hPE))) rfl i1 (by omega) (fun te => ?_)
    repeat' (first
      | ((fail_if_success (with_reducible show wpAny _ _ (subscriptTail (Expr.Name (Str.ofString "actual") _) _ _ _) _ _ _)); first
          | ((with_reducible refine wpAny_execs_nil ?_); (try dsimp only))
          | (with_reducible refine wpAny_If ?_)
          | ((with_reducible show ite (_ = true) _ _); (fail_if_success (with_reducible show ite (((_ : Bool) == _) = true) _ _)); first | refine PySem.W.ite_neg (Bool.eq_false_iff.mp rfl) ?_ | refine PySem.W.ite_pos rfl ?_)
          | (k_unfold; (try dsimp only)) | (k_end; wrow_close) | walk1 | (dsimp only; walk1) | (leave1; walk_say "STEP leave1"; try dsimp only) | fail "no step"))
    dsimp only
    rcases Nat.lt_or_ge j as.length with j1 | j1
    rotate_left
    · obtain ⟨e1, e2⟩ := inv_end2 hI j1
      subst e1
      refine item_ixA B' (by assumption) (by assumption) (⟨i, ti, tj, vs, n, hI.1, hvs, e2, rfl, pin_cons rfl (pin_cons rfl (pin_cons rfl (pin_cons rfl (pin_cons rfl (pin_cons rfl (pin_nil))))))⟩) (Gnd.rfl B') trivial rfl (by (rename News _ _ _ _ => lN'); exact News.isList lN' (.tail _ (.tail _ hPA))) (by rw [zA]; omega) (by omega)
    refine item_wd hA (by (rename News _ _ _ _ => lN'); exact News.isList lN' (.tail _ (.tail _ hPA))) rfl j1 (by omega) (fun ta => ?_)
    repeat' (first
      | ((fail_if_success (with_reducible show wpAny _ _ (compareOp _ _ _) _ _ _)); first
          | ((with_reducible refine wpAny_execs_nil ?_); (try dsimp only))
          | (with_reducible refine wpAny_If ?_)
          | ((with_reducible show ite (_ = true) _ _); (fail_if_success (with_reducible show ite (((_ : Bool) == _) = true) _ _)); first | refine PySem.W.ite_neg (Bool.eq_false_iff.mp rfl) ?_ | refine PySem.W.ite_pos rfl ?_)
          | (k_unfold; (try dsimp only)) | (k_end; wrow_close) | walk1 | (dsimp only; walk1) | (leave1; walk_say "STEP leave1"; try dsimp only) | fail "no step"))
    rcases Nat.lt_or_ge es[i] as[j] with c1 | c1
    · obtain ⟨i2, I2, f2⟩ := inv_A sE sA hI i1 j1 c1
      refine lt_wd (h2 _ (List.getElem_mem _)) (h2 _ (hsub _ (List.getElem_mem _))) (decide_eq_true c1) ?_
      repeat' (first
        | ((fail_if_success (with_reducible show wpAny _ _ (exec (Stmt.While _ _ _ _) _) _ _ _)); first
            | ((with_reducible show wpAny _ _ (getAttr (Value.ref _) _ _) _ _ _); (refine' getAppend_K ?F ?N ?hm ?_; (case F => assumption); (case N => assumption); (case hm => k_mem); intro b9 h9 tk9 F9 N9 l9; (try k_lt l9)))
            | ((with_reducible show wpAny _ _ (call (Value.ref _) [_]) _ _ _); refine' callAppend_K ?F ?N ?hb ?U ?sz ?_; (case F => assumption); (case N => assumption); (case hb => k_mem); (case U => k_upd); (case sz => first | exact Nat.le_of_ble_eq_true rfl | size_fits); intro h9 F9 N9)
            | ((try dsimp only); (with_reducible show wpAny _ _ (callWith _ (Value.ref _) _ (backTo _ (starEach (_ :: _) _)) []) _ _ _); refine' callWith_app ?N ?hb ?_; (case N => assumption); (case hb => k_mem))
            | ((with_reducible show AppAt _ _ _ ∧ _); refine' ⟨app_at ?N ?hm, ?_⟩; (case N => assumption); (case hm => k_mem))
            | ((with_reducible refine wpAny_execs_nil ?_); (try dsimp only))
            | (with_reducible refine wpAny_If ?_)
            | ((with_reducible show ite (_ = true) _ _); (fail_if_success (with_reducible show ite (((_ : Bool) == _) = true) _ _)); first | refine PySem.W.ite_neg (Bool.eq_false_iff.mp rfl) ?_ | refine PySem.W.ite_pos rfl ?_)
            | (k_unfold; (try dsimp only)) | (k_end; wrow_close) | walk1 | (dsimp only; walk1) | (leave1; walk_say "STEP leave1"; try dsimp only) | fail "no step"))
      refine while_once (exE_self rfl) ?_
      repeat' (first
        | ((fail_if_success (with_reducible show wpAny _ _ (subscriptTail (Expr.Name (Str.ofString "expected") _) _ _ _) _ _ _)); first
            | ((with_reducible refine wpAny_execs_nil ?_); (try dsimp only))
            | (with_reducible refine wpAny_If ?_)
            | ((with_reducible show ite (_ = true) _ _); (fail_if_success (with_reducible show ite (((_ : Bool) == _) = true) _ _)); first | refine PySem.W.ite_neg (Bool.eq_false_iff.mp rfl) ?_ | refine PySem.W.ite_pos rfl ?_)
            | (k_unfold; (try dsimp only)) | (k_end; wrow_close) | walk1 | (dsimp only; walk1) | (leave1; walk_say "STEP leave1"; try dsimp only) | fail "no step"))
      dsimp only
      refine item_wd (k := i + 1) hE (by (rename News _ _ _ _ => lN'); exact News.isList lN' (.tail _ (.tail _ hPE))) (by omega) i2 (by omega) (fun t2 => ?_)
      repeat' (first
        | ((fail_if_success (with_reducible show wpAny _ _ (compareOp _ _ _) _ _ _)); first
            | ((with_reducible refine wpAny_execs_nil ?_); (try dsimp only))
            | (with_reducible refine wpAny_If ?_)
            | ((with_reducible show ite (_ = true) _ _); (fail_if_success (with_reducible show ite (((_ : Bool) == _) = true) _ _)); first | refine PySem.W.ite_neg (Bool.eq_false_iff.mp rfl) ?_ | refine PySem.W.ite_pos rfl ?_)
            | (k_unfold; (try dsimp only)) | (k_end; wrow_close) | walk1 | (dsimp only; walk1) | (leave1; walk_say "STEP leave1"; try dsimp only) | fail "no step"))
      refine eq_wd (h2 _ (List.getElem_mem _)) (h2 _ (List.getElem_mem _)) (decide_eq_false (up_ne sE i2)) ?_
      repeat' (first
        | ((with_reducible refine wpAny_execs_nil ?_); (try dsimp only))
        | (with_reducible refine wpAny_If ?_)
        | ((with_reducible show ite (_ = true) _ _); (fail_if_success (with_reducible show ite (((_ : Bool) == _) = true) _ _)); first | refine PySem.W.ite_neg (Bool.eq_false_iff.mp rfl) ?_ | refine PySem.W.ite_pos rfl ?_)
        | (k_unfold; (try dsimp only)) | (k_end; wrow_close) | walk1 | (dsimp only; walk1) | (leave1; walk_say "STEP leave1"; try dsimp only) | fail "no step")
      (rename News _ _ _ _ => lN'); (rename Fr _ _ _ _ => lF')
      refine ⟨_, _, _, _, es.length - (i + 1), rfl, lF', lN', by omega, i + 1, j, _, _, _, _, rfl, I2, ?_, rfl, pin_cons rfl (pin_cons rfl (pin_cons rfl (pin_cons rfl (pin_cons rfl (pin_cons rfl (pin_nil))))))⟩
      rw [f2, List.map_append, List.concat_eq_append]; exact hvs.append' (.cons _ _ .nil)
    · have c2 : es[i] = as[j] := Nat.le_antisymm (inv_C sE hI i1 j1) c1
      obtain ⟨I2, f2⟩ := inv_B sE sA hI i1 j1 c2
      refine lt_wd (h2 _ (List.getElem_mem _)) (h2 _ (hsub _ (List.getElem_mem _))) (decide_eq_false (by omega)) ?_
      repeat' (first
        | ((fail_if_success (with_reducible show wpAny _ _ (compareOp _ _ _) _ _ _)); first
            | ((with_reducible refine wpAny_execs_nil ?_); (try dsimp only))
            | (with_reducible refine wpAny_If ?_)
            | ((with_reducible show ite (_ = true) _ _); (fail_if_success (with_reducible show ite (((_ : Bool) == _) = true) _ _)); first | refine PySem.W.ite_neg (Bool.eq_false_iff.mp rfl) ?_ | refine PySem.W.ite_pos rfl ?_)
            | (k_unfold; (try dsimp only)) | (k_end; wrow_close) | walk1 | (dsimp only; walk1) | (leave1; walk_say "STEP leave1"; try dsimp only) | fail "no step"))
      refine gt_wd (h2 _ (List.getElem_mem _)) (h2 _ (hsub _ (List.getElem_mem _))) (decide_eq_false (by omega)) ?_
      repeat' (first
        | ((fail_if_success (with_reducible show wpAny _ _ (exec (Stmt.Try _ _ _ _ _) _) _ _ _)); first
            | ((with_reducible refine wpAny_execs_nil ?_); (try dsimp only))
            | (with_reducible refine wpAny_If ?_)
            | ((with_reducible show ite (_ = true) _ _); (fail_if_success (with_reducible show ite (((_ : Bool) == _) = true) _ _)); first | refine PySem.W.ite_neg (Bool.eq_false_iff.mp rfl) ?_ | refine PySem.W.ite_pos rfl ?_)
            | (k_unfold; (try dsimp only)) | (k_end; wrow_close) | walk1 | (dsimp only; walk1) | (leave1; walk_say "STEP leave1"; try dsimp only) | fail "no step"))
      refine fin_ix (s := { s with heap := _, toks := _ }) (fun m nx => ∃ (ti tj : Tok), j + 1 = as.length ∧ i + 1 = es.length ∧ nx = (u8, listOf #[] 0) :: (l8, listOf vs.toArray n) :: news ∧ Pins m [(Str.ofString "i", Value.int (i + 1 : Nat) ti), (Str.ofString "j", Value.int j tj), (Str.ofString "expected", Value.ref lE), (Str.ofString "actual", Value.ref lA), (Str.ofString "missing", Value.ref l8), (Str.ofString "unexpected", Value.ref u8)]) _ B' X Tp ?hb2 ?hh2
      case hb2 =>
        repeat' (first
          | ((fail_if_success (with_reducible show wpAny _ _ (exec (Stmt.While _ _ _ _) _) _ _ _)); first
              | ((with_reducible refine wpAny_execs_nil ?_); (try dsimp only))
              | (with_reducible refine wpAny_If ?_)
              | ((with_reducible show ite (_ = true) _ _); (fail_if_success (with_reducible show ite (((_ : Bool) == _) = true) _ _)); first | refine PySem.W.ite_neg (Bool.eq_false_iff.mp rfl) ?_ | refine PySem.W.ite_pos rfl ?_)
              | (k_unfold; (try dsimp only)) | (k_end; wrow_close) | walk1 | (dsimp only; walk1) | (leave1; walk_say "STEP leave1"; try dsimp only) | fail "no step"))
        refine while_once (exE_self rfl) ?_
        repeat' (first
          | ((fail_if_success (with_reducible show wpAny _ _ (subscriptTail (Expr.Name (Str.ofString "expected") _) _ _ _) _ _ _)); first
              | ((with_reducible refine wpAny_execs_nil ?_); (try dsimp only))
              | (with_reducible refine wpAny_If ?_)
              | ((with_reducible show ite (_ = true) _ _); (fail_if_success (with_reducible show ite (((_ : Bool) == _) = true) _ _)); first | refine PySem.W.ite_neg (Bool.eq_false_iff.mp rfl) ?_ | refine PySem.W.ite_pos rfl ?_)
              | (k_unfold; (try dsimp only)) | (k_end; wrow_close) | walk1 | (dsimp only; walk1) | (leave1; walk_say "STEP leave1"; try dsimp only) | fail "no step"))
        dsimp only
        rcases Nat.lt_or_ge (i + 1) es.length with i2 | i2
        rotate_left
        · obtain ⟨e1, e2⟩ := inv_end1 hsub I2 i2
          refine item_ixA B' (by assumption) (by assumption) (⟨_, _, e1, by omega, rfl, pin_cons rfl (pin_cons rfl (pin_cons rfl (pin_cons rfl (pin_cons rfl (pin_cons rfl (pin_nil))))))⟩) (Gnd.rfl B') rfl rfl (by (rename News _ _ _ _ => lN'); exact News.isList lN' (.tail _ (.tail _ hPE))) (by rw [zE]; omega) (by omega)
        refine item_wd (k := i + 1) hE (by (rename News _ _ _ _ => lN'); exact News.isList lN' (.tail _ (.tail _ hPE))) (by omega) i2 (by omega) (fun t2 => ?_)
        repeat' (first
          | ((fail_if_success (with_reducible show wpAny _ _ (compareOp _ _ _) _ _ _)); first
              | ((with_reducible refine wpAny_execs_nil ?_); (try dsimp only))
              | (with_reducible refine wpAny_If ?_)
              | ((with_reducible show ite (_ = true) _ _); (fail_if_success (with_reducible show ite (((_ : Bool) == _) = true) _ _)); first | refine PySem.W.ite_neg (Bool.eq_false_iff.mp rfl) ?_ | refine PySem.W.ite_pos rfl ?_)
              | (k_unfold; (try dsimp only)) | (k_end; wrow_close) | walk1 | (dsimp only; walk1) | (leave1; walk_say "STEP leave1"; try dsimp only) | fail "no step"))
        refine eq_wd (h2 _ (List.getElem_mem _)) (h2 _ (List.getElem_mem _)) (decide_eq_false (up_ne sE i2)) ?_
        repeat' (first
          | ((fail_if_success (with_reducible show wpAny _ _ (exec (Stmt.While _ _ _ _) _) _ _ _)); first
              | ((with_reducible refine wpAny_execs_nil ?_); (try dsimp only))
              | (with_reducible refine wpAny_If ?_)
              | ((with_reducible show ite (_ = true) _ _); (fail_if_success (with_reducible show ite (((_ : Bool) == _) = true) _ _)); first | refine PySem.W.ite_neg (Bool.eq_false_iff.mp rfl) ?_ | refine PySem.W.ite_pos rfl ?_)
              | (k_unfold; (try dsimp only)) | (k_end; wrow_close) | walk1 | (dsimp only; walk1) | (leave1; walk_say "STEP leave1"; try dsimp only) | fail "no step"))
        refine while_once (exE_self rfl) ?_
        repeat' (first
          | ((fail_if_success (with_reducible show wpAny _ _ (subscriptTail (Expr.Name (Str.ofString "actual") _) _ _ _) _ _ _)); first
              | ((with_reducible refine wpAny_execs_nil ?_); (try dsimp only))
              | (with_reducible refine wpAny_If ?_)
              | ((with_reducible show ite (_ = true) _ _); (fail_if_success (with_reducible show ite (((_ : Bool) == _) = true) _ _)); first | refine PySem.W.ite_neg (Bool.eq_false_iff.mp rfl) ?_ | refine PySem.W.ite_pos rfl ?_)
              | (k_unfold; (try dsimp only)) | (k_end; wrow_close) | walk1 | (dsimp only; walk1) | (leave1; walk_say "STEP leave1"; try dsimp only) | fail "no step"))
        dsimp only
        rcases Nat.lt_or_ge (j + 1) as.length with j2 | j2
        rotate_left
        · obtain ⟨e1, e2⟩ := inv_end2 I2 j2
          refine item_ixA B' (by assumption) (by assumption) (⟨i + 1, _, _, vs, n, I2.1, by rw [f2]; exact hvs, e2, rfl, pin_cons rfl (pin_cons (by rw [← e1]; rfl) (pin_cons rfl (pin_cons rfl (pin_cons rfl (pin_cons rfl (pin_nil))))))⟩) (Gnd.rfl B') trivial rfl (by (rename News _ _ _ _ => lN'); exact News.isList lN' (.tail _ (.tail _ hPA))) (by rw [zA]; omega) (by omega)
        refine item_wd (k := j + 1) hA (by (rename News _ _ _ _ => lN'); exact News.isList lN' (.tail _ (.tail _ hPA))) (by omega) j2 (by omega) (fun t3 => ?_)
        repeat' (first
          | ((fail_if_success (with_reducible show wpAny _ _ (compareOp _ _ _) _ _ _)); first
              | ((with_reducible refine wpAny_execs_nil ?_); (try dsimp only))
              | (with_reducible refine wpAny_If ?_)
              | ((with_reducible show ite (_ = true) _ _); (fail_if_success (with_reducible show ite (((_ : Bool) == _) = true) _ _)); first | refine PySem.W.ite_neg (Bool.eq_false_iff.mp rfl) ?_ | refine PySem.W.ite_pos rfl ?_)
              | (k_unfold; (try dsimp only)) | (k_end; wrow_close) | walk1 | (dsimp only; walk1) | (leave1; walk_say "STEP leave1"; try dsimp only) | fail "no step"))
        refine eq_wd (h2 _ (hsub _ (List.getElem_mem _))) (h2 _ (hsub _ (List.getElem_mem _))) (decide_eq_false (up_ne sA j2)) ?_
        repeat' (first
          | ((with_reducible refine wpAny_execs_nil ?_); (try dsimp only))
          | (with_reducible refine wpAny_If ?_)
          | ((with_reducible show ite (_ = true) _ _); (fail_if_success (with_reducible show ite (((_ : Bool) == _) = true) _ _)); first | refine PySem.W.ite_neg (Bool.eq_false_iff.mp rfl) ?_ | refine PySem.W.ite_pos rfl ?_)
          | (k_unfold; (try dsimp only)) | (k_end; wrow_close) | walk1 | (dsimp only; walk1) | (leave1; walk_say "STEP leave1"; try dsimp only) | fail "no step")
        (rename News _ _ _ _ => lN'); (rename Fr _ _ _ _ => lF')
        exact ⟨_, _, _, _, es.length - (i + 1), rfl, lF', lN', by omega, i + 1, j + 1, _, _, vs, n, rfl, I2, by rw [f2]; exact hvs, rfl, pin_cons rfl (pin_cons rfl (pin_cons rfl (pin_cons rfl (pin_cons rfl (pin_cons rfl (pin_nil))))))⟩
      case hh2 =>
        intro e h₁ tk₁ m₂ nx₂ g₁ oe ves T hJ G X₁ T₁ F₂ N₂ hod hov hTn hoc
        obtain ⟨ti, tj, e1, e2, rfl, hps⟩ := hJ
        replace F₂ := fr_pin (ps := [(Str.ofString "i", Value.int (i + 1 : Nat) ti), (Str.ofString "j", Value.int j tj), (Str.ofString "expected", Value.ref lE), (Str.ofString "actual", Value.ref lA), (Str.ofString "missing", Value.ref l8), (Str.ofString "unexpected", Value.ref u8)]) hps F₂
        clear hps
        have B₁ := G.below
        repeat' (first
          | ((fail_if_success (with_reducible show wpAny _ _ (exec (Stmt.While _ _ _ _) _) _ _ _)); first
              | ((with_reducible refine wpAny_execs_nil ?_); (try dsimp only))
              | (with_reducible refine wpAny_If ?_)
              | ((with_reducible show ite (_ = true) _ _); (fail_if_success (with_reducible show ite (((_ : Bool) == _) = true) _ _)); first | refine PySem.W.ite_neg (Bool.eq_false_iff.mp rfl) ?_ | refine PySem.W.ite_pos rfl ?_)
              | (k_unfold; (try dsimp only)) | (k_end; wrow_close) | walk1 | (dsimp only; walk1) | (leave1; walk_say "STEP leave1"; try dsimp only) | fail "no step"))
        refine while_once (exE_self rfl) ?_
        repeat' (first
          | ((fail_if_success (with_reducible show wpAny _ _ (subscriptTail (Expr.Name (Str.ofString "actual") _) _ _ _) _ _ _)); first
              | ((with_reducible refine wpAny_execs_nil ?_); (try dsimp only))
              | (with_reducible refine wpAny_If ?_)
              | ((with_reducible show ite (_ = true) _ _); (fail_if_success (with_reducible show ite (((_ : Bool) == _) = true) _ _)); first | refine PySem.W.ite_neg (Bool.eq_false_iff.mp rfl) ?_ | refine PySem.W.ite_pos rfl ?_)
              | (k_unfold; (try dsimp only)) | (k_end; wrow_close) | walk1 | (dsimp only; walk1) | (leave1; walk_say "STEP leave1"; try dsimp only) | fail "no step"))
        dsimp only
        (rename News _ _ _ _ => lN'); (rename Fr _ _ _ _ => lF')
        refine item_ixB (news := (u8, listOf #[] 0) :: (l8, listOf vs.toArray n) :: news) B₁ lF' (fun p hp => lN' p (.tail _ hp)) ⟨i + 1, _, _, vs, n, I2.1, by rw [f2]; exact hvs, ?_, rfl, pin_cons rfl (pin_cons (by rw [← e1]; rfl) (pin_cons rfl (pin_cons rfl (pin_cons rfl (pin_cons rfl (pin_nil))))))⟩ G (fun _ => trivial) rfl (lN' _ (.head _)).1 hod hov (News.isList lN' (.tail _ (.tail _ (.tail _ hPA)))) (by rw [zA]; omega) (by omega)
        exact fun a ha => by rw [e2, List.take_length]; exact hsub a ha
  case hh =>
    intro e h₁ tk₁ m₂ nx₂ g₁ hJ G X₁ T₁ F₂ N₂
    obtain ⟨i, ti, tj, vs, n, hi, hvs, has, rfl, hps⟩ := hJ
    replace F₂ := fr_pin (ps := [(Str.ofString "i", Value.int i ti), (Str.ofString "j", Value.int as.length tj), (Str.ofString "expected", Value.ref lE), (Str.ofString "actual", Value.ref lA), (Str.ofString "missing", Value.ref l8), (Str.ofString "unexpected", Value.ref u8)]) hps F₂
    clear hps
    have B₁ := G.below
    repeat' (first
      | ((fail_if_success (with_reducible show wpAny _ _ (subscriptTail (Expr.Name (Str.ofString "expected") _) _ _ _) _ _ _)); first
          | ((with_reducible refine wpAny_execs_nil ?_); (try dsimp only))
          | (with_reducible refine wpAny_If ?_)
          | ((with_reducible show ite (_ = true) _ _); (fail_if_success (with_reducible show ite (((_ : Bool) == _) = true) _ _)); first | refine PySem.W.ite_neg (Bool.eq_false_iff.mp rfl) ?_ | refine PySem.W.ite_pos rfl ?_)
          | (k_unfold; (try dsimp only)) | (k_end; wrow_close) | walk1 | (dsimp only; walk1) | (leave1; walk_say "STEP leave1"; try dsimp only) | fail "no step"))
    dsimp only
    (rename News _ _ _ _ => lN'); (rename Fr _ _ _ _ => lF')
    refine kmk_slice_lit (s := { s with heap := _, toks := _ }) lF' lN' (News.isList lN' (.tail _ (.tail _ hPE))) (.int _ _) .none (drop_pick _ i) ?_ (by with_unfolding_all rfl) (by intro _; with_unfolding_all rfl) (Nat.le_trans (show _ ≤ 11 from by rw [zE]; exact hlen) (by decide))
    intro D9 h9 F9 N9 l9; (try k_lt l9); (try k_sweep)
    repeat' (first
      | ((fail_if_success (with_reducible show wpAny _ _ (call (.builtin "list.extend") _) _ _ _)); first
          | ((with_reducible refine wpAny_execs_nil ?_); (try dsimp only))
          | (with_reducible refine wpAny_If ?_)
          | ((with_reducible show ite (_ = true) _ _); (fail_if_success (with_reducible show ite (((_ : Bool) == _) = true) _ _)); first | refine PySem.W.ite_neg (Bool.eq_false_iff.mp rfl) ?_ | refine PySem.W.ite_pos rfl ?_)
          | (k_unfold; (try dsimp only)) | (k_end; wrow_close) | walk1 | (dsimp only; walk1) | (leave1; walk_say "STEP leave1"; try dsimp only) | fail "no step"))
    obtain ⟨q1, q2, q3⟩ := l9
    obtain ⟨q4, q5⟩ := ou
    have hvl : vs.length ≤ 11 := by rw [strs_len hvs, List.length_map]; exact Nat.le_trans (List.length_filter_le _ _) (by rw [List.length_take]; omega)
    have nl : ∀ p ∈ news, p.1 ≠ l8 := fun p hp => Nat.ne_of_lt (ol p hp)
    (rename News _ _ _ _ => lN'); (rename Fr _ _ _ _ => lF')
    refine extend_in (s := { s with heap := _, toks := _ }) (own := [(D9, _), (u8, _)]) lF' lN' (fun p hp => ?_) nl (lN' _ (.head _)).1 ?_ (Nat.le_trans (show _ ≤ 22 from by rw [List.size_toArray, List.length_drop, strs_len hE, List.length_map]; omega) (by decide))
    · simp only [List.mem_cons, List.not_mem_nil, or_false] at hp; rcases hp with rfl | rfl
      · exact Nat.ne_of_gt (by assumption)
      · exact Nat.ne_of_gt (by assumption)
    intro h6 n6 F6 N6
    simp only [List.cons_append, List.nil_append] at N6
    replace N6 : News g₁ L' h6 ((u8, listOf #[] 0) :: (l8, listOf (vs ++ (List.drop i vE).toArray.toList).toArray n6) :: news) := fun p hp => N6 p (.tail _ hp)
    repeat' (first
      | ((fail_if_success (with_reducible show wpAny _ _ (subscriptTail (Expr.Name (Str.ofString "actual") _) _ _ _) _ _ _)); first
          | ((with_reducible refine wpAny_execs_nil ?_); (try dsimp only))
          | (with_reducible refine wpAny_If ?_)
          | ((with_reducible show ite (_ = true) _ _); (fail_if_success (with_reducible show ite (((_ : Bool) == _) = true) _ _)); first | refine PySem.W.ite_neg (Bool.eq_false_iff.mp rfl) ?_ | refine PySem.W.ite_pos rfl ?_)
          | (k_unfold; (try dsimp only)) | (k_end; wrow_close) | walk1 | (dsimp only; walk1) | (leave1; walk_say "STEP leave1"; try dsimp only) | fail "no step"))
    clear q1 q2 q3
    dsimp only
    (rename News _ _ _ _ => lN'); (rename Fr _ _ _ _ => lF')
    refine kmk_slice_lit (s := { s with heap := _, toks := _ }) lF' lN' (News.isList lN' (.tail _ (.tail _ hPA))) (.int _ _) .none (drop_pick _ as.length) ?_ (by with_unfolding_all rfl) (by intro _; with_unfolding_all rfl) (Nat.le_trans (show _ ≤ 11 from by rw [zA]; exact hlenA) (by decide))
    intro D9 h9 F9 N9 l9; (try k_lt l9); (try k_sweep)
    repeat' (first
      | ((fail_if_success (with_reducible show wpAny _ _ (call (.builtin "list.extend") _) _ _ _)); first
          | ((with_reducible refine wpAny_execs_nil ?_); (try dsimp only))
          | (with_reducible refine wpAny_If ?_)
          | ((with_reducible show ite (_ = true) _ _); (fail_if_success (with_reducible show ite (((_ : Bool) == _) = true) _ _)); first | refine PySem.W.ite_neg (Bool.eq_false_iff.mp rfl) ?_ | refine PySem.W.ite_pos rfl ?_)
          | (k_unfold; (try dsimp only)) | (k_end; wrow_close) | walk1 | (dsimp only; walk1) | (leave1; walk_say "STEP leave1"; try dsimp only) | fail "no step"))
    rw [show vA.drop as.length = [] from List.drop_eq_nil_of_le (by rw [strs_len hA, List.length_map]; exact Nat.le_refl _)] at N9
    obtain ⟨q1, q2, q3⟩ := l9
    have nu : ∀ p ∈ (l8, listOf (vs ++ (List.drop i vE).toArray.toList).toArray n6) :: news, p.1 ≠ u8 := fun p hp => by
      rcases List.mem_cons.mp hp with rfl | hp
      · exact Nat.ne_of_lt q4
      · exact Nat.ne_of_lt (Nat.lt_trans (ol p hp) q4)
    (rename News _ _ _ _ => lN'); (rename Fr _ _ _ _ => lF')
    refine extend_in (s := { s with heap := _, toks := _ }) (own := [(D9, _)]) lF' lN' (fun p hp => ?_) nu (lN' _ (.head _)).1 ?_ (by decide)
    · simp only [List.mem_cons, List.not_mem_nil, or_false] at hp; rcases hp with rfl
      · exact Nat.ne_of_gt (by assumption)
    intro h6 n6 F7 N7
    simp only [List.cons_append, List.nil_append] at N7
    replace N7 : News g₁ L' h6 ((u8, listOf #[] n6) :: (l8, _) :: news) := fun p hp => N7 p (.tail _ hp)
    repeat' (first
      | ((with_reducible refine wpAny_execs_nil ?_); (try dsimp only))
      | (with_reducible refine wpAny_If ?_)
      | ((with_reducible show ite (_ = true) _ _); (fail_if_success (with_reducible show ite (((_ : Bool) == _) = true) _ _)); first | refine PySem.W.ite_neg (Bool.eq_false_iff.mp rfl) ?_ | refine PySem.W.ite_pos rfl ?_)
      | (k_unfold; (try dsimp only)) | (k_end; wrow_close) | walk1 | (dsimp only; walk1) | (leave1; walk_say "STEP leave1"; try dsimp only) | fail "no step")
    dsimp only [WhileStep2]
    repeat' (first
      | ((with_reducible refine wpAny_execs_nil ?_); (try dsimp only))
      | (with_reducible refine wpAny_If ?_)
      | ((with_reducible show ite (_ = true) _ _); (fail_if_success (with_reducible show ite (((_ : Bool) == _) = true) _ _)); first | refine PySem.W.ite_neg (Bool.eq_false_iff.mp rfl) ?_ | refine PySem.W.ite_pos rfl ?_)
      | (k_unfold; (try dsimp only)) | (k_end; wrow_close) | walk1 | (dsimp only; walk1) | (leave1; walk_say "STEP leave1"; try dsimp only) | fail "no step")
    (rename News _ _ _ _ => lN'); (rename Fr _ _ _ _ => lF')
    obtain ⟨h₀', G', F', N'⟩ := U' _ g₁ L' _ _ _ G lF' lN'
    exact hret (.ref _) h₀' _ _ _ G' F' N' ⟨_, l8, u8, _, _, _, rfl, strs_fin sE has hvs hE, rfl, fun p hp => ⟨Nat.ne_of_lt (ol p hp), Nat.ne_of_lt (Nat.lt_trans (ol p hp) q4)⟩⟩
end Mine
end
section
open PySem PySem.W PyProof.Rows PySem.Calls PySem.Spec
set_option linter.unusedVariables false
namespace Mine
set_option maxRecDepth 100000
section
variable {prog : Program} {w : World} {A : Around} {E : Value → Shared → Prop} {s : Shared} {env : Env} {g₀ : Heap} {L ax : Addr} {m₀ : Str → Option Value} {news : List (Addr × Obj)} {its : Array Value}
/-- the end of a turn of a loop over a list; the ground may be another one -/
def ForStep (s : Shared) (L I : Addr) (oI : Obj) (J : Heap → (Str → Option Value) → List (Addr × Obj) → Prop) (Q : Flow → Shared → Prop) (f : Flow) (s₃ : Shared) : Prop :=
  match f with
  | .next | .cont => ∃ g h tk m nx, s₃ = { s with heap := h, toks := tk } ∧ Fr g L h m ∧ News g L h ((I, oI) :: nx) ∧ (∀ p ∈ nx, p.1 ≠ I) ∧ J g m nx
  | .brk => Q .next s₃
  | .ret v => Q (.ret v) s₃
theorem iter_same {h h' : Heap} {I ax : Addr} {i : Nat} {o : Obj} (st : h.IsListIter I ax i) (e : h.get? I = some o) (e' : h'.get? I = some o) : h'.IsListIter I ax i := by
  obtain ⟨o', q, r⟩ := st
  rw [e] at q; cases q
  exact ⟨o, e', r⟩
theorem for_list {x : Str} {px : Pos} {body : List Stmt} {Q : Flow → Shared → Prop} (J : Nat → Heap → (Str → Option Value) → List (Addr × Obj) → Prop)
    (hh : A.handled = none) (hL : env.locals = L) (hx : env.kindOf x = some .local) (hp : (env.scope.kind == .class || (env.scope.kind == .module && env.locals != env.globals)) = false) (hE : PassesOwn (model prog w) A env E)
    (F : Fr g₀ L s.heap m₀) (N : News g₀ L s.heap news) (hl : ∀ i g m nx h, J i g m nx → Fr g L h m → News g L h nx → h.IsList ax its) (hj : J 0 g₀ m₀ news)
    (turn : ∀ I oI i v g h tk m nx, (∀ p ∈ news, p.1 < I) → its[i]? = some v → J i g m nx → Fr g L h (fun y => if y = x then some v else m y) → News g L h ((I, oI) :: nx) → (∀ p ∈ nx, p.1 ≠ I) →
      wpAny (model prog w) A (execs body env) (ForStep s L I oI (J (i + 1)) Q) E { s with heap := h, toks := tk })
    (done : ∀ g m nx h tk, J its.size g m nx → Fr g L h m → News g L h nx → Q .next { s with heap := h, toks := tk }) :
    wpAny (model prog w) A (pyIter (.ref ax)) (fun it s₂ => codeAny (model prog w) A (.forLoop (.Name x px) it body [] env) (fun r s' => match r with | .ok f => Q f s' | .error e => cameBackBy (model prog w) A env E e s') s₂) E s := by
  have hl0 := hl _ _ _ _ _ hj F N
  refine wpAny_pyIter_list hl0 ?_
  generalize hI : s.heap.objs.size = I
  have hIa : ∀ p ∈ news, p.1 < I := fun p hp => hI ▸ Heap.lt_size (N p hp).1
  have W := Walks.list (prog := prog) (w := w) hh I ax (hI ▸ Nat.ne_of_lt (Heap.lt_size hl0.choose_spec.1)) its
  have up : ∀ b o, s.heap.get? b = some o → (s.heap.push { cls := .type "list_iterator", data := .fields #[.ref ax, .int 0 0] }).get? b = some o := fun b o e => Heap.get?_push_of_some _ e
  refine codeAny_forLoop (fun k s' => ∃ i g h tk m nx oI, s' = { s with heap := h, toks := tk } ∧ i ≤ its.size ∧ k = its.size + 1 - i ∧ Fr g L h m ∧ News g L h ((I, oI) :: nx) ∧ h.IsListIter I ax i ∧ (∀ p ∈ nx, p.1 ≠ I) ∧ J i g m nx) ?_ (its.size + 1)
    ⟨0, g₀, _, s.toks, m₀, news, { cls := .type "list_iterator", data := .fields #[.ref ax, .int 0 0] }, rfl, Nat.zero_le _, rfl, F.keeps up, fun p hp => ?_, ?_, fun p hp => Nat.ne_of_lt (hIa p hp), hj⟩
  · rintro k s' ⟨i, g, h, tk, m, nx, oI, rfl, hi, rfl, F₁, N₁, hit, off, hJ⟩
    have N₁' : News g L h nx := fun p hp => N₁ p (.tail _ hp)
    have hst := And.intro hit (hl _ _ _ _ _ hJ F₁ N₁')
    have nI := (N₁ _ (.head _)).2
    by_cases hlt : i < its.size
    · refine W.item i _ _ _ hlt hst fun v h₂ tk₂ hv st₂ hk₂ => ?_
      have F₂ : Fr g L h₂ m := LCg.fr_but F₁ hk₂ (Ne.symm nI.1) nI.2
      have N₂ : News g L h₂ nx := LCg.news_but N₁' hk₂ off
      obtain ⟨oI₂, e₂, _⟩ := id st₂.1
      refine wpAny_assign_Name (wpAny_storeName_local hx (hL ▸ F₂.ns) (fun h₃ hn₃ hs₃ => ?_) hp)
      rw [hL] at hn₃ hs₃
      have F₃ : Fr g L h₃ (fun y => if y = x then some v else m y) := ⟨hn₃, fun b o e => by
        refine (hs₃.2 b fun q => ?_).trans (F₂.keep b o e)
        rw [q] at e
        exact absurd (Heap.lt_size e) (Nat.not_lt.mpr F₂.above), F₂.above⟩
      have N₃ : News g L h₃ ((I, oI₂) :: nx) := fun p hp => by
        rcases List.mem_cons.mp hp with rfl | hp
        · exact ⟨(hs₃.2 _ nI.1).trans e₂, nI⟩
        · exact ⟨(hs₃.2 _ (N₂ p hp).2.1).trans (N₂ p hp).1, (N₂ p hp).2⟩
      refine wpAny_mono (turn I oI₂ i v g h₃ _ m nx hIa hv hJ F₃ N₃ off) (fun f s₃ h₃' => ?_) hE
      have next : (∃ g h tk m nx, s₃ = { s with heap := h, toks := tk } ∧ Fr g L h m ∧ News g L h ((I, oI₂) :: nx) ∧ (∀ p ∈ nx, p.1 ≠ I) ∧ J (i + 1) g m nx) →
          ∃ k, k < its.size + 1 - i ∧ ∃ i g h tk m nx oI, s₃ = { s with heap := h, toks := tk } ∧ i ≤ its.size ∧ k = its.size + 1 - i ∧ Fr g L h m ∧ News g L h ((I, oI) :: nx) ∧ h.IsListIter I ax i ∧ (∀ p ∈ nx, p.1 ≠ I) ∧ J i g m nx := by
        rintro ⟨g', h', tk', m', nx', rfl, F', N', off', hJ'⟩
        exact ⟨its.size + 1 - (i + 1), by omega, i + 1, g', h', tk', m', nx', oI₂, rfl, hlt, rfl, F', N', iter_same st₂.1 e₂ (N' _ (.head _)).1, off', hJ'⟩
      cases f with
      | next => exact next h₃'
      | cont => exact next h₃'
      | brk => exact h₃'
      | ret v => exact h₃'
    · obtain rfl : i = its.size := Nat.le_antisymm hi (Nat.not_lt.mp hlt)
      refine W.done _ _ _ hst fun h₂ tk₂ hk₂ => ?_
      exact wpAny_execs_nil (done g m nx h₂ tk₂ hJ (LCg.fr_but F₁ hk₂ (Ne.symm nI.1) nI.2) (LCg.news_but N₁' hk₂ off))
  · rcases List.mem_cons.mp hp with rfl | hp
    · exact ⟨hI ▸ Heap.get?_push_size _ rfl, hI ▸ (Nat.ne_of_gt F.ns.lt), hI ▸ next_is_new F⟩
    · exact ⟨up _ _ (N p hp).1, (N p hp).2⟩
  · exact ⟨_, hI ▸ Heap.get?_push_size _ rfl, rfl, rfl⟩
/-- the same, the target being a cell of the frame -/
def ForStepC (s : Shared) (L I c : Addr) (oI : Obj) (J : Heap → (Str → Option Value) → List (Addr × Obj) → Prop) (Q : Flow → Shared → Prop) (f : Flow) (s₃ : Shared) : Prop :=
  match f with
  | .next | .cont => ∃ g h tk m nx oc u, s₃ = { s with heap := h, toks := tk } ∧ oc.data = .cell u ∧ Fr g L h m ∧ News g L h ((I, oI) :: (c, oc) :: nx) ∧ (∀ p ∈ nx, p.1 ≠ I ∧ p.1 ≠ c) ∧ J g m nx
  | .brk => Q .next s₃
  | .ret v => Q (.ret v) s₃
theorem for_list_c {x : Str} {px : Pos} {body : List Stmt} {Q : Flow → Shared → Prop} {c : Addr} {oc₀ : Obj} {u₀ : Option Value} (J : Nat → Heap → (Str → Option Value) → List (Addr × Obj) → Prop)
    (hh : A.handled = none) (hk : env.scope.kind = .function) (hx : env.kindOf x = some .cell) (hc : env.cells.lookup x = some c) (hE : PassesOwn (model prog w) A env E)
    (F : Fr g₀ L s.heap m₀) (hd0 : oc₀.data = .cell u₀) (N : News g₀ L s.heap ((c, oc₀) :: news)) (offc : ∀ p ∈ news, p.1 ≠ c) (hl : ∀ i g m nx h, J i g m nx → Fr g L h m → News g L h nx → h.IsList ax its) (hj : J 0 g₀ m₀ news)
    (turn : ∀ I oI oc i v g h tk m nx, (∀ p ∈ (c, oc₀) :: news, p.1 < I) → its[i]? = some v → J i g m nx → oc.data = .cell (some v) → Fr g L h m → News g L h ((I, oI) :: (c, oc) :: nx) → (∀ p ∈ nx, p.1 ≠ I ∧ p.1 ≠ c) →
      wpAny (model prog w) A (execs body env) (ForStepC s L I c oI (J (i + 1)) Q) E { s with heap := h, toks := tk })
    (done : ∀ g m nx h tk oc u, J its.size g m nx → oc.data = .cell u → Fr g L h m → News g L h ((c, oc) :: nx) → (∀ p ∈ nx, p.1 ≠ c) → Q .next { s with heap := h, toks := tk }) :
    wpAny (model prog w) A (pyIter (.ref ax)) (fun it s₂ => codeAny (model prog w) A (.forLoop (.Name x px) it body [] env) (fun r s' => match r with | .ok f => Q f s' | .error e => cameBackBy (model prog w) A env E e s') s₂) E s := by
  have hl0 := hl _ _ _ _ _ hj F (fun p hp => N p (.tail _ hp))
  refine wpAny_pyIter_list hl0 ?_
  generalize hI : s.heap.objs.size = I
  have hIa : ∀ p ∈ (c, oc₀) :: news, p.1 < I := fun p hp => hI ▸ Heap.lt_size (N p hp).1
  have hcI : c ≠ I := Nat.ne_of_lt (hIa _ (.head _))
  have W := Walks.list (prog := prog) (w := w) hh I ax (hI ▸ Nat.ne_of_lt (Heap.lt_size hl0.choose_spec.1)) its
  have up : ∀ b o, s.heap.get? b = some o → (s.heap.push { cls := .type "list_iterator", data := .fields #[.ref ax, .int 0 0] }).get? b = some o := fun b o e => Heap.get?_push_of_some _ e
  refine codeAny_forLoop (fun k s' => ∃ i g h tk m nx oI oc u, s' = { s with heap := h, toks := tk } ∧ i ≤ its.size ∧ k = its.size + 1 - i ∧ oc.data = .cell u ∧ Fr g L h m ∧ News g L h ((I, oI) :: (c, oc) :: nx) ∧ h.IsListIter I ax i ∧ (∀ p ∈ nx, p.1 ≠ I ∧ p.1 ≠ c) ∧ J i g m nx) ?_ (its.size + 1)
    ⟨0, g₀, _, s.toks, m₀, news, { cls := .type "list_iterator", data := .fields #[.ref ax, .int 0 0] }, oc₀, u₀, rfl, Nat.zero_le _, rfl, hd0, F.keeps up, fun p hp => ?_, ?_, fun p hp => ⟨Nat.ne_of_lt (hIa p (.tail _ hp)), offc p hp⟩, hj⟩
  · rintro k s' ⟨i, g, h, tk, m, nx, oI, oc, u, rfl, hi, rfl, hd, F₁, N₁, hit, off, hJ⟩
    have N₁' : News g L h nx := fun p hp => N₁ p (.tail _ (.tail _ hp))
    have hst := And.intro hit (hl _ _ _ _ _ hJ F₁ N₁')
    have nI := (N₁ _ (.head _)).2
    have nc := (N₁ _ (.tail _ (.head _))).2
    have N₁c : News g L h ((c, oc) :: nx) := fun p hp => N₁ p (.tail _ hp)
    have offI : ∀ p ∈ (c, oc) :: nx, p.1 ≠ I := fun p hp => by
      rcases List.mem_cons.mp hp with rfl | hp
      · exact hcI
      · exact (off p hp).1
    by_cases hlt : i < its.size
    · refine W.item i _ _ _ hlt hst fun v h₂ tk₂ hv st₂ hk₂ => ?_
      have F₂ : Fr g L h₂ m := LCg.fr_but F₁ hk₂ (Ne.symm nI.1) nI.2
      have N₂ : News g L h₂ ((c, oc) :: nx) := LCg.news_but N₁c hk₂ offI
      obtain ⟨oI₂, e₂, _⟩ := id st₂.1
      refine wpAny_assign_Name (wpAny_storeName_cell hk hx hc ⟨oc, (N₂ _ (.head _)).1, hd⟩ fun h₃ hc₃ hs₃ => ?_)
      obtain ⟨oc₂, ec₂, hd₂⟩ := hc₃
      have F₃ : Fr g L h₃ m := F₂.change hs₃ nc.1 nc.2
      have N₃ : News g L h₃ ((I, oI₂) :: (c, oc₂) :: nx) := fun p hp => by
        rcases List.mem_cons.mp hp with rfl | hp
        · exact ⟨hs₃.extBut _ _ (Ne.symm hcI) e₂, nI⟩
        rcases List.mem_cons.mp hp with rfl | hp
        · exact ⟨ec₂, nc⟩
        · exact ⟨hs₃.extBut _ _ (off p hp).2 (N₂ p (.tail _ hp)).1, (N₂ p (.tail _ hp)).2⟩
      refine wpAny_mono (turn I oI₂ oc₂ i v g h₃ _ m nx hIa hv hJ hd₂ F₃ N₃ off) (fun f s₃ h₃' => ?_) hE
      have next : (∃ g h tk m nx oc u, s₃ = { s with heap := h, toks := tk } ∧ oc.data = .cell u ∧ Fr g L h m ∧ News g L h ((I, oI₂) :: (c, oc) :: nx) ∧ (∀ p ∈ nx, p.1 ≠ I ∧ p.1 ≠ c) ∧ J (i + 1) g m nx) →
          ∃ k, k < its.size + 1 - i ∧ ∃ i g h tk m nx oI oc u, s₃ = { s with heap := h, toks := tk } ∧ i ≤ its.size ∧ k = its.size + 1 - i ∧ oc.data = .cell u ∧ Fr g L h m ∧ News g L h ((I, oI) :: (c, oc) :: nx) ∧ h.IsListIter I ax i ∧ (∀ p ∈ nx, p.1 ≠ I ∧ p.1 ≠ c) ∧ J i g m nx := by
        rintro ⟨g', h', tk', m', nx', oc', u', rfl, hd', F', N', off', hJ'⟩
        exact ⟨its.size + 1 - (i + 1), by omega, i + 1, g', h', tk', m', nx', oI₂, oc', u', rfl, hlt, rfl, hd', F', N', iter_same st₂.1 e₂ (N' _ (.head _)).1, off', hJ'⟩
      cases f with
      | next => exact next h₃'
      | cont => exact next h₃'
      | brk => exact h₃'
      | ret v => exact h₃'
    · obtain rfl : i = its.size := Nat.le_antisymm hi (Nat.not_lt.mp hlt)
      refine W.done _ _ _ hst fun h₂ tk₂ hk₂ => ?_
      exact wpAny_execs_nil (done g m nx h₂ tk₂ oc u hJ hd (LCg.fr_but F₁ hk₂ (Ne.symm nI.1) nI.2) (LCg.news_but N₁c hk₂ offI) fun p hp => (off p hp).2)
  · rcases List.mem_cons.mp hp with rfl | hp
    · exact ⟨hI ▸ Heap.get?_push_size _ rfl, hI ▸ (Nat.ne_of_gt F.ns.lt), hI ▸ next_is_new F⟩
    · exact ⟨up _ _ (N p hp).1, (N p hp).2⟩
  · exact ⟨_, hI ▸ Heap.get?_push_size _ rfl, rfl, rfl⟩
end
end Mine
end
section
open PySem PySem.W PyProof.Rows PySem.Calls PySem.Spec
set_option linter.unusedVariables false
namespace Mine
set_option maxRecDepth 100000
section
variable {prog : Program} {w : World} {A : Around} {s : Shared} {R : Result → Shared → Prop}
abbrev testsOf (ifs : List Expr) (env : Env) : Sem Bool := forIn ifs true fun c r => if r = true then do let ok ← isTrue c env (eval c env); pure (ForInStep.yield ok) else pure (ForInStep.yield r)
/-- a turn of a comprehension: any target, any tests -/
theorem comp_loop {elt target iter : Expr} {ifs : List Expr} {scope : Scope} {pos : Pos} {it acc : Value} {env : Env} (I : Nat → Shared → Prop)
    (turn : ∀ n s, I n s → wpAny (model prog w) A (pyNext it) (fun r s₁ => match r with
      | none => R (.ok .next) s₁
      | some v => wpAny (model prog w) A (letOwnedTupleGo target it v) (fun _ s₁' => wpAny (model prog w) A (assign target env v) (fun _ s₂ =>
          wpAny (model prog w) A (testsOf ifs env) (fun ok s₃ =>
            if ok = true then wpAny (model prog w) A (eval elt env) (fun x s₄ =>
              wpAny (model prog w) A (call (.builtin "list.append") [acc, x]) (fun _ s₅ => ∃ m, m < n ∧ I m s₅) (fun _ _ => False) s₄) (fun _ _ => False) s₃
            else ∃ m, m < n ∧ I m s₃) (fun _ _ => False) s₂) (fun _ _ => False) s₁') (fun _ _ => False) s₁) (fun _ _ => False) s)
    (n : Nat) (h : I n s) : codeAny (model prog w) A (.compLoop (.ListComp elt [⟨target, iter, ifs, 0⟩] scope pos) 0 it acc env) R s := by
  refine codeAny_loop rfl I (fun n s hI => ?_) n h
  show wpAny _ A ((compTurn (.ListComp elt [⟨target, iter, ifs, 0⟩] scope pos) 0 it acc env).onRaise (fun x => do noteFrame x env; theTreesLotGoes x)) _ _ s
  refine wpAny_noted ?_
  rw [compTurn_list]
  refine wpAny_bind (wpAny_standAt (wpAny_bind (wpAny_mono (turn n s hI) (fun r s₁ h₁ => ?_) fun _ _ h' => h'.elim)))
  cases r with
  | none => exact wpAny_pure h₁
  | some v =>
    refine wpAny_bind (wpAny_mono h₁ (fun _ s₁' h₁' => ?_) fun _ _ h' => h'.elim)
    refine wpAny_bind (wpAny_mono h₁' (fun _ s₂ h₂ => wpAny_bind (wpAny_mono h₂ (fun ok s₃ h₃ => ?_) fun _ _ h' => h'.elim)) fun _ _ h' => h'.elim)
    cases ok with
    | false => exact wpAny_pure ⟨rfl, h₃⟩
    | true => exact wpAny_bind (wpAny_bind (wpAny_mono h₃ (fun x s₄ h₄ => wpAny_bind (wpAny_mono h₄ (fun _ s₅ h₅ => wpAny_pure (wpAny_pure ⟨rfl, h₅⟩)) fun _ _ h' => h'.elim)) fun _ _ h' => h'.elim))
end
def Sep (I D : Addr) (as : List Addr) (nw : List (Addr × Obj)) : Prop := ∀ p ∈ nw, p.1 ≠ I ∧ p.1 ≠ D ∧ p.1 ∉ as
section
variable {prog : Program} {w : World} {A : Around} {E : Value → Shared → Prop} {s : Shared} {h₀ : Heap} {L : Addr} {m : Str → Option Value}
/-- the end of a turn: the iterator, the list and the block's own names stand as they stood -/
def TurnEnd (h₀ : Heap) (L : Addr) (m : Str → Option Value) (I : Addr) (oI : Obj) (D : Addr) (ys : List Value) (own : List (Addr × Obj)) (J : List (Addr × Obj) → Shared → Prop) (s₄ : Shared) : Prop :=
  ∃ nw, Fr h₀ L s₄.heap m ∧ News h₀ L s₄.heap ((I, oI) :: (D, LCg.lst ys) :: (own ++ nw)) ∧ Sep I D (own.map (·.1)) nw ∧ J nw s₄
theorem comp_core {elt target iter : Expr} {ifs : List Expr} {scope : Scope} {pos : Pos} {cenv : Env} {I D : Addr} {oI : Obj} {fp as : List Addr} {n : Nat} {P : Nat → Value → Prop} {St : Nat → Heap → Prop} {own news : List (Addr × Obj)} {RR : Result → Shared → Prop}
    (J : Nat → List Value → List (Addr × Obj) → Shared → Prop) (T : Nat → Value → List (Addr × Obj) → Prop) (Own0 : List (Addr × Obj) → Prop) (Own1 : Nat → Value → List (Addr × Obj) → Prop)
    (W : Walks prog w A I fp [I] n P St) (hsz : n ≤ sizeLine)
    (hSt : ∀ i ys nw s h h' o, J i ys nw s → St i h → h.get? I = some o → h'.get? I = some o → Fr h₀ L h' m → News h₀ L h' nw → St i h') (hJ : ∀ i ys nw s h tk, J i ys nw s → J i ys nw { s with heap := h, toks := tk })
    (hIo : ∀ i h, St i h → ∃ o, h.get? I = some o) (hT : ∀ i ys nw s v rest, J i ys nw s → P i v → (∀ p ∈ nw, p ∈ rest) → T i v rest) (h10 : ∀ i v o, Own1 i v o → Own0 o)
    (hfD : D ∉ fp) (hfO : ∀ a ∈ as, a ∉ fp) (hID : I ≠ D) (hAs : ∀ a ∈ as, a ≠ I ∧ a ≠ D)
    (st : St 0 s.heap) (F : Fr h₀ L s.heap m) (N : News h₀ L s.heap ((I, oI) :: (D, LCg.lst []) :: (own ++ news))) (ha : own.map (·.1) = as) (hO : Own0 own) (sp : Sep I D as news) (hj : J 0 [] news s)
    (hB : ∀ i v own rest (s : Shared) (Q : Unit → Shared → Prop), P i v → St (i + 1) s.heap → Own0 own → own.map (·.1) = as → Fr h₀ L s.heap m → News h₀ L s.heap (own ++ rest) → (∀ p ∈ rest, p.1 ∉ as) → T i v rest →
      (∀ own' h' tk', own'.map (·.1) = as → Own1 i v own' → (∀ b o, b ∉ as → s.heap.get? b = some o → h'.get? b = some o) → Fr h₀ L h' m → News h₀ L h' own' → Q () { s with heap := h', toks := tk' }) →
      wpAny (model prog w) A (letOwnedTupleGo target (.ref I) v) (fun _ s₁ => wpAny (model prog w) A (assign target cenv v) Q (fun _ _ => False) s₁) (fun _ _ => False) s)
    (turn : ∀ i v ys own nw (s' : Shared) oI, i < n → P i v → J i ys nw s' → Own1 i v own → own.map (·.1) = as → Fr h₀ L s'.heap m → News h₀ L s'.heap ((I, oI) :: (D, LCg.lst ys) :: (own ++ nw)) → Sep I D as nw →
      wpAny (model prog w) A (testsOf ifs cenv) (fun ok s₃ => if ok = true then wpAny (model prog w) A (eval elt cenv) (fun y s₄ => TurnEnd h₀ L m I oI D ys own (J (i + 1) (ys ++ [y])) s₄) (fun _ _ => False) s₃ else TurnEnd h₀ L m I oI D ys own (J (i + 1) ys) s₃) (fun _ _ => False) s')
    (fin : ∀ ys own nw (s' : Shared), J n ys nw s' → Own0 own → own.map (·.1) = as → Fr h₀ L s'.heap m → News h₀ L s'.heap ((D, LCg.lst ys) :: (own ++ nw)) → Sep I D as nw → RR (.ok .next) s') :
    codeAny (model prog w) A (.compStart (.ListComp elt [⟨target, iter, ifs, 0⟩] scope pos) 0 (.ref I) (.ref D) cenv) RR s := by
  have nI := (N _ (.head _)).2
  have nD := (N _ (.tail _ (.head _))).2
  have loop : codeAny (model prog w) A (.compLoop (.ListComp elt [⟨target, iter, ifs, 0⟩] scope pos) 0 (.ref I) (.ref D) cenv) RR s := by
    refine comp_loop (fun k s' => ∃ i ys own nw oI, i ≤ n ∧ k = n + 1 - i ∧ ys.length ≤ i ∧ St i s'.heap ∧ Fr h₀ L s'.heap m ∧ News h₀ L s'.heap ((I, oI) :: (D, LCg.lst ys) :: (own ++ nw)) ∧ own.map (·.1) = as ∧ Own0 own ∧ Sep I D as nw ∧ J i ys nw s') ?_ (n + 1)
      ⟨0, [], own, news, oI, Nat.zero_le _, rfl, Nat.le_refl _, st, F, N, ha, hO, sp, hj⟩
    rintro k s' ⟨i, ys, own, nw, oI, hi, rfl, hyl, hst, F', N', ha', hO', sp', hJ'⟩
    by_cases hlt : i < n
    · refine W.item i _ _ _ hlt hst fun v h₂ tk₂ hPv hst₂ hk₂ => ?_
      have F₂ : Fr h₀ L h₂ m := LCg.fr_but F' hk₂ (Ne.symm nI.1) nI.2
      have offI : ∀ p ∈ (D, LCg.lst ys) :: (own ++ nw), p.1 ≠ I := fun p hp => by
        rcases List.mem_cons.mp hp with rfl | hp
        · exact Ne.symm hID
        · rcases List.mem_append.mp hp with hp | hp
          · exact (hAs _ (ha' ▸ List.mem_map_of_mem hp)).1
          · exact (sp' p hp).1
      have N₂ : News h₀ L h₂ ((D, LCg.lst ys) :: (own ++ nw)) := LCg.news_but (fun p hp => N' p (.tail _ hp)) hk₂ offI
      refine hB i v own ((D, LCg.lst ys) :: nw) { s' with heap := h₂, toks := tk₂ } _ hPv hst₂ hO' ha' F₂ (fun p hp => N₂ p ?_) (fun p hp => ?_) ?_ fun own' h' tk' ha₃ h1 keep F₃ N₃ => ?_
      · rcases List.mem_append.mp hp with hp | hp
        · exact .tail _ (List.mem_append_left _ hp)
        · rcases List.mem_cons.mp hp with rfl | hp
          · exact .head _
          · exact .tail _ (List.mem_append_right _ hp)
      · rcases List.mem_cons.mp hp with rfl | hp
        · exact fun q => (hAs _ q).2 rfl
        · exact (sp' p hp).2.2
      · exact hT i ys nw s' v _ hJ' hPv fun p hp => .tail _ hp
      have hst₃ : St (i + 1) h' := W.frame _ _ _ hst₂ fun b hb o e => keep b o (fun q => hfO b q hb) e
      obtain ⟨oI₂, eI⟩ := hIo _ _ hst₃
      have N₄ : News h₀ L h' ((I, oI₂) :: (D, LCg.lst ys) :: (own' ++ nw)) := fun p hp => by
        rcases List.mem_cons.mp hp with rfl | hp
        · exact ⟨eI, nI⟩
        rcases List.mem_cons.mp hp with rfl | hp
        · exact ⟨keep _ _ (fun q => (hAs _ q).2 rfl) (N₂ _ (.head _)).1, nD⟩
        rcases List.mem_append.mp hp with hp | hp
        · exact N₃ p hp
        · have z := N₂ p (.tail _ (List.mem_append_right _ hp))
          exact ⟨keep _ _ (sp' p hp).2.2 z.1, z.2⟩
      refine wpAny_mono (turn i v ys own' nw { s' with heap := h', toks := tk' } oI₂ hlt hPv (hJ _ _ _ _ _ _ hJ') h1 ha₃ F₃ N₄ sp') (fun ok s₃ h₃ => ?_) fun _ _ e => e.elim
      have stOf : ∀ ys' nw' (s₄ : Shared), J (i + 1) ys' nw' s₄ → Fr h₀ L s₄.heap m → News h₀ L s₄.heap ((I, oI₂) :: (D, LCg.lst ys) :: (own' ++ nw')) → St (i + 1) s₄.heap := fun ys' nw' s₄ hj4 F4 N4 =>
        hSt _ _ _ _ _ _ _ hj4 hst₃ eI (N4 _ (.head _)).1 F4 fun p hp => N4 p (.tail _ (.tail _ (List.mem_append_right _ hp)))
      cases ok with
      | false =>
        rw [if_neg (by decide)] at h₃ ⊢
        obtain ⟨nw', F4, N4, sp4, hj4⟩ := h₃
        exact ⟨n + 1 - (i + 1), by omega, i + 1, ys, own', nw', oI₂, hlt, rfl, Nat.le_succ_of_le hyl, stOf _ _ _ hj4 F4 N4, F4, N4, ha₃, h10 _ _ _ h1, ha₃ ▸ sp4, hj4⟩
      | true =>
        rw [if_pos rfl] at h₃ ⊢
        refine wpAny_mono h₃ (fun y s₄ h₄ => ?_) fun _ _ e => e.elim
        obtain ⟨nw', F4, N4, sp4, hj4⟩ := h₄
        rw [ha₃] at sp4
        have zD := (N4 _ (.tail _ (.head _))).1
        refine append_at (hsz := by show ys.toArray.size ≤ sizeLine; rw [List.size_toArray]; omega) zD fun h₅ hs₅ hD₅ => ?_
        refine ⟨n + 1 - (i + 1), by omega, i + 1, ys ++ [y], own', nw', oI₂, hlt, rfl, by rw [List.length_append, List.length_singleton]; omega, ?_, F4.change hs₅ nD.1 nD.2, fun p hp => ?_, ha₃, h10 _ _ _ h1, sp4, ?_⟩
        · exact W.frame _ _ _ (stOf _ _ _ hj4 F4 N4) fun b hb o e => hs₅.extBut b o (fun q => hfD (q ▸ hb)) e
        · have offD : ∀ q ∈ (I, oI₂) :: (own' ++ nw'), q.1 ≠ D := fun q hq => by
            rcases List.mem_cons.mp hq with rfl | hq
            · exact hID
            rcases List.mem_append.mp hq with hq | hq
            · exact (hAs _ (ha₃ ▸ List.mem_map_of_mem hq)).2
            · exact (sp4 q hq).2.1
          rcases List.mem_cons.mp hp with rfl | hp
          · exact ⟨hs₅.extBut _ _ (offD _ (.head _)) (N4 _ (.head _)).1, nI⟩
          rcases List.mem_cons.mp hp with rfl | hp
          · exact ⟨hD₅.trans (congrArg some (LCg.lst_snoc ys y)), nD⟩
          · have z := N4 p (.tail _ (.tail _ hp))
            exact ⟨hs₅.extBut _ _ (offD _ (.tail _ hp)) z.1, z.2⟩
        · exact hJ _ _ _ s₄ h₅ s₄.toks hj4
    · obtain rfl : i = n := Nat.le_antisymm hi (Nat.not_lt.mp hlt)
      refine W.done _ _ _ hst fun h₂ tk₂ hk₂ => ?_
      refine fin ys own nw { s' with heap := h₂, toks := tk₂ } (hJ _ _ _ _ _ _ hJ') hO' ha' (LCg.fr_but F' hk₂ (Ne.symm nI.1) nI.2) (LCg.news_but (fun p hp => N' p (.tail _ hp)) hk₂ fun p hp => ?_) sp'
      rcases List.mem_cons.mp hp with rfl | hp
      · exact Ne.symm hID
      · rcases List.mem_append.mp hp with hp | hp
        · exact (hAs _ (ha' ▸ List.mem_map_of_mem hp)).1
        · exact (sp' p hp).1
  exact codeAny_compStart_list loop (W.self 0 _ _ _ st loop)
end
end Mine
end
section
open PySem PySem.W PyProof.Rows PySem.Calls PySem.Spec
set_option linter.unusedVariables false
namespace Mine
set_option maxRecDepth 100000
section
variable {prog : Program} {w : World} {A : Around} {E : Value → Shared → Prop} {s : Shared} {h₀ : Heap} {L : Addr} {m : Str → Option Value} {env : Env}
theorem size_free {h : Heap} (F : Fr h₀ L h m) {b : Addr} (hb : h.objs.size ≤ b) : h₀.get? b = none ∧ b ≠ L := by
  refine ⟨?_, fun q => ?_⟩
  · cases e : h₀.get? b with
    | none => rfl
    | some o => exact absurd (Heap.lt_size (F.keep b o e)) (Nat.not_lt.mpr hb)
  · have := F.ns.lt
    rw [← q] at this
    exact absurd this (Nat.not_lt.mpr hb)
/-- the two beginnings of a block: its names, and a cell for its own name where an inner block closes over it -/
structure Src (prog : Program) (w : World) (A : Around) (h₀ : Heap) (L : Addr) (m : Str → Option Value) (I : Addr) (n : Nat) (P : Nat → Value → Prop) (J : Nat → List Value → List (Addr × Obj) → Shared → Prop) (T : Nat → Value → List (Addr × Obj) → Prop)
    (fp : List Addr) (St : Nat → Heap → Prop) : Prop where
  W : Walks prog w A I fp [I] n P St
  hsz : n ≤ sizeLine
  hSt : ∀ i ys nw s h h' o, J i ys nw s → St i h → h.get? I = some o → h'.get? I = some o → Fr h₀ L h' m → News h₀ L h' nw → St i h'
  hJ : ∀ i ys nw s h tk, J i ys nw s → J i ys nw { s with heap := h, toks := tk }
  hIo : ∀ i h, St i h → ∃ o, h.get? I = some o
  hT : ∀ i ys nw s v rest, J i ys nw s → P i v → (∀ p ∈ nw, p ∈ rest) → T i v rest
theorem block_own {elt target iter : Expr} {ifs : List Expr} {scope : Scope} {cl : List (Str × Addr)} {pos : Pos} {I : Addr} {oI : Obj} {fp : List Addr} {n : Nat} {P : Nat → Value → Prop} {St : Nat → Heap → Prop} {news : List (Addr × Obj)} {RR : Value → Addr → Result → Shared → Prop}
    {J : Nat → List Value → List (Addr × Obj) → Shared → Prop} {T : Nat → Value → List (Addr × Obj) → Prop} (Bnd : Nat → Value → (Str → Option Value) → Prop)
    (S : Src prog w A h₀ L m I n P J T fp St) (hcell : ∀ y ∈ scope.names, y.2 ≠ .cell) (hkind : scope.kind = .function) (st : St 0 s.heap) (hfp : ∀ b ∈ fp, b < s.heap.objs.size) (F : Fr h₀ L s.heap m) (N : News h₀ L s.heap ((I, oI) :: news)) (off : ∀ p ∈ news, p.1 ≠ I) (hj : J 0 [] news s)
    (hB : ∀ C i v oC m' rest (s : Shared) (Q : Unit → Shared → Prop), P i v → St (i + 1) s.heap → LCg.NsObj oC m' → Fr h₀ L s.heap m → News h₀ L s.heap ((C, oC) :: rest) → (∀ p ∈ rest, p.1 ≠ C) → T i v rest →
      (∀ m'' h' tk', h'.Ns C m'' → Bnd i v m'' → (∀ b o, b ≠ C → s.heap.get? b = some o → h'.get? b = some o) → Fr h₀ L h' m → Q () { s with heap := h', toks := tk' }) →
      wpAny (model prog w) A (letOwnedTupleGo target (.ref I) v) (fun _ s₁ => wpAny (model prog w) A (assign target (compEnvC scope cl C env) v) Q (fun _ _ => False) s₁) (fun _ _ => False) s)
    (turn : ∀ C D i v ys oC m' nw (s' : Shared) oI, i < n → P i v → J i ys nw s' → LCg.NsObj oC m' → Bnd i v m' → Fr h₀ L s'.heap m → News h₀ L s'.heap ((I, oI) :: (D, LCg.lst ys) :: (C, oC) :: nw) → Sep I D [C] nw → (∀ p ∈ news, p.1 < D) → I < D → D < C →
      wpAny (model prog w) A (testsOf ifs (compEnvC scope cl C env)) (fun ok s₃ => if ok = true then wpAny (model prog w) A (eval elt (compEnvC scope cl C env)) (fun y s₄ => TurnEnd h₀ L m I oI D ys [(C, oC)] (J (i + 1) (ys ++ [y])) s₄) (fun _ _ => False) s₃ else TurnEnd h₀ L m I oI D ys [(C, oC)] (J (i + 1) ys) s₃) (fun _ _ => False) s')
    (fin : ∀ D C ys nw (s' : Shared) m', J n ys nw s' → Fr h₀ L s'.heap m → News h₀ L s'.heap ((D, LCg.lst ys) :: nw) → (∀ p ∈ nw, p.1 ≠ D ∧ p.1 ≠ C) → C ≠ D → s'.heap.Ns C m' → h₀.get? C = none → C ≠ L → (∀ p ∈ news, p.1 < D) → RR (.ref D) C (.ok .next) s') :
    wpAny (model prog w) A (newList []) (fun acc s₃ => wpAny (model prog w) A (newFunctionEnv scope env.globals cl [] env.qual none .none (some env)) (fun cenv s₄ =>
      codeAny (model prog w) A (.compStart (.ListComp elt [⟨target, iter, ifs, 0⟩] scope pos) 0 (.ref I) acc { cenv with scope := relabel scope env }) (RR acc cenv.locals) s₄) E s₃) E s := by
  have hI : I < s.heap.objs.size := Heap.lt_size (N _ (.head _)).1
  refine wpAny_newObj_type (wpAny_newFunctionEnv hcell (by intro y hy; simp at hy) (fun h₁ hns₁ hsb₁ => ?_) hkind)
  dsimp only at hns₁ hsb₁ ⊢
  generalize hD : s.heap.objs.size = D at hfp hI hns₁ hsb₁ ⊢
  have hC : (s.heap.push { cls := .type "list", dict := none, data := .seq ([] : List Value).toArray }).objs.size = D + 1 := by rw [Heap.size_push, hD]
  rw [hC] at hns₁ hsb₁ ⊢
  have old : ∀ b o, s.heap.get? b = some o → h₁.get? b = some o := fun b o e => hsb₁.extBut b o (by have := Heap.lt_size e; rw [hD] at this; exact Nat.ne_of_lt (Nat.lt_succ_of_lt this)) (Heap.get?_push_of_some _ (Heap.get?_push_of_some _ e))
  have eD : h₁.get? D = some (LCg.lst []) := hsb₁.extBut _ _ (Nat.ne_of_lt (Nat.lt_succ_self _)) (Heap.get?_push_of_some _ (hD ▸ Heap.get?_push_size _ rfl))
  obtain ⟨oC, eC, hoC⟩ := LCg.ns_obj hns₁
  have fD := size_free F (Nat.le_of_eq hD)
  have fC := size_free F (show s.heap.objs.size ≤ D + 1 by rw [hD]; exact Nat.le_succ D)
  have lt : ∀ p ∈ (I, oI) :: news, p.1 < D := fun p hp => hD ▸ Heap.lt_size (N p hp).1
  refine comp_core (own := [(D + 1, oC)]) (as := [D + 1]) (news := news) (oI := oI) J T (fun o => ∃ oC m', o = [(D + 1, oC)] ∧ LCg.NsObj oC m') (fun i v o => ∃ oC m', o = [(D + 1, oC)] ∧ LCg.NsObj oC m' ∧ Bnd i v m') S.W S.hsz S.hSt S.hJ S.hIo S.hT
    (fun i v o ⟨oC, m', h1, h2, _⟩ => ⟨oC, m', h1, h2⟩) (fun q => Nat.lt_irrefl _ (hfp _ q)) (fun a ha q => ?_) (Nat.ne_of_lt hI) (fun a ha => ?_) (S.W.frame _ _ _ st fun b _ o e => old b o e) (F.keeps old) (fun p hp => ?_) rfl ⟨oC, _, rfl, hoC⟩ (fun p hp => ?_) (S.hJ _ _ _ _ _ _ hj) ?_ ?_ ?_
  · rw [List.mem_singleton.mp ha] at q
    exact Nat.lt_irrefl _ (Nat.lt_trans (Nat.lt_succ_self D) (hfp _ q))
  · rw [List.mem_singleton.mp ha]
    exact ⟨Nat.ne_of_gt (Nat.lt_succ_of_lt hI), Nat.succ_ne_self D⟩
  · rcases List.mem_cons.mp hp with rfl | hp
    · exact ⟨old _ _ (N _ (.head _)).1, (N _ (.head _)).2⟩
    rcases List.mem_cons.mp hp with rfl | hp
    · exact ⟨eD, fD.2, fD.1⟩
    rcases List.mem_cons.mp hp with rfl | hp
    · exact ⟨eC, fC.2, fC.1⟩
    · exact ⟨old _ _ (N p (.tail _ hp)).1, (N p (.tail _ hp)).2⟩
  · have := lt p (.tail _ hp)
    exact ⟨off p hp, Nat.ne_of_lt this, fun q => by rw [List.mem_singleton.mp q] at this; exact Nat.lt_irrefl _ (Nat.lt_trans (Nat.lt_succ_self D) this)⟩
  · rintro i v own rest s' Q hP hst ⟨oC', m', rfl, hns⟩ _ F' N' off' hT' k
    refine hB (D + 1) i v oC' m' rest s' Q hP hst hns F' N' (fun p hp q => off' p hp (List.mem_singleton.mpr q)) hT' fun m'' h' tk' hns'' hb keep F'' => ?_
    obtain ⟨oC₂, e₂, ho₂⟩ := LCg.ns_obj hns''
    refine k [(D + 1, oC₂)] h' tk' rfl ⟨oC₂, m'', rfl, ho₂, hb⟩ (fun b o hb => keep b o fun q => hb (List.mem_singleton.mpr q)) F'' fun p hp => ?_
    rw [List.mem_singleton.mp hp]
    exact ⟨e₂, fC.2, fC.1⟩
  · rintro i v ys own nw s' oI' hlt hP hj' ⟨oC', m', rfl, hns, hb⟩ _ F' N' sp
    exact turn (D + 1) D i v ys oC' m' nw s' oI' hlt hP hj' hns hb F' N' sp (fun p hp => lt p (.tail _ hp)) hI (Nat.lt_succ_self D)
  · rintro ys own nw s' hj' ⟨oC', m', rfl, hns⟩ _ F' N' sp
    refine fin D (D + 1) ys nw s' m' hj' F' (fun p hp => N' p ?_) (fun p hp => ⟨(sp p hp).2.1, fun q => (sp p hp).2.2 (List.mem_singleton.mpr q)⟩) (Nat.succ_ne_self _) (hns.ns (N' _ (.tail _ (.head _))).1) fC.1 fC.2 fun p hp => lt p (.tail _ hp)
    rcases List.mem_cons.mp hp with rfl | hp
    · exact .head _
    · exact .tail _ (.tail _ hp)

theorem newEnv_cell {scope : Scope} {cl : List (Str × Addr)} {x : Str} {Q : Env → Shared → Prop} (hcf : ∀ n, cellsFrom n scope.names cl = (x, n) :: cl) (hpc : ∀ h, pushCells h scope.names = h.push { cls := .type "cell", data := .cell none })
    (h : Q (newEnv scope s.heap.objs.size env.globals ((x, s.heap.objs.size + 1) :: cl) env.qual none .none (some env) builtinsNs) { s with heap := (s.heap.push { cls := .type "dict", data := .dict #[] }).push { cls := .type "cell", data := .cell none } }) :
    wpAny (model prog w) A (newFunctionEnv scope env.globals cl [] env.qual none .none (some env)) Q E s := by
  simp only [newFunctionEnv, Option.isSome_some, if_true]
  refine wpAny_bind (wpAny_alloc ?_)
  refine wpAny_bind (wpAny_layCells _ (fun name kind cells => by cases hkc : kind == NameKind.cell <;> simp [hkc]) _ _ _ _ ?_)
  rw [hcf, hpc, show ({ s with heap := s.heap.push { cls := .type "dict", data := .dict #[] } } : Shared).heap.objs.size = s.heap.objs.size + 1 from Heap.size_push ..]
  simp only [List.forIn_nil]
  exact wpAny_bind (wpAny_pure (wpAny_pure h))
theorem block_cell {elt iter : Expr} {x : Str} {px : Pos} {ifs : List Expr} {scope : Scope} {cl : List (Str × Addr)} {pos : Pos} {I : Addr} {oI : Obj} {fp : List Addr} {n : Nat} {P : Nat → Value → Prop} {St : Nat → Heap → Prop} {news : List (Addr × Obj)} {RR : Value → Addr → Result → Shared → Prop}
    {J : Nat → List Value → List (Addr × Obj) → Shared → Prop} {T : Nat → Value → List (Addr × Obj) → Prop}
    (S : Src prog w A h₀ L m I n P J T fp St) (hcf : ∀ n, cellsFrom n scope.names cl = (x, n) :: cl) (hpc : ∀ h, pushCells h scope.names = h.push { cls := .type "cell", data := .cell none }) (hkind : scope.kind = .function) (hx : (relabel scope env).names.lookup x = some .cell)
    (st : St 0 s.heap) (hfp : ∀ b ∈ fp, b < s.heap.objs.size) (F : Fr h₀ L s.heap m) (N : News h₀ L s.heap ((I, oI) :: news)) (off : ∀ p ∈ news, p.1 ≠ I) (hj : J 0 [] news s)
    (turn : ∀ C c D i v ys oC oc nw (s' : Shared) oI, i < n → P i v → J i ys nw s' → oc.data = .cell (some v) → Fr h₀ L s'.heap m → News h₀ L s'.heap ((I, oI) :: (D, LCg.lst ys) :: (C, oC) :: (c, oc) :: nw) → Sep I D [C, c] nw → (∀ p ∈ news, p.1 < D) → I < D → D < C → C < c →
      wpAny (model prog w) A (testsOf ifs (compEnvC scope ((x, c) :: cl) C env)) (fun ok s₃ => if ok = true then wpAny (model prog w) A (eval elt (compEnvC scope ((x, c) :: cl) C env)) (fun y s₄ => TurnEnd h₀ L m I oI D ys [(C, oC), (c, oc)] (J (i + 1) (ys ++ [y])) s₄) (fun _ _ => False) s₃ else TurnEnd h₀ L m I oI D ys [(C, oC), (c, oc)] (J (i + 1) ys) s₃) (fun _ _ => False) s')
    (fin : ∀ D C ys nw (s' : Shared) m', J n ys nw s' → Fr h₀ L s'.heap m → News h₀ L s'.heap ((D, LCg.lst ys) :: nw) → (∀ p ∈ nw, p.1 ≠ D ∧ p.1 ≠ C) → C ≠ D → s'.heap.Ns C m' → h₀.get? C = none → C ≠ L → (∀ p ∈ news, p.1 < D) → RR (.ref D) C (.ok .next) s') :
    wpAny (model prog w) A (newList []) (fun acc s₃ => wpAny (model prog w) A (newFunctionEnv scope env.globals cl [] env.qual none .none (some env)) (fun cenv s₄ =>
      codeAny (model prog w) A (.compStart (.ListComp elt [⟨.Name x px, iter, ifs, 0⟩] scope pos) 0 (.ref I) acc { cenv with scope := relabel scope env }) (RR acc cenv.locals) s₄) E s₃) E s := by
  have hI : I < s.heap.objs.size := Heap.lt_size (N _ (.head _)).1
  refine wpAny_newObj_type (newEnv_cell hcf hpc ?_)
  dsimp only
  generalize hD : s.heap.objs.size = D at hfp hI ⊢
  have hC : (s.heap.push { cls := .type "list", dict := none, data := .seq ([] : List Value).toArray }).objs.size = D + 1 := by rw [Heap.size_push, hD]
  generalize hH : ((s.heap.push { cls := .type "list", dict := none, data := .seq ([] : List Value).toArray }).push { cls := .type "dict", data := .dict #[] }).push { cls := .type "cell", data := .cell none } = H
  have old : ∀ b o, s.heap.get? b = some o → H.get? b = some o := fun b o e => hH ▸ Heap.get?_push_of_some _ (Heap.get?_push_of_some _ (Heap.get?_push_of_some _ e))
  have eD : H.get? D = some (LCg.lst []) := hH ▸ Heap.get?_push_of_some _ (Heap.get?_push_of_some _ (hD ▸ Heap.get?_push_size _ rfl))
  have eC : H.get? (D + 1) = some { cls := .type "dict", data := .dict #[] } := hH ▸ Heap.get?_push_of_some _ (hC ▸ Heap.get?_push_size _ rfl)
  have ec : H.get? (D + 1 + 1) = some { cls := .type "cell", data := .cell none } := by
    have e := Heap.get?_push_size ((s.heap.push { cls := .type "list", dict := none, data := .seq ([] : List Value).toArray }).push { cls := .type "dict", data := .dict #[] }) (o := { cls := .type "cell", data := .cell none }) rfl
    rw [Heap.size_push, hC, hH] at e
    exact e
  rw [hC]
  have fD := size_free F (Nat.le_of_eq hD)
  have fC := size_free F (show s.heap.objs.size ≤ D + 1 by rw [hD]; exact Nat.le_succ D)
  have fc := size_free F (show s.heap.objs.size ≤ D + 1 + 1 by rw [hD]; exact Nat.le_trans (Nat.le_succ D) (Nat.le_succ _))
  have lt : ∀ p ∈ (I, oI) :: news, p.1 < D := fun p hp => hD ▸ Heap.lt_size (N p hp).1
  have lC : D < D + 1 := Nat.lt_succ_self D
  have lc : D + 1 < D + 1 + 1 := Nat.lt_succ_self (D + 1)
  have two : ∀ {a : Addr}, a ∈ [D + 1, D + 1 + 1] → D < a := fun {a} ha => by
    rcases List.mem_cons.mp ha with rfl | ha
    · exact lC
    · rw [List.mem_singleton.mp ha]; exact Nat.lt_trans lC lc
  refine comp_core (s := { s with heap := H }) (own := [(D + 1, { cls := .type "dict", data := .dict #[] }), (D + 1 + 1, { cls := .type "cell", data := .cell none })]) (as := [D + 1, D + 1 + 1]) (news := news) (oI := oI) J T
    (fun o => ∃ oC oc m' u, o = [(D + 1, oC), (D + 1 + 1, oc)] ∧ LCg.NsObj oC m' ∧ oc.data = .cell u) (fun i v o => ∃ oC oc m', o = [(D + 1, oC), (D + 1 + 1, oc)] ∧ LCg.NsObj oC m' ∧ oc.data = .cell (some v)) S.W S.hsz S.hSt S.hJ S.hIo S.hT
    (fun i v o ⟨oC, oc, m', h1, h2, h3⟩ => ⟨oC, oc, m', some v, h1, h2, h3⟩) (fun q => Nat.lt_irrefl _ (hfp _ q)) (fun a ha q => Nat.lt_irrefl _ (Nat.lt_trans (two ha) (hfp _ q))) (Nat.ne_of_lt hI) (fun a ha => ⟨Nat.ne_of_gt (Nat.lt_trans hI (two ha)), Nat.ne_of_gt (two ha)⟩)
    (S.W.frame _ _ _ st fun b _ o e => old b o e) (F.keeps old) (fun p hp => ?_) rfl ⟨_, _, fun _ => none, none, rfl, ⟨#[], 0, rfl, fun _ he => by simp at he, fun _ => rfl⟩, rfl⟩ (fun p hp => ?_) (S.hJ _ _ _ _ _ s.toks hj) ?_ ?_ ?_
  · rcases List.mem_cons.mp hp with rfl | hp
    · exact ⟨old _ _ (N _ (.head _)).1, (N _ (.head _)).2⟩
    rcases List.mem_cons.mp hp with rfl | hp
    · exact ⟨eD, fD.2, fD.1⟩
    rcases List.mem_cons.mp hp with rfl | hp
    · exact ⟨eC, fC.2, fC.1⟩
    rcases List.mem_cons.mp hp with rfl | hp
    · exact ⟨ec, fc.2, fc.1⟩
    · exact ⟨old _ _ (N p (.tail _ hp)).1, (N p (.tail _ hp)).2⟩
  · have := lt p (.tail _ hp)
    exact ⟨off p hp, Nat.ne_of_lt this, fun q => Nat.lt_irrefl _ (Nat.lt_trans (two q) this)⟩
  · rintro i v own rest s' Q hP hst ⟨oC', oc', m', u, rfl, hns, hcd⟩ _ F' N' off' hT' k
    refine wpAny_of_eq (a := ()) rfl ?_
    refine wpAny_assign_Name (wpAny_storeName_cell (c := D + 1 + 1) hkind hx (by show List.lookup x ((x, D + 1 + 1) :: cl) = _; simp) ⟨oc', (N' _ (.tail _ (.head _))).1, hcd⟩ fun h' hc' hs' => ?_)
    obtain ⟨oc₂, e₂, hd₂⟩ := hc'
    refine k [(D + 1, oC'), (D + 1 + 1, oc₂)] h' s'.toks rfl ⟨oC', oc₂, m', rfl, hns, hd₂⟩ (fun b o hb e => hs'.extBut b o (fun q => hb (q ▸ .tail _ (.head _))) e) (F'.change hs' fc.2 fc.1) fun p hp => ?_
    rcases List.mem_cons.mp hp with rfl | hp
    · exact ⟨hs'.extBut _ _ (Nat.ne_of_lt lc) (N' _ (.head _)).1, fC.2, fC.1⟩
    · rw [List.mem_singleton.mp hp]
      exact ⟨e₂, fc.2, fc.1⟩
  · rintro i v ys own nw s' oI' hlt hP hj' ⟨oC', oc', m', rfl, hns, hcd⟩ _ F' N' sp
    exact turn (D + 1) (D + 1 + 1) D i v ys oC' oc' nw s' oI' hlt hP hj' hcd F' N' sp (fun p hp => lt p (.tail _ hp)) hI lC lc
  · rintro ys own nw s' hj' ⟨oC', oc', m', u, rfl, hns, hcd⟩ _ F' N' sp
    refine fin D (D + 1) ys nw s' m' hj' F' (fun p hp => N' p ?_) (fun p hp => ⟨(sp p hp).2.1, fun q => (sp p hp).2.2 (q ▸ .head _)⟩) (Nat.succ_ne_self _) (hns.ns (N' _ (.tail _ (.head _))).1) fC.1 fC.2 fun p hp => lt p (.tail _ hp)
    rcases List.mem_cons.mp hp with rfl | hp
    · exact .head _
    · exact .tail _ (.tail _ (.tail _ hp))
end
end Mine
end
section
open PySem PySem.W PyProof.Rows PySem.Calls PySem.Spec
set_option linter.unusedVariables false
namespace Mine
set_option maxRecDepth 100000
section
variable {prog : Program} {w : World} {A : Around} {E : Value → Shared → Prop} {s : Shared} {h₀ : Heap} {L : Addr} {m : Str → Option Value} {env : Env}
/-- what stands behind a block -/
def FinP (h₀ : Heap) (L : Addr) (m : Str → Option Value) (J : Nat → List Value → List (Addr × Obj) → Shared → Prop) (n : Nat) (news : List (Addr × Obj)) (RR : Value → Addr → Result → Shared → Prop) : Prop :=
  ∀ D C ys nw (s' : Shared) m', J n ys nw s' → Fr h₀ L s'.heap m → News h₀ L s'.heap ((D, LCg.lst ys) :: nw) → (∀ p ∈ nw, p.1 ≠ D ∧ p.1 ≠ C) → C ≠ D → s'.heap.Ns C m' → h₀.get? C = none → C ≠ L → (∀ p ∈ news, p.1 < D) → RR (.ref D) C (.ok .next) s'
theorem fin_eval {J : Nat → List Value → List (Addr × Obj) → Shared → Prop} {n : Nat} {news : List (Addr × Obj)} {Q : Value → Shared → Prop} (hJ : ∀ i ys nw s h tk, J i ys nw s → J i ys nw { s with heap := h, toks := tk })
    (done : ∀ D ys nw (s' : Shared), J n ys nw s' → Fr h₀ L s'.heap m → News h₀ L s'.heap ((D, LCg.lst ys) :: nw) → (∀ p ∈ nw, p.1 ≠ D) → (∀ p ∈ news, p.1 < D) → Q (.ref D) s') :
    FinP h₀ L m J n news (fun acc C => compPost (model prog w) A E none Q acc C) := by
  intro D C ys nw s' m' hj F N off hCD hn hC hCL hlt
  refine ⟨m', hn, fun h' hs' => done D ys nw { s' with heap := h' } (hJ _ _ _ s' h' s'.toks hj) (F.change hs' hCL hC) (fun p hp => ?_) (fun p hp => (off p hp).1) hlt⟩
  refine ⟨hs'.extBut _ _ ?_ (N p hp).1, (N p hp).2⟩
  rcases List.mem_cons.mp hp with rfl | hp
  · exact Ne.symm hCD
  · exact (off p hp).2
theorem fin_used {y : Str} {py : Pos} {J : Nat → List Value → List (Addr × Obj) → Shared → Prop} {n : Nat} {news : List (Addr × Obj)} {Q : Value → Shared → Prop} (hLe : env.locals = L) (hy : env.kindOf y = some .local) (hp : (env.scope.kind == .class || (env.scope.kind == .module && env.locals != env.globals)) = false)
    (hJ : ∀ i ys nw s h tk, J i ys nw s → J i ys nw { s with heap := h, toks := tk })
    (done : ∀ D ys nw (s' : Shared), J n ys nw s' → Fr h₀ L s'.heap (fun z => if z = y then some (.ref D) else m z) → News h₀ L s'.heap ((D, LCg.lst ys) :: nw) → (∀ p ∈ nw, p.1 ≠ D) → (∀ p ∈ news, p.1 < D) → Q .none s') :
    FinP h₀ L m J n news (fun acc C => compPost (model prog w) A E (some (assign (.Name y py) env)) Q acc C) := by
  intro D C ys nw s' m' hj F N off hCD hn hC hCL hlt
  show wpAny _ A (assign (.Name y py) env (.ref D)) _ _ _
  subst hLe
  refine wpAny_assign_Name (wpAny_storeName_local hy F.ns (fun h₂ hn₂ hs₂ => ?_) hp)
  have hL₀ : h₀.get? env.locals = none := Heap.get?_none_of_le F.above
  have F₂ : Fr h₀ env.locals h₂ (fun z => if z = y then some (.ref D) else m z) := ⟨hn₂, fun b o e => hs₂.extBut b o (fun q => by rw [q, hL₀] at e; cases e) (F.keep b o e), F.above⟩
  refine ⟨m', hn.sameBut hs₂ hCL, fun h' hs' => done D ys nw _ (hJ _ _ _ s' h' (s'.toks + 1) hj) (F₂.change hs' hCL hC) (fun p hp => ?_) (fun p hp => (off p hp).1) hlt⟩
  have z : h₂.get? p.1 = some p.2 := hs₂.extBut _ _ (N p hp).2.1 (N p hp).1
  refine ⟨hs'.extBut _ _ ?_ z, (N p hp).2⟩
  rcases List.mem_cons.mp hp with rfl | hp
  · exact Ne.symm hCD
  · exact (off p hp).2
/-- a target that is a name -/
theorem bind_name {x : Str} {px : Pos} {scope : Scope} {cl : List (Str × Addr)} {I : Addr} {P : Nat → Value → Prop} {St : Nat → Heap → Prop} {T : Nat → Value → List (Addr × Obj) → Prop} (hkind : scope.kind = .function) (hx : scope.names.lookup x = some .local) :
    ∀ C i v oC m' rest (s : Shared) (Q : Unit → Shared → Prop), P i v → St (i + 1) s.heap → LCg.NsObj oC m' → Fr h₀ L s.heap m → News h₀ L s.heap ((C, oC) :: rest) → (∀ p ∈ rest, p.1 ≠ C) → T i v rest →
      (∀ m'' h' tk', h'.Ns C m'' → m'' x = some v → (∀ b o, b ≠ C → s.heap.get? b = some o → h'.get? b = some o) → Fr h₀ L h' m → Q () { s with heap := h', toks := tk' }) →
      wpAny (model prog w) A (letOwnedTupleGo (.Name x px) (.ref I) v) (fun _ s₁ => wpAny (model prog w) A (assign (.Name x px) (compEnvC scope cl C env) v) Q (fun _ _ => False) s₁) (fun _ _ => False) s := by
  intro C i v oC m' rest s Q _ _ hns F N _ _ k
  have nC := (N _ (.head _)).2
  refine wpAny_of_eq (a := ()) rfl ?_
  refine wpAny_assign_Name (wpAny_storeName_local (lookup_relabel_local hx) (hns.ns (N _ (.head _)).1) (fun h₃ hn₃ hs₃ => ?_) (by simp [compEnvC, relabel, hkind]))
  exact k _ h₃ _ hn₃ (by simp) (fun b o hb e => hs₃.extBut b o hb e) (F.change hs₃ nC.1 nC.2)
/-- a target that is a pair of names -/
theorem bind_pair {x x₂ : Str} {px px₂ tp : Pos} {tk} {scope : Scope} {cl : List (Str × Addr)} {I ax : Addr} {its : Array Value} {P : Nat → Value → Prop} (V : Nat → Value → Value → Prop) (hh : A.handled = none) (hkind : scope.kind = .function) (hx : scope.names.lookup x = some .local) (hx₂ : scope.names.lookup x₂ = some .local) (hxx : x ≠ x₂) :
    ∀ C i v oC m' rest (s : Shared) (Q : Unit → Shared → Prop), P i v → (s.heap.IsListIter I ax (i + 1) ∧ s.heap.IsList ax its) → LCg.NsObj oC m' → Fr h₀ L s.heap m → News h₀ L s.heap ((C, oC) :: rest) → (∀ p ∈ rest, p.1 ≠ C) → (∃ t a b k, v = .ref t ∧ V i a b ∧ (t, ({ cls := .type "tuple", data := .seq #[a, b] k } : Obj)) ∈ rest) →
      (∀ m'' h' tk', h'.Ns C m'' → (∃ a b, V i a b ∧ m'' x = some a ∧ m'' x₂ = some b) → (∀ b o, b ≠ C → s.heap.get? b = some o → h'.get? b = some o) → Fr h₀ L h' m → Q () { s with heap := h', toks := tk' }) →
      wpAny (model prog w) A (letOwnedTupleGo (.Tuple [.Name x px, .Name x₂ px₂] tk tp) (.ref I) v) (fun _ s₁ => wpAny (model prog w) A (assign (.Tuple [.Name x px, .Name x₂ px₂] tk tp) (compEnvC scope cl C env) v) Q (fun _ _ => False) s₁) (fun _ _ => False) s := by
  rintro C i v oC m' rest s Q _ hst hns F N _ ⟨t, a, b, k9, rfl, hV, hm⟩ k
  have nC := (N _ (.head _)).2
  have ht : IsTup s.heap t #[a, b] := ⟨_, (N _ (.tail _ hm)).1, rfl, k9, rfl⟩
  refine wpAny_letOwnedTupleGo_listiter hst.1 ?_
  refine assign_Tuple_tuple hh ht rfl rfl fun h₅ he => ?_
  have he' : ∀ b o, s.heap.get? b = some o → h₅.get? b = some o := fun b o e => he b o (Nat.ne_of_lt (Heap.lt_size e)) e
  refine assignInOrder_cons (wpAny_assign_Name (wpAny_storeName_local (lookup_relabel_local hx) ((hns.ns (N _ (.head _)).1).at' fun o e => he' _ o e) (fun h₆ hn₆ hs₆ => ?_) (by simp [compEnvC, relabel, hkind])))
  refine assignInOrder_cons (wpAny_assign_Name (wpAny_storeName_local (lookup_relabel_local hx₂) hn₆ (fun h₃ hn₃ hs₃ => ?_) (by simp [compEnvC, relabel, hkind])))
  refine assignInOrder_nil ?_
  refine k _ h₃ _ hn₃ ⟨a, b, hV, by simp [hxx], by simp⟩ (fun b o hb e => hs₃.extBut b o hb (hs₆.extBut b o hb (he' b o e))) (((F.keeps he').change hs₆ nC.1 nC.2).change hs₃ nC.1 nC.2)
/-- a list to walk over -/
theorem src_list {I ax : Addr} {its : Array Value} {J : Nat → List Value → List (Addr × Obj) → Shared → Prop} {T : Nat → Value → List (Addr × Obj) → Prop} (hh : A.handled = none) (hne : ax ≠ I) (hsz : its.size ≤ sizeLine)
    (hJ : ∀ i ys nw s h tk, J i ys nw s → J i ys nw { s with heap := h, toks := tk }) (hl : ∀ i ys nw s h, J i ys nw s → Fr h₀ L h m → News h₀ L h nw → h.IsList ax its) (hT : ∀ i ys nw s v rest, J i ys nw s → its[i]? = some v → (∀ p ∈ nw, p ∈ rest) → T i v rest) :
    Src prog w A h₀ L m I its.size (fun i v => its[i]? = some v) J T [I, ax] (fun i h => h.IsListIter I ax i ∧ h.IsList ax its) where
  W := Walks.list hh I ax hne its
  hsz := hsz
  hSt := fun i ys nw s h h' o hj st e e' F N => ⟨iter_same st.1 e e', hl _ _ _ _ _ hj F N⟩
  hJ := hJ
  hIo := fun i h st => by obtain ⟨o, e, _⟩ := st.1; exact ⟨o, e⟩
  hT := hT
theorem src_range {I : Addr} {a : Int} {n : Nat} {J : Nat → List Value → List (Addr × Obj) → Shared → Prop} {T : Nat → Value → List (Addr × Obj) → Prop} (hh : A.handled = none) (hsz : n ≤ sizeLine)
    (hJ : ∀ i ys nw s h tk, J i ys nw s → J i ys nw { s with heap := h, toks := tk }) (hT : ∀ i ys nw s v rest, J i ys nw s → (∃ t, v = .int (a + (i : Int)) t) → (∀ p ∈ nw, p ∈ rest) → T i v rest) :
    Src prog w A h₀ L m I n (fun i v => ∃ t, v = .int (a + (i : Int)) t) J T [I] (fun i h => IsRangeIter h I (a + (i : Nat) * 1) ((n : Int) - (i : Nat)) 1) where
  W := LCg.range_walks hh a n
  hsz := hsz
  hSt := fun i ys nw s h h' o hj st e e' F N => by
    have st' : h.get? I = some _ := st
    show h'.get? I = some _
    rw [e', ← e]; exact st'
  hJ := hJ
  hIo := fun i h st => ⟨_, st⟩
  hT := hT
end
end Mine
end
section
open PySem PySem.W PyProof.Rows PySem.Calls PySem.Spec
set_option linter.unusedVariables false
namespace Mine
set_option maxRecDepth 100000
section
variable {prog : Program} {w : World} {A : Around} {E : Value → Shared → Prop} {s : Shared} {h₀ : Heap} {L : Addr} {m : Str → Option Value} {env : Env} {scope : Scope} {cl : List (Str × Addr)} {pos : Pos} {elt iter : Expr} {ifs : List Expr} {news : List (Addr × Obj)} {RR : Value → Addr → Result → Shared → Prop}
  {J : Nat → List Value → List (Addr × Obj) → Shared → Prop}
/-- what a turn must show: the tests, then the element -/
abbrev TurnOk (prog : Program) (w : World) (A : Around) (h₀ : Heap) (L : Addr) (m : Str → Option Value) (J : Nat → List Value → List (Addr × Obj) → Shared → Prop) (ifs : List Expr) (elt : Expr) (cenv : Env) (I : Addr) (oI : Obj) (D : Addr) (own : List (Addr × Obj)) (i : Nat) (ys : List Value) (s' : Shared) : Prop :=
  wpAny (model prog w) A (testsOf ifs cenv) (fun ok s₃ => if ok = true then wpAny (model prog w) A (eval elt cenv) (fun y s₄ => TurnEnd h₀ L m I oI D ys own (J (i + 1) (ys ++ [y])) s₄) (fun _ _ => False) s₃ else TurnEnd h₀ L m I oI D ys own (J (i + 1) ys) s₃) (fun _ _ => False) s'
abbrev BlockOf (prog : Program) (w : World) (A : Around) (E : Value → Shared → Prop) (env : Env) (scope : Scope) (cl : List (Str × Addr)) (e : Expr) (RR : Value → Addr → Result → Shared → Prop) (it : Value) (s₂ : Shared) : Prop :=
  wpAny (model prog w) A (newList []) (fun acc s₃ => wpAny (model prog w) A (newFunctionEnv scope env.globals cl [] env.qual none .none (some env)) (fun cenv s₄ => codeAny (model prog w) A (.compStart e 0 it acc { cenv with scope := relabel scope env }) (RR acc cenv.locals) s₄) E s₃) E s₂
theorem push_up {s : Shared} {o : Obj} : ∀ b o', s.heap.get? b = some o' → (s.heap.push o).get? b = some o' := fun b o' e => Heap.get?_push_of_some _ e
theorem push_news {o : Obj} (F : Fr h₀ L s.heap m) (N : News h₀ L s.heap news) (hf : o.isFreed = false) : News h₀ L (s.heap.push o) ((s.heap.objs.size, o) :: news) := fun p hp => by
  rcases List.mem_cons.mp hp with rfl | hp
  · exact ⟨Heap.get?_push_size _ hf, Nat.ne_of_gt F.ns.lt, next_is_new F⟩
  · exact ⟨push_up _ _ (N p hp).1, (N p hp).2⟩
theorem iter_list {target : Expr} {ax : Addr} {its : Array Value} {T : Nat → Value → List (Addr × Obj) → Prop} (J : Nat → List Value → List (Addr × Obj) → Shared → Prop) (Bnd : Nat → Value → (Str → Option Value) → Prop) (hh : A.handled = none) (hcell : ∀ y ∈ scope.names, y.2 ≠ .cell) (hkind : scope.kind = .function)
    (F : Fr h₀ L s.heap m) (N : News h₀ L s.heap news) (hsz : its.size ≤ sizeLine) (hJ : ∀ i ys nw s h tk, J i ys nw s → J i ys nw { s with heap := h, toks := tk }) (hl : ∀ i ys nw s h, J i ys nw s → Fr h₀ L h m → News h₀ L h nw → h.IsList ax its)
    (hT : ∀ i ys nw s v rest, J i ys nw s → its[i]? = some v → (∀ p ∈ nw, p ∈ rest) → T i v rest) (hj : J 0 [] news s)
    (hB : ∀ I C i v oC m' rest (s : Shared) (Q : Unit → Shared → Prop), its[i]? = some v → (s.heap.IsListIter I ax (i + 1) ∧ s.heap.IsList ax its) → LCg.NsObj oC m' → Fr h₀ L s.heap m → News h₀ L s.heap ((C, oC) :: rest) → (∀ p ∈ rest, p.1 ≠ C) → T i v rest →
      (∀ m'' h' tk', h'.Ns C m'' → Bnd i v m'' → (∀ b o, b ≠ C → s.heap.get? b = some o → h'.get? b = some o) → Fr h₀ L h' m → Q () { s with heap := h', toks := tk' }) →
      wpAny (model prog w) A (letOwnedTupleGo target (.ref I) v) (fun _ s₁ => wpAny (model prog w) A (assign target (compEnvC scope cl C env) v) Q (fun _ _ => False) s₁) (fun _ _ => False) s)
    (turn : ∀ I C D i v ys oC m' nw (s' : Shared) oI, its[i]? = some v → J i ys nw s' → LCg.NsObj oC m' → Bnd i v m' → Fr h₀ L s'.heap m → News h₀ L s'.heap ((I, oI) :: (D, LCg.lst ys) :: (C, oC) :: nw) → Sep I D [C] nw → (∀ p ∈ news, p.1 < I) → I < D → D < C →
      TurnOk prog w A h₀ L m J ifs elt (compEnvC scope cl C env) I oI D [(C, oC)] i ys s')
    (fin : FinP h₀ L m J its.size news RR) :
    wpAny (model prog w) A (pyIter (.ref ax)) (BlockOf prog w A E env scope cl (.ListComp elt [⟨target, iter, ifs, 0⟩] scope pos) RR) E s := by
  have hl0 := hl _ _ _ _ _ hj F N
  have lax : ax < s.heap.objs.size := by obtain ⟨_, e, _⟩ := hl0; exact Heap.lt_size e
  refine wpAny_pyIter_list hl0 ?_
  have lI : ∀ p ∈ news, p.1 < s.heap.objs.size := fun p hp => Heap.lt_size (N p hp).1
  refine block_own (s := { s with heap := _ }) Bnd (src_list hh (Nat.ne_of_lt lax) hsz hJ hl hT) hcell hkind ⟨⟨_, Heap.get?_push_size _ rfl, rfl, rfl⟩, hl0.push _⟩ (fun b hb => ?_) (F.keeps push_up) (push_news F N rfl) (fun p hp => Nat.ne_of_lt (lI p hp)) (hJ _ _ _ s _ s.toks hj) (hB _) ?_ fin
  · show b < (s.heap.push _).objs.size
    rw [Heap.size_push]
    rcases List.mem_cons.mp hb with rfl | hb
    · exact Nat.lt_succ_self _
    · rw [List.mem_singleton.mp hb]; exact Nat.lt_succ_of_lt lax
  · intro C D i v ys oC m' nw s' oI hlt hv hj' hns hb F' N' sp hD hID hDC
    exact turn _ C D i v ys oC m' nw s' oI hv hj' hns hb F' N' sp lI hID hDC
theorem iter_list_c {x : Str} {px : Pos} {ax : Addr} {its : Array Value} (J : Nat → List Value → List (Addr × Obj) → Shared → Prop) (hh : A.handled = none) (hcf : ∀ n, cellsFrom n scope.names cl = (x, n) :: cl) (hpc : ∀ h, pushCells h scope.names = h.push { cls := .type "cell", data := .cell none }) (hkind : scope.kind = .function) (hx : (relabel scope env).names.lookup x = some .cell)
    (F : Fr h₀ L s.heap m) (N : News h₀ L s.heap news) (hsz : its.size ≤ sizeLine) (hJ : ∀ i ys nw s h tk, J i ys nw s → J i ys nw { s with heap := h, toks := tk }) (hl : ∀ i ys nw s h, J i ys nw s → Fr h₀ L h m → News h₀ L h nw → h.IsList ax its) (hj : J 0 [] news s)
    (turn : ∀ I C c D i v ys oC oc nw (s' : Shared) oI, its[i]? = some v → J i ys nw s' → oc.data = .cell (some v) → Fr h₀ L s'.heap m → News h₀ L s'.heap ((I, oI) :: (D, LCg.lst ys) :: (C, oC) :: (c, oc) :: nw) → Sep I D [C, c] nw → (∀ p ∈ news, p.1 < I) → I < D → D < C → C < c →
      TurnOk prog w A h₀ L m J ifs elt (compEnvC scope ((x, c) :: cl) C env) I oI D [(C, oC), (c, oc)] i ys s')
    (fin : FinP h₀ L m J its.size news RR) :
    wpAny (model prog w) A (pyIter (.ref ax)) (BlockOf prog w A E env scope cl (.ListComp elt [⟨.Name x px, iter, ifs, 0⟩] scope pos) RR) E s := by
  have hl0 := hl _ _ _ _ _ hj F N
  have lax : ax < s.heap.objs.size := by obtain ⟨_, e, _⟩ := hl0; exact Heap.lt_size e
  refine wpAny_pyIter_list hl0 ?_
  have lI : ∀ p ∈ news, p.1 < s.heap.objs.size := fun p hp => Heap.lt_size (N p hp).1
  refine block_cell (s := { s with heap := _ }) (src_list (T := fun _ _ _ => True) hh (Nat.ne_of_lt lax) hsz hJ hl fun _ _ _ _ _ _ _ _ _ => trivial) hcf hpc hkind hx ⟨⟨_, Heap.get?_push_size _ rfl, rfl, rfl⟩, hl0.push _⟩ (fun b hb => ?_) (F.keeps push_up) (push_news F N rfl) (fun p hp => Nat.ne_of_lt (lI p hp)) (hJ _ _ _ s _ s.toks hj) ?_ fin
  · show b < (s.heap.push _).objs.size
    rw [Heap.size_push]
    rcases List.mem_cons.mp hb with rfl | hb
    · exact Nat.lt_succ_self _
    · rw [List.mem_singleton.mp hb]; exact Nat.lt_succ_of_lt lax
  · intro C c D i v ys oC oc nw s' oI hlt hv hj' hcd F' N' sp hD hID hDC hCc
    exact turn _ C c D i v ys oC oc nw s' oI hv hj' hcd F' N' sp lI hID hDC hCc
theorem iter_range {x : Str} {px : Pos} {r : Addr} {a b : Int} {t u v : Tok} {n : Nat} (J : Nat → List Value → List (Addr × Obj) → Shared → Prop) (hh : A.handled = none) (hcell : ∀ y ∈ scope.names, y.2 ≠ .cell) (hkind : scope.kind = .function) (hx : scope.names.lookup x = some .local)
    (F : Fr h₀ L s.heap m) (N : News h₀ L s.heap news) (hr : IsRange s.heap r a b 1 t u v) (hsm : Builtin.Range.small a b 1 = true) (hn : Builtin.Range.rangeSize a b 1 = ((n : Nat) : Int)) (hsz : n ≤ sizeLine) (hJ : ∀ i ys nw s h tk, J i ys nw s → J i ys nw { s with heap := h, toks := tk }) (hj : J 0 [] news s)
    (turn : ∀ I C D i t ys oC m' nw (s' : Shared) oI, i < n → J i ys nw s' → LCg.NsObj oC m' → m' x = some (.int (a + (i : Int)) t) → Fr h₀ L s'.heap m → News h₀ L s'.heap ((I, oI) :: (D, LCg.lst ys) :: (C, oC) :: nw) → Sep I D [C] nw → (∀ p ∈ news, p.1 < I) → I < D → D < C →
      TurnOk prog w A h₀ L m J ifs elt (compEnvC scope cl C env) I oI D [(C, oC)] i ys s')
    (fin : FinP h₀ L m J n news RR) :
    wpAny (model prog w) A (pyIter (.ref r)) (BlockOf prog w A E env scope cl (.ListComp elt [⟨.Name x px, iter, ifs, 0⟩] scope pos) RR) E s := by
  refine wpAny_pyIter_range hr hsm ?_
  have lI : ∀ p ∈ news, p.1 < s.heap.objs.size := fun p hp => Heap.lt_size (N p hp).1
  refine block_own (s := { s with heap := _ }) (fun i v m' => (∃ t, v = .int (a + (i : Int)) t) ∧ m' x = some v) (src_range (T := fun i v _ => ∃ t, v = .int (a + (i : Int)) t) hh hsz hJ fun _ _ _ _ _ _ _ hp _ => hp) hcell hkind (by show IsRangeIter _ _ _ _ _; rw [hn]; simpa using Heap.get?_push_size _ rfl) (fun b hb => ?_) (F.keeps push_up) (push_news F N rfl) (fun p hp => Nat.ne_of_lt (lI p hp)) (hJ _ _ _ s _ s.toks hj) ?_ ?_ fin
  · rw [List.mem_singleton.mp hb]
    show s.heap.objs.size < (s.heap.push _).objs.size
    rw [Heap.size_push]; exact Nat.lt_succ_self _
  · intro C i v oC m' rest s Q hP hst hns F N off hT k
    exact bind_name (P := fun i v => ∃ t, v = .int (a + (i : Int)) t) (T := fun i v _ => ∃ t, v = .int (a + (i : Int)) t) (St := fun _ _ => True) hkind hx C i v oC m' rest s Q hP trivial hns F N off hT fun m'' h' tk' hn' hb => k m'' h' tk' hn' ⟨hP, hb⟩
  · rintro C D i v ys oC m' nw s' oI hlt hv hj' hns ⟨⟨t', rfl⟩, hb⟩ F' N' sp hD hID hDC
    exact turn _ C D i t' ys oC m' nw s' oI hlt hj' hns hb F' N' sp lI hID hDC
theorem iter_range_c {x : Str} {px : Pos} {r : Addr} {a b : Int} {t u v : Tok} {n : Nat} (J : Nat → List Value → List (Addr × Obj) → Shared → Prop) (hh : A.handled = none) (hcf : ∀ n, cellsFrom n scope.names cl = (x, n) :: cl) (hpc : ∀ h, pushCells h scope.names = h.push { cls := .type "cell", data := .cell none }) (hkind : scope.kind = .function) (hx : (relabel scope env).names.lookup x = some .cell)
    (F : Fr h₀ L s.heap m) (N : News h₀ L s.heap news) (hr : IsRange s.heap r a b 1 t u v) (hsm : Builtin.Range.small a b 1 = true) (hn : Builtin.Range.rangeSize a b 1 = ((n : Nat) : Int)) (hsz : n ≤ sizeLine) (hJ : ∀ i ys nw s h tk, J i ys nw s → J i ys nw { s with heap := h, toks := tk }) (hj : J 0 [] news s)
    (turn : ∀ I C c D i t ys oC oc nw (s' : Shared) oI, i < n → J i ys nw s' → oc.data = .cell (some (.int (a + (i : Int)) t)) → Fr h₀ L s'.heap m → News h₀ L s'.heap ((I, oI) :: (D, LCg.lst ys) :: (C, oC) :: (c, oc) :: nw) → Sep I D [C, c] nw → (∀ p ∈ news, p.1 < I) → I < D → D < C → C < c →
      TurnOk prog w A h₀ L m J ifs elt (compEnvC scope ((x, c) :: cl) C env) I oI D [(C, oC), (c, oc)] i ys s')
    (fin : FinP h₀ L m J n news RR) :
    wpAny (model prog w) A (pyIter (.ref r)) (BlockOf prog w A E env scope cl (.ListComp elt [⟨.Name x px, iter, ifs, 0⟩] scope pos) RR) E s := by
  refine wpAny_pyIter_range hr hsm ?_
  have lI : ∀ p ∈ news, p.1 < s.heap.objs.size := fun p hp => Heap.lt_size (N p hp).1
  refine block_cell (s := { s with heap := _ }) (src_range (T := fun i v _ => True) hh hsz hJ fun _ _ _ _ _ _ _ hp _ => trivial) hcf hpc hkind hx (by show IsRangeIter _ _ _ _ _; rw [hn]; simpa using Heap.get?_push_size _ rfl) (fun b hb => ?_) (F.keeps push_up) (push_news F N rfl) (fun p hp => Nat.ne_of_lt (lI p hp)) (hJ _ _ _ s _ s.toks hj) ?_ fin
  · rw [List.mem_singleton.mp hb]
    show s.heap.objs.size < (s.heap.push _).objs.size
    rw [Heap.size_push]; exact Nat.lt_succ_self _
  · rintro C c D i v ys oC oc nw s' oI hlt ⟨t', rfl⟩ hj' hcd F' N' sp hD hID hDC hCc
    exact turn _ C c D i t' ys oC oc nw s' oI hlt hj' hcd F' N' sp lI hID hDC hCc
/-- one test -/
theorem tests_one {c : Expr} {env : Env} {Q : Bool → Shared → Prop} (h : wpAny (model prog w) A (isTrue c env (eval c env)) Q (fun _ _ => False) s) : wpAny (model prog w) A (testsOf [c] env) Q (fun _ _ => False) s := by
  unfold testsOf
  rw [List.forIn_cons]
  simp only [if_true]
  refine wpAny_bind (wpAny_bind (wpAny_mono h (fun ok s' hq => wpAny_pure ?_) fun _ _ e => e))
  simp only [List.forIn_nil]
  exact wpAny_pure hq
theorem tests_none {env : Env} {Q : Bool → Shared → Prop} (h : Q true s) : wpAny (model prog w) A (testsOf [] env) Q (fun _ _ => False) s := by
  unfold testsOf
  rw [List.forIn_nil]
  exact wpAny_pure h
end
end Mine
end
section
open PySem PySem.W PyProof.Rows PySem.Calls PySem.Spec
set_option linter.unusedVariables false
namespace Mine
set_option maxRecDepth 100000
theorem range_from0 : ∀ n : Fin 13, Builtin.Range.small 0 n.1 1 = true ∧ Builtin.Range.rangeSize 0 n.1 1 = n.1 := by decide +kernel
theorem range_from1 : ∀ n : Fin 13, Builtin.Range.small 1 (n.1 + 1) 1 = true ∧ Builtin.Range.rangeSize 1 (n.1 + 1) 1 = n.1 := by decide +kernel
section
variable {prog : Program} {w : World} {A : Around} {E : Value → Shared → Prop} {s : Shared}
theorem ne_wd {a b : Nat} {t u : Tok} {c : Bool} {Q : Value → Shared → Prop} (ha : a < 256) (hb : b < 256) (e : (a != b) = c) (h : Q (.bool c) s) : wpAny (model prog w) A (compareOp .NotEq (.str (wd a) t) (.str (wd b) u)) Q E s := by
  refine P.ne_str ?_
  have q : ((wd a).cps.toList != (wd b).cps.toList) = c := by
    rw [← e]
    by_cases h : a = b
    · subst h; simp
    · have h1 : (wd a).cps.toList ≠ (wd b).cps.toList := fun q => h (wd_inj ha hb (by
        have := congrArg List.toArray q
        cases hA : wd a; cases hB : wd b
        rw [hA, hB] at this
        simpa using this))
      rw [bne_iff_ne.mpr h1, bne_iff_ne.mpr h]
  rw [q]; exact h
theorem item_str {value slice : Expr} {l : Addr} {vs : List Value} {ns : List Nat} {f : Nat → Str} {k : Nat} {j : Int} {u : Tok} {Q : Value → Shared → Prop} (hi : StrsAre vs (ns.map f)) (hl : s.heap.IsList l vs.toArray) (e : j = (k : Int)) (hk : k < ns.length) (hs : ns.length < 2 ^ 62)
    (h : ∀ t, Q (.str (f ns[k]) t) s) (hs : subscripted slice false (.ref l) (.int j u) = operate [.ref l, .int j u] (getItem (.ref l) (.int j u)) := by with_unfolding_all rfl)
    (hg : ∀ r, letTemporaryGo value (.ref l) r = pure () := by intro _; with_unfolding_all rfl) :
    wpAny (model prog w) A (subscriptTail value slice (.ref l) (.int j u)) Q E s := by
  subst e
  refine item_strsA hl hi (by omega) (by rw [List.length_map]; omega) (by omega) (fun t => ?_) hs hg
  have e : (ns.map f).getD ((k : Int)).toNat Str.empty = f ns[k] := by simp [List.getD, hk]
  rw [e]
  exact h t
end
end Mine
end
section
open PySem PySem.W PyProof.Rows PySem.Calls PySem.Spec
set_option linter.unusedVariables false
namespace Mine
set_option maxRecDepth 100000
section
variable {prog : Program} {w : World} {A : Around} {E : Value → Shared → Prop} {s : Shared} {env : Env} {scope : Scope} {cl : List (Str × Addr)} {pos spos : Pos} {elt iter target : Expr} {ifs : List Expr}
/-- a block whose list is stored at once -/
theorem used_list {y : Str} {py : Pos} {Q : Flow → Shared → Prop} (hsw : swapsWith (.ListComp elt [⟨target, iter, ifs, 0⟩] scope pos) (some (.Name y py)) spos.line env = pure true)
    (hclos : closureFor scope env = pure cl) (hkind : scope.kind = .function) (hnames : ∀ z ∈ scope.names, z.2 = .local → scope.names.lookup z.1 = some .local)
    (h : wpAny (model prog w) A (eval iter env) (fun x s₁ => wpAny (model prog w) A (pyIter x) (BlockOf prog w A E env scope cl (.ListComp elt [⟨target, iter, ifs, 0⟩] scope pos) (fun acc C => compPost (model prog w) A E (some (assign (.Name y py) env)) (fun _ s' => Q .next s') acc C)) E s₁) E s)
    (hs : ∀ x, foldedSetIterable iter env x = pure x := by intro _; rfl) :
    wpAny (model prog w) A (exec (.Assign [.Name y py] (.ListComp elt [⟨target, iter, ifs, 0⟩] scope pos) spos) env) Q E s := by
  rw [exec_Assign_Name_used _ _ _ _ hsw]
  refine wpAny_bind (wpAny_standAt (wpAny_bind ?_))
  show wpAny _ A (do let _ ← comprehension (.ListComp elt [⟨target, iter, ifs, 0⟩] scope pos) scope env _ (newList []) false (eval iter env) (some (assign (.Name y py) env))) _ _ s
  refine wpAny_bind (wpAny_mono (wpAny_comprehension_free (use := some (assign (.Name y py) env)) (Q := fun _ s' => Q .next s') rfl hs hclos hkind hnames h) (fun _ s' hq => wpAny_pure (wpAny_pure hq)) fun _ _ e => e)
theorem eval_list {Q : Value → Shared → Prop} (hclos : closureFor scope env = pure cl) (hkind : scope.kind = .function) (hnames : ∀ z ∈ scope.names, z.2 = .local → scope.names.lookup z.1 = some .local)
    (h : wpAny (model prog w) A (eval iter env) (fun x s₁ => wpAny (model prog w) A (pyIter x) (BlockOf prog w A E env scope cl (.ListComp elt [⟨target, iter, ifs, 0⟩] scope pos) (fun acc C => compPost (model prog w) A E none Q acc C)) E s₁) E s)
    (hs : ∀ x, foldedSetIterable iter env x = pure x := by intro _; rfl) :
    wpAny (model prog w) A (eval (.ListComp elt [⟨target, iter, ifs, 0⟩] scope pos) env) Q E s := by
  rw [eval_ListComp]
  exact wpAny_comprehension_free (use := none) rfl hs hclos hkind hnames h
end
/-- a number and its level -/
def pairD (p : Nat × Nat) : PySem.W.Dat := .tuple [.int p.1, .int p.2]
theorem pair_at {nw : List (Addr × Obj)} : ∀ {vs : List Value} {ps : List (Nat × Nat)}, DatAll nw vs (ps.map pairD) → ∀ {i : Nat} {v : Value}, vs[i]? = some v → ∃ p t ta tb k, ps[i]? = some p ∧ v = .ref t ∧ (t, ({ cls := .type "tuple", data := .seq #[.int p.1 ta, .int p.2 tb] k } : Obj)) ∈ nw := by
  intro vs ps h
  induction ps generalizing vs with
  | nil => cases h; intro i v e; simp at e
  | cons p ps ih =>
    cases h with
    | cons h r =>
      intro i v e
      cases i with
      | zero =>
        simp at e
        subst e
        cases h with
        | tuple hm ha =>
          cases ha with
          | cons h1 ha =>
            cases ha with
            | cons h2 ha =>
              cases ha
              cases h1
              cases h2
              exact ⟨p, _, _, _, _, rfl, rfl, hm⟩
      | succ i => simp at e; exact ih r e
theorem dat_rev {nw : List (Addr × Obj)} : ∀ {vs : List Value} {ds : List PySem.W.Dat}, DatAll nw vs ds → DatAll nw vs.reverse ds.reverse
  | _, _, .nil => .nil
  | _, _, .cons h r => by
    rw [List.reverse_cons, List.reverse_cons]
    have := dat_rev r
    exact go this (.cons h .nil)
where go : ∀ {vs ws : List Value} {ds es : List PySem.W.Dat}, DatAll nw vs ds → DatAll nw ws es → DatAll nw (vs ++ ws) (ds ++ es)
  | _, _, _, _, .nil, h => h
  | _, _, _, _, .cons h r, h' => .cons h (go r h')
theorem dat_len {nw : List (Addr × Obj)} : ∀ {vs : List Value} {ds : List PySem.W.Dat}, DatAll nw vs ds → vs.length = ds.length
  | _, _, .nil => rfl
  | _, _, .cons h r => by rw [List.length_cons, List.length_cons, dat_len r]
end Mine
end
section
open PySem PySem.W PyProof.Rows PySem.Calls PySem.Spec
set_option linter.unusedVariables false
namespace Mine
set_option maxRecDepth 100000
set_option maxHeartbeats 8000000

/-- the contract of a def that reads something of the ground -/
def SpcH (w : World) (lv : Nat) (f : Addr) (vs : List Value) (H : Heap → Prop) (P : List (Addr × Obj) → Prop) (R : List (Addr × Obj) → Value → List (Addr × Obj) → Prop) : Prop :=
  ∀ (p : Program) (loose : List Str) (mean : ExcName → Option Value) (mg mb : Str → Option Value) (dp un : Nat) (gd : Option (List Code)) (cn : Str) (cs : Scope) (a : Addr) (ccd : Value) (cl : List (Str × Addr)) (outer : List Env) (A₀ : Around) (base h₀ : Heap) (L : Addr) (m : Str → Option Value) (news : List (Addr × Obj)) (s : Shared) (Q E : Value → Shared → Prop),
    Below A₀ base outer h₀ → Fr h₀ L s.heap m → (K w.params).In h₀ → News h₀ L s.heap news → Top p loose mean mg mb h₀ → cs.kind = .function → H h₀ → P news → dp + lv < recursionLimit → un + 16 * lv < cLine →
    (∀ v h' tk' news', Fr h₀ L h' m → News h₀ L h' news' → R news v news' → Q v { s with heap := h', toks := tk' }) →
    wpAny (model PySem.Challenge.rw_in0242_01.row.prog w) (ktrTop dp un gd cn cs L a ccd cl outer) (call (.ref f) vs) Q E s
def Rows (rs : List Nat) : Prop := rs ≠ [] ∧ rs.Pairwise (· < ·) ∧ (∀ a ∈ rs, a < 256) ∧ rs.length ≤ 11
def Good (i : Nat) (rs : List Nat) : Prop := rs ≠ [] ∧ rs.Nodup ∧ (∀ a ∈ rs, a < 256) ∧ rs.length ≤ 3 + i
theorem take_pick (vs : List Value) (i : Nat) : (slicePick vs.toArray none (some (i : Int)) none).toList = vs.take i := by
  rw [slicePick_upto']
theorem ints_get : ∀ {ws : List Value} {xs : List Int} {i : Nat} {v : Value}, IntsAre ws xs → ws[i]? = some v → ∃ z t, v = .int z t := by
  intro ws xs i v h
  induction h generalizing i with
  | nil => intro e; simp at e
  | cons z t _ ih =>
    intro e
    cases i with
    | zero => simp at e; exact ⟨z, t, e.symm⟩
    | succ i => simp at e; exact ih e
theorem ints_at {ws : List Value} {xs : List Int} {i k : Nat} {v : Value} (h : IntsAre ws xs) (e : (ws.take k).toArray[i]? = some v) : ∃ z t, v = .int z t := by
  have e' : (ws.take k)[i]? = some v := by simpa using e
  rw [List.getElem?_take] at e'
  split at e'
  · exact ints_get h e'
  · cases e'
theorem ints_all {vs : List Value} {rs : List Nat} (h : IntsAre vs (rs.map fun a : Nat => (a : Int))) : kf_ints vs.toArray.toList = true := by
  show kf_ints vs = true
  generalize rs.map _ = xs at h
  induction h with
  | nil => rfl
  | cons z t _ ih => simpa [kf_ints] using ih
theorem ints_any : ∀ {vs : List Value} {rs : List Nat} (h : IntsAre vs (rs.map fun a : Nat => (a : Int))) (r : Nat), (!vs.toArray.toList.any (isInt (r : Int))) = !rs.contains r := by
  intro vs rs h r
  show (!vs.any (isInt (r : Int))) = !rs.contains r
  congr 1
  induction rs generalizing vs with
  | nil => cases h; rfl
  | cons a rs ih =>
    cases h with
    | cons z t h =>
      rw [List.any_cons, ih h, List.contains_cons]
      congr 1
      show ((a : Int) == (r : Int)) = (r == a)
      rw [Bool.eq_iff_iff, beq_iff_eq, beq_iff_eq]
      omega
theorem good_snoc {i r : Nat} {rs : List Nat} (h : Good i rs) (hr : r < 256) (hm : ¬ rs.contains r = true) : Good (i + 1) (rs ++ [r]) := by
  obtain ⟨h1, h2, h3, h4⟩ := h
  refine ⟨by simp, List.nodup_append.mpr ⟨h2, by simp, fun a ha b hb e => hm ?_⟩, fun a ha => ?_, by rw [List.length_append]; simp only [List.length_cons, List.length_nil]; omega⟩
  · simp only [List.mem_singleton] at hb
    subst hb; subst e
    simpa using ha
  · rcases List.mem_append.mp ha with ha | ha
    · exact h3 a ha
    · simp only [List.mem_singleton] at ha; omega
theorem ints_snoc {vs : List Value} {xs : List Int} (h : IntsAre vs xs) (z : Int) (t : Tok) : IntsAre (vs ++ [.int z t]) (xs ++ [z]) := by
  induction h with
  | nil => exact .cons _ _ .nil
  | cons a u _ ih => exact .cons _ _ ih
theorem rows_sorted {i : Nat} {rs : List Nat} {ns : List Int} (h : Good i rs) (p : ns.Perm (rs.map fun a : Nat => (a : Int))) (s : ns.Pairwise (· ≤ ·)) (hi : i ≤ 8) : ∃ rs' : List Nat, ns = rs'.map (fun a : Nat => (a : Int)) ∧ Rows rs' := by
  obtain ⟨h1, h2, h3, h4⟩ := h
  have nn : ∀ z ∈ ns, ∃ a ∈ rs, (a : Int) = z := fun z hz => by
    obtain ⟨a, ha, e⟩ := List.mem_map.mp (p.mem_iff.mp hz)
    exact ⟨a, ha, e⟩
  have e : ns = (ns.map Int.toNat).map fun a : Nat => (a : Int) := by
    rw [List.map_map]
    conv => lhs; rw [← List.map_id ns]
    refine List.map_congr_left fun z hz => ?_
    obtain ⟨a, _, rfl⟩ := nn z hz
    rfl
  have nd : ns.Nodup := p.nodup_iff.mpr (h2.map (fun a : Nat => (a : Int)) fun a b hne hab => hne (Int.ofNat_inj.mp hab))
  refine ⟨ns.map Int.toNat, e, ⟨fun q => h1 ?_, ?_, fun a ha => ?_, ?_⟩⟩
  · have := p.length_eq
    rw [List.map_eq_nil_iff] at q
    rw [q, List.length_map] at this
    exact List.length_eq_zero_iff.mp this.symm
  · rw [List.pairwise_map]
    refine (s.and nd).imp_of_mem fun {a b} ha hb hab => ?_
    obtain ⟨a', _, rfl⟩ := nn a ha
    obtain ⟨b', _, rfl⟩ := nn b hb
    have h1 := hab.1
    have h2 : (a' : Int) ≠ b' := hab.2
    show a' < b'
    omega
  · obtain ⟨z, hz, rfl⟩ := List.mem_map.mp ha
    obtain ⟨b, hb, rfl⟩ := nn z hz
    exact h3 b hb
  · rw [List.length_map, p.length_eq, List.length_map]; omega
theorem rows_spc (w : World) (l : Addr) (ws : List Value) (xs : List Int) (hi : IntsAre ws xs) (hsz : xs.length ≤ 63) :
    SpcH w 1 102 [.ref l] (fun h => h.IsList l ws.toArray) (fun _ => True) (fun nw v nw' => ∃ D vs n rs, v = .ref D ∧ IntsAre vs (rs.map fun a : Nat => (a : Int)) ∧ Rows rs ∧ nw' = (D, listOf vs.toArray n) :: nw) := by
  unfold SpcH
  k_fill
  intro p loose mean mg mb dp un gd cn cs a ccd cl outer A₀ base h₀ L m news s Q E B F X N T hk hH hP hd hu hret
  refine wpAny_call ?_
  k_dflt (refine' code_def ?k1 ?k2 ?k3 ?k4 ?k5 ?kA ?kF ?kK ?k6 ?k7 ?k8 ?k9 ?kB ?_ ?c2 ?c3 ?c4 ?c5; (case kA => exact rfl); (case kF => exact rfl); (case kK => assumption); (case k1 => k_asm); (case k2 => k_asm); (case k3 => k_asm); (case k4 => k_asm); (case k5 => k_asm); (case k6 => k_is); (case k7 => k_is); (case k8 => ktr_room); (case k9 => exact BindsTo.of_eq rfl); (case c5 => decide); (case kB => exact locs rfl); (case c2 => exact rfl); (case c3 => exact rfl); (case c4 => exact rfl); k_whole; intro g' L' h' FG' F' N' B' X' T'; (try dsimp only); (try k_lift B'); (try k_fold))

  repeat' (first
    | ((fail_if_success (with_reducible show wpAny _ _ (execs (Stmt.For _ _ _ _ _ :: _) _) _ _ _)); first
        | ((with_reducible show wpAny _ _ (newList _) _ _ _); refine' newList_K ?F ?N ?_; (case F => assumption); (case N => assumption); intro l8 hl F8 N8 ol; (try k_lt ol); (try k_sweep))
        | ((with_reducible refine wpAny_execs_nil ?_); (try dsimp only))
        | (with_reducible refine wpAny_If ?_)
        | ((with_reducible show ite (_ = true) _ _); (fail_if_success (with_reducible show ite (((_ : Bool) == _) = true) _ _)); first | refine PySem.W.ite_neg (Bool.eq_false_iff.mp rfl) ?_ | refine PySem.W.ite_pos rfl ?_)
        | (k_unfold; (try dsimp only)) | (k_end; wrow_close) | walk1 | (dsimp only; walk1) | (leave1; walk_say "STEP leave1"; try dsimp only) | fail "no step"))
  repeat' (first
    | ((fail_if_success (with_reducible show wpAny _ _ (exec (Stmt.For _ _ _ _ _) _) _ _ _)); first
        | ((with_reducible refine wpAny_execs_nil ?_); (try dsimp only))
        | (with_reducible refine wpAny_If ?_)
        | ((with_reducible show ite (_ = true) _ _); (fail_if_success (with_reducible show ite (((_ : Bool) == _) = true) _ _)); first | refine PySem.W.ite_neg (Bool.eq_false_iff.mp rfl) ?_ | refine PySem.W.ite_pos rfl ?_)
        | (k_unfold; (try dsimp only)) | (k_end; wrow_close) | walk1 | (dsimp only; walk1) | (leave1; walk_say "STEP leave1"; try dsimp only) | fail "no step"))
  refine wpAny_For ?_
  repeat' (first
    | ((fail_if_success (with_reducible show wpAny _ _ (subscriptTail _ _ _ _) _ _ _)); first
        | ((with_reducible refine wpAny_execs_nil ?_); (try dsimp only))
        | (with_reducible refine wpAny_If ?_)
        | ((with_reducible show ite (_ = true) _ _); (fail_if_success (with_reducible show ite (((_ : Bool) == _) = true) _ _)); first | refine PySem.W.ite_neg (Bool.eq_false_iff.mp rfl) ?_ | refine PySem.W.ite_pos rfl ?_)
        | (k_unfold; (try dsimp only)) | (k_end; wrow_close) | walk1 | (dsimp only; walk1) | (leave1; walk_say "STEP leave1"; try dsimp only) | fail "no step"))
  dsimp only
  (rename News _ _ _ _ => lN'); (rename Fr _ _ _ _ => lF')
  refine kmk_slice_lit (s := { s with heap := _, toks := _ }) lF' lN' ((hH.at fun o e => FG'.keep _ _ e).at fun o e => lF'.keep _ _ e) .none (.int _ _) (take_pick ws 8) ?_ (by with_unfolding_all rfl) (by intro _; with_unfolding_all rfl) (Nat.le_trans (show _ ≤ 63 from by rw [List.size_toArray, IntsAre.length hi]; exact hsz) (by decide))
  intro D9 h9 F9 N9 l9
  have l9a : l8 < D9 := l9 _ (.head _)
  refine for_list (its := (ws.take 8).toArray) (fun i g m nx => g = g' ∧ ∃ (vs : List Value) (n : Nat) (rs : List Nat), nx = (D9, listOf (ws.take 8).toArray 0) :: (l8, listOf vs.toArray n) :: news ∧ IntsAre vs (rs.map fun a : Nat => (a : Int)) ∧ Good i rs ∧ Pins m [(Str.ofString "rows", Value.ref l8)]) rfl rfl rfl rfl (by passes_own) F9 N9 ?hl ?hj ?turn ?done
  case hl => rintro i g m nx h ⟨rfl, vs, n, rs, rfl, _⟩ F N; exact News.isList N (.head _)
  case hj => exact ⟨rfl, _, _, [17, 31, 64], rfl, .cons _ _ (.cons _ _ (.cons _ _ .nil)), ⟨by decide, by decide, by decide, by decide⟩, pin_cons rfl (pin_nil)⟩
  case turn =>
    rintro I oI i v g h tk m₁ nx hI hv ⟨rfl, vs, n, rs, rfl, hvs, hG, hps⟩ F₁ N₁ off
    replace F₁ := fr_upd hps F₁
    clear hps
    obtain ⟨z, tz, rfl⟩ := ints_at hi hv
    repeat' (first
      | ((fail_if_success (with_reducible show wpAny _ _ (compareOp _ _ _) _ _ _)); first
          | ((with_reducible refine wpAny_execs_nil ?_); (try dsimp only))
          | (with_reducible refine wpAny_If ?_)
          | ((with_reducible show ite (_ = true) _ _); (fail_if_success (with_reducible show ite (((_ : Bool) == _) = true) _ _)); first | refine PySem.W.ite_neg (Bool.eq_false_iff.mp rfl) ?_ | refine PySem.W.ite_pos rfl ?_)
          | (k_unfold; (try dsimp only)) | (k_end; wrow_close) | walk1 | (dsimp only; walk1) | (leave1; walk_say "STEP leave1"; try dsimp only) | fail "no step"))
    have hIl : l8 < I := hI _ (.tail _ (.head _))
    obtain ⟨r, hr, er⟩ : ∃ r : Nat, r < 256 ∧ z.fmod 256 = (r : Int) := ⟨(z.fmod 256).toNat, by have := Int.fmod_lt_of_pos z (show (0 : Int) < 256 by decide); omega, by have := Int.fmod_nonneg_of_pos z (show (0 : Int) < 256 by decide); omega⟩
    (rename News _ _ _ _ => lN')
    refine intSub (fun z9 => compareOp CmpOp.NotIn (Value.int z9 _) _) er ?_
    refine kf_notin lN' (.tail _ (.tail _ (.head _))) (ints_all hvs) (ints_any hvs r) ?_
    by_cases hm : rs.contains r = true
    · rw [hm]
      repeat' (first
        | ((with_reducible refine wpAny_execs_nil ?_); (try dsimp only))
        | (with_reducible refine wpAny_If ?_)
        | ((with_reducible show ite (_ = true) _ _); (fail_if_success (with_reducible show ite (((_ : Bool) == _) = true) _ _)); first | refine PySem.W.ite_neg (Bool.eq_false_iff.mp rfl) ?_ | refine PySem.W.ite_pos rfl ?_)
        | (k_unfold; (try dsimp only)) | (k_end; wrow_close) | walk1 | (dsimp only; walk1) | (leave1; walk_say "STEP leave1"; try dsimp only) | fail "no step")
      (rename News _ _ _ _ => lN'); (rename Fr _ _ _ _ => lF')
      exact ⟨g, _, _, _, _, rfl, lF', lN', off, rfl, vs, n, rs, rfl, hvs, ⟨hG.1, hG.2.1, hG.2.2.1, Nat.le_succ_of_le hG.2.2.2⟩, pin_cons rfl (pin_nil)⟩
    · rw [Bool.eq_false_iff.mpr hm]
      have hi8 : i < 8 := by
        have := (Array.getElem?_eq_some_iff.mp hv).1
        rw [List.size_toArray, List.length_take] at this; omega
      have hvl : vs.length ≤ 11 := by rw [IntsAre.length hvs, List.length_map]; have := hG.2.2.2; omega
      repeat' (first
        | ((fail_if_success (with_reducible show wpAny _ _ (call (Value.builtin "list.append") _) _ _ _)); first
            | ((with_reducible show wpAny _ _ (getAttr (Value.ref _) _ _) _ _ _); (refine' getAppend_K ?F ?N ?hm ?_; (case F => assumption); (case N => assumption); (case hm => k_mem); intro b9 h9 tk9 F9 N9 l9; (try k_lt l9)))
            | ((try dsimp only); (with_reducible show wpAny _ _ (callWith _ (Value.ref _) _ (backTo _ (starEach (_ :: _) _)) []) _ _ _); refine' callWith_app ?N ?hb ?_; (case N => assumption); (case hb => k_mem))
            | ((with_reducible show AppAt _ _ _ ∧ _); refine' ⟨app_at ?N ?hm, ?_⟩; (case N => assumption); (case hm => k_mem))
            | ((with_reducible refine wpAny_execs_nil ?_); (try dsimp only))
            | (with_reducible refine wpAny_If ?_)
            | ((with_reducible show ite (_ = true) _ _); (fail_if_success (with_reducible show ite (((_ : Bool) == _) = true) _ _)); first | refine PySem.W.ite_neg (Bool.eq_false_iff.mp rfl) ?_ | refine PySem.W.ite_pos rfl ?_)
            | (k_unfold; (try dsimp only)) | (k_end; wrow_close) | walk1 | (dsimp only; walk1) | (leave1; walk_say "STEP leave1"; try dsimp only) | fail "no step"))
      refine intSub (fun z9 => call (Value.builtin "list.append") [Value.ref l8, Value.int z9 _]) er ?_
      (rename News _ _ _ _ => lN'); (rename Fr _ _ _ _ => lF')
      refine append_in (s := { s with heap := _, toks := _ }) (own := [(I, _), (D9, _)]) lF' lN' (fun p hp => ?_) (fun p hp => Nat.ne_of_lt (ol p hp)) ?_ (Nat.le_trans hvl (by decide))
      · simp only [List.mem_cons, List.not_mem_nil, or_false] at hp; rcases hp with rfl | rfl
        · exact Nat.ne_of_gt hIl
        · exact Nat.ne_of_gt l9a
      intro h6 F6 N6
      simp only [List.cons_append, List.nil_append] at N6
      repeat' (first
        | ((with_reducible refine wpAny_execs_nil ?_); (try dsimp only))
        | (with_reducible refine wpAny_If ?_)
        | ((with_reducible show ite (_ = true) _ _); (fail_if_success (with_reducible show ite (((_ : Bool) == _) = true) _ _)); first | refine PySem.W.ite_neg (Bool.eq_false_iff.mp rfl) ?_ | refine PySem.W.ite_pos rfl ?_)
        | (k_unfold; (try dsimp only)) | (k_end; wrow_close) | walk1 | (dsimp only; walk1) | (leave1; walk_say "STEP leave1"; try dsimp only) | fail "no step")
      refine ⟨g, _, _, _, _, rfl, F6, N6, ?_, rfl, _, _, rs ++ [r], rfl, ?_, good_snoc hG hr hm, pin_cons rfl (pin_nil)⟩
      · intro p hp; rcases List.mem_cons.mp hp with rfl | hp
        · exact off _ (.head _)
        rcases List.mem_cons.mp hp with rfl | hp
        · exact Nat.ne_of_lt hIl
        · exact off _ (.tail _ (.tail _ hp))
      · rw [List.map_append]; exact ints_snoc hvs _ _
  case done =>
    rintro g m nx h tk ⟨rfl, vs, n, rs, rfl, hvs, hG, hps⟩ F₁ N₁
    replace F₁ := fr_pin hps F₁
    clear hps
    repeat' (first
      | ((fail_if_success (with_reducible show wpAny _ _ (call (Value.builtin "sorted") _) _ _ _)); first
          | ((with_reducible refine wpAny_execs_nil ?_); (try dsimp only))
          | (with_reducible refine wpAny_If ?_)
          | ((with_reducible show ite (_ = true) _ _); (fail_if_success (with_reducible show ite (((_ : Bool) == _) = true) _ _)); first | refine PySem.W.ite_neg (Bool.eq_false_iff.mp rfl) ?_ | refine PySem.W.ite_pos rfl ?_)
          | (k_unfold; (try dsimp only)) | (k_end; wrow_close) | walk1 | (dsimp only; walk1) | (leave1; walk_say "STEP leave1"; try dsimp only) | fail "no step"))
    refine kso_sorted F₁ N₁ (News.isList N₁ (.tail _ (.head _))) hvs ?_ ?_
    · rw [List.length_map]; have := hG.2.2.2; rw [List.size_toArray, List.length_take] at this; omega
    intro D2 vs2 ns2 c2 h2 F2 N2 l2 hv2 e2 p2 s2 _
    obtain ⟨rs2, er2, hr2⟩ := rows_sorted hG p2 s2 (by rw [List.size_toArray, List.length_take]; omega)
    subst er2
    replace N2 : News g L' h2 ((D2, listOf vs2.toArray c2) :: news) := fun p hp => by
      rcases List.mem_cons.mp hp with rfl | hp
      · exact N2 _ (.head _)
      · exact N2 _ (.tail _ (.tail _ (.tail _ hp)))
    repeat' (first
      | ((with_reducible refine wpAny_execs_nil ?_); (try dsimp only))
      | (with_reducible refine wpAny_If ?_)
      | ((with_reducible show ite (_ = true) _ _); (fail_if_success (with_reducible show ite (((_ : Bool) == _) = true) _ _)); first | refine PySem.W.ite_neg (Bool.eq_false_iff.mp rfl) ?_ | refine PySem.W.ite_pos rfl ?_)
      | (k_unfold; (try dsimp only)) | (k_end; wrow_close) | walk1 | (dsimp only; walk1) | (leave1; walk_say "STEP leave1"; try dsimp only) | fail "no step")
    (rename News _ _ _ _ => lN'); (rename Fr _ _ _ _ => lF')
    exact hret _ _ _ _ lF' lN' ⟨D2, vs2, c2, rs2, rfl, hv2, hr2, rfl⟩
end Mine
end
section
open PySem PySem.W PyProof.Rows PySem.Calls PySem.Spec
set_option linter.unusedVariables false
namespace Mine
set_option maxRecDepth 100000
section
variable {prog : Program} {w : World} {A : Around} {E : Value → Shared → Prop} {s : Shared} {h₀ : Heap} {L a b : Addr} {news : List (Addr × Obj)} {xs ys : List Value} {ka kb : Nat} {ds es : List PySem.W.Dat} {Q : Value → Shared → Prop} {x : Value} {d : PySem.W.Dat} {c : Bool}
open Classical in
theorem dat_eq (N : News h₀ L s.heap news) (ma : (a, listOf xs.toArray ka) ∈ news) (Da : DatAll news xs ds) (mb : (b, listOf ys.toArray kb) ∈ news) (Db : DatAll news ys es)
    (ha : ∀ d ∈ ds, kqdOk 8 d = true) (hb : ∀ d ∈ es, kqdOk 8 d = true) (hu : A.units + 64 < cLine) (hc : ds = es ↔ c = true) (h : Q (.bool c) s) : wpAny (model prog w) A (compareOp .Eq (.ref a) (.ref b)) Q E s := by
  refine kqd_eq N ma rfl rfl Da (fun _ h => h) mb rfl rfl Db (fun _ h => h) ha hb hu ?_
  by_cases q : ds = es
  · rw [decide_eq_true q]; rw [hc.mp q] at h; exact h
  · rw [decide_eq_false q]
    have : c = false := Bool.eq_false_iff.mpr fun z => q (hc.mpr z)
    rw [this] at h; exact h
open Classical in
theorem dat_ne (N : News h₀ L s.heap news) (ma : (a, listOf xs.toArray ka) ∈ news) (Da : DatAll news xs ds) (mb : (b, listOf ys.toArray kb) ∈ news) (Db : DatAll news ys es)
    (ha : ∀ d ∈ ds, kqdOk 8 d = true) (hb : ∀ d ∈ es, kqdOk 8 d = true) (hu : A.units + 64 < cLine) (hc : ds = es ↔ c = false) (h : Q (.bool c) s) : wpAny (model prog w) A (compareOp .NotEq (.ref a) (.ref b)) Q E s := by
  refine kqd_ne N ma rfl rfl Da (fun _ h => h) mb rfl rfl Db (fun _ h => h) ha hb hu ?_
  by_cases q : ds = es
  · rw [decide_eq_true q]; rw [hc.mp q] at h; exact h
  · rw [decide_eq_false q]
    have : c = true := Bool.not_eq_false c ▸ (fun z => q (hc.mpr z))
    rw [this] at h; exact h
open Classical in
theorem dat_in (N : News h₀ L s.heap news) (ma : (a, listOf xs.toArray ka) ∈ news) (Da : DatAll news xs ds) (Dx : DatIn news x d) (ha : ∀ d ∈ ds, kqdOk 8 d = true) (hd : kqdOk 8 d = true) (hu : A.units + 64 < cLine) (hc : d ∈ ds ↔ c = true) (h : Q (.bool c) s) :
    wpAny (model prog w) A (compareOp .In x (.ref a)) Q E s := by
  refine kqd_isIn N ma rfl rfl Da (fun _ h => h) Dx (fun _ h => h) ha hd hu ?_
  by_cases q : d ∈ ds
  · rw [decide_eq_true q]; rw [hc.mp q] at h; exact h
  · rw [decide_eq_false q]
    have : c = false := Bool.eq_false_iff.mpr fun z => q (hc.mpr z)
    rw [this] at h; exact h
end
theorem takes_spc (w : World) (n k : Nat) (t u : Tok) (hn : n < 256) (hk : k < 256) : Spc w 1 116 [.str (textXZ (n / 16) (n % 16 + 1)) t, .str (wordS (k / 16) (k % 16)) u] (fun _ => True) (fun nw v nw' => nw = nw' ∧ v = .bool (le2 k n)) := by
  unfold textXZ
  by_cases h : n % 16 + 1 = 16
  · rw [if_pos h]
    have e : decide (k / 16 ≤ n / 16) = le2 k n := by
      unfold le2
      rw [Bool.eq_iff_iff]
      simp only [Bool.and_eq_true, decide_eq_true_eq]
      omega
    have := takesB_spc w (n / 16) (k / 16) (k % 16) t u (by omega) (by omega) (by omega)
    rwa [e] at this
  · rw [if_neg h]
    have e : decide (k / 16 ≤ n / 16 ∧ k % 16 ≤ n % 16 + 1 - 1) = le2 k n := by
      unfold le2
      rw [Bool.eq_iff_iff]
      simp only [Bool.and_eq_true, decide_eq_true_eq]
      omega
    have := takesA_spc w (n / 16) (n % 16 + 1 - 1) (k / 16) (k % 16) t u (by omega) (by omega) (by omega) (by omega)
    rwa [e] at this
end Mine
end
section
open PySem PySem.W PyProof.Rows PySem.Calls PySem.Spec
set_option linter.unusedVariables false
namespace Mine
set_option maxRecDepth 100000
set_option maxHeartbeats 8000000

def partD (ps : List Nat) : PySem.W.Dat := .list (ps.map fun n => .str (wd n))
theorem wd_ok {n : Nat} (h : n < 256) : PyData.strOk (wd n) = true := by
  simp [PyData.strOk, wd, wordS]
  omega
theorem strs_dat {nw : List (Addr × Obj)} : ∀ {vs : List Value} {ps : List Nat}, StrsAre vs (ps.map wd) → DatAll nw vs (ps.map fun n => PySem.W.Dat.str (wd n)) := by
  intro vs ps h
  induction ps generalizing vs with
  | nil => cases h; exact .nil
  | cons a ps ih => cases h with | cons y t h => exact .cons (.str _ _) (ih h)
theorem ints_dat {nw : List (Addr × Obj)} : ∀ {vs : List Value} {zs : List Int}, IntsAre vs zs → DatAll nw vs (zs.map PySem.W.Dat.int) := by
  intro vs zs h
  induction h with
  | nil => exact .nil
  | cons a u _ ih => exact .cons (.int _ _) ih
theorem part_ok {ps : List Nat} (h : ∀ n ∈ ps, n < 256) : ∀ d ∈ ps.map (fun n => PySem.W.Dat.str (wd n)), kqdOk 8 d = true := fun d hd => by
  obtain ⟨n, hn, rfl⟩ := List.mem_map.mp hd
  exact wd_ok (h n hn)
/-- what holds between two rounds -/
def RJ (A₁ : Around) (base : Heap) (outer₁ : List Env) (g₀ : Heap) (rs : List Nat) (cL cO r8 : Addr) (base0 : List (Addr × Obj)) (i : Nat) (g : Heap) (m : Str → Option Value) (nx : List (Addr × Obj)) : Prop :=
  ∃ oL oO u ll lv nl rv nr tail acc left, Gnd A₁ base outer₁ g₀ g ∧ nx = (cL, oL) :: (cO, oO) :: (r8, listOf (List.toArray rv) nr) :: tail ∧ oL.data = .cell (some (.ref ll)) ∧ oO.data = .cell u ∧ (∀ p ∈ tail, p.1 ≠ cL ∧ p.1 ≠ cO ∧ p.1 ≠ r8) ∧ (∀ p ∈ base0, p ∈ tail) ∧
    (ll, listOf (List.toArray lv) nl) ∈ tail ∧ StrsAre lv (left.map wd) ∧ DatAll tail rv (acc.map partD) ∧ goF rs (rs.drop i) left acc = goF rs rs rs [] ∧ left.Pairwise (· < ·) ∧ (∀ a ∈ left, a ∈ rs) ∧ left.length ≤ 11 ∧ rv.length ≤ i ∧ Pins m [(Str.ofString "rounds", Value.ref r8)]
def isTop (rs left : List Nat) (n : Nat) : Bool := (rs.filter fun a => left.contains a && a != n && le2 n a) == []
theorem strs_get {lv : List Value} {ps : List Nat} {i : Nat} {v : Value} (h : StrsAre lv (ps.map wd)) (e : lv.toArray[i]? = some v) : ∃ n t, ps[i]? = some n ∧ v = .str (wd n) t := by
  have e' : lv[i]? = some v := by simpa using e
  obtain ⟨y, t, rfl, hy⟩ := StrsAre.item h i v e'
  rw [List.getElem?_map] at hy
  obtain ⟨n, hn, rfl⟩ := Option.map_eq_some_iff.mp hy
  exact ⟨n, t, hn, rfl⟩
theorem allLt_all {d : Addr} : ∀ {l : List (Addr × Obj)}, AllLt d l → ∀ p ∈ l, p.1 < d
  | [], _, _, hp => nomatch hp
  | q :: l, h, p, hp => by
    rcases List.mem_cons.mp hp with rfl | hp
    · exact h.1
    · exact allLt_all h.2 p hp
theorem mem_wd {ps : List Nat} {x : Nat} (h : ∀ n ∈ ps, n < 256) (hx : x < 256) : PySem.W.Dat.str (wd x) ∈ ps.map (fun n => PySem.W.Dat.str (wd n)) ↔ ps.contains x = true := by
  rw [List.contains_iff_mem]
  constructor
  · intro hm
    obtain ⟨n, hn, e⟩ := List.mem_map.mp hm
    injection e with e
    have := wd_inj (h n hn) hx e
    rwa [← this]
  · intro hm
    exact List.mem_map.mpr ⟨x, hm, rfl⟩
theorem filter_take {l : List Nat} {i : Nat} (hi : i < l.length) (c : Nat → Bool) : ((l.take (i + 1)).filter c).length = ((l.take i).filter c).length + if c l[i] = true then 1 else 0 := by
  rw [take_snoc hi, List.filter_append, List.length_append]
  congr 1
  cases h : c l[i] <;> simp [h]
theorem ints_ok (zs : List Int) : ∀ d ∈ zs.map PySem.W.Dat.int, kqdOk 8 d = true := fun d hd => by
  obtain ⟨n, hn, rfl⟩ := List.mem_map.mp hd
  rfl
theorem top_iff {rs left : List Nat} {n : Nat} {zs : List Int} (h : zs.length = ((rs.take rs.length).filter fun a => left.contains a && a != n && le2 n a).length) : zs.map PySem.W.Dat.int = [] ↔ isTop rs left n = true := by
  rw [List.take_length] at h
  unfold isTop
  rw [List.map_eq_nil_iff, ← List.length_eq_zero_iff, h, List.length_eq_zero_iff, beq_iff_eq]
theorem filter_snoc {l : List Nat} {i n : Nat} (h : l[i]? = some n) (c : Nat → Bool) : (l.take (i + 1)).filter c = (l.take i).filter c ++ if c n = true then [n] else [] := by
  obtain ⟨hi, e⟩ := List.getElem?_eq_some_iff.mp h
  rw [take_snoc hi, List.filter_append, e]
  congr 1
  cases h : c n <;> simp [h]
theorem SpcU.use {w : World} {lv : Nat} {f : Addr} {vs : List Value} {P : List (Addr × Obj) → Prop} {R : List (Addr × Obj) → Value → List (Addr × Obj) → Prop} (S : SpcU w lv f vs P R)
    {p : Program} {loose : List Str} {mean : ExcName → Option Value} {mg mb : Str → Option Value} {dp un : Nat} {gd : Option (List Code)} {cn : Str} {cs : Scope} {a : Addr} {ccd : Value} {cl : List (Str × Addr)} {outer : List Env} {A₀ : Around} {base h₀ : Heap} {L : Addr} {m : Str → Option Value} {news : List (Addr × Obj)} {s : Shared} {Q E : Value → Shared → Prop}
    (B : Below A₀ base outer h₀) (F : Fr h₀ L s.heap m) (X : (K w.params).In base) (N : News h₀ L s.heap news) (T : Top p loose mean mg mb base) (hk : cs.kind = .function) (hP : P news) (hd : dp + lv < recursionLimit) (hu : un + 16 * lv < cLine)
    (h : ∀ v h₀' h' tk' news', Gnd A₀ base outer h₀ h₀' → Fr h₀' L h' m → News h₀' L h' news' → R news v news' → Q v { s with heap := h', toks := tk' }) :
    wpAny (model PySem.Challenge.rw_in0242_01.row.prog w) (ktrTop dp un gd cn cs L a ccd cl outer) (call (.ref f) vs) Q E s :=
  S p loose mean mg mb dp un gd cn cs a ccd cl outer A₀ base h₀ L m news s Q E B F X N T hk hP hd hu h
theorem dat_snoc {nw : List (Addr × Obj)} {v : Value} {d : PySem.W.Dat} : ∀ {vs : List Value} {ds : List PySem.W.Dat}, DatAll nw vs ds → DatIn nw v d → DatAll nw (vs ++ [v]) (ds ++ [d])
  | _, _, .nil, h => .cons h .nil
  | _, _, .cons h r, h' => .cons h (dat_snoc r h')
theorem rounds_spc (w : World) (rs : List Nat) (vW vT : List Value) (lW lT : Addr) (nW nT : Nat) (hW : StrsAre vW (rs.map wd)) (hT : StrsAre vT (rs.map fun n => textXZ (n / 16) (n % 16 + 1))) (sR : rs.Pairwise (· < ·)) (h256 : ∀ a ∈ rs, a < 256) (hlen : rs.length ≤ 11) :
    SpcU w 6 121 [.ref lW, .ref lT] (fun nw => (lW, listOf vW.toArray nW) ∈ nw ∧ (lT, listOf vT.toArray nT) ∈ nw) (fun nw v nw' => DatIn nw' v (.list ((goF rs rs rs []).map partD)) ∧ ∀ p ∈ nw, p ∈ nw') := by
  unfold SpcU
  k_fill
  intro p loose mean mg mb dp un gd cn cs a ccd cl outer A₀ base h₀ L m news s Q E B F X N Tp hk hP hd hu hret
  refine wpAny_call ?_
  k_dflt (refine' code_rawC (K := K w.params) ?k1 ?k2 ?k3 ?k4 ?k5 ?kA ?kF ?kK ?k6 ?k7 ?k8 ?k9 ?kB ?kD ?_ ?c2 ?c3 ?c4; (case kA => exact rfl); (case kF => exact rfl); (case kK => assumption); (case k1 => exact B); (case k2 => exact F); (case k3 => exact X); (case k4 => exact N); (case k5 => exact Tp); (case k6 => k_is); (case k7 => k_is); (case k8 => ktr_room); (case k9 => exact BindsTo.of_eq rfl); (case kB => exact rfl); (case kD => decide +kernel); (case c2 => exact rfl); (case c3 => exact rfl); (case c4 => exact rfl); k_whole; intro g' L' h' tk' cells' F' N' Y' B' X' T' U' lt'; (try dsimp only); (try k_fold))
  have hY := CellsAre.four Y'
  obtain ⟨oO, oL, oT, oW, hE', dO, dL, dT, dW⟩ := hY
  subst hE'
  clear Y'
  replace dO : oO.data = .cell none := dO
  replace dL : oL.data = .cell none := dL
  replace dT : oT.data = .cell (some (.ref lT)) := dT
  replace dW : oW.data = .cell (some (.ref lW)) := dW
  simp only [List.cons_append, List.nil_append] at N'
  have lt0 := lt'
  have hXT := And.intro X Tp
  clear X Tp
  obtain ⟨hPW, hPT⟩ := hP

  have nC : ∀ p ∈ (L' + 1 + 1, oT) :: (L' + 1, oW) :: news, p.1 < L' + 1 + 1 + 1 := fun p hp => by
    rcases List.mem_cons.mp hp with rfl | hp
    · exact Nat.lt_succ_self _
    rcases List.mem_cons.mp hp with rfl | hp
    · exact Nat.lt_succ_of_lt (Nat.lt_succ_self _)
    · exact Nat.lt_succ_of_lt (Nat.lt_succ_of_lt (Nat.lt_succ_of_lt (lt0 p hp)))
  repeat' (first
    | ((fail_if_success (with_reducible show wpAny _ _ (storeName _ (Str.ofString "left") _) _ _ _)); first
        | ((with_reducible refine wpAny_execs_nil ?_); (try dsimp only))
        | (with_reducible refine wpAny_If ?_)
        | ((with_reducible show ite (_ = true) _ _); (fail_if_success (with_reducible show ite (((_ : Bool) == _) = true) _ _)); first | refine PySem.W.ite_neg (Bool.eq_false_iff.mp rfl) ?_ | refine PySem.W.ite_pos rfl ?_)
        | (k_unfold; (try dsimp only)) | (k_end; wrow_close) | walk1 | (dsimp only; walk1) | (leave1; walk_say "STEP leave1"; try dsimp only) | fail "no step"))
  have N1 : News g' L' h' ((L' + 1 + 1 + 1, oL) :: (L' + 1 + 1 + 1 + 1, oO) :: (L' + 1 + 1, oT) :: (L' + 1, oW) :: news) := news_of N' (fun p hp => by simp only [List.mem_cons] at hp ⊢; rcases hp with h | h | h <;> simp [h])
  refine store_cell F' N1 dL ?_ rfl ?_
  · intro p hp; rcases List.mem_cons.mp hp with rfl | hp
    · exact Nat.ne_of_gt (Nat.lt_succ_self _)
    · exact Nat.ne_of_lt (nC p hp)
  clear N1 dL F' N'
  intro h2 oL2 F2 N2 dL
  repeat' (first
    | ((fail_if_success (with_reducible show wpAny _ _ (exec (Stmt.For _ _ _ _ _) _) _ _ _)); first
        | ((with_reducible show wpAny _ _ (newList _) _ _ _); refine' newList_K ?F ?N ?_; (case F => assumption); (case N => assumption); intro r8 hr F8 N8 or; (try k_lt or); (try k_sweep))
        | ((with_reducible refine wpAny_execs_nil ?_); (try dsimp only))
        | (with_reducible refine wpAny_If ?_)
        | ((with_reducible show ite (_ = true) _ _); (fail_if_success (with_reducible show ite (((_ : Bool) == _) = true) _ _)); first | refine PySem.W.ite_neg (Bool.eq_false_iff.mp rfl) ?_ | refine PySem.W.ite_pos rfl ?_)
        | (k_unfold; (try dsimp only)) | (k_end; wrow_close) | walk1 | (dsimp only; walk1) | (leave1; walk_say "STEP leave1"; try dsimp only) | fail "no step"))
  (rename News _ _ _ _ => lN'); (rename Fr _ _ _ _ => lF')
  obtain ⟨o1, o2, o3, o4, o5⟩ := or
  have N3 : News g' L' _ ((L' + 1 + 1 + 1, oL2) :: (L' + 1 + 1 + 1 + 1, oO) :: (r8, listOf #[] 0) :: (L' + 1 + 1, oT) :: (L' + 1, oW) :: news) := news_of lN' (fun p hp => by simp only [List.mem_cons] at hp ⊢; rcases hp with h | h | h | h <;> simp [h])
  have lr : ∀ p ∈ news, p.1 < r8 := fun p hp => Nat.lt_trans (lt0 p hp) (Nat.lt_trans (Nat.lt_succ_self _) o4)
  have lC : L' + 1 + 1 + 1 < L' + 1 + 1 + 1 + 1 := Nat.lt_succ_self _
  refine wpAny_For ?_
  repeat' (first
    | ((fail_if_success (with_reducible show wpAny _ _ (pyIter _) _ _ _)); first
        | ((with_reducible refine wpAny_execs_nil ?_); (try dsimp only))
        | (with_reducible refine wpAny_If ?_)
        | ((with_reducible show ite (_ = true) _ _); (fail_if_success (with_reducible show ite (((_ : Bool) == _) = true) _ _)); first | refine PySem.W.ite_neg (Bool.eq_false_iff.mp rfl) ?_ | refine PySem.W.ite_pos rfl ?_)
        | (k_unfold; (try dsimp only)) | (k_end; wrow_close) | walk1 | (dsimp only; walk1) | (leave1; walk_say "STEP leave1"; try dsimp only) | fail "no step"))
  (try dsimp only)
  refine for_list (its := vW.toArray) (RJ (ktrTop dp un gd cn cs L a ccd cl outer) base (envX cn cs L a ccd cl :: outer) g' rs (L' + 1 + 1 + 1) (L' + 1 + 1 + 1 + 1) r8 ((L' + 1 + 1, oT) :: (L' + 1, oW) :: news)) rfl rfl rfl rfl PassesOwn.never lF' N3 ?hl ?hj ?turn ?done
  case hl =>
    rintro i g m nx h ⟨oL, oO, u, ll, lv, nl, rv, nr, tail, acc, left, G, rfl, _, _, _, hb, _⟩ F N
    exact News.isList N (.tail _ (.tail _ (.tail _ (hb _ (.tail _ (.tail _ hPW))))))
  case hj =>
    refine ⟨oL2, oO, none, lW, vW, nW, [], 0, _, [], rs, Gnd.rfl B', rfl, dL, dO, ?_, fun p hp => hp, .tail _ (.tail _ hPW), hW, .nil, by rw [List.drop_zero], sR, fun a h => h, hlen, Nat.le_refl _, pin_cons rfl (pin_nil)⟩
    intro p hp
    rcases List.mem_cons.mp hp with rfl | hp
    · exact ⟨Nat.ne_of_lt (Nat.lt_succ_self _), Nat.ne_of_lt (Nat.lt_trans (Nat.lt_succ_self _) lC), Nat.ne_of_lt o3⟩
    rcases List.mem_cons.mp hp with rfl | hp
    · exact ⟨Nat.ne_of_lt (Nat.lt_trans (Nat.lt_succ_self _) (Nat.lt_succ_self _)), Nat.ne_of_lt (Nat.lt_trans (Nat.lt_trans (Nat.lt_succ_self _) (Nat.lt_succ_self _)) lC), Nat.ne_of_lt o4⟩
    · have q : p.1 < L' + 1 + 1 + 1 := nC p (.tail _ (.tail _ hp))
      exact ⟨Nat.ne_of_lt q, Nat.ne_of_lt (Nat.lt_trans q lC), Nat.ne_of_lt (lr p hp)⟩
  case done =>
    rintro g m nx h tk ⟨oL, oO, u, ll, lv, nl, rv, nr, tail, acc, left, G, rfl, dL, dO, off1, hb, hll, hlv, hrv, hgo, hsl, hsub, hl11, hri, hps⟩ F₁ N₁
    replace F₁ := fr_pin hps F₁
    clear hps
    have B₁ := G.below
    have X₁ := hXT.1.keeps B₁.stays
    have T₁ := hXT.2.keeps B₁.stays
    have hdr : rs.drop vW.toArray.size = [] := List.drop_eq_nil_of_le (by rw [List.size_toArray, strs_len hW, List.length_map]; exact Nat.le_refl _)
    rw [hdr] at hgo
    repeat' (first
      | ((fail_if_success (with_reducible show wpAny _ _ (compareOp _ _ _) _ _ _)); first
          | ((with_reducible show wpAny _ _ (newList _) _ _ _); refine' newList_K ?F ?N ?_; (case F => assumption); (case N => assumption); intro e8 he F8 N8 oe; (try k_lt oe); (try k_sweep))
          | ((with_reducible refine wpAny_execs_nil ?_); (try dsimp only))
          | (with_reducible refine wpAny_If ?_)
          | ((with_reducible show ite (_ = true) _ _); (fail_if_success (with_reducible show ite (((_ : Bool) == _) = true) _ _)); first | refine PySem.W.ite_neg (Bool.eq_false_iff.mp rfl) ?_ | refine PySem.W.ite_pos rfl ?_)
          | (k_unfold; (try dsimp only)) | (k_end; wrow_close) | walk1 | (dsimp only; walk1) | (leave1; walk_say "STEP leave1"; try dsimp only) | fail "no step"))
    (rename News _ _ _ _ => lN'); (rename Fr _ _ _ _ => lF')
    refine dat_eq lN' (.tail _ (.tail _ (.tail _ (.tail _ hll)))) ((strs_dat hlv)) (ys := []) (.head _) .nil (part_ok fun n hn => h256 n (hsub n hn)) (fun _ h => nomatch h) (by ktr_units) (c := decide (left = [])) (by simp) ?_
    by_cases hl0 : left = []
    · rw [decide_eq_true hl0]
      repeat' (first
        | ((with_reducible refine wpAny_execs_nil ?_); (try dsimp only))
        | (with_reducible refine wpAny_If ?_)
        | ((with_reducible show ite (_ = true) _ _); (fail_if_success (with_reducible show ite (((_ : Bool) == _) = true) _ _)); first | refine PySem.W.ite_neg (Bool.eq_false_iff.mp rfl) ?_ | refine PySem.W.ite_pos rfl ?_)
        | (k_unfold; (try dsimp only)) | (k_end; wrow_close) | walk1 | (dsimp only; walk1) | (leave1; walk_say "STEP leave1"; try dsimp only) | fail "no step")
      (rename News _ _ _ _ => lN'); (rename Fr _ _ _ _ => lF')
      have ha : acc = goF rs rs rs [] := by rw [← hgo]; show acc = if left = [] then acc else []; rw [if_pos hl0]
      rw [ha] at hrv
      obtain ⟨h₀', G', F', N'⟩ := U' _ g L' _ _ _ G lF' lN'
      exact hret (.ref _) h₀' _ _ _ G' F' N' ⟨.list (.tail _ (.tail _ (.tail _ (.head _)))) (hrv.mono fun p hp => (.tail _ (.tail _ (.tail _ (.tail _ hp))))), fun p hp => (.tail _ (.tail _ (.tail _ (.tail _ (hb _ (.tail _ (.tail _ hp)))))))⟩
    · rw [decide_eq_false hl0]
      repeat' (first
        | ((with_reducible show wpAny _ _ (newList _) _ _ _); refine' newList_K ?F ?N ?_; (case F => assumption); (case N => assumption); intro e8 he F8 N8 oe; (try k_lt oe); (try k_sweep))
        | ((with_reducible refine wpAny_execs_nil ?_); (try dsimp only))
        | (with_reducible refine wpAny_If ?_)
        | ((with_reducible show ite (_ = true) _ _); (fail_if_success (with_reducible show ite (((_ : Bool) == _) = true) _ _)); first | refine PySem.W.ite_neg (Bool.eq_false_iff.mp rfl) ?_ | refine PySem.W.ite_pos rfl ?_)
        | (k_unfold; (try dsimp only)) | (k_end; wrow_close) | walk1 | (dsimp only; walk1) | (leave1; walk_say "STEP leave1"; try dsimp only) | fail "no step")
      (rename News _ _ _ _ => lN'); (rename Fr _ _ _ _ => lF')
      have ha : [] = goF rs rs rs [] := by rw [← hgo]; show [] = if left = [] then acc else []; rw [if_neg hl0]
      obtain ⟨h₀', G', F', N'⟩ := U' _ g L' _ _ _ G lF' lN'
      refine hret (.ref _) h₀' _ _ _ G' F' N' ⟨?_, fun p hp => (.tail _ (.tail _ (.tail _ (.tail _ (.tail _ (hb _ (.tail _ (.tail _ hp))))))))⟩
      rw [← ha]
      exact .list (vs := []) (.head _) .nil
  case turn =>
    rintro I oI i v g h tk m₁ nx hI hv ⟨oL, oO, u, ll, lv, nl, rv, nr, tail, acc, left, G, rfl, dL, dO, off1, hb, hll, hlv, hrv, hgo, hsl, hsub, hl11, hri, hps⟩ F₁ N₁ off
    replace F₁ := fr_upd hps F₁
    clear hps
    have B₁ := G.below
    have X₁ := hXT.1.keeps B₁.stays
    have T₁ := hXT.2.keeps B₁.stays
    repeat' (first
      | ((fail_if_success (with_reducible show wpAny _ _ (compareOp _ _ _) _ _ _)); first
          | ((with_reducible show wpAny _ _ (newList _) _ _ _); refine' newList_K ?F ?N ?_; (case F => assumption); (case N => assumption); intro e8 he F8 N8 oe; (try k_lt oe); (try k_sweep))
          | ((with_reducible refine wpAny_execs_nil ?_); (try dsimp only))
          | (with_reducible refine wpAny_If ?_)
          | ((with_reducible show ite (_ = true) _ _); (fail_if_success (with_reducible show ite (((_ : Bool) == _) = true) _ _)); first | refine PySem.W.ite_neg (Bool.eq_false_iff.mp rfl) ?_ | refine PySem.W.ite_pos rfl ?_)
          | (k_unfold; (try dsimp only)) | (k_end; wrow_close) | walk1 | (dsimp only; walk1) | (leave1; walk_say "STEP leave1"; try dsimp only) | fail "no step"))
    (rename News _ _ _ _ => lN'); (rename Fr _ _ _ _ => lF')
    refine dat_eq lN' (.tail _ (.tail _ (.tail _ (.tail _ (.tail _ hll))))) ((strs_dat hlv)) (ys := []) (.head _) .nil (part_ok fun n hn => h256 n (hsub n hn)) (fun _ h => nomatch h) (by ktr_units) (c := decide (left = [])) (by simp) ?_
    by_cases hl0 : left = []
    · rw [decide_eq_true hl0]
      repeat' (first
        | ((with_reducible refine wpAny_execs_nil ?_); (try dsimp only))
        | (with_reducible refine wpAny_If ?_)
        | ((with_reducible show ite (_ = true) _ _); (fail_if_success (with_reducible show ite (((_ : Bool) == _) = true) _ _)); first | refine PySem.W.ite_neg (Bool.eq_false_iff.mp rfl) ?_ | refine PySem.W.ite_pos rfl ?_)
        | (k_unfold; (try dsimp only)) | (k_end; wrow_close) | walk1 | (dsimp only; walk1) | (leave1; walk_say "STEP leave1"; try dsimp only) | fail "no step")
      dsimp only [ForStep]
      (rename News _ _ _ _ => lN'); (rename Fr _ _ _ _ => lF')
      have ha : acc = goF rs rs rs [] := by rw [← hgo, hl0]; cases rs.drop i <;> rfl
      rw [ha] at hrv
      obtain ⟨h₀', G', F', N'⟩ := U' _ g L' _ _ _ G lF' lN'
      exact hret (.ref _) h₀' _ _ _ G' F' N' ⟨.list (.tail _ (.tail _ (.tail _ (.tail _ (.head _))))) (hrv.mono fun p hp => (.tail _ (.tail _ (.tail _ (.tail _ (.tail _ hp)))))), fun p hp => (.tail _ (.tail _ (.tail _ (.tail _ (.tail _ (hb _ (.tail _ (.tail _ hp))))))))⟩
    rw [decide_eq_false hl0]
    repeat' (first
      | ((fail_if_success (with_reducible show wpAny _ _ (exec (Stmt.For _ _ _ _ _) _) _ _ _)); first
          | ((with_reducible show wpAny _ _ (newList _) _ _ _); refine' newList_K ?F ?N ?_; (case F => assumption); (case N => assumption); intro t8 ht F8 N8 ot; (try k_lt ot); (try k_sweep))
          | ((with_reducible refine wpAny_execs_nil ?_); (try dsimp only))
          | (with_reducible refine wpAny_If ?_)
          | ((with_reducible show ite (_ = true) _ _); (fail_if_success (with_reducible show ite (((_ : Bool) == _) = true) _ _)); first | refine PySem.W.ite_neg (Bool.eq_false_iff.mp rfl) ?_ | refine PySem.W.ite_pos rfl ?_)
          | (k_unfold; (try dsimp only)) | (k_end; wrow_close) | walk1 | (dsimp only; walk1) | (leave1; walk_say "STEP leave1"; try dsimp only) | fail "no step"))
    obtain ⟨p1, p2, p3, p4, p5, p6⟩ := ot
    have lt8 : ∀ p ∈ tail, p.1 ≠ t8 := fun p hp => Nat.ne_of_lt (allLt_all p6 p hp)
    (rename News _ _ _ _ => lN'); (rename Fr _ _ _ _ => lF')
    have N4 : News g L' _ ((L' + 1 + 1 + 1 + 1, oO) :: (t8, listOf #[] 0) :: (I, oI) :: (L' + 1 + 1 + 1, oL) :: (r8, listOf rv.toArray nr) :: tail) := news_of lN' (fun p hp => by simp only [List.mem_cons] at hp ⊢; rcases hp with h | h | h | h | h | h <;> simp [h])
    have offCO : ∀ p ∈ (t8, listOf #[] 0) :: (I, oI) :: (L' + 1 + 1 + 1, oL) :: (r8, listOf rv.toArray nr) :: tail, p.1 ≠ L' + 1 + 1 + 1 + 1 := fun p hp => by
      rcases List.mem_cons.mp hp with rfl | hp
      · exact Nat.ne_of_gt p4
      rcases List.mem_cons.mp hp with rfl | hp
      · exact Ne.symm (off _ (.tail _ (.head _)))
      rcases List.mem_cons.mp hp with rfl | hp
      · exact Nat.ne_of_lt lC
      rcases List.mem_cons.mp hp with rfl | hp
      · exact Nat.ne_of_gt o2
      · exact (off1 p hp).2.1
    refine wpAny_For ?_
    repeat' (first
      | ((fail_if_success (with_reducible show wpAny _ _ (pyIter _) _ _ _)); first
          | ((with_reducible refine wpAny_execs_nil ?_); (try dsimp only))
          | (with_reducible refine wpAny_If ?_)
          | ((with_reducible show ite (_ = true) _ _); (fail_if_success (with_reducible show ite (((_ : Bool) == _) = true) _ _)); first | refine PySem.W.ite_neg (Bool.eq_false_iff.mp rfl) ?_ | refine PySem.W.ite_pos rfl ?_)
          | (k_unfold; (try dsimp only)) | (k_end; wrow_close) | walk1 | (dsimp only; walk1) | (leave1; walk_say "STEP leave1"; try dsimp only) | fail "no step"))
    (try dsimp only)
    (rename Fr _ _ _ _ => lF')
    refine for_list_c (L := L') (its := lv.toArray) (fun i2 g2 m nx => g2 = g ∧ ∃ (tv : List Value) (nt : Nat), nx = (t8, listOf tv.toArray nt) :: (I, oI) :: (L' + 1 + 1 + 1, oL) :: (r8, listOf rv.toArray nr) :: tail ∧ StrsAre tv (((left.take i2).filter (isTop rs left)).map wd) ∧ Pins m [(Str.ofString "rounds", Value.ref r8), (Str.ofString "tops", Value.ref t8)]) rfl rfl rfl rfl PassesOwn.never lF' dO N4 offCO ?hl2 ?hj2 ?turn2 ?done2
    case hl2 => rintro i2 g2 m nx h ⟨rfl, tv, nt, rfl, _⟩ F N; exact News.isList N (.tail _ (.tail _ (.tail _ (.tail _ hll))))
    case hj2 => exact ⟨rfl, [], 0, rfl, .nil, pin_cons rfl (pin_cons rfl (pin_nil))⟩
    case done2 =>
      rintro g2 m2 nx h2 tk2 oc u2 ⟨rfl, tv, nt, rfl, htv, hps⟩ dO2 F₂ N₂ offc
      replace F₂ := fr_pin hps F₂
      clear hps
      have ei : lv.toArray.size = left.length := by rw [List.size_toArray, strs_len hlv, List.length_map]
      rw [ei, List.take_length] at htv
      repeat' (first
        | ((fail_if_success (with_reducible show wpAny _ _ (call (Value.builtin "list.append") _) _ _ _)); first
            | ((with_reducible show wpAny _ _ (getAttr (Value.ref _) _ _) _ _ _); (refine' getAppend_K ?F ?N ?hm ?_; (case F => assumption); (case N => assumption); (case hm => k_mem); intro b9 h9 tk9 F9 N9 l9; (try k_lt l9)))
            | ((try dsimp only); (with_reducible show wpAny _ _ (callWith _ (Value.ref _) _ (backTo _ (starEach (_ :: _) _)) []) _ _ _); refine' callWith_app ?N ?hb ?_; (case N => assumption); (case hb => k_mem))
            | ((with_reducible show AppAt _ _ _ ∧ _); refine' ⟨app_at ?N ?hm, ?_⟩; (case N => assumption); (case hm => k_mem))
            | ((with_reducible refine wpAny_execs_nil ?_); (try dsimp only))
            | (with_reducible refine wpAny_If ?_)
            | ((with_reducible show ite (_ = true) _ _); (fail_if_success (with_reducible show ite (((_ : Bool) == _) = true) _ _)); first | refine PySem.W.ite_neg (Bool.eq_false_iff.mp rfl) ?_ | refine PySem.W.ite_pos rfl ?_)
            | (k_unfold; (try dsimp only)) | (k_end; wrow_close) | walk1 | (dsimp only; walk1) | (leave1; walk_say "STEP leave1"; try dsimp only) | fail "no step"))
      (rename News _ _ _ _ => lN'); (rename Fr _ _ _ _ => lF')
      refine append_in (s := { s with heap := _, toks := _ }) (own := [(L' + 1 + 1 + 1 + 1, _), (t8, _), (I, _), (L' + 1 + 1 + 1, _)]) lF' lN' (fun p hp => ?_) (fun p hp => (off1 p hp).2.2) ?_ (Nat.le_trans (show _ ≤ 22 from by have := (Array.getElem?_eq_some_iff.mp hv).1; rw [List.size_toArray, strs_len hW, List.length_map] at this; omega) (by decide))
      · simp only [List.mem_cons, List.not_mem_nil, or_false] at hp; rcases hp with rfl | rfl | rfl | rfl
        · exact Nat.ne_of_lt o2
        · exact Nat.ne_of_gt p5
        · exact Ne.symm (off _ (.tail _ (.tail _ (.head _))))
        · exact Nat.ne_of_lt o1
      intro h6 F6 N6
      simp only [List.cons_append, List.nil_append] at N6
      repeat' (first
        | ((fail_if_success (with_reducible show wpAny _ _ (eval (Expr.Name (Str.ofString "left") _) _) _ _ _)); first
            | ((with_reducible refine wpAny_execs_nil ?_); (try dsimp only))
            | (with_reducible refine wpAny_If ?_)
            | ((with_reducible show ite (_ = true) _ _); (fail_if_success (with_reducible show ite (((_ : Bool) == _) = true) _ _)); first | refine PySem.W.ite_neg (Bool.eq_false_iff.mp rfl) ?_ | refine PySem.W.ite_pos rfl ?_)
            | (k_unfold; (try dsimp only)) | (k_end; wrow_close) | walk1 | (dsimp only; walk1) | (leave1; walk_say "STEP leave1"; try dsimp only) | fail "no step"))
      (rename News _ _ _ _ => lN')
      refine nameX_C lN' (c := L' + 1 + 1 + 1) (o := oL) rfl (.tail _ (.tail _ (.tail _ (.head _)))) dL ?_
      repeat' (first
        | ((fail_if_success (with_reducible show wpAny _ _ (call (.ref _) _) _ _ _)); first
            | ((with_reducible refine wpAny_execs_nil ?_); (try dsimp only))
            | (with_reducible refine wpAny_If ?_)
            | ((with_reducible show ite (_ = true) _ _); (fail_if_success (with_reducible show ite (((_ : Bool) == _) = true) _ _)); first | refine PySem.W.ite_neg (Bool.eq_false_iff.mp rfl) ?_ | refine PySem.W.ite_pos rfl ?_)
            | (k_unfold; (try dsimp only)) | (k_end; wrow_close) | walk1 | (dsimp only; walk1) | (leave1; walk_say "STEP leave1"; try dsimp only) | fail "no step"))
      have htop : StrsAre tv ((topsF rs left).map wd) := htv
      have hts : ∀ a ∈ topsF rs left, a ∈ left := fun a ha => (List.mem_filter.mp ha).1
      (rename News _ _ _ _ => lN'); (rename Fr _ _ _ _ => lF')
      refine' (diff_spc w left (topsF rs left) lv tv ll t8 nl nt hlv htop hsl (hsl.filter _) hts (fun a ha => h256 a (hsub a ha)) hl11 (Nat.le_trans (List.length_filter_le _ _) hl11)).use ?k1b ?k2b ?k3b ?k4b ?k5b ?k6b ?kPb ?k7b ?k8b ?_
      case k1b => exact B₁
      case k2b => exact lF'
      case k3b => exact hXT.1
      case k4b => exact lN'
      case k5b => exact hXT.2
      case k6b => exact rfl
      case kPb => exact ⟨(.tail _ (.tail _ (.tail _ (.tail _ (.tail _ hll))))), (.tail _ (.head _))⟩
      case k7b => ktr_room
      case k8b => ktr_units
      rintro _ g5 h5 tk5 nw5 G5 F5 N5 ⟨T5, D5, U5, vs5, n5, nu5, rfl, hvs5, rfl, fr5⟩
      have G' := G.trans G5
      clear B₁ X₁ T₁
      have B₁ := G'.below
      have X₁ := hXT.1.keeps B₁.stays
      have T₁ := hXT.2.keeps B₁.stays
      repeat' (first
        | ((fail_if_success (with_reducible show wpAny _ _ (compareOp _ _ _) _ _ _)); first
            | ((with_reducible show wpAny _ _ (newList _) _ _ _); refine' newList_K ?F ?N ?_; (case F => assumption); (case N => assumption); intro w8 hw F8 N8 ow; (try k_lt ow); (try k_sweep))
            | ((with_reducible refine wpAny_execs_nil ?_); (try dsimp only))
            | (with_reducible refine wpAny_If ?_)
            | ((with_reducible show ite (_ = true) _ _); (fail_if_success (with_reducible show ite (((_ : Bool) == _) = true) _ _)); first | refine PySem.W.ite_neg (Bool.eq_false_iff.mp rfl) ?_ | refine PySem.W.ite_pos rfl ?_)
            | (k_unfold; (try dsimp only)) | (k_end; wrow_close) | walk1 | (dsimp only; walk1) | (leave1; walk_say "STEP leave1"; try dsimp only) | fail "no step"))
      (rename News _ _ _ _ => lN')
      refine dat_ne lN' (xs := []) (ys := []) (ka := nu5) (.tail _ (.tail _ (.head _))) .nil (.head _) .nil (fun _ h => nomatch h) (fun _ h => nomatch h) (by ktr_units) (c := false) (by simp) ?_
      repeat' (first
        | ((fail_if_success (with_reducible show wpAny _ _ (storeName _ (Str.ofString "left") _) _ _ _)); first
            | ((with_reducible refine wpAny_execs_nil ?_); (try dsimp only))
            | (with_reducible refine wpAny_If ?_)
            | ((with_reducible show ite (_ = true) _ _); (fail_if_success (with_reducible show ite (((_ : Bool) == _) = true) _ _)); first | refine PySem.W.ite_neg (Bool.eq_false_iff.mp rfl) ?_ | refine PySem.W.ite_pos rfl ?_)
            | (k_unfold; (try dsimp only)) | (k_end; wrow_close) | walk1 | (dsimp only; walk1) | (leave1; walk_say "STEP leave1"; try dsimp only) | fail "no step"))
      (rename News _ _ _ _ => lN'); (rename Fr _ _ _ _ => lF')
      have N7 : News g5 L' _ ((L' + 1 + 1 + 1, oL) :: (I, oI) :: (L' + 1 + 1 + 1 + 1, oc) :: (r8, listOf (rv ++ [Value.ref t8]).toArray (nr + 1)) :: (D5, listOf vs5.toArray n5) :: (t8, listOf tv.toArray nt) :: tail) := news_of lN' (fun p hp => by simp only [List.mem_cons] at hp ⊢; rcases hp with h | h | h | h | h | h | h <;> simp [h, PySem.W.listOf])
      have nD : ∀ p ∈ (L' + 1 + 1 + 1 + 1, oc) :: (t8, listOf tv.toArray nt) :: (I, oI) :: (L' + 1 + 1 + 1, oL) :: (r8, listOf (rv ++ [Value.ref t8]).toArray (nr + 1)) :: tail, p.1 ≠ D5 := fun p hp => (fr5 p hp).1
      have kt : ∀ p ∈ (D5, listOf vs5.toArray n5) :: (t8, listOf tv.toArray nt) :: tail, p.1 ≠ L' + 1 + 1 + 1 ∧ p.1 ≠ L' + 1 + 1 + 1 + 1 ∧ p.1 ≠ r8 := fun p hp => by
        rcases List.mem_cons.mp hp with rfl | hp
        · exact ⟨Ne.symm (nD _ (.tail _ (.tail _ (.tail _ (.head _))))), Ne.symm (nD _ (.head _)), Ne.symm (nD _ (.tail _ (.tail _ (.tail _ (.tail _ (.head _))))))⟩
        rcases List.mem_cons.mp hp with rfl | hp
        · exact ⟨Nat.ne_of_gt p3, Nat.ne_of_gt p4, Nat.ne_of_gt p5⟩
        · exact off1 p hp
      have kI : ∀ p ∈ (D5, listOf vs5.toArray n5) :: (t8, listOf tv.toArray nt) :: tail, p.1 ≠ I := fun p hp => by
        rcases List.mem_cons.mp hp with rfl | hp
        · exact Ne.symm (nD _ (.tail _ (.tail _ (.head _))))
        rcases List.mem_cons.mp hp with rfl | hp
        · exact Nat.ne_of_gt p2
        · exact off p (.tail _ (.tail _ (.tail _ hp)))
      refine store_cell lF' N7 dL ?_ rfl ?_
      · intro p hp
        rcases List.mem_cons.mp hp with rfl | hp
        · exact Ne.symm (off _ (.head _))
        rcases List.mem_cons.mp hp with rfl | hp
        · exact Nat.ne_of_gt lC
        rcases List.mem_cons.mp hp with rfl | hp
        · exact Nat.ne_of_gt o1
        · exact (kt p hp).1
      intro h9 oL9 F9 N9 dL9
      repeat' (first
        | ((with_reducible refine wpAny_execs_nil ?_); (try dsimp only))
        | (with_reducible refine wpAny_If ?_)
        | ((with_reducible show ite (_ = true) _ _); (fail_if_success (with_reducible show ite (((_ : Bool) == _) = true) _ _)); first | refine PySem.W.ite_neg (Bool.eq_false_iff.mp rfl) ?_ | refine PySem.W.ite_pos rfl ?_)
        | (k_unfold; (try dsimp only)) | (k_end; wrow_close) | walk1 | (dsimp only; walk1) | (leave1; walk_say "STEP leave1"; try dsimp only) | fail "no step")
      have hlt : i < rs.length := by have := (Array.getElem?_eq_some_iff.mp hv).1; rw [List.size_toArray, strs_len hW, List.length_map] at this; exact this
      have hgo' : goF rs (rs.drop (i + 1)) (left.filter fun n => !(topsF rs left).contains n) (acc ++ [topsF rs left]) = goF rs rs rs [] := by
        rw [← hgo, List.drop_eq_getElem_cons hlt]
        show _ = (if left = [] then acc else _)
        rw [if_neg hl0]
      refine ⟨g5, h9, _, _, (L' + 1 + 1 + 1, oL9) :: (L' + 1 + 1 + 1 + 1, oc) :: (r8, listOf (rv ++ [Value.ref t8]).toArray (nr + 1)) :: (D5, listOf vs5.toArray n5) :: (t8, listOf tv.toArray nt) :: tail, rfl, F9, fun p hp => N9 p ?_, fun p hp => ?_, oL9, oc, u2, D5, vs5, n5, rv ++ [.ref t8], nr + 1, _, acc ++ [topsF rs left], _, G', rfl, dL9, dO2, kt, fun p hp => .tail _ (.tail _ (hb p hp)), .head _, hvs5, ?_, hgo', hsl.filter _, fun a ha => hsub a (List.mem_filter.mp ha).1, Nat.le_trans (List.length_filter_le _ _) hl11, ?_, pin_cons rfl (pin_nil)⟩
      · rcases List.mem_cons.mp hp with rfl | hp
        · exact .tail _ (.head _)
        rcases List.mem_cons.mp hp with rfl | hp
        · exact .head _
        · exact .tail _ (.tail _ hp)
      · rcases List.mem_cons.mp hp with rfl | hp
        · exact off (L' + 1 + 1 + 1, oL) (.head _)
        rcases List.mem_cons.mp hp with rfl | hp
        · exact off (L' + 1 + 1 + 1 + 1, oO) (.tail _ (.head _))
        rcases List.mem_cons.mp hp with rfl | hp
        · exact off (r8, listOf rv.toArray nr) (.tail _ (.tail _ (.head _)))
        · exact kI p hp
      · rw [List.map_append]; exact dat_snoc (hrv.mono fun p hp => .tail _ (.tail _ hp)) (.list (.tail _ (.head _)) (strs_dat htop))
      · rw [List.length_append, List.length_cons, List.length_nil]; omega
    case turn2 =>
      rintro I2 oI2 oO2 i2 v2 g2 h2 tk2 m2 nx hI2 hv2 ⟨rfl, tv, nt, rfl, htv, hps⟩ dO2 F₂ N₂ off2
      replace F₂ := fr_pin hps F₂
      clear hps
      obtain ⟨n, tn, hn, rfl⟩ := strs_get hlv hv2
      repeat' (first
        | ((fail_if_success (with_reducible show wpAny _ _ (eval (Expr.ListComp _ _ _ _) _) _ _ _)); first
            | ((with_reducible refine wpAny_execs_nil ?_); (try dsimp only))
            | (with_reducible refine wpAny_If ?_)
            | ((with_reducible show ite (_ = true) _ _); (fail_if_success (with_reducible show ite (((_ : Bool) == _) = true) _ _)); first | refine PySem.W.ite_neg (Bool.eq_false_iff.mp rfl) ?_ | refine PySem.W.ite_pos rfl ?_)
            | (k_unfold; (try dsimp only)) | (k_end; wrow_close) | walk1 | (dsimp only; walk1) | (leave1; walk_say "STEP leave1"; try dsimp only) | fail "no step"))
      rw [eval_ListComp]
      refine wpAny_comprehension_free (use := none) (cl := _) rfl (by intro _; rfl) (by with_unfolding_all rfl) (by rfl) (by decide) ?_
      unfold firstIter
      (try dsimp only)
      have mT : (L' + 1 + 1, oT) ∈ tail := hb _ (.head _)
      have mW : (L' + 1, oW) ∈ tail := hb _ (.tail _ (.head _))
      have mlW : (lW, listOf vW.toArray nW) ∈ tail := hb _ (.tail _ (.tail _ hPW))
      have mlT : (lT, listOf vT.toArray nT) ∈ tail := hb _ (.tail _ (.tail _ hPT))
      repeat' (first
        | ((fail_if_success (with_reducible show wpAny _ _ (eval (Expr.Name (Str.ofString "words") _) _) _ _ _)); (fail_if_success (with_reducible show wpAny _ _ (eval (Expr.Name (Str.ofString "texts") _) _) _ _ _)); first
            | ((with_reducible refine wpAny_execs_nil ?_); (try dsimp only))
            | (with_reducible refine wpAny_If ?_)
            | ((with_reducible show ite (_ = true) _ _); (fail_if_success (with_reducible show ite (((_ : Bool) == _) = true) _ _)); first | refine PySem.W.ite_neg (Bool.eq_false_iff.mp rfl) ?_ | refine PySem.W.ite_pos rfl ?_)
            | (k_unfold; (try dsimp only)) | (k_end; wrow_close) | walk1 | (dsimp only; walk1) | (leave1; walk_say "STEP leave1"; try dsimp only) | fail "no step"))
      (rename News _ _ _ _ => lN')
      refine nameX_C lN' (c := L' + 1) (o := oW) rfl (.tail _ (.tail _ (.tail _ (.tail _ (.tail _ (.tail _ mW)))))) dW ?_
      repeat' (first
        | ((fail_if_success (with_reducible show wpAny _ _ (call _ _) _ _ _)); first
            | ((with_reducible refine wpAny_execs_nil ?_); (try dsimp only))
            | (with_reducible refine wpAny_If ?_)
            | ((with_reducible show ite (_ = true) _ _); (fail_if_success (with_reducible show ite (((_ : Bool) == _) = true) _ _)); first | refine PySem.W.ite_neg (Bool.eq_false_iff.mp rfl) ?_ | refine PySem.W.ite_pos rfl ?_)
            | (k_unfold; (try dsimp only)) | (k_end; wrow_close) | walk1 | (dsimp only; walk1) | (leave1; walk_say "STEP leave1"; try dsimp only) | fail "no step"))
      (rename News _ _ _ _ => lN')
      refine len_K (rs.length : Int) lN' (.tail _ (.tail _ (.tail _ (.tail _ (.tail _ (.tail _ mlW)))))) (by rw [List.size_toArray, strs_len hW, List.length_map]) (by omega) ?_
      repeat' (first
        | ((fail_if_success (with_reducible show wpAny _ _ (pyIter _) _ _ _)); first
            | ((with_reducible refine wpAny_execs_nil ?_); (try dsimp only))
            | (with_reducible refine wpAny_If ?_)
            | ((with_reducible show ite (_ = true) _ _); (fail_if_success (with_reducible show ite (((_ : Bool) == _) = true) _ _)); first | refine PySem.W.ite_neg (Bool.eq_false_iff.mp rfl) ?_ | refine PySem.W.ite_pos rfl ?_)
            | (k_unfold; (try dsimp only)) | (k_end; wrow_close) | walk1 | (dsimp only; walk1) | (leave1; walk_say "STEP leave1"; try dsimp only) | fail "no step"))
      (rename News _ _ _ _ => lN'); (rename Fr _ _ _ _ => lF'); (rename IsRange _ _ _ _ _ _ _ _ => lR')
      replace lN' : News g2 L' _ ((I2, oI2) :: (L' + 1 + 1 + 1 + 1, oO2) :: (t8, listOf tv.toArray nt) :: (I, oI) :: (L' + 1 + 1 + 1, oL) :: (r8, listOf rv.toArray nr) :: tail) := news_of lN' (fun p hp => by simp only [List.mem_cons] at hp ⊢; rcases hp with h | h | h | h | h | h | h <;> simp [h])
      have hr0 := range_from0 ⟨rs.length, by omega⟩
      refine iter_range (fun i3 ys nw s' => nw = (I2, oI2) :: (L' + 1 + 1 + 1 + 1, oO2) :: (t8, listOf tv.toArray nt) :: (I, oI) :: (L' + 1 + 1 + 1, oL) :: (r8, listOf rv.toArray nr) :: tail ∧ (∃ h tk, s' = { s with heap := h, toks := tk }) ∧ ∃ zs, IntsAre ys zs ∧ zs.length = ((rs.take i3).filter fun a => left.contains a && a != n && le2 n a).length) rfl (by decide) rfl (by rfl) lF' lN' lR' hr0.1 hr0.2 (Nat.le_trans hlen (by decide)) ?hJ3 ?hj3 ?turn3 ?fin3
      case hJ3 => rintro i3 ys nw s' h3 tk3 ⟨rfl, ⟨h9, tk9, rfl⟩, hz⟩; exact ⟨rfl, ⟨_, _, rfl⟩, hz⟩
      case hj3 => exact ⟨rfl, ⟨_, _, rfl⟩, [], .nil, by simp⟩
      case fin3 =>
        refine fin_eval (by rintro i3 ys nw s' h3 tk3 ⟨rfl, ⟨h9, tk9, rfl⟩, hz⟩; exact ⟨rfl, ⟨_, _, rfl⟩, hz⟩) ?_
        rintro D9 ys nw s' ⟨rfl, ⟨h9, tk9, rfl⟩, zs, hzs, hzl⟩ F9 N9 off9 lD9
        repeat' (first
          | ((fail_if_success (with_reducible show wpAny _ _ (compareOp _ _ _) _ _ _)); first
              | ((with_reducible show wpAny _ _ (newList _) _ _ _); refine' newList_K ?F ?N ?_; (case F => assumption); (case N => assumption); intro z8 hz F8 N8 oz; (try k_lt oz); (try k_sweep))
              | ((with_reducible refine wpAny_execs_nil ?_); (try dsimp only))
              | (with_reducible refine wpAny_If ?_)
              | ((with_reducible show ite (_ = true) _ _); (fail_if_success (with_reducible show ite (((_ : Bool) == _) = true) _ _)); first | refine PySem.W.ite_neg (Bool.eq_false_iff.mp rfl) ?_ | refine PySem.W.ite_pos rfl ?_)
              | (k_unfold; (try dsimp only)) | (k_end; wrow_close) | walk1 | (dsimp only; walk1) | (leave1; walk_say "STEP leave1"; try dsimp only) | fail "no step"))
        (rename News _ _ _ _ => lN'); (rename Fr _ _ _ _ => lF')
        refine dat_eq lN' (.tail _ (.head _)) (ints_dat hzs) (ys := []) (.head _) .nil (ints_ok zs) (fun _ h => nomatch h) (by ktr_units) (c := isTop rs left n) (top_iff hzl) ?_
        have htk : (left.take (i2 + 1)).filter (isTop rs left) = (left.take i2).filter (isTop rs left) ++ if isTop rs left n = true then [n] else [] := filter_snoc hn _
        obtain ⟨z1, z2, z3, z4, z5, z6, z7, z0⟩ := oz
        have off4 : ∀ p ∈ (I, oI) :: (L' + 1 + 1 + 1, oL) :: (r8, listOf rv.toArray nr) :: tail, p.1 ≠ t8 := fun p hp => by
          rcases List.mem_cons.mp hp with rfl | hp
          · exact Nat.ne_of_lt p2
          rcases List.mem_cons.mp hp with rfl | hp
          · exact Nat.ne_of_lt p3
          rcases List.mem_cons.mp hp with rfl | hp
          · exact Nat.ne_of_lt p5
          · exact lt8 p hp
        cases hct : isTop rs left n with
        | false =>
          repeat' (first
            | ((with_reducible refine wpAny_execs_nil ?_); (try dsimp only))
            | (with_reducible refine wpAny_If ?_)
            | ((with_reducible show ite (_ = true) _ _); (fail_if_success (with_reducible show ite (((_ : Bool) == _) = true) _ _)); first | refine PySem.W.ite_neg (Bool.eq_false_iff.mp rfl) ?_ | refine PySem.W.ite_pos rfl ?_)
            | (k_unfold; (try dsimp only)) | (k_end; wrow_close) | walk1 | (dsimp only; walk1) | (leave1; walk_say "STEP leave1"; try dsimp only) | fail "no step")
          (rename News _ _ _ _ => lN'); (rename Fr _ _ _ _ => lF')
          exact ⟨g2, _, _, _, _, oO2, _, rfl, dO2, lF', fun p hp => lN' p (.tail _ (.tail _ hp)), off2, rfl, tv, nt, rfl, by rw [htk, hct]; simpa using htv, pin_cons rfl (pin_cons rfl (pin_nil))⟩
        | true =>
          repeat' (first
            | ((fail_if_success (with_reducible show wpAny _ _ (eval (Expr.Name (Str.ofString "one") _) _) _ _ _)); first
                | ((with_reducible show wpAny _ _ (getAttr (Value.ref _) _ _) _ _ _); (refine' getAppend_K ?F ?N ?hm ?_; (case F => assumption); (case N => assumption); (case hm => k_mem); intro b9 h9 tk9 F9 N9 l9; (try k_lt l9)))
                | ((try dsimp only); (with_reducible show wpAny _ _ (callWith _ (Value.ref _) _ (backTo _ (starEach (_ :: _) _)) []) _ _ _); refine' callWith_app ?N ?hb ?_; (case N => assumption); (case hb => k_mem))
                | ((with_reducible show AppAt _ _ _ ∧ _); refine' ⟨app_at ?N ?hm, ?_⟩; (case N => assumption); (case hm => k_mem))
                | ((with_reducible refine wpAny_execs_nil ?_); (try dsimp only))
                | (with_reducible refine wpAny_If ?_)
                | ((with_reducible show ite (_ = true) _ _); (fail_if_success (with_reducible show ite (((_ : Bool) == _) = true) _ _)); first | refine PySem.W.ite_neg (Bool.eq_false_iff.mp rfl) ?_ | refine PySem.W.ite_pos rfl ?_)
                | (k_unfold; (try dsimp only)) | (k_end; wrow_close) | walk1 | (dsimp only; walk1) | (leave1; walk_say "STEP leave1"; try dsimp only) | fail "no step"))
          (rename News _ _ _ _ => lN')
          refine nameX_C lN' (c := L' + 1 + 1 + 1 + 1) (o := oO2) rfl (.tail _ (.tail _ (.tail _ (.head _)))) dO2 ?_
          repeat' (first
            | ((fail_if_success (with_reducible show wpAny _ _ (call (Value.builtin "list.append") _) _ _ _)); first
                | ((with_reducible show wpAny _ _ (getAttr (Value.ref _) _ _) _ _ _); (refine' getAppend_K ?F ?N ?hm ?_; (case F => assumption); (case N => assumption); (case hm => k_mem); intro b9 h9 tk9 F9 N9 l9; (try k_lt l9)))
                | ((try dsimp only); (with_reducible show wpAny _ _ (callWith _ (Value.ref _) _ (backTo _ (starEach (_ :: _) _)) []) _ _ _); refine' callWith_app ?N ?hb ?_; (case N => assumption); (case hb => k_mem))
                | ((with_reducible show AppAt _ _ _ ∧ _); refine' ⟨app_at ?N ?hm, ?_⟩; (case N => assumption); (case hm => k_mem))
                | ((with_reducible refine wpAny_execs_nil ?_); (try dsimp only))
                | (with_reducible refine wpAny_If ?_)
                | ((with_reducible show ite (_ = true) _ _); (fail_if_success (with_reducible show ite (((_ : Bool) == _) = true) _ _)); first | refine PySem.W.ite_neg (Bool.eq_false_iff.mp rfl) ?_ | refine PySem.W.ite_pos rfl ?_)
                | (k_unfold; (try dsimp only)) | (k_end; wrow_close) | walk1 | (dsimp only; walk1) | (leave1; walk_say "STEP leave1"; try dsimp only) | fail "no step"))
          (rename News _ _ _ _ => lN'); (rename Fr _ _ _ _ => lF')
          refine append_in (s := { s with heap := _, toks := _ }) (own := [(z8, _), (D9, _), (I2, _), (L' + 1 + 1 + 1 + 1, _)]) lF' lN' (fun p hp => ?_) off4 ?_ (Nat.le_trans (show _ ≤ 11 from by rw [strs_len htv, List.length_map]; exact Nat.le_trans (List.length_filter_le _ _) (by rw [List.length_take]; omega)) (by decide))
          · simp only [List.mem_cons, List.not_mem_nil, or_false] at hp; rcases hp with rfl | rfl | rfl | rfl
            · exact Nat.ne_of_gt z4
            · exact Nat.ne_of_gt (lD9 _ (.tail _ (.tail _ (.head _))))
            · exact Ne.symm (off2 _ (.head _)).1
            · exact Ne.symm (off2 _ (.head _)).2
          intro h6 F6 N6
          simp only [List.cons_append, List.nil_append] at N6
          repeat' (first
            | ((with_reducible refine wpAny_execs_nil ?_); (try dsimp only))
            | (with_reducible refine wpAny_If ?_)
            | ((with_reducible show ite (_ = true) _ _); (fail_if_success (with_reducible show ite (((_ : Bool) == _) = true) _ _)); first | refine PySem.W.ite_neg (Bool.eq_false_iff.mp rfl) ?_ | refine PySem.W.ite_pos rfl ?_)
            | (k_unfold; (try dsimp only)) | (k_end; wrow_close) | walk1 | (dsimp only; walk1) | (leave1; walk_say "STEP leave1"; try dsimp only) | fail "no step")
          (rename Fr _ _ _ _ => lF')
          refine ⟨g2, _, _, _, _, oO2, _, rfl, dO2, lF', fun p hp => N6 p (.tail _ (.tail _ hp)), ?_, rfl, _, _, rfl, ?_, pin_cons rfl (pin_cons rfl (pin_nil))⟩
          · intro p hp; rcases List.mem_cons.mp hp with rfl | hp
            · exact off2 (t8, listOf tv.toArray nt) (.head _)
            · exact off2 _ (.tail _ hp)
          · rw [htk, hct, List.map_append]; exact htv.append' (.cons _ _ .nil)
      case turn3 =>
        rintro I3 C3 D3 i3 t3 ys oC3 m3 nw s' oI3 hi3 ⟨rfl, ⟨h9, tk9, rfl⟩, zs, hzs, hzl⟩ hNs hm3 F₃ N₃ sp3 lI3 lD3 lC3
        refine tests_one ?_
        repeat' (first
          | ((fail_if_success (with_reducible show wpAny _ _ (eval (Expr.Name _ _) (compEnvC _ _ _ _)) _ _ _)); first
              | ((with_reducible refine wpAny_execs_nil ?_); (try dsimp only))
              | (with_reducible refine wpAny_If ?_)
              | ((with_reducible show ite (_ = true) _ _); (fail_if_success (with_reducible show ite (((_ : Bool) == _) = true) _ _)); first | refine PySem.W.ite_neg (Bool.eq_false_iff.mp rfl) ?_ | refine PySem.W.ite_pos rfl ?_)
              | (k_unfold; (try dsimp only)) | (k_end; wrow_close) | walk1 | (dsimp only; walk1) | (leave1; walk_say "STEP leave1"; try dsimp only) | fail "no step"))
        (rename News _ _ _ _ => lN')
        refine lcf_cell lN' (c := L' + 1) (o := oW) rfl (.tail _ (.tail _ (.tail _ (.tail _ (.tail _ (.tail _ (.tail _ (.tail _ (.tail _ mW))))))))) dW ?_ rfl rfl
        repeat' (first
          | ((fail_if_success (with_reducible show wpAny _ _ (eval (Expr.Name _ _) (compEnvC _ _ _ _)) _ _ _)); first
              | ((with_reducible refine wpAny_execs_nil ?_); (try dsimp only))
              | (with_reducible refine wpAny_If ?_)
              | ((with_reducible show ite (_ = true) _ _); (fail_if_success (with_reducible show ite (((_ : Bool) == _) = true) _ _)); first | refine PySem.W.ite_neg (Bool.eq_false_iff.mp rfl) ?_ | refine PySem.W.ite_pos rfl ?_)
              | (k_unfold; (try dsimp only)) | (k_end; wrow_close) | walk1 | (dsimp only; walk1) | (leave1; walk_say "STEP leave1"; try dsimp only) | fail "no step"))
        (rename News _ _ _ _ => lN')
        refine LCgL.ld_own lN' (.tail _ (.tail _ (.head _))) hNs hm3 ?_ (by rfl) (by rfl)
        repeat' (first
          | ((fail_if_success (with_reducible show wpAny _ _ (subscriptTail _ _ _ _) _ _ _)); first
              | ((with_reducible refine wpAny_execs_nil ?_); (try dsimp only))
              | (with_reducible refine wpAny_If ?_)
              | ((with_reducible show ite (_ = true) _ _); (fail_if_success (with_reducible show ite (((_ : Bool) == _) = true) _ _)); first | refine PySem.W.ite_neg (Bool.eq_false_iff.mp rfl) ?_ | refine PySem.W.ite_pos rfl ?_)
              | (k_unfold; (try dsimp only)) | (k_end; wrow_close) | walk1 | (dsimp only; walk1) | (leave1; walk_say "STEP leave1"; try dsimp only) | fail "no step"))
        (rename News _ _ _ _ => lN')
        (try dsimp only)
        refine item_str (f := wd) hW (News.isList lN' (.tail _ (.tail _ (.tail _ (.tail _ (.tail _ (.tail _ (.tail _ (.tail _ (.tail _ mlW)))))))))) (by omega) hi3 (by omega) (fun ta => ?_)
        repeat' (first
          | ((fail_if_success (with_reducible show wpAny _ _ (eval (Expr.Name _ _) (compEnvC _ _ _ _)) _ _ _)); first
              | ((with_reducible refine wpAny_execs_nil ?_); (try dsimp only))
              | (with_reducible refine wpAny_If ?_)
              | ((with_reducible show ite (_ = true) _ _); (fail_if_success (with_reducible show ite (((_ : Bool) == _) = true) _ _)); first | refine PySem.W.ite_neg (Bool.eq_false_iff.mp rfl) ?_ | refine PySem.W.ite_pos rfl ?_)
              | (k_unfold; (try dsimp only)) | (k_end; wrow_close) | walk1 | (dsimp only; walk1) | (leave1; walk_say "STEP leave1"; try dsimp only) | fail "no step"))
        (rename News _ _ _ _ => lN')
        refine lcf_cell lN' (c := L' + 1 + 1 + 1) (o := oL) rfl (.tail _ (.tail _ (.tail _ (.tail _ (.tail _ (.tail _ (.tail _ (.head _)))))))) dL ?_ rfl rfl
        repeat' (first
          | ((fail_if_success (with_reducible show wpAny _ _ (compareOp _ _ _) _ _ _)); first
              | ((with_reducible refine wpAny_execs_nil ?_); (try dsimp only))
              | (with_reducible refine wpAny_If ?_)
              | ((with_reducible show ite (_ = true) _ _); (fail_if_success (with_reducible show ite (((_ : Bool) == _) = true) _ _)); first | refine PySem.W.ite_neg (Bool.eq_false_iff.mp rfl) ?_ | refine PySem.W.ite_pos rfl ?_)
              | (k_unfold; (try dsimp only)) | (k_end; wrow_close) | walk1 | (dsimp only; walk1) | (leave1; walk_say "STEP leave1"; try dsimp only) | fail "no step"))
        (rename News _ _ _ _ => lN')
        have hrs : rs[i3] < 256 := h256 _ (List.getElem_mem _)
        have hleft : ∀ a ∈ left, a < 256 := fun a ha => h256 a (hsub a ha)
        have hn256 : n < 256 := hleft n (List.mem_of_getElem? hn)
        refine dat_in lN' (.tail _ (.tail _ (.tail _ (.tail _ (.tail _ (.tail _ (.tail _ (.tail _ (.tail _ hll))))))))) (strs_dat hlv) (.str _ _) (part_ok hleft) (wd_ok hrs) (by ktr_units) (c := left.contains rs[i3]) (mem_wd hleft hrs) ?_
        cases hc1 : left.contains rs[i3] with
        | false =>
          repeat' (first
            | ((with_reducible refine wpAny_execs_nil ?_); (try dsimp only))
            | (with_reducible refine wpAny_If ?_)
            | ((with_reducible show ite (_ = true) _ _); (fail_if_success (with_reducible show ite (((_ : Bool) == _) = true) _ _)); first | refine PySem.W.ite_neg (Bool.eq_false_iff.mp rfl) ?_ | refine PySem.W.ite_pos rfl ?_)
            | (k_unfold; (try dsimp only)) | (k_end; wrow_close) | walk1 | (dsimp only; walk1) | (leave1; walk_say "STEP leave1"; try dsimp only) | fail "no step")
          (rename News _ _ _ _ => lN'); (rename Fr _ _ _ _ => lF')
          refine ⟨_, lF', lN', sp3, rfl, ⟨_, _, rfl⟩, zs, hzs, ?_⟩
          rw [filter_take hi3, hzl]
          simp only [hc1, Bool.false_and, Bool.and_false, Bool.true_and, Bool.and_true, Bool.false_eq_true, if_false, if_true, Nat.add_zero, List.length_cons, List.length_nil, Nat.zero_add]
        | true =>
          repeat' (first
            | ((fail_if_success (with_reducible show wpAny _ _ (eval (Expr.Name _ _) (compEnvC _ _ _ _)) _ _ _)); first
                | ((with_reducible refine wpAny_execs_nil ?_); (try dsimp only))
                | (with_reducible refine wpAny_If ?_)
                | ((with_reducible show ite (_ = true) _ _); (fail_if_success (with_reducible show ite (((_ : Bool) == _) = true) _ _)); first | refine PySem.W.ite_neg (Bool.eq_false_iff.mp rfl) ?_ | refine PySem.W.ite_pos rfl ?_)
                | (k_unfold; (try dsimp only)) | (k_end; wrow_close) | walk1 | (dsimp only; walk1) | (leave1; walk_say "STEP leave1"; try dsimp only) | fail "no step"))
          (rename News _ _ _ _ => lN')
          refine lcf_cell lN' (c := L' + 1) (o := oW) rfl (.tail _ (.tail _ (.tail _ (.tail _ (.tail _ (.tail _ (.tail _ (.tail _ (.tail _ mW))))))))) dW ?_ rfl rfl
          repeat' (first
            | ((fail_if_success (with_reducible show wpAny _ _ (eval (Expr.Name _ _) (compEnvC _ _ _ _)) _ _ _)); first
                | ((with_reducible refine wpAny_execs_nil ?_); (try dsimp only))
                | (with_reducible refine wpAny_If ?_)
                | ((with_reducible show ite (_ = true) _ _); (fail_if_success (with_reducible show ite (((_ : Bool) == _) = true) _ _)); first | refine PySem.W.ite_neg (Bool.eq_false_iff.mp rfl) ?_ | refine PySem.W.ite_pos rfl ?_)
                | (k_unfold; (try dsimp only)) | (k_end; wrow_close) | walk1 | (dsimp only; walk1) | (leave1; walk_say "STEP leave1"; try dsimp only) | fail "no step"))
          (rename News _ _ _ _ => lN')
          refine LCgL.ld_own lN' (.tail _ (.tail _ (.head _))) hNs hm3 ?_ (by rfl) (by rfl)
          repeat' (first
            | ((fail_if_success (with_reducible show wpAny _ _ (subscriptTail _ _ _ _) _ _ _)); first
                | ((with_reducible refine wpAny_execs_nil ?_); (try dsimp only))
                | (with_reducible refine wpAny_If ?_)
                | ((with_reducible show ite (_ = true) _ _); (fail_if_success (with_reducible show ite (((_ : Bool) == _) = true) _ _)); first | refine PySem.W.ite_neg (Bool.eq_false_iff.mp rfl) ?_ | refine PySem.W.ite_pos rfl ?_)
                | (k_unfold; (try dsimp only)) | (k_end; wrow_close) | walk1 | (dsimp only; walk1) | (leave1; walk_say "STEP leave1"; try dsimp only) | fail "no step"))
          (rename News _ _ _ _ => lN')
          (try dsimp only)
          refine item_str (f := wd) hW (News.isList lN' (.tail _ (.tail _ (.tail _ (.tail _ (.tail _ (.tail _ (.tail _ (.tail _ (.tail _ mlW)))))))))) (by omega) hi3 (by omega) (fun tb => ?_)
          repeat' (first
            | ((fail_if_success (with_reducible show wpAny _ _ (eval (Expr.Name _ _) (compEnvC _ _ _ _)) _ _ _)); first
                | ((with_reducible refine wpAny_execs_nil ?_); (try dsimp only))
                | (with_reducible refine wpAny_If ?_)
                | ((with_reducible show ite (_ = true) _ _); (fail_if_success (with_reducible show ite (((_ : Bool) == _) = true) _ _)); first | refine PySem.W.ite_neg (Bool.eq_false_iff.mp rfl) ?_ | refine PySem.W.ite_pos rfl ?_)
                | (k_unfold; (try dsimp only)) | (k_end; wrow_close) | walk1 | (dsimp only; walk1) | (leave1; walk_say "STEP leave1"; try dsimp only) | fail "no step"))
          (rename News _ _ _ _ => lN')
          refine lcf_cell lN' (c := L' + 1 + 1 + 1 + 1) (o := oO2) rfl (.tail _ (.tail _ (.tail _ (.tail _ (.head _))))) dO2 ?_ rfl rfl
          repeat' (first
            | ((fail_if_success (with_reducible show wpAny _ _ (compareOp _ _ _) _ _ _)); first
                | ((with_reducible refine wpAny_execs_nil ?_); (try dsimp only))
                | (with_reducible refine wpAny_If ?_)
                | ((with_reducible show ite (_ = true) _ _); (fail_if_success (with_reducible show ite (((_ : Bool) == _) = true) _ _)); first | refine PySem.W.ite_neg (Bool.eq_false_iff.mp rfl) ?_ | refine PySem.W.ite_pos rfl ?_)
                | (k_unfold; (try dsimp only)) | (k_end; wrow_close) | walk1 | (dsimp only; walk1) | (leave1; walk_say "STEP leave1"; try dsimp only) | fail "no step"))
          (try dsimp only)
          refine ne_wd hrs hn256 (c := rs[i3] != n) rfl ?_
          cases hc2 : rs[i3] != n with
          | false =>
            repeat' (first
              | ((with_reducible refine wpAny_execs_nil ?_); (try dsimp only))
              | (with_reducible refine wpAny_If ?_)
              | ((with_reducible show ite (_ = true) _ _); (fail_if_success (with_reducible show ite (((_ : Bool) == _) = true) _ _)); first | refine PySem.W.ite_neg (Bool.eq_false_iff.mp rfl) ?_ | refine PySem.W.ite_pos rfl ?_)
              | (k_unfold; (try dsimp only)) | (k_end; wrow_close) | walk1 | (dsimp only; walk1) | (leave1; walk_say "STEP leave1"; try dsimp only) | fail "no step")
            (rename News _ _ _ _ => lN'); (rename Fr _ _ _ _ => lF')
            refine ⟨_, lF', lN', sp3, rfl, ⟨_, _, rfl⟩, zs, hzs, ?_⟩
            rw [filter_take hi3, hzl]
            simp only [hc1, hc2, Bool.false_and, Bool.and_false, Bool.true_and, Bool.and_true, Bool.false_eq_true, if_false, if_true, Nat.add_zero, List.length_cons, List.length_nil, Nat.zero_add]
          | true =>
            repeat' (first
              | ((fail_if_success (with_reducible show wpAny _ _ (eval (Expr.Name _ _) (compEnvC _ _ _ _)) _ _ _)); first
                  | ((with_reducible refine wpAny_execs_nil ?_); (try dsimp only))
                  | (with_reducible refine wpAny_If ?_)
                  | ((with_reducible show ite (_ = true) _ _); (fail_if_success (with_reducible show ite (((_ : Bool) == _) = true) _ _)); first | refine PySem.W.ite_neg (Bool.eq_false_iff.mp rfl) ?_ | refine PySem.W.ite_pos rfl ?_)
                  | (k_unfold; (try dsimp only)) | (k_end; wrow_close) | walk1 | (dsimp only; walk1) | (leave1; walk_say "STEP leave1"; try dsimp only) | fail "no step"))
            (rename Fr _ _ _ _ => lF')
            refine LCgL.ld_global lF' X₁ T₁ (v := .ref 116) (by with_unfolding_all rfl) ?_ (by rfl) (by rfl) (by rfl)
            repeat' (first
              | ((fail_if_success (with_reducible show wpAny _ _ (eval (Expr.Name _ _) (compEnvC _ _ _ _)) _ _ _)); first
                  | ((with_reducible refine wpAny_execs_nil ?_); (try dsimp only))
                  | (with_reducible refine wpAny_If ?_)
                  | ((with_reducible show ite (_ = true) _ _); (fail_if_success (with_reducible show ite (((_ : Bool) == _) = true) _ _)); first | refine PySem.W.ite_neg (Bool.eq_false_iff.mp rfl) ?_ | refine PySem.W.ite_pos rfl ?_)
                  | (k_unfold; (try dsimp only)) | (k_end; wrow_close) | walk1 | (dsimp only; walk1) | (leave1; walk_say "STEP leave1"; try dsimp only) | fail "no step"))
            (rename News _ _ _ _ => lN')
            refine lcf_cell lN' (c := L' + 1 + 1) (o := oT) rfl (.tail _ (.tail _ (.tail _ (.tail _ (.tail _ (.tail _ (.tail _ (.tail _ (.tail _ mT))))))))) dT ?_ rfl rfl
            repeat' (first
              | ((fail_if_success (with_reducible show wpAny _ _ (eval (Expr.Name _ _) (compEnvC _ _ _ _)) _ _ _)); first
                  | ((with_reducible refine wpAny_execs_nil ?_); (try dsimp only))
                  | (with_reducible refine wpAny_If ?_)
                  | ((with_reducible show ite (_ = true) _ _); (fail_if_success (with_reducible show ite (((_ : Bool) == _) = true) _ _)); first | refine PySem.W.ite_neg (Bool.eq_false_iff.mp rfl) ?_ | refine PySem.W.ite_pos rfl ?_)
                  | (k_unfold; (try dsimp only)) | (k_end; wrow_close) | walk1 | (dsimp only; walk1) | (leave1; walk_say "STEP leave1"; try dsimp only) | fail "no step"))
            (rename News _ _ _ _ => lN')
            refine LCgL.ld_own lN' (.tail _ (.tail _ (.head _))) hNs hm3 ?_ (by rfl) (by rfl)
            repeat' (first
              | ((fail_if_success (with_reducible show wpAny _ _ (subscriptTail _ _ _ _) _ _ _)); first
                  | ((with_reducible refine wpAny_execs_nil ?_); (try dsimp only))
                  | (with_reducible refine wpAny_If ?_)
                  | ((with_reducible show ite (_ = true) _ _); (fail_if_success (with_reducible show ite (((_ : Bool) == _) = true) _ _)); first | refine PySem.W.ite_neg (Bool.eq_false_iff.mp rfl) ?_ | refine PySem.W.ite_pos rfl ?_)
                  | (k_unfold; (try dsimp only)) | (k_end; wrow_close) | walk1 | (dsimp only; walk1) | (leave1; walk_say "STEP leave1"; try dsimp only) | fail "no step"))
            (rename News _ _ _ _ => lN')
            (try dsimp only)
            refine item_str (f := fun n => textXZ (n / 16) (n % 16 + 1)) hT (News.isList lN' (.tail _ (.tail _ (.tail _ (.tail _ (.tail _ (.tail _ (.tail _ (.tail _ (.tail _ mlT)))))))))) (by omega) hi3 (by omega) (fun tc => ?_)
            repeat' (first
              | ((fail_if_success (with_reducible show wpAny _ _ (eval (Expr.Name _ _) (compEnvC _ _ _ _)) _ _ _)); first
                  | ((with_reducible refine wpAny_execs_nil ?_); (try dsimp only))
                  | (with_reducible refine wpAny_If ?_)
                  | ((with_reducible show ite (_ = true) _ _); (fail_if_success (with_reducible show ite (((_ : Bool) == _) = true) _ _)); first | refine PySem.W.ite_neg (Bool.eq_false_iff.mp rfl) ?_ | refine PySem.W.ite_pos rfl ?_)
                  | (k_unfold; (try dsimp only)) | (k_end; wrow_close) | walk1 | (dsimp only; walk1) | (leave1; walk_say "STEP leave1"; try dsimp only) | fail "no step"))
            (rename News _ _ _ _ => lN')
            refine lcf_cell lN' (c := L' + 1 + 1 + 1 + 1) (o := oO2) rfl (.tail _ (.tail _ (.tail _ (.tail _ (.head _))))) dO2 ?_ rfl rfl
            repeat' (first
              | ((fail_if_success (with_reducible show wpAny _ _ (call (.ref _) _) _ _ _)); first
                  | ((with_reducible refine wpAny_execs_nil ?_); (try dsimp only))
                  | (with_reducible refine wpAny_If ?_)
                  | ((with_reducible show ite (_ = true) _ _); (fail_if_success (with_reducible show ite (((_ : Bool) == _) = true) _ _)); first | refine PySem.W.ite_neg (Bool.eq_false_iff.mp rfl) ?_ | refine PySem.W.ite_pos rfl ?_)
                  | (k_unfold; (try dsimp only)) | (k_end; wrow_close) | walk1 | (dsimp only; walk1) | (leave1; walk_say "STEP leave1"; try dsimp only) | fail "no step"))
            (rename News _ _ _ _ => lN'); (rename Fr _ _ _ _ => lF')
            refine' (takes_spc w rs[i3] n tc tn hrs hn256).use ?k1 ?k2 ?k3 ?k4 ?k5 ?k6 ?kP ?k7 ?k8 ?_
            case k1 => exact B₁
            case k2 => exact lF'
            case k3 => exact X₁
            case k4 => exact lN'
            case k5 => exact T₁
            case k6 => exact rfl
            case kP => exact trivial
            case k7 => ktr_room
            case k8 => ktr_units
            rintro _ h5 tk5 nw5 F5 N5 ⟨rfl, rfl⟩
            cases hc3 : le2 n rs[i3] with
            | false =>
              repeat' (first
                | ((with_reducible refine wpAny_execs_nil ?_); (try dsimp only))
                | (with_reducible refine wpAny_If ?_)
                | ((with_reducible show ite (_ = true) _ _); (fail_if_success (with_reducible show ite (((_ : Bool) == _) = true) _ _)); first | refine PySem.W.ite_neg (Bool.eq_false_iff.mp rfl) ?_ | refine PySem.W.ite_pos rfl ?_)
                | (k_unfold; (try dsimp only)) | (k_end; wrow_close) | walk1 | (dsimp only; walk1) | (leave1; walk_say "STEP leave1"; try dsimp only) | fail "no step")
              (rename News _ _ _ _ => lN'); (rename Fr _ _ _ _ => lF')
              refine ⟨_, lF', lN', sp3, rfl, ⟨_, _, rfl⟩, zs, hzs, ?_⟩
              rw [filter_take hi3, hzl]
              simp only [hc1, hc2, hc3, Bool.false_and, Bool.and_false, Bool.true_and, Bool.and_true, Bool.false_eq_true, if_false, if_true, Nat.add_zero, List.length_cons, List.length_nil, Nat.zero_add]
            | true =>
              repeat' (first
                | ((fail_if_success (with_reducible show wpAny _ _ (eval (Expr.Name _ _) (compEnvC _ _ _ _)) _ _ _)); first
                    | ((with_reducible refine wpAny_execs_nil ?_); (try dsimp only))
                    | (with_reducible refine wpAny_If ?_)
                    | ((with_reducible show ite (_ = true) _ _); (fail_if_success (with_reducible show ite (((_ : Bool) == _) = true) _ _)); first | refine PySem.W.ite_neg (Bool.eq_false_iff.mp rfl) ?_ | refine PySem.W.ite_pos rfl ?_)
                    | (k_unfold; (try dsimp only)) | (k_end; wrow_close) | walk1 | (dsimp only; walk1) | (leave1; walk_say "STEP leave1"; try dsimp only) | fail "no step"))
              (rename News _ _ _ _ => lN')
              refine LCgL.ld_own lN' (.tail _ (.tail _ (.head _))) hNs hm3 ?_ (by rfl) (by rfl)
              (try dsimp only)
              (rename News _ _ _ _ => lN'); (rename Fr _ _ _ _ => lF')
              refine ⟨_, lF', lN', sp3, rfl, ⟨_, _, rfl⟩, zs ++ [(0 + (i3 : Int))], IntsAre.append hzs (.cons _ _ .nil), ?_⟩
              rw [filter_take hi3, List.length_append, hzl]
              simp only [hc1, hc2, hc3, Bool.false_and, Bool.and_false, Bool.true_and, Bool.and_true, Bool.false_eq_true, if_false, if_true, Nat.add_zero, List.length_cons, List.length_nil, Nat.zero_add]
end Mine
end
section
open PySem PySem.W PyProof.Rows PySem.Calls PySem.Spec
set_option linter.unusedVariables false
namespace Mine
set_option maxRecDepth 100000
set_option maxHeartbeats 8000000

theorem ints_rev {vs : List Value} {xs : List Int} (h : IntsAre vs xs) : IntsAre vs.reverse xs.reverse := by
  induction h with
  | nil => exact .nil
  | cons a u _ ih => rw [List.reverse_cons, List.reverse_cons]; exact IntsAre.append ih (.cons _ _ .nil)
theorem ints_rget {vs : List Value} {rs : List Nat} {i : Nat} {v : Value} (h : IntsAre vs (rs.map fun a : Nat => (a : Int))) (e : vs.reverse.toArray[i]? = some v) : ∃ n t, rs.reverse[i]? = some n ∧ v = .int (n : Int) t := by
  have e' : vs.reverse[i]? = some v := by simpa using e
  obtain ⟨z, t, rfl, hz⟩ := IntsAre.at (ints_rev h) i v e'
  rw [← List.map_reverse, List.getElem?_map] at hz
  obtain ⟨n, hn, rfl⟩ := Option.map_eq_some_iff.mp hz
  exact ⟨n, t, hn, rfl⟩
theorem drop_rev {rs : List Nat} {i n : Nat} (h : rs.reverse[i]? = some n) : rs.drop (rs.length - (i + 1)) = n :: rs.drop (rs.length - i) := by
  obtain ⟨hi, e⟩ := List.getElem?_eq_some_iff.mp h
  rw [List.length_reverse] at hi
  rw [List.getElem_reverse] at e
  have hk : rs.length - (i + 1) < rs.length := by omega
  rw [List.drop_eq_getElem_cons hk]
  congr 1
  · rw [← e]; congr 1; omega
  · congr 1; omega
theorem levs_len (rs : List Nat) : (levs rs).length = rs.length := by
  rw [← List.length_map (f := (·.1)), levs_fst]
theorem filter_snocP {l : List (Nat × Nat)} {i : Nat} {p : Nat × Nat} (h : l[i]? = some p) {c : Nat × Nat → Bool} : (l.take (i + 1)).filter c = (l.take i).filter c ++ if c p = true then [p] else [] := by
  obtain ⟨hi, e⟩ := List.getElem?_eq_some_iff.mp h
  have : l.take (i + 1) = l.take i ++ [l[i]] := by rw [List.take_succ, List.getElem?_eq_getElem hi]; rfl
  rw [this, List.filter_append, e]
  congr 1
  cases h : c p <;> simp [h]
theorem le22 {R : List Nat} {i num : Nat} (h : R.length ≤ 11) : [(0 : Int)].length + (((levs R).reverse.take i).filter fun p => le2 num p.1).length ≤ 22 := by
  have h1 := List.length_filter_le (fun p : Nat × Nat => le2 num p.1) ((levs R).reverse.take i)
  rw [List.length_take, List.length_reverse, levs_len] at h1
  simp only [List.length_cons, List.length_nil]
  omega
theorem max_is {R : List Nat} {num k : Nat} {M : Int} (hk : k = (levs R).reverse.length) (h : M ∈ [(0 : Int)] ++ (((levs R).reverse.take k).filter fun p => le2 num p.1).map fun p : Nat × Nat => (p.2 : Int)) (hle : ∀ a, a ∈ [(0 : Int)] ++ (((levs R).reverse.take k).filter fun p => le2 num p.1).map (fun p : Nat × Nat => (p.2 : Int)) → a ≤ M) :
    M = ((maxl (overF num (levs R)) : Nat) : Int) := by
  rw [hk, List.take_length] at h hle
  have key : ∀ z : Int, z ∈ ((levs R).reverse.filter fun p => le2 num p.1).map (fun p : Nat × Nat => (p.2 : Int)) ↔ ∃ a ∈ overF num (levs R), (a : Int) = z := fun z => by
    unfold overF
    simp only [List.mem_map, List.mem_filter, List.mem_reverse]
    constructor
    · rintro ⟨p, hp, rfl⟩; exact ⟨p.2, ⟨p, hp, rfl⟩, rfl⟩
    · rintro ⟨a, ⟨p, hp, rfl⟩, rfl⟩; exact ⟨p, hp, rfl⟩
  have h0 := hle 0 (by simp)
  have hmax : ((maxl (overF num (levs R)) : Nat) : Int) ≤ M := by
    rcases maxl_mem (l := overF num (levs R)) with e | e
    · rw [e]; exact h0
    · exact hle _ (List.mem_append_right _ ((key _).mpr ⟨_, e, rfl⟩))
  have hmin : M ≤ ((maxl (overF num (levs R)) : Nat) : Int) := by
    rcases List.mem_append.mp h with h | h
    · rw [List.mem_singleton.mp h]; exact Int.natCast_nonneg _
    · obtain ⟨a, ha, rfl⟩ := (key _).mp h
      exact Int.ofNat_le.mpr (le_maxl ha)
  exact Int.le_antisymm hmin hmax
theorem levs_cons (n : Nat) (r : List Nat) : levs (n :: r) = (n, 1 + maxl (overF n (levs r))) :: levs r := by
  conv => lhs; unfold levs
theorem levels_spc (w : World) (rs : List Nat) (l : Addr) (vs : List Value) (n : Nat) (hi : IntsAre vs (rs.map fun a : Nat => (a : Int))) (h256 : ∀ a ∈ rs, a < 256) (hlen : rs.length ≤ 11) :
    Spc w 3 140 [.ref l] (fun nw => (l, listOf vs.toArray n) ∈ nw) (fun nw v nw' => DatIn nw' v (.list ((levs rs).map pairD)) ∧ ∀ p ∈ nw, p ∈ nw') := by
  unfold Spc
  k_fill
  intro p loose mean mg mb dp un gd cn cs a ccd cl outer A₀ base h₀ L m news s Q E B F X N Tp hk hP hd hu hret
  refine wpAny_call ?_
  k_dflt (refine' code_defC ?k1 ?k2 ?k3 ?k4 ?k5 ?kA ?kF ?kK ?k6 ?k7 ?k8 ?k9 ?kB ?kD ?_ ?c2 ?c3 ?c4; (case kA => exact rfl); (case kF => exact rfl); (case kK => assumption); (case k1 => exact B); (case k2 => exact F); (case k3 => exact X); (case k4 => exact N); (case k5 => exact Tp); (case k6 => k_is); (case k7 => k_is); (case k8 => ktr_room); (case k9 => exact BindsTo.of_eq rfl); (case kB => exact rfl); (case kD => decide +kernel); (case c2 => exact rfl); (case c3 => exact rfl); (case c4 => exact rfl); k_whole; intro g' L' h' tk' cells' FG' F' N' Y' B' X' T' lt0; (try dsimp only); (try k_fold))
  have hY := CellsAre.one Y'
  obtain ⟨oN, hE', dN⟩ := hY
  subst hE'
  clear Y'
  replace dN : oN.data = .cell none := dN
  simp only [List.cons_append, List.nil_append] at N'
  repeat' (first
    | ((fail_if_success (with_reducible show wpAny _ _ (exec (Stmt.For _ _ _ _ _) _) _ _ _)); first
        | ((with_reducible show wpAny _ _ (newList _) _ _ _); refine' newList_K ?F ?N ?_; (case F => assumption); (case N => assumption); intro r8 hr F8 N8 or; (try k_lt or); (try k_sweep))
        | ((with_reducible refine wpAny_execs_nil ?_); (try dsimp only))
        | (with_reducible refine wpAny_If ?_)
        | ((with_reducible show ite (_ = true) _ _); (fail_if_success (with_reducible show ite (((_ : Bool) == _) = true) _ _)); first | refine PySem.W.ite_neg (Bool.eq_false_iff.mp rfl) ?_ | refine PySem.W.ite_pos rfl ?_)
        | (k_unfold; (try dsimp only)) | (k_end; wrow_close) | walk1 | (dsimp only; walk1) | (leave1; walk_say "STEP leave1"; try dsimp only) | fail "no step"))
  obtain ⟨o1, o2⟩ := or
  have lr : ∀ p ∈ news, p.1 < r8 := allLt_all o2
  refine wpAny_For ?_
  repeat' (first
    | ((fail_if_success (with_reducible show wpAny _ _ (subscriptTail _ _ _ _) _ _ _)); first
        | ((with_reducible refine wpAny_execs_nil ?_); (try dsimp only))
        | (with_reducible refine wpAny_If ?_)
        | ((with_reducible show ite (_ = true) _ _); (fail_if_success (with_reducible show ite (((_ : Bool) == _) = true) _ _)); first | refine PySem.W.ite_neg (Bool.eq_false_iff.mp rfl) ?_ | refine PySem.W.ite_pos rfl ?_)
        | (k_unfold; (try dsimp only)) | (k_end; wrow_close) | walk1 | (dsimp only; walk1) | (leave1; walk_say "STEP leave1"; try dsimp only) | fail "no step"))
  (try dsimp only)
  (rename News _ _ _ _ => lN'); (rename Fr _ _ _ _ => lF')
  refine krv_lit (s := { s with heap := _, toks := _ }) lF' lN' (News.isList lN' (.tail _ (.tail _ hP))) (.int _ _) rfl ?_ (by with_unfolding_all rfl) (by intro _; with_unfolding_all rfl) (Nat.le_trans (show _ ≤ 11 from by rw [List.size_toArray, IntsAre.length hi, List.length_map]; exact hlen) (by decide))
  intro D9 h9 F9 N9 l9
  have N1 : News g' L' h9 ((L' + 1, oN) :: (r8, listOf #[] 0) :: (D9, listOf vs.reverse.toArray 0) :: news) := news_of N9 (fun p hp => by simp only [List.mem_cons] at hp ⊢; rcases hp with h | h | h | h <;> simp [h])
  have lD : r8 < D9 := l9 _ (.head _)
  refine for_list_c (L := L') (its := vs.reverse.toArray) (fun i g m nx => g = g' ∧ ∃ lv nl tail, nx = (r8, listOf (List.toArray lv) nl) :: tail ∧ (∀ p ∈ tail, p.1 ≠ r8) ∧ (∀ p ∈ (D9, listOf vs.reverse.toArray 0) :: news, p ∈ tail) ∧ DatAll tail lv ((levs (rs.drop (rs.length - i))).reverse.map pairD) ∧ Pins m [(Str.ofString "levels", Value.ref r8)]) rfl rfl rfl rfl (by passes_own) F9 dN N1 ?offc ?hl ?hj ?turn ?done
  case offc =>
    intro p hp; rcases List.mem_cons.mp hp with rfl | hp
    · exact Nat.ne_of_gt o1
    rcases List.mem_cons.mp hp with rfl | hp
    · exact Nat.ne_of_gt (Nat.lt_trans o1 lD)
    · exact Nat.ne_of_lt (Nat.lt_succ_of_lt (lt0 p hp))
  case hl => rintro i g m nx h ⟨rfl, lv, nl, tail, rfl, _, hb, _⟩ F N; exact News.isList N (.tail _ (hb _ (.head _)))
  case hj =>
    refine ⟨rfl, [], 0, _, rfl, ?_, fun p hp => hp, ?_, pin_cons rfl (pin_nil)⟩
    · intro p hp; rcases List.mem_cons.mp hp with rfl | hp
      · exact Nat.ne_of_gt lD
      · exact Nat.ne_of_lt (lr p hp)
    · rw [Nat.sub_zero, List.drop_length]; exact .nil
  case done =>
    rintro g m nx h tk oc u ⟨rfl, lv, nl, tail, rfl, ofr, hb, hlv, hps⟩ dO F₁ N₁ off
    replace F₁ := fr_pin hps F₁
    clear hps
    have esz : rs.length - vs.reverse.toArray.size = 0 := by rw [List.size_toArray, List.length_reverse, IntsAre.length hi, List.length_map]; omega
    rw [esz, List.drop_zero] at hlv
    repeat' (first
      | ((fail_if_success (with_reducible show wpAny _ _ (subscriptTail _ _ _ _) _ _ _)); first
          | ((with_reducible refine wpAny_execs_nil ?_); (try dsimp only))
          | (with_reducible refine wpAny_If ?_)
          | ((with_reducible show ite (_ = true) _ _); (fail_if_success (with_reducible show ite (((_ : Bool) == _) = true) _ _)); first | refine PySem.W.ite_neg (Bool.eq_false_iff.mp rfl) ?_ | refine PySem.W.ite_pos rfl ?_)
          | (k_unfold; (try dsimp only)) | (k_end; wrow_close) | walk1 | (dsimp only; walk1) | (leave1; walk_say "STEP leave1"; try dsimp only) | fail "no step"))
    (try dsimp only)
    (rename News _ _ _ _ => lN'); (rename Fr _ _ _ _ => lF')
    refine krv_lit (s := { s with heap := _, toks := _ }) lF' lN' (News.isList lN' (.tail _ (.head _))) (.int _ _) rfl ?_ (by with_unfolding_all rfl) (by intro _; with_unfolding_all rfl) (Nat.le_trans (show _ ≤ 11 from by rw [List.size_toArray, dat_len hlv, List.length_map, List.length_reverse, levs_len]; exact hlen) (by decide))
    intro D6 h6 F6 N6 l6
    repeat' (first
      | ((with_reducible refine wpAny_execs_nil ?_); (try dsimp only))
      | (with_reducible refine wpAny_If ?_)
      | ((with_reducible show ite (_ = true) _ _); (fail_if_success (with_reducible show ite (((_ : Bool) == _) = true) _ _)); first | refine PySem.W.ite_neg (Bool.eq_false_iff.mp rfl) ?_ | refine PySem.W.ite_pos rfl ?_)
      | (k_unfold; (try dsimp only)) | (k_end; wrow_close) | walk1 | (dsimp only; walk1) | (leave1; walk_say "STEP leave1"; try dsimp only) | fail "no step")
    (rename News _ _ _ _ => lN'); (rename Fr _ _ _ _ => lF')
    have hr := dat_rev hlv
    rw [← List.map_reverse, List.reverse_reverse] at hr
    exact hret _ _ _ _ lF' lN' ⟨.list (vs := lv.reverse) (.head _) (hr.mono fun p hp => .tail _ (.tail _ (.tail _ hp))), fun p hp => .tail _ (.tail _ (.tail _ (hb p (.tail _ hp))))⟩
  case turn =>
    rintro I oI oN2 i v g h tk m₁ nx hI hv ⟨rfl, lv, nl, tail, rfl, ofr, hb, hlv, hps⟩ dN2 F₁ N₁ off
    replace F₁ := fr_pin hps F₁
    clear hps
    obtain ⟨num, tn, hn, rfl⟩ := ints_rget hi hv
    have hR : rs.drop (rs.length - (i + 1)) = num :: rs.drop (rs.length - i) := drop_rev hn
    generalize hR0 : rs.drop (rs.length - i) = R at hlv hR
    have hRm : ∀ a ∈ R, a ∈ rs := fun a ha => List.mem_of_mem_drop (hR0 ▸ ha)
    have hRl : R.length ≤ 11 := by rw [← hR0, List.length_drop]; omega
    have hnum : num < 256 := h256 num (List.mem_reverse.mp (List.mem_of_getElem? hn))
    repeat' (first
      | ((fail_if_success (with_reducible show wpAny _ _ (exec (Stmt.Assign _ (Expr.ListComp _ _ _ _) _) _) _ _ _)); first
          | ((with_reducible refine wpAny_execs_nil ?_); (try dsimp only))
          | (with_reducible refine wpAny_If ?_)
          | ((with_reducible show ite (_ = true) _ _); (fail_if_success (with_reducible show ite (((_ : Bool) == _) = true) _ _)); first | refine PySem.W.ite_neg (Bool.eq_false_iff.mp rfl) ?_ | refine PySem.W.ite_pos rfl ?_)
          | (k_unfold; (try dsimp only)) | (k_end; wrow_close) | walk1 | (dsimp only; walk1) | (leave1; walk_say "STEP leave1"; try dsimp only) | fail "no step"))
    refine used_list (cl := _) (by rfl) (by with_unfolding_all rfl) (by rfl) (by decide) ?_
    repeat' (first
      | ((fail_if_success (with_reducible show wpAny _ _ (pyIter _) _ _ _)); first
          | ((with_reducible refine wpAny_execs_nil ?_); (try dsimp only))
          | (with_reducible refine wpAny_If ?_)
          | ((with_reducible show ite (_ = true) _ _); (fail_if_success (with_reducible show ite (((_ : Bool) == _) = true) _ _)); first | refine PySem.W.ite_neg (Bool.eq_false_iff.mp rfl) ?_ | refine PySem.W.ite_pos rfl ?_)
          | (k_unfold; (try dsimp only)) | (k_end; wrow_close) | walk1 | (dsimp only; walk1) | (leave1; walk_say "STEP leave1"; try dsimp only) | fail "no step"))
    (try dsimp only)
    (rename Fr _ _ _ _ => lF')
    refine iter_list (L := L') (its := lv.toArray) (T := fun i3 v rest => ∃ t a b k, v = .ref t ∧ (fun i3 a b => ∃ p ta tb, (levs R).reverse[i3]? = some p ∧ a = Value.int (p.1 : Int) ta ∧ b = Value.int (p.2 : Int) tb) i3 a b ∧ (t, ({ cls := .type "tuple", data := .seq #[a, b] k } : Obj)) ∈ rest) (fun i3 ys nw s' => nw = (I, oI) :: (L' + 1, oN2) :: (r8, listOf lv.toArray nl) :: tail ∧ (∃ h tk, s' = { s with heap := h, toks := tk }) ∧ IntsAre ys ((((levs R).reverse.take i3).filter fun p => le2 num p.1).map fun p : Nat × Nat => (p.2 : Int))) (fun i3 v m' => ∃ a b, (fun i3 a b => ∃ p ta tb, (levs R).reverse[i3]? = some p ∧ a = Value.int (p.1 : Int) ta ∧ b = Value.int (p.2 : Int) tb) i3 a b ∧ m' (Str.ofString "one") = some a ∧ m' (Str.ofString "level") = some b) rfl (by decide) rfl lF' N₁ ?sz ?hJ3 ?hl3 ?hT3 ?hj3 ?hB3 ?turn3 ?fin3
    case sz => exact Nat.le_trans (show _ ≤ 11 from by rw [List.size_toArray, dat_len hlv, List.length_map, List.length_reverse, levs_len]; exact hRl) (by decide)
    case hJ3 => rintro i3 ys nw s' h3 tk3 ⟨rfl, ⟨h9, tk9, rfl⟩, hz⟩; exact ⟨rfl, ⟨_, _, rfl⟩, hz⟩
    case hl3 => rintro i3 ys nw s' h3 ⟨rfl, _⟩ F N; exact News.isList N (.tail _ (.tail _ (.head _)))
    case hT3 =>
      rintro i3 ys nw s' v rest ⟨rfl, _⟩ hv3 hr
      obtain ⟨p, t9, ta, tb, k9, hp, rfl, hm⟩ := pair_at hlv (show lv[i3]? = some v by simpa using hv3)
      exact ⟨t9, _, _, k9, rfl, ⟨p, ta, tb, hp, rfl, rfl⟩, hr _ (.tail _ (.tail _ (.tail _ hm)))⟩
    case hj3 => exact ⟨rfl, ⟨_, _, rfl⟩, .nil⟩
    case hB3 => exact fun I => bind_pair (ax := r8) (its := lv.toArray) (fun i3 a b => ∃ p ta tb, (levs R).reverse[i3]? = some p ∧ a = Value.int (p.1 : Int) ta ∧ b = Value.int (p.2 : Int) tb) rfl rfl (by rfl) (by rfl) (by decide)
    case fin3 =>
      refine fin_used (env := envOfC _ _ L' 140 (Value.ref 139)) rfl (by rfl) (by rfl) (by rintro i3 ys nw s' h3 tk3 ⟨rfl, ⟨h9, tk9, rfl⟩, hz⟩; exact ⟨rfl, ⟨_, _, rfl⟩, hz⟩) ?_
      rintro D8 ys nw s' ⟨rfl, ⟨h8, tk8, rfl⟩, hzs⟩ F8 N8 off8 lD8
      repeat' (first
        | ((fail_if_success (with_reducible show wpAny _ _ (binaryOp _ _ _) _ _ _)); first
            | ((with_reducible show wpAny _ _ (newList _) _ _ _); refine' newList_K ?F ?N ?_; (case F => assumption); (case N => assumption); intro z8 hz F8 N8 oz; (try k_lt oz); (try k_sweep))
            | ((with_reducible refine wpAny_execs_nil ?_); (try dsimp only))
            | (with_reducible refine wpAny_If ?_)
            | ((with_reducible show ite (_ = true) _ _); (fail_if_success (with_reducible show ite (((_ : Bool) == _) = true) _ _)); first | refine PySem.W.ite_neg (Bool.eq_false_iff.mp rfl) ?_ | refine PySem.W.ite_pos rfl ?_)
            | (k_unfold; (try dsimp only)) | (k_end; wrow_close) | walk1 | (dsimp only; walk1) | (leave1; walk_say "STEP leave1"; try dsimp only) | fail "no step"))
      obtain ⟨z1, z2, z3, z4, z5⟩ := oz
      (rename News _ _ _ _ => lN'); (rename Fr _ _ _ _ => lF')
      refine add_arrays_ints (s := { s with heap := _, toks := _ }) lF' lN' (News.isList lN' (.head _)) (News.isList lN' (.tail _ (.head _))) (.cons _ _ .nil) hzs ?_ (Nat.le_trans (show _ ≤ 22 from by rw [List.length_map]; exact le22 hRl) (by decide))
      have lZ : z8 < _ := Heap.lt_size (lN' _ (.head _)).1
      intro h7 F7 N7 hi7
      repeat' (first
        | ((fail_if_success (with_reducible show wpAny _ _ (call (Value.builtin "max") _) _ _ _)); first
            | ((with_reducible refine wpAny_execs_nil ?_); (try dsimp only))
            | (with_reducible refine wpAny_If ?_)
            | ((with_reducible show ite (_ = true) _ _); (fail_if_success (with_reducible show ite (((_ : Bool) == _) = true) _ _)); first | refine PySem.W.ite_neg (Bool.eq_false_iff.mp rfl) ?_ | refine PySem.W.ite_pos rfl ?_)
            | (k_unfold; (try dsimp only)) | (k_end; wrow_close) | walk1 | (dsimp only; walk1) | (leave1; walk_say "STEP leave1"; try dsimp only) | fail "no step"))
      refine kso_max (s := { s with heap := h7, toks := _ }) F7 N7 (News.isList N7 (.head _)) hi7 (by simp) rfl ?_
      intro h6 M tM tk6 F6 N6 hM hMle
      have eM : M = ((maxl (overF num (levs R)) : Nat) : Int) := max_is (by rw [List.size_toArray, dat_len hlv, List.length_map]) hM hMle
      replace N6 : News g L' h6 ((I, oI) :: (L' + 1, oN2) :: (r8, listOf lv.toArray nl) :: tail) := fun p hp => N6 p (.tail _ (.tail _ (.tail _ hp)))
      clear N7 F7 hMle hM lN' lF'
      repeat' (first
        | ((fail_if_success (with_reducible show wpAny _ _ (call (Value.builtin "list.append") _) _ _ _)); first
            | ((with_reducible refine wpAny_execs_nil ?_); (try dsimp only))
            | (with_reducible refine wpAny_If ?_)
            | ((with_reducible show ite (_ = true) _ _); (fail_if_success (with_reducible show ite (((_ : Bool) == _) = true) _ _)); first | refine PySem.W.ite_neg (Bool.eq_false_iff.mp rfl) ?_ | refine PySem.W.ite_pos rfl ?_)
            | (k_unfold; (try dsimp only)) | (k_end; wrow_close) | walk1 | (dsimp only; walk1) | (leave1; walk_say "STEP leave1"; try dsimp only) | fail "no step"))
      rename_i D7 hh7 F7 N7 l7
      obtain ⟨y1, y2, y3, y4⟩ := l7
      have eM1 : 1 + M = ((1 + maxl (overF num (levs R)) : Nat) : Int) := by rw [eM]; omega
      rw [eM1] at N7
      (rename News _ _ _ _ => lN'); (rename Fr _ _ _ _ => lF')
      refine append_in (s := { s with heap := _, toks := _ }) (own := [(D7, _), (I, _), (L' + 1, _)]) lF' lN' (fun p hp => ?_) ofr ?_ (Nat.le_trans (show _ ≤ 11 from by rw [dat_len hlv, List.length_map, List.length_reverse, levs_len]; exact hRl) (by decide))
      · simp only [List.mem_cons, List.not_mem_nil, or_false] at hp; rcases hp with rfl | rfl | rfl
        · exact Nat.ne_of_gt y3
        · exact Ne.symm (off _ (.head _)).1
        · exact Nat.ne_of_lt o1
      intro h5 F5 N5
      simp only [List.cons_append, List.nil_append] at N5
      repeat' (first
        | ((with_reducible refine wpAny_execs_nil ?_); (try dsimp only))
        | (with_reducible refine wpAny_If ?_)
        | ((with_reducible show ite (_ = true) _ _); (fail_if_success (with_reducible show ite (((_ : Bool) == _) = true) _ _)); first | refine PySem.W.ite_neg (Bool.eq_false_iff.mp rfl) ?_ | refine PySem.W.ite_pos rfl ?_)
        | (k_unfold; (try dsimp only)) | (k_end; wrow_close) | walk1 | (dsimp only; walk1) | (leave1; walk_say "STEP leave1"; try dsimp only) | fail "no step")
      (rename Fr _ _ _ _ => lF')
      refine ⟨g, _, _, _, (r8, listOf (lv ++ [Value.ref D7]).toArray (nl + 1)) :: (D7, { cls := .type "tuple", data := .seq #[.int num tn, .int ((1 + maxl (overF num (levs R)) : Nat) : Int) tk6] }) :: tail, oN2, _, rfl, dN2, lF', fun p hp => N5 p ?_, fun p hp => ?_, rfl, lv ++ [.ref D7], nl + 1, (D7, { cls := .type "tuple", data := .seq #[.int num tn, .int ((1 + maxl (overF num (levs R)) : Nat) : Int) tk6] }) :: tail, rfl, fun p hp => ?_, fun p hp => .tail _ (hb p hp), ?_, pin_cons rfl (pin_nil)⟩
      · rcases List.mem_cons.mp hp with rfl | hp
        · exact .tail _ (.head _)
        rcases List.mem_cons.mp hp with rfl | hp
        · exact .tail _ (.tail _ (.head _))
        rcases List.mem_cons.mp hp with rfl | hp
        · exact .tail _ (.tail _ (.tail _ (.head _)))
        rcases List.mem_cons.mp hp with rfl | hp
        · exact .head _
        · exact .tail _ (.tail _ (.tail _ (.tail _ hp)))
      · rcases List.mem_cons.mp hp with rfl | hp
        · exact off (r8, listOf lv.toArray nl) (.head _)
        rcases List.mem_cons.mp hp with rfl | hp
        · exact ⟨Nat.ne_of_gt y1, Nat.ne_of_gt y2⟩
        · exact off p (.tail _ hp)
      · rcases List.mem_cons.mp hp with rfl | hp
        · exact Nat.ne_of_gt y3
        · exact ofr p hp
      · rw [hR, levs_cons, List.reverse_cons, List.map_append]; exact dat_snoc (hlv.mono fun p hp => .tail _ hp) (show DatIn _ (Value.ref D7) (PySem.W.Dat.tuple [.int (num : Int), .int ((1 + maxl (overF num (levs R)) : Nat) : Int)]) from .tuple (vs := [.int num tn, .int ((1 + maxl (overF num (levs R)) : Nat) : Int) tk6]) (.head _) (.cons (.int _ _) (.cons (.int _ _) .nil)))
    case turn3 =>
      rintro I3 C3 D3 i3 v3 ys oC3 m3 nw s' oI3 hv3 ⟨rfl, ⟨h9, tk9, rfl⟩, hzs⟩ hNs ⟨_, _, ⟨p, ta, tb, hp, rfl, rfl⟩, hm3, hm4⟩ F₃ N₃ sp3 lI3 lD3 lC3
      refine tests_one ?_
      repeat' (first
        | ((fail_if_success (with_reducible show wpAny _ _ (eval (Expr.Name _ _) (compEnvC _ _ _ _)) _ _ _)); first
            | ((with_reducible refine wpAny_execs_nil ?_); (try dsimp only))
            | (with_reducible refine wpAny_If ?_)
            | ((with_reducible show ite (_ = true) _ _); (fail_if_success (with_reducible show ite (((_ : Bool) == _) = true) _ _)); first | refine PySem.W.ite_neg (Bool.eq_false_iff.mp rfl) ?_ | refine PySem.W.ite_pos rfl ?_)
            | (k_unfold; (try dsimp only)) | (k_end; wrow_close) | walk1 | (dsimp only; walk1) | (leave1; walk_say "STEP leave1"; try dsimp only) | fail "no step"))
      (rename Fr _ _ _ _ => lF')
      refine LCgL.ld_global lF' X' T' (v := .ref 135) (by with_unfolding_all rfl) ?_ (by rfl) (by rfl) (by rfl)
      repeat' (first
        | ((fail_if_success (with_reducible show wpAny _ _ (eval (Expr.Name _ _) (compEnvC _ _ _ _)) _ _ _)); first
            | ((with_reducible refine wpAny_execs_nil ?_); (try dsimp only))
            | (with_reducible refine wpAny_If ?_)
            | ((with_reducible show ite (_ = true) _ _); (fail_if_success (with_reducible show ite (((_ : Bool) == _) = true) _ _)); first | refine PySem.W.ite_neg (Bool.eq_false_iff.mp rfl) ?_ | refine PySem.W.ite_pos rfl ?_)
            | (k_unfold; (try dsimp only)) | (k_end; wrow_close) | walk1 | (dsimp only; walk1) | (leave1; walk_say "STEP leave1"; try dsimp only) | fail "no step"))
      (rename News _ _ _ _ => lN')
      refine lcf_cell lN' (c := L' + 1) (o := oN2) rfl (.tail _ (.tail _ (.tail _ (.tail _ (.head _))))) dN2 ?_ rfl rfl
      repeat' (first
        | ((fail_if_success (with_reducible show wpAny _ _ (eval (Expr.Name _ _) (compEnvC _ _ _ _)) _ _ _)); first
            | ((with_reducible refine wpAny_execs_nil ?_); (try dsimp only))
            | (with_reducible refine wpAny_If ?_)
            | ((with_reducible show ite (_ = true) _ _); (fail_if_success (with_reducible show ite (((_ : Bool) == _) = true) _ _)); first | refine PySem.W.ite_neg (Bool.eq_false_iff.mp rfl) ?_ | refine PySem.W.ite_pos rfl ?_)
            | (k_unfold; (try dsimp only)) | (k_end; wrow_close) | walk1 | (dsimp only; walk1) | (leave1; walk_say "STEP leave1"; try dsimp only) | fail "no step"))
      (rename News _ _ _ _ => lN')
      refine LCgL.ld_own lN' (.tail _ (.tail _ (.head _))) hNs hm3 ?_ (by rfl) (by rfl)
      repeat' (first
        | ((fail_if_success (with_reducible show wpAny _ _ (call (.ref _) _) _ _ _)); first
            | ((with_reducible refine wpAny_execs_nil ?_); (try dsimp only))
            | (with_reducible refine wpAny_If ?_)
            | ((with_reducible show ite (_ = true) _ _); (fail_if_success (with_reducible show ite (((_ : Bool) == _) = true) _ _)); first | refine PySem.W.ite_neg (Bool.eq_false_iff.mp rfl) ?_ | refine PySem.W.ite_pos rfl ?_)
            | (k_unfold; (try dsimp only)) | (k_end; wrow_close) | walk1 | (dsimp only; walk1) | (leave1; walk_say "STEP leave1"; try dsimp only) | fail "no step"))
      have hp256 : p.1 < 256 := h256 _ (hRm _ (levs_mem (List.mem_reverse.mp (List.mem_of_getElem? hp))))
      (rename News _ _ _ _ => lN'); (rename Fr _ _ _ _ => lF')
      refine' (below_spc w num p.1 tn ta (by omega) (by omega) (by omega) (by omega)).use ?k1b ?k2b ?k3b ?k4b ?k5b ?k6b ?kPb ?k7b ?k8b ?_
      case k1b => exact B'
      case k2b => exact lF'
      case k3b => exact X'
      case k4b => exact lN'
      case k5b => exact T'
      case k6b => exact rfl
      case kPb => exact trivial
      case k7b => ktr_room
      case k8b => ktr_units
      rintro _ h5 tk5 nw5 F5 N5 ⟨rfl, rfl⟩
      rw [below_eq hnum hp256]
      cases hc : le2 num p.1 with
      | false =>
        repeat' (first
          | ((with_reducible refine wpAny_execs_nil ?_); (try dsimp only))
          | (with_reducible refine wpAny_If ?_)
          | ((with_reducible show ite (_ = true) _ _); (fail_if_success (with_reducible show ite (((_ : Bool) == _) = true) _ _)); first | refine PySem.W.ite_neg (Bool.eq_false_iff.mp rfl) ?_ | refine PySem.W.ite_pos rfl ?_)
          | (k_unfold; (try dsimp only)) | (k_end; wrow_close) | walk1 | (dsimp only; walk1) | (leave1; walk_say "STEP leave1"; try dsimp only) | fail "no step")
        (rename News _ _ _ _ => lN'); (rename Fr _ _ _ _ => lF')
        exact ⟨_, lF', lN', sp3, rfl, ⟨_, _, rfl⟩, by rw [filter_snocP hp, hc]; simpa using hzs⟩
      | true =>
        repeat' (first
          | ((fail_if_success (with_reducible show wpAny _ _ (eval (Expr.Name _ _) (compEnvC _ _ _ _)) _ _ _)); first
              | ((with_reducible refine wpAny_execs_nil ?_); (try dsimp only))
              | (with_reducible refine wpAny_If ?_)
              | ((with_reducible show ite (_ = true) _ _); (fail_if_success (with_reducible show ite (((_ : Bool) == _) = true) _ _)); first | refine PySem.W.ite_neg (Bool.eq_false_iff.mp rfl) ?_ | refine PySem.W.ite_pos rfl ?_)
              | (k_unfold; (try dsimp only)) | (k_end; wrow_close) | walk1 | (dsimp only; walk1) | (leave1; walk_say "STEP leave1"; try dsimp only) | fail "no step"))
        (try dsimp only)
        (rename News _ _ _ _ => lN')
        refine LCgL.ld_own lN' (.tail _ (.tail _ (.head _))) hNs hm4 ?_ (by rfl) (by rfl)
        (try dsimp only)
        (rename News _ _ _ _ => lN'); (rename Fr _ _ _ _ => lF')
        exact ⟨_, lF', lN', sp3, rfl, ⟨_, _, rfl⟩, by rw [filter_snocP hp, hc, List.map_append]; exact IntsAre.append hzs (.cons _ _ .nil)⟩
end Mine
end
section
open PySem PySem.W PyProof.Rows PySem.Calls PySem.Spec
set_option linter.unusedVariables false
namespace Mine
set_option maxRecDepth 100000
def notCell (p : Addr × Obj) : Bool := match p.2.data with | .cell _ => false | _ => true
section
variable {M : Model} {A : Around} {E : Value → Shared → Prop} {s : Shared} {h₀ : Heap} {L a : Addr} {m : Str → Option Value} {cn : Str} {cs : Scope} {ccd : Value} {cl : List (Str × Addr)} {x : Str} {v : Value} {c : Addr} {o : Obj} {u : Option Value} {rest rest' : List (Addr × Obj)} {Q : Unit → Shared → Prop}
theorem store_cell' (F : Fr h₀ L s.heap m) (N : News h₀ L s.heap rest) (hm : (c, o) ∈ rest) (hd : o.data = .cell u) (hr : ∀ p ∈ rest', p ∈ rest ∧ (p.1 ≠ c ∨ notCell p = true)) (hc : cl.lookup x = some c)
    (h : ∀ h' o', Fr h₀ L h' m → News h₀ L h' ((c, o') :: rest') → o'.data = .cell (some v) → Q () { s with heap := h' })
    (hk : cs.kind = .function := by rfl) (hx : (envX cn cs L a ccd cl).kindOf x = some .cell := by rfl) : wpAny M A (storeName (envX cn cs L a ccd cl) x v) Q E s := by
  have hne : ∀ p ∈ rest', p.1 ≠ c := fun p hp q => by
    obtain ⟨h1, h2⟩ := hr p hp
    rcases h2 with h2 | h2
    · exact h2 q
    · have e1 := (N p h1).1
      have e2 := (N _ hm).1
      rw [q] at e1
      rw [e1] at e2
      unfold notCell at h2
      rw [Option.some.inj e2, hd] at h2
      cases h2
  refine store_cell F (rest := rest') (fun p hp => ?_) hd hne hc h hk hx
  rcases List.mem_cons.mp hp with rfl | hp
  · exact N _ hm
  · exact N p (hr p hp).1
end
mutual
theorem datIn_nc {nw : List (Addr × Obj)} : ∀ {v : Value} {d : PySem.W.Dat}, DatIn nw v d → DatIn (nw.filter notCell) v d
  | _, _, .none => .none
  | _, _, .bool b => .bool b
  | _, _, .int i t => .int i t
  | _, _, .str x t => .str x t
  | _, _, .bytes b t => .bytes b t
  | _, _, .tuple hm r => .tuple (List.mem_filter.mpr ⟨hm, rfl⟩) (datAll_nc r)
  | _, _, .list hm r => .list (List.mem_filter.mpr ⟨hm, rfl⟩) (datAll_nc r)
theorem datAll_nc {nw : List (Addr × Obj)} : ∀ {vs : List Value} {ds : List PySem.W.Dat}, DatAll nw vs ds → DatAll (nw.filter notCell) vs ds
  | _, _, .nil => .nil
  | _, _, .cons h r => .cons (datIn_nc h) (datAll_nc r)
end
theorem gnd_nil {A : Around} {base g g₁ h : Heap} {L : Addr} {m : Str → Option Value} (G : Gnd A base [] g g₁) (F : Fr g₁ L h m) : Fr g L h m :=
  ⟨F.ns, fun b o e => F.keep b o ((G.slots.2.1 b (fun q => nomatch q)).trans e), by rw [← G.slots.1]; exact F.above⟩
theorem gnd_nilN {A : Around} {base g g₁ h : Heap} {L : Addr} {nw : List (Addr × Obj)} (G : Gnd A base [] g g₁) (N : News g₁ L h nw) : News g L h nw := fun p hp =>
  ⟨(N p hp).1, (N p hp).2.1, (G.slots.2.1 p.1 (fun q => nomatch q)).symm.trans (N p hp).2.2⟩
theorem SpcH.use {w : World} {lv : Nat} {f : Addr} {vs : List Value} {H : Heap → Prop} {P : List (Addr × Obj) → Prop} {R : List (Addr × Obj) → Value → List (Addr × Obj) → Prop} (S : SpcH w lv f vs H P R)
    {p : Program} {loose : List Str} {mean : ExcName → Option Value} {mg mb : Str → Option Value} {dp un : Nat} {gd : Option (List Code)} {cn : Str} {cs : Scope} {a : Addr} {ccd : Value} {cl : List (Str × Addr)} {outer : List Env} {A₀ : Around} {base h₀ : Heap} {L : Addr} {m : Str → Option Value} {news : List (Addr × Obj)} {s : Shared} {Q E : Value → Shared → Prop}
    (B : Below A₀ base outer h₀) (F : Fr h₀ L s.heap m) (X : (K w.params).In h₀) (N : News h₀ L s.heap news) (T : Top p loose mean mg mb h₀) (hk : cs.kind = .function) (hP : H h₀ ∧ P news) (hd : dp + lv < recursionLimit) (hu : un + 16 * lv < cLine)
    (h : ∀ v h' tk' news', Fr h₀ L h' m → News h₀ L h' news' → R news v news' → Q v { s with heap := h', toks := tk' }) :
    wpAny (model PySem.Challenge.rw_in0242_01.row.prog w) (ktrTop dp un gd cn cs L a ccd cl outer) (call (.ref f) vs) Q E s :=
  S p loose mean mg mb dp un gd cn cs a ccd cl outer A₀ base h₀ L m news s Q E B F X N T hk hP.1 hP.2 hd hu h
end Mine
end
section
open PySem PySem.W PyProof.Rows PySem.Calls PySem.Spec
set_option linter.unusedVariables false
namespace Mine
set_option maxRecDepth 100000
def boolP (rows : List (List Bool)) : List PyData := rows.map fun bs => .list (bs.map .bool)
theorem bools_reads {h : Heap} {nw : List (Addr × Obj)} : ∀ {vs : List Value} {bs : List Bool}, DatAll nw vs (bs.map PySem.W.Dat.bool) → ReadsAll h vs (bs.map PyData.bool) [] := by
  intro vs bs x
  induction bs generalizing vs with
  | nil => cases x; exact .nil
  | cons b bs ih => cases x with | cons h1 r => cases h1; exact readsAll_cons_val (Reads.bool b) (ih r)
theorem rows_reads {h₀ h : Heap} {L : Addr} {nw : List (Addr × Obj)} (N : News h₀ L h nw) : ∀ {vs : List Value} {rows : List (List Bool)}, DatAll nw vs (rows.map fun bs => PySem.W.Dat.list (bs.map PySem.W.Dat.bool)) → ∃ as, ReadsAll h vs (boolP rows) as := by
  intro vs rows x
  induction rows generalizing vs with
  | nil => cases x; exact ⟨_, .nil⟩
  | cons b bs ih =>
    cases x with
    | cons h1 r =>
      obtain ⟨as, ha⟩ := ih r
      cases h1 with
      | list hm h2 => exact ⟨_, .cons (reads_list_at (N.get hm) rfl rfl (by simpa using bools_reads h2)) ha⟩
theorem bools_lay : ∀ bs : List Bool, PyData.canLayAll0 (bs.map PyData.bool) = true ∧ PyData.depthAll (bs.map PyData.bool) = 0
  | [] => by simp [PyData.canLayAll0, PyData.depthAll]
  | b :: bs => by
    have := bools_lay bs
    simp [PyData.canLayAll0, PyData.depthAll, PyData.canLay0, PyData.depth, this.1, this.2]
theorem rows_lay : ∀ rows : List (List Bool), PyData.canLayAll0 (boolP rows) = true ∧ PyData.depthAll (boolP rows) ≤ 1
  | [] => by simp [boolP, PyData.canLayAll0, PyData.depthAll]
  | b :: bs => by
    have h1 := rows_lay bs
    have h2 := bools_lay b
    unfold boolP at h1 ⊢
    simp [PyData.canLayAll0, PyData.depthAll, PyData.canLay0, PyData.depth, h1.1, h1.2, h2.1, h2.2]
theorem bools_same : ∀ bs : List Bool, PyData.eqvAll (bs.map PyData.bool) (bs.map PyData.bool) = true
  | [] => by simp [PyData.eqvAll]
  | b :: bs => by simp [PyData.eqvAll, PyData.eqv, bools_same bs]
theorem rows_same : ∀ rows : List (List Bool), PyData.eqvAll (boolP rows) (boolP rows) = true
  | [] => by simp [boolP, PyData.eqvAll]
  | b :: bs => by
    have := rows_same bs
    unfold boolP at this ⊢
    simp [PyData.eqvAll, PyData.eqv, bools_same b, this]
theorem bool_rows_ne {prog : Program} {w : World} {A : Around} {E : Value → Shared → Prop} {s : Shared} {h₀ : Heap} {L a b : Addr} {nw : List (Addr × Obj)} {xs ys : List Value} {ka kb : Nat} {rows : List (List Bool)} {Q : Value → Shared → Prop} (N : News h₀ L s.heap nw)
    (ma : (a, listOf xs.toArray ka) ∈ nw) (Da : DatAll nw xs (rows.map fun bs => PySem.W.Dat.list (bs.map PySem.W.Dat.bool))) (mb : (b, listOf ys.toArray kb) ∈ nw) (Db : DatAll nw ys (rows.map fun bs => PySem.W.Dat.list (bs.map PySem.W.Dat.bool))) (hu : A.units + 64 < cLine) (h : Q (.bool false) s) :
    wpAny (model prog w) A (compareOp .NotEq (.ref a) (.ref b)) Q E s := by
  obtain ⟨as, ra⟩ := rows_reads N Da
  obtain ⟨bs, rb⟩ := rows_reads N Db
  have hl := rows_lay rows
  have hs : SeqAt.shaped (.list (boolP rows)) = true := by
    unfold SeqAt.shaped
    simp only [PyData.canLay0, PyData.depth, hl.1, Bool.true_and]
    exact decide_eq_true (Nat.le_trans (Nat.succ_le_succ hl.2) (by decide))
  refine ne_dataH (reads_list_at (N.get ma) rfl rfl (by simpa using ra)) (reads_list_at (N.get mb) rfl rfl (by simpa using rb)) hs hs hu ?_
  rw [show PyData.eqv (.list (boolP rows)) (.list (boolP rows)) = true from by simp [PyData.eqv, rows_same]]
  exact h
end Mine
end
section
open PySem PySem.W PyProof.Rows
namespace Mine
set_option maxRecDepth 100000
set_option maxHeartbeats 8000000
noncomputable abbrev fd2 := dfn PySem.Challenge.pw_in0242_01.main.body 2
noncomputable abbrev fd5 := dfn PySem.Challenge.pw_in0242_01.main.body 5
noncomputable abbrev fd8 := dfn PySem.Challenge.pw_in0242_01.main.body 8
noncomputable abbrev fd10 := dfn PySem.Challenge.pw_in0242_01.main.body 10
noncomputable abbrev fd11 := dfn PySem.Challenge.pw_in0242_01.main.body 11
noncomputable abbrev fd13 := dfn PySem.Challenge.pw_in0242_01.main.body 13
noncomputable abbrev fd15 := dfn PySem.Challenge.pw_in0242_01.main.body 15
noncomputable abbrev fd16 := dfn PySem.Challenge.pw_in0242_01.main.body 16
noncomputable abbrev fd17 := dfn PySem.Challenge.pw_in0242_01.main.body 17
noncomputable abbrev fd18 := dfn PySem.Challenge.pw_in0242_01.main.body 18
noncomputable abbrev fd19 := dfn PySem.Challenge.pw_in0242_01.main.body 19
noncomputable abbrev fd20 := dfn PySem.Challenge.pw_in0242_01.main.body 20
noncomputable abbrev fd21 := dfn PySem.Challenge.pw_in0242_01.main.body 21
noncomputable abbrev fd22 := dfn PySem.Challenge.pw_in0242_01.main.body 22
noncomputable abbrev fd23 := dfn PySem.Challenge.pw_in0242_01.main.body 23
noncomputable abbrev fd24 := dfn PySem.Challenge.pw_in0242_01.main.body 24
noncomputable abbrev z0_0 (P : Params) : Obj := { cls := Value.type "dict", data := Data.dict #[{ hash := PyData.keyHash P (Str.ofString "__name__"), key := Value.str (Str.ofString "__name__") 1, val := Value.str (Str.ofString "builtins") 160 }, { hash := PyData.keyHash P (Str.ofString "__doc__"), key := Value.str (Str.ofString "__doc__") 2, val := Value.builtin "builtins.__doc__:str#opaque" }, { hash := PyData.keyHash P (Str.ofString "__package__"), key := Value.str (Str.ofString "__package__") 3, val := Value.builtin "builtins.__package__:str#opaque" }, { hash := PyData.keyHash P (Str.ofString "__loader__"), key := Value.str (Str.ofString "__loader__") 4, val := Value.builtin "builtins.__loader__:shared#opaque" }, { hash := PyData.keyHash P (Str.ofString "__spec__"), key := Value.str (Str.ofString "__spec__") 5, val := Value.builtin "builtins.__spec__#opaque" }, { hash := PyData.keyHash P (Str.ofString "__build_class__"), key := Value.str (Str.ofString "__build_class__") 6, val := Value.builtin "__build_class__" }, { hash := PyData.keyHash P (Str.ofString "__import__"), key := Value.str (Str.ofString "__import__") 7, val := Value.builtin "__import__" }, { hash := PyData.keyHash P (Str.ofString "abs"), key := Value.str (Str.ofString "abs") 8, val := Value.builtin "abs" }, { hash := PyData.keyHash P (Str.ofString "all"), key := Value.str (Str.ofString "all") 9, val := Value.builtin "all" }, { hash := PyData.keyHash P (Str.ofString "any"), key := Value.str (Str.ofString "any") 10, val := Value.builtin "any" }, { hash := PyData.keyHash P (Str.ofString "ascii"), key := Value.str (Str.ofString "ascii") 11, val := Value.builtin "ascii" }, { hash := PyData.keyHash P (Str.ofString "bin"), key := Value.str (Str.ofString "bin") 12, val := Value.builtin "bin" }, { hash := PyData.keyHash P (Str.ofString "breakpoint"), key := Value.str (Str.ofString "breakpoint") 13, val := Value.builtin "breakpoint" }, { hash := PyData.keyHash P (Str.ofString "callable"), key := Value.str (Str.ofString "callable") 14, val := Value.builtin "callable" }, { hash := PyData.keyHash P (Str.ofString "chr"), key := Value.str (Str.ofString "chr") 15, val := Value.builtin "chr" }, { hash := PyData.keyHash P (Str.ofString "compile"), key := Value.str (Str.ofString "compile") 16, val := Value.builtin "compile" }, { hash := PyData.keyHash P (Str.ofString "delattr"), key := Value.str (Str.ofString "delattr") 17, val := Value.builtin "delattr" }, { hash := PyData.keyHash P (Str.ofString "dir"), key := Value.str (Str.ofString "dir") 18, val := Value.builtin "dir" }, { hash := PyData.keyHash P (Str.ofString "divmod"), key := Value.str (Str.ofString "divmod") 19, val := Value.builtin "divmod" }, { hash := PyData.keyHash P (Str.ofString "eval"), key := Value.str (Str.ofString "eval") 20, val := Value.builtin "eval" }, { hash := PyData.keyHash P (Str.ofString "exec"), key := Value.str (Str.ofString "exec") 21, val := Value.builtin "exec" }, { hash := PyData.keyHash P (Str.ofString "format"), key := Value.str (Str.ofString "format") 22, val := Value.builtin "format" }, { hash := PyData.keyHash P (Str.ofString "getattr"), key := Value.str (Str.ofString "getattr") 23, val := Value.builtin "getattr" }, { hash := PyData.keyHash P (Str.ofString "globals"), key := Value.str (Str.ofString "globals") 24, val := Value.builtin "globals" }, { hash := PyData.keyHash P (Str.ofString "hasattr"), key := Value.str (Str.ofString "hasattr") 25, val := Value.builtin "hasattr" }, { hash := PyData.keyHash P (Str.ofString "hash"), key := Value.str (Str.ofString "hash") 26, val := Value.builtin "hash" }, { hash := PyData.keyHash P (Str.ofString "hex"), key := Value.str (Str.ofString "hex") 27, val := Value.builtin "hex" }, { hash := PyData.keyHash P (Str.ofString "id"), key := Value.str (Str.ofString "id") 28, val := Value.builtin "id" }, { hash := PyData.keyHash P (Str.ofString "input"), key := Value.str (Str.ofString "input") 29, val := Value.builtin "input" }, { hash := PyData.keyHash P (Str.ofString "isinstance"), key := Value.str (Str.ofString "isinstance") 30, val := Value.builtin "isinstance" }, { hash := PyData.keyHash P (Str.ofString "issubclass"), key := Value.str (Str.ofString "issubclass") 31, val := Value.builtin "issubclass" }, { hash := PyData.keyHash P (Str.ofString "iter"), key := Value.str (Str.ofString "iter") 32, val := Value.builtin "iter" }, { hash := PyData.keyHash P (Str.ofString "aiter"), key := Value.str (Str.ofString "aiter") 33, val := Value.builtin "aiter" }, { hash := PyData.keyHash P (Str.ofString "len"), key := Value.str (Str.ofString "len") 34, val := Value.builtin "len" }, { hash := PyData.keyHash P (Str.ofString "locals"), key := Value.str (Str.ofString "locals") 35, val := Value.builtin "locals" }, { hash := PyData.keyHash P (Str.ofString "max"), key := Value.str (Str.ofString "max") 36, val := Value.builtin "max" }, { hash := PyData.keyHash P (Str.ofString "min"), key := Value.str (Str.ofString "min") 37, val := Value.builtin "min" }, { hash := PyData.keyHash P (Str.ofString "next"), key := Value.str (Str.ofString "next") 38, val := Value.builtin "next" }, { hash := PyData.keyHash P (Str.ofString "anext"), key := Value.str (Str.ofString "anext") 39, val := Value.builtin "anext" }, { hash := PyData.keyHash P (Str.ofString "oct"), key := Value.str (Str.ofString "oct") 40, val := Value.builtin "oct" }, { hash := PyData.keyHash P (Str.ofString "ord"), key := Value.str (Str.ofString "ord") 41, val := Value.builtin "ord" }, { hash := PyData.keyHash P (Str.ofString "pow"), key := Value.str (Str.ofString "pow") 42, val := Value.builtin "pow" }, { hash := PyData.keyHash P (Str.ofString "print"), key := Value.str (Str.ofString "print") 43, val := Value.builtin "print" }, { hash := PyData.keyHash P (Str.ofString "repr"), key := Value.str (Str.ofString "repr") 44, val := Value.builtin "repr" }, { hash := PyData.keyHash P (Str.ofString "round"), key := Value.str (Str.ofString "round") 45, val := Value.builtin "round" }, { hash := PyData.keyHash P (Str.ofString "setattr"), key := Value.str (Str.ofString "setattr") 46, val := Value.builtin "setattr" }, { hash := PyData.keyHash P (Str.ofString "sorted"), key := Value.str (Str.ofString "sorted") 47, val := Value.builtin "sorted" }, { hash := PyData.keyHash P (Str.ofString "sum"), key := Value.str (Str.ofString "sum") 48, val := Value.builtin "sum" }, { hash := PyData.keyHash P (Str.ofString "vars"), key := Value.str (Str.ofString "vars") 49, val := Value.builtin "vars" }, { hash := PyData.keyHash P (Str.ofString "None"), key := Value.str (Str.ofString "None") 50, val := Value.none }, { hash := PyData.keyHash P (Str.ofString "Ellipsis"), key := Value.str (Str.ofString "Ellipsis") 51, val := Value.ellipsis }, { hash := PyData.keyHash P (Str.ofString "NotImplemented"), key := Value.str (Str.ofString "NotImplemented") 52, val := Value.notImplemented }, { hash := PyData.keyHash P (Str.ofString "False"), key := Value.str (Str.ofString "False") 53, val := Value.bool false }, { hash := PyData.keyHash P (Str.ofString "True"), key := Value.str (Str.ofString "True") 54, val := Value.bool true }, { hash := PyData.keyHash P (Str.ofString "bool"), key := Value.str (Str.ofString "bool") 55, val := Value.type "bool" }, { hash := PyData.keyHash P (Str.ofString "memoryview"), key := Value.str (Str.ofString "memoryview") 56, val := Value.type "memoryview" }, { hash := PyData.keyHash P (Str.ofString "bytearray"), key := Value.str (Str.ofString "bytearray") 57, val := Value.type "bytearray" }, { hash := PyData.keyHash P (Str.ofString "bytes"), key := Value.str (Str.ofString "bytes") 58, val := Value.type "bytes" }, { hash := PyData.keyHash P (Str.ofString "classmethod"), key := Value.str (Str.ofString "classmethod") 59, val := Value.type "classmethod" }, { hash := PyData.keyHash P (Str.ofString "complex"), key := Value.str (Str.ofString "complex") 60, val := Value.type "complex" }, { hash := PyData.keyHash P (Str.ofString "dict"), key := Value.str (Str.ofString "dict") 61, val := Value.type "dict" }, { hash := PyData.keyHash P (Str.ofString "enumerate"), key := Value.str (Str.ofString "enumerate") 62, val := Value.type "enumerate" }, { hash := PyData.keyHash P (Str.ofString "filter"), key := Value.str (Str.ofString "filter") 63, val := Value.type "filter" }, { hash := PyData.keyHash P (Str.ofString "float"), key := Value.str (Str.ofString "float") 64, val := Value.type "float" }, { hash := PyData.keyHash P (Str.ofString "frozenset"), key := Value.str (Str.ofString "frozenset") 65, val := Value.type "frozenset" }, { hash := PyData.keyHash P (Str.ofString "property"), key := Value.str (Str.ofString "property") 66, val := Value.type "property" }, { hash := PyData.keyHash P (Str.ofString "int"), key := Value.str (Str.ofString "int") 67, val := Value.type "int" }, { hash := PyData.keyHash P (Str.ofString "list"), key := Value.str (Str.ofString "list") 68, val := Value.type "list" }, { hash := PyData.keyHash P (Str.ofString "map"), key := Value.str (Str.ofString "map") 69, val := Value.type "map" }, { hash := PyData.keyHash P (Str.ofString "object"), key := Value.str (Str.ofString "object") 70, val := Value.type "object" }, { hash := PyData.keyHash P (Str.ofString "range"), key := Value.str (Str.ofString "range") 71, val := Value.type "range" }, { hash := PyData.keyHash P (Str.ofString "reversed"), key := Value.str (Str.ofString "reversed") 72, val := Value.type "reversed" }, { hash := PyData.keyHash P (Str.ofString "set"), key := Value.str (Str.ofString "set") 73, val := Value.type "set" }, { hash := PyData.keyHash P (Str.ofString "slice"), key := Value.str (Str.ofString "slice") 74, val := Value.type "slice" }, { hash := PyData.keyHash P (Str.ofString "staticmethod"), key := Value.str (Str.ofString "staticmethod") 75, val := Value.type "staticmethod" }, { hash := PyData.keyHash P (Str.ofString "str"), key := Value.str (Str.ofString "str") 76, val := Value.type "str" }, { hash := PyData.keyHash P (Str.ofString "super"), key := Value.str (Str.ofString "super") 77, val := Value.type "super" }, { hash := PyData.keyHash P (Str.ofString "tuple"), key := Value.str (Str.ofString "tuple") 78, val := Value.type "tuple" }, { hash := PyData.keyHash P (Str.ofString "type"), key := Value.str (Str.ofString "type") 79, val := Value.type "type" }, { hash := PyData.keyHash P (Str.ofString "zip"), key := Value.str (Str.ofString "zip") 80, val := Value.type "zip" }, { hash := PyData.keyHash P (Str.ofString "__debug__"), key := Value.str (Str.ofString "__debug__") 81, val := Value.bool true }, { hash := PyData.keyHash P (Str.ofString "BaseException"), key := Value.str (Str.ofString "BaseException") 82, val := Value.type "BaseException" }, { hash := PyData.keyHash P (Str.ofString "BaseExceptionGroup"), key := Value.str (Str.ofString "BaseExceptionGroup") 83, val := Value.type "BaseExceptionGroup" }, { hash := PyData.keyHash P (Str.ofString "Exception"), key := Value.str (Str.ofString "Exception") 84, val := Value.type "Exception" }, { hash := PyData.keyHash P (Str.ofString "GeneratorExit"), key := Value.str (Str.ofString "GeneratorExit") 85, val := Value.type "GeneratorExit" }, { hash := PyData.keyHash P (Str.ofString "KeyboardInterrupt"), key := Value.str (Str.ofString "KeyboardInterrupt") 86, val := Value.type "KeyboardInterrupt" }, { hash := PyData.keyHash P (Str.ofString "SystemExit"), key := Value.str (Str.ofString "SystemExit") 87, val := Value.type "SystemExit" }, { hash := PyData.keyHash P (Str.ofString "ArithmeticError"), key := Value.str (Str.ofString "ArithmeticError") 88, val := Value.type "ArithmeticError" }, { hash := PyData.keyHash P (Str.ofString "AssertionError"), key := Value.str (Str.ofString "AssertionError") 89, val := Value.type "AssertionError" }, { hash := PyData.keyHash P (Str.ofString "AttributeError"), key := Value.str (Str.ofString "AttributeError") 90, val := Value.type "AttributeError" }, { hash := PyData.keyHash P (Str.ofString "BufferError"), key := Value.str (Str.ofString "BufferError") 91, val := Value.type "BufferError" }, { hash := PyData.keyHash P (Str.ofString "EOFError"), key := Value.str (Str.ofString "EOFError") 92, val := Value.type "EOFError" }, { hash := PyData.keyHash P (Str.ofString "ImportError"), key := Value.str (Str.ofString "ImportError") 93, val := Value.type "ImportError" }, { hash := PyData.keyHash P (Str.ofString "LookupError"), key := Value.str (Str.ofString "LookupError") 94, val := Value.type "LookupError" }, { hash := PyData.keyHash P (Str.ofString "MemoryError"), key := Value.str (Str.ofString "MemoryError") 95, val := Value.type "MemoryError" }, { hash := PyData.keyHash P (Str.ofString "NameError"), key := Value.str (Str.ofString "NameError") 96, val := Value.type "NameError" }, { hash := PyData.keyHash P (Str.ofString "OSError"), key := Value.str (Str.ofString "OSError") 97, val := Value.type "OSError" }, { hash := PyData.keyHash P (Str.ofString "ReferenceError"), key := Value.str (Str.ofString "ReferenceError") 98, val := Value.type "ReferenceError" }, { hash := PyData.keyHash P (Str.ofString "RuntimeError"), key := Value.str (Str.ofString "RuntimeError") 99, val := Value.type "RuntimeError" }, { hash := PyData.keyHash P (Str.ofString "StopAsyncIteration"), key := Value.str (Str.ofString "StopAsyncIteration") 100, val := Value.type "StopAsyncIteration" }, { hash := PyData.keyHash P (Str.ofString "StopIteration"), key := Value.str (Str.ofString "StopIteration") 101, val := Value.type "StopIteration" }, { hash := PyData.keyHash P (Str.ofString "SyntaxError"), key := Value.str (Str.ofString "SyntaxError") 102, val := Value.type "SyntaxError" }, { hash := PyData.keyHash P (Str.ofString "SystemError"), key := Value.str (Str.ofString "SystemError") 103, val := Value.type "SystemError" }, { hash := PyData.keyHash P (Str.ofString "TypeError"), key := Value.str (Str.ofString "TypeError") 104, val := Value.type "TypeError" }, { hash := PyData.keyHash P (Str.ofString "ValueError"), key := Value.str (Str.ofString "ValueError") 105, val := Value.type "ValueError" }, { hash := PyData.keyHash P (Str.ofString "Warning"), key := Value.str (Str.ofString "Warning") 106, val := Value.type "Warning" }, { hash := PyData.keyHash P (Str.ofString "FloatingPointError"), key := Value.str (Str.ofString "FloatingPointError") 107, val := Value.type "FloatingPointError" }, { hash := PyData.keyHash P (Str.ofString "OverflowError"), key := Value.str (Str.ofString "OverflowError") 108, val := Value.type "OverflowError" }, { hash := PyData.keyHash P (Str.ofString "ZeroDivisionError"), key := Value.str (Str.ofString "ZeroDivisionError") 109, val := Value.type "ZeroDivisionError" }, { hash := PyData.keyHash P (Str.ofString "BytesWarning"), key := Value.str (Str.ofString "BytesWarning") 110, val := Value.type "BytesWarning" }, { hash := PyData.keyHash P (Str.ofString "DeprecationWarning"), key := Value.str (Str.ofString "DeprecationWarning") 111, val := Value.type "DeprecationWarning" }, { hash := PyData.keyHash P (Str.ofString "EncodingWarning"), key := Value.str (Str.ofString "EncodingWarning") 112, val := Value.type "EncodingWarning" }, { hash := PyData.keyHash P (Str.ofString "FutureWarning"), key := Value.str (Str.ofString "FutureWarning") 113, val := Value.type "FutureWarning" }, { hash := PyData.keyHash P (Str.ofString "ImportWarning"), key := Value.str (Str.ofString "ImportWarning") 114, val := Value.type "ImportWarning" }, { hash := PyData.keyHash P (Str.ofString "PendingDeprecationWarning"), key := Value.str (Str.ofString "PendingDeprecationWarning") 115, val := Value.type "PendingDeprecationWarning" }, { hash := PyData.keyHash P (Str.ofString "ResourceWarning"), key := Value.str (Str.ofString "ResourceWarning") 116, val := Value.type "ResourceWarning" }, { hash := PyData.keyHash P (Str.ofString "RuntimeWarning"), key := Value.str (Str.ofString "RuntimeWarning") 117, val := Value.type "RuntimeWarning" }, { hash := PyData.keyHash P (Str.ofString "SyntaxWarning"), key := Value.str (Str.ofString "SyntaxWarning") 118, val := Value.type "SyntaxWarning" }, { hash := PyData.keyHash P (Str.ofString "UnicodeWarning"), key := Value.str (Str.ofString "UnicodeWarning") 119, val := Value.type "UnicodeWarning" }, { hash := PyData.keyHash P (Str.ofString "UserWarning"), key := Value.str (Str.ofString "UserWarning") 120, val := Value.type "UserWarning" }, { hash := PyData.keyHash P (Str.ofString "BlockingIOError"), key := Value.str (Str.ofString "BlockingIOError") 121, val := Value.type "BlockingIOError" }, { hash := PyData.keyHash P (Str.ofString "ChildProcessError"), key := Value.str (Str.ofString "ChildProcessError") 122, val := Value.type "ChildProcessError" }, { hash := PyData.keyHash P (Str.ofString "ConnectionError"), key := Value.str (Str.ofString "ConnectionError") 123, val := Value.type "ConnectionError" }, { hash := PyData.keyHash P (Str.ofString "FileExistsError"), key := Value.str (Str.ofString "FileExistsError") 124, val := Value.type "FileExistsError" }, { hash := PyData.keyHash P (Str.ofString "FileNotFoundError"), key := Value.str (Str.ofString "FileNotFoundError") 125, val := Value.type "FileNotFoundError" }, { hash := PyData.keyHash P (Str.ofString "InterruptedError"), key := Value.str (Str.ofString "InterruptedError") 126, val := Value.type "InterruptedError" }, { hash := PyData.keyHash P (Str.ofString "IsADirectoryError"), key := Value.str (Str.ofString "IsADirectoryError") 127, val := Value.type "IsADirectoryError" }, { hash := PyData.keyHash P (Str.ofString "NotADirectoryError"), key := Value.str (Str.ofString "NotADirectoryError") 128, val := Value.type "NotADirectoryError" }, { hash := PyData.keyHash P (Str.ofString "PermissionError"), key := Value.str (Str.ofString "PermissionError") 129, val := Value.type "PermissionError" }, { hash := PyData.keyHash P (Str.ofString "ProcessLookupError"), key := Value.str (Str.ofString "ProcessLookupError") 130, val := Value.type "ProcessLookupError" }, { hash := PyData.keyHash P (Str.ofString "TimeoutError"), key := Value.str (Str.ofString "TimeoutError") 131, val := Value.type "TimeoutError" }, { hash := PyData.keyHash P (Str.ofString "IndentationError"), key := Value.str (Str.ofString "IndentationError") 132, val := Value.type "IndentationError" }, { hash := PyData.keyHash P (Str.ofString "_IncompleteInputError"), key := Value.str (Str.ofString "_IncompleteInputError") 133, val := Value.type "_IncompleteInputError" }, { hash := PyData.keyHash P (Str.ofString "IndexError"), key := Value.str (Str.ofString "IndexError") 134, val := Value.type "IndexError" }, { hash := PyData.keyHash P (Str.ofString "KeyError"), key := Value.str (Str.ofString "KeyError") 135, val := Value.type "KeyError" }, { hash := PyData.keyHash P (Str.ofString "ModuleNotFoundError"), key := Value.str (Str.ofString "ModuleNotFoundError") 136, val := Value.type "ModuleNotFoundError" }, { hash := PyData.keyHash P (Str.ofString "NotImplementedError"), key := Value.str (Str.ofString "NotImplementedError") 137, val := Value.type "NotImplementedError" }, { hash := PyData.keyHash P (Str.ofString "PythonFinalizationError"), key := Value.str (Str.ofString "PythonFinalizationError") 138, val := Value.type "PythonFinalizationError" }, { hash := PyData.keyHash P (Str.ofString "RecursionError"), key := Value.str (Str.ofString "RecursionError") 139, val := Value.type "RecursionError" }, { hash := PyData.keyHash P (Str.ofString "UnboundLocalError"), key := Value.str (Str.ofString "UnboundLocalError") 140, val := Value.type "UnboundLocalError" }, { hash := PyData.keyHash P (Str.ofString "UnicodeError"), key := Value.str (Str.ofString "UnicodeError") 141, val := Value.type "UnicodeError" }, { hash := PyData.keyHash P (Str.ofString "BrokenPipeError"), key := Value.str (Str.ofString "BrokenPipeError") 142, val := Value.type "BrokenPipeError" }, { hash := PyData.keyHash P (Str.ofString "ConnectionAbortedError"), key := Value.str (Str.ofString "ConnectionAbortedError") 143, val := Value.type "ConnectionAbortedError" }, { hash := PyData.keyHash P (Str.ofString "ConnectionRefusedError"), key := Value.str (Str.ofString "ConnectionRefusedError") 144, val := Value.type "ConnectionRefusedError" }, { hash := PyData.keyHash P (Str.ofString "ConnectionResetError"), key := Value.str (Str.ofString "ConnectionResetError") 145, val := Value.type "ConnectionResetError" }, { hash := PyData.keyHash P (Str.ofString "TabError"), key := Value.str (Str.ofString "TabError") 146, val := Value.type "TabError" }, { hash := PyData.keyHash P (Str.ofString "UnicodeDecodeError"), key := Value.str (Str.ofString "UnicodeDecodeError") 147, val := Value.type "UnicodeDecodeError" }, { hash := PyData.keyHash P (Str.ofString "UnicodeEncodeError"), key := Value.str (Str.ofString "UnicodeEncodeError") 148, val := Value.type "UnicodeEncodeError" }, { hash := PyData.keyHash P (Str.ofString "UnicodeTranslateError"), key := Value.str (Str.ofString "UnicodeTranslateError") 149, val := Value.type "UnicodeTranslateError" }, { hash := PyData.keyHash P (Str.ofString "ExceptionGroup"), key := Value.str (Str.ofString "ExceptionGroup") 150, val := Value.type "ExceptionGroup" }, { hash := PyData.keyHash P (Str.ofString "EnvironmentError"), key := Value.str (Str.ofString "EnvironmentError") 151, val := Value.type "OSError" }, { hash := PyData.keyHash P (Str.ofString "IOError"), key := Value.str (Str.ofString "IOError") 152, val := Value.type "OSError" }, { hash := PyData.keyHash P (Str.ofString "open"), key := Value.str (Str.ofString "open") 153, val := Value.builtin "open" }, { hash := PyData.keyHash P (Str.ofString "quit"), key := Value.str (Str.ofString "quit") 154, val := Value.builtin "builtins.quit#opaque" }, { hash := PyData.keyHash P (Str.ofString "exit"), key := Value.str (Str.ofString "exit") 155, val := Value.builtin "builtins.exit#opaque" }, { hash := PyData.keyHash P (Str.ofString "copyright"), key := Value.str (Str.ofString "copyright") 156, val := Value.builtin "builtins.copyright#opaque" }, { hash := PyData.keyHash P (Str.ofString "credits"), key := Value.str (Str.ofString "credits") 157, val := Value.builtin "builtins.credits#opaque" }, { hash := PyData.keyHash P (Str.ofString "license"), key := Value.str (Str.ofString "license") 158, val := Value.builtin "builtins.license#opaque" }, { hash := PyData.keyHash P (Str.ofString "help"), key := Value.str (Str.ofString "help") 159, val := Value.builtin "builtins.help#opaque" }] 159 }
noncomputable abbrev z1_0 (P : Params) : Obj := { cls := Value.type "dict", data := Data.dict #[{ hash := PyData.keyHash P (Str.ofString "builtins"), key := Value.str (Str.ofString "builtins") 162, val := Value.ref 4 }, { hash := PyData.keyHash P (Str.ofString "__main__"), key := Value.str (Str.ofString "__main__") 163, val := Value.ref 5 }, { hash := PyData.keyHash P (Str.ofString "_sre"), key := Value.str (Str.ofString "_sre") 244, val := Value.ref 12 }] 3 }
noncomputable abbrev z2_0 (P : Params) : Obj := { cls := Value.none, data := Data.dict #[{ hash := PyData.keyHash P (Str.ofString "im\x70ort.loaded._sre"), key := Value.str (Str.ofString "im\x70ort.loaded._sre") 183, val := Value.bool true }, { hash := PyData.keyHash P (Str.ofString "class._frozen_importlib.BuiltinImporter"), key := Value.str (Str.ofString "class._frozen_importlib.BuiltinImporter") 185, val := Value.ref 14 }, { hash := PyData.keyHash P (Str.ofString "watched.im\x70ort"), key := Value.str (Str.ofString "watched.im\x70ort") 206, val := Value.ref 18 }, { hash := PyData.keyHash P (Str.ofString "class._frozen_importlib.ModuleSpec"), key := Value.str (Str.ofString "class._frozen_importlib.ModuleSpec") 216, val := Value.ref 22 }, { hash := PyData.keyHash P (Str.ofString "sys.modules.booked-epoch"), key := Value.str (Str.ofString "sys.modules.booked-epoch") 245, val := Value.int 3 0 }, { hash := PyData.keyHash P (Str.ofString "im\x70ort.later-laid._sre"), key := Value.str (Str.ofString "im\x70ort.later-laid._sre") 270, val := Value.bool true }, { hash := PyData.keyHash P (Str.ofString "watched.library"), key := Value.str (Str.ofString "watched.library") 272, val := Value.ref 27 }, { hash := PyData.keyHash P (Str.ofString "watched.library-objects"), key := Value.str (Str.ofString "watched.library-objects") 0, val := Value.str (Str.ofString "\x0c") 0 }, { hash := PyData.keyHash P (Str.ofString "watched.library-deep._sre"), key := Value.str (Str.ofString "watched.library-deep._sre") 273, val := Value.str (Str.ofString "\x04\x00\x00\x0b\x04\x00\x00\x0b\x04\x00\x00\x03\x04\x00\x00\x0b\x08\x04dict\x02") 0 }] 9 }
noncomputable abbrev z3_0 (P : Params) : Obj := { cls := Value.type "dict", data := Data.dict #[{ hash := PyData.keyHash P (Str.ofString "__name__"), key := Value.str (Str.ofString "__name__") 165, val := Value.str (Str.ofString "__main__") 164 }, { hash := PyData.keyHash P (Str.ofString "__doc__"), key := Value.str (Str.ofString "__doc__") 166, val := Value.none }, { hash := PyData.keyHash P (Str.ofString "__package__"), key := Value.str (Str.ofString "__package__") 167, val := Value.none }, { hash := PyData.keyHash P (Str.ofString "__loader__"), key := Value.str (Str.ofString "__loader__") 168, val := Value.builtin "__main__.__loader__#opaque" }, { hash := PyData.keyHash P (Str.ofString "__spec__"), key := Value.str (Str.ofString "__spec__") 169, val := Value.none }, { hash := PyData.keyHash P (Str.ofString "__annotations__"), key := Value.str (Str.ofString "__annotations__") 170, val := Value.ref 6 }, { hash := PyData.keyHash P (Str.ofString "__builtins__"), key := Value.str (Str.ofString "__builtins__") 171, val := Value.ref 4 }, { hash := PyData.keyHash P (Str.ofString "__file__"), key := Value.str (Str.ofString "__file__") 173, val := Value.str (Str.ofString "/claim/cut.py") 172 }, { hash := PyData.keyHash P (Str.ofString "__cached__"), key := Value.str (Str.ofString "__cached__") 174, val := Value.none }, { hash := PyData.keyHash P (Str.ofString "_sre"), key := Value.str (Str.ofString "_sre") 275, val := Value.ref 12 }] 10 }
noncomputable abbrev z4_0 (P : Params) : Obj := { cls := Value.type "module", dict := some 0 }
noncomputable abbrev z5_0 (P : Params) : Obj := { cls := Value.type "module", dict := some 3 }
noncomputable abbrev z6_0 (P : Params) : Obj := { cls := Value.type "dict", data := Data.dict #[] }
noncomputable abbrev z7_0 (P : Params) : Obj := { cls := Value.type "tuple", data := Data.seq #[] }
noncomputable abbrev z8_0 (P : Params) : Obj := { cls := Value.none, data := Data.fields #[] }
noncomputable abbrev z9_0 (P : Params) : Obj := { cls := Value.type "code", data := Data.fields #[Value.str (Str.ofString "<module>") 176, Value.str (Str.ofString "<module>") 177, Value.str (Str.ofString "/claim/cut.py") 178, Value.int 1 0, Value.int 0 0, Value.int 0 0, Value.int 0 0, Value.int 0 0, Value.ref 7, Value.bool false, Value.int 175 0, Value.ref 8, Value.none, Value.none, Value.none, Value.none, Value.int 179 0, Value.int 1 0, Value.str (Str.ofString "/claim/cut.py") 180] }
noncomputable abbrev z10_0 (P : Params) : Obj := { cls := Value.type "frame", slots := #[some (Value.ref 9), some (Value.ref 3), some (Value.ref 3), none, some (Value.str (Str.ofString "__main__") 164), none, some (Value.ref 0)] }
noncomputable abbrev z11_0 (P : Params) : Obj := { cls := Value.type "dict", data := Data.dict #[{ hash := PyData.keyHash P (Str.ofString "__name__"), key := Value.str (Str.ofString "__name__") 247, val := Value.str (Str.ofString "_sre") 246 }, { hash := PyData.keyHash P (Str.ofString "__doc__"), key := Value.str (Str.ofString "__doc__") 248, val := Value.none }, { hash := PyData.keyHash P (Str.ofString "__package__"), key := Value.str (Str.ofString "__package__") 250, val := Value.str (Str.ofString "") 249 }, { hash := PyData.keyHash P (Str.ofString "__loader__"), key := Value.str (Str.ofString "__loader__") 251, val := Value.ref 14 }, { hash := PyData.keyHash P (Str.ofString "__spec__"), key := Value.str (Str.ofString "__spec__") 252, val := Value.ref 26 }, { hash := PyData.keyHash P (Str.ofString "compile"), key := Value.str (Str.ofString "compile") 253, val := Value.builtin "_sre.compile" }, { hash := PyData.keyHash P (Str.ofString "template"), key := Value.str (Str.ofString "template") 254, val := Value.builtin "_sre.template" }, { hash := PyData.keyHash P (Str.ofString "getcodesize"), key := Value.str (Str.ofString "getcodesize") 255, val := Value.builtin "_sre.getcodesize" }, { hash := PyData.keyHash P (Str.ofString "ascii_iscased"), key := Value.str (Str.ofString "ascii_iscased") 256, val := Value.builtin "_sre.ascii_iscased" }, { hash := PyData.keyHash P (Str.ofString "unicode_iscased"), key := Value.str (Str.ofString "unicode_iscased") 257, val := Value.builtin "_sre.unicode_iscased" }, { hash := PyData.keyHash P (Str.ofString "ascii_tolower"), key := Value.str (Str.ofString "ascii_tolower") 258, val := Value.builtin "_sre.ascii_tolower" }, { hash := PyData.keyHash P (Str.ofString "unicode_tolower"), key := Value.str (Str.ofString "unicode_tolower") 259, val := Value.builtin "_sre.unicode_tolower" }, { hash := PyData.keyHash P (Str.ofString "MAGIC"), key := Value.str (Str.ofString "MAGIC") 261, val := Value.int 20230612 260 }, { hash := PyData.keyHash P (Str.ofString "CODESIZE"), key := Value.str (Str.ofString "CODESIZE") 263, val := Value.int 4 262 }, { hash := PyData.keyHash P (Str.ofString "MAXREPEAT"), key := Value.str (Str.ofString "MAXREPEAT") 265, val := Value.int 4294967295 264 }, { hash := PyData.keyHash P (Str.ofString "MAXGROUPS"), key := Value.str (Str.ofString "MAXGROUPS") 267, val := Value.int 1073741823 266 }, { hash := PyData.keyHash P (Str.ofString "copyright"), key := Value.str (Str.ofString "copyright") 269, val := Value.str (Str.ofString " SRE 2.2.2 Copyright (c) 1997-2002 by Secret Labs AB ") 268 }] 17 }
noncomputable abbrev z12_0 (P : Params) : Obj := { cls := Value.type "module", dict := some 11 }
noncomputable abbrev z13_0 (P : Params) : Obj := { cls := Value.type "dict", data := Data.dict #[{ hash := PyData.keyHash P (Str.ofString "__module__"), key := Value.str (Str.ofString "__module__") 189, val := Value.str (Str.ofString "_frozen_importlib") 186 }, { hash := PyData.keyHash P (Str.ofString "__firstlineno__"), key := Value.str (Str.ofString "__firstlineno__") 190, val := Value.int 971 187 }, { hash := PyData.keyHash P (Str.ofString "__doc__"), key := Value.str (Str.ofString "__doc__") 191, val := Value.builtin "_frozen_importlib.BuiltinImporter.__doc__:str#opaque" }, { hash := PyData.keyHash P (Str.ofString "_ORIGIN"), key := Value.str (Str.ofString "_ORIGIN") 192, val := Value.str (Str.ofString "built-in") 188 }, { hash := PyData.keyHash P (Str.ofString "find_spec"), key := Value.str (Str.ofString "find_spec") 193, val := Value.builtin "_frozen_importlib.BuiltinImporter.find_spec#opaque" }, { hash := PyData.keyHash P (Str.ofString "create_module"), key := Value.str (Str.ofString "create_module") 194, val := Value.builtin "_frozen_importlib.BuiltinImporter.create_module#opaque" }, { hash := PyData.keyHash P (Str.ofString "exec_module"), key := Value.str (Str.ofString "exec_module") 195, val := Value.builtin "_frozen_importlib.BuiltinImporter.exec_module#opaque" }, { hash := PyData.keyHash P (Str.ofString "get_code"), key := Value.str (Str.ofString "get_code") 196, val := Value.builtin "_frozen_importlib.BuiltinImporter.get_code#opaque" }, { hash := PyData.keyHash P (Str.ofString "get_source"), key := Value.str (Str.ofString "get_source") 197, val := Value.builtin "_frozen_importlib.BuiltinImporter.get_source#opaque" }, { hash := PyData.keyHash P (Str.ofString "is_package"), key := Value.str (Str.ofString "is_package") 198, val := Value.builtin "_frozen_importlib.BuiltinImporter.is_package#opaque" }, { hash := PyData.keyHash P (Str.ofString "load_module"), key := Value.str (Str.ofString "load_module") 199, val := Value.builtin "_frozen_importlib.BuiltinImporter.load_module#opaque" }, { hash := PyData.keyHash P (Str.ofString "__static_attributes__"), key := Value.str (Str.ofString "__static_attributes__") 200, val := Value.ref 15 }, { hash := PyData.keyHash P (Str.ofString "__dict__"), key := Value.str (Str.ofString "__dict__") 202, val := Value.ref 16 }, { hash := PyData.keyHash P (Str.ofString "__weakref__"), key := Value.str (Str.ofString "__weakref__") 204, val := Value.ref 17 }] 14 }
noncomputable abbrev z14_0 (P : Params) : Obj := { cls := Value.type "type", data := Data.cls { name := Str.ofString "BuiltinImporter", bases := [Value.type "object"], mro := [Value.ref 14, Value.type "object"], ns := 13, qualname := Str.ofString "BuiltinImporter" } }
noncomputable abbrev z15_0 (P : Params) : Obj := { cls := Value.type "tuple", data := Data.seq #[] }
noncomputable abbrev z16_0 (P : Params) : Obj := { cls := Value.type "getset_descriptor", data := Data.fields #[Value.str (Str.ofString "__dict__") 201, Value.ref 14, Value.builtin "function.__dict__", Value.builtin "function.__dict__#set"] }
noncomputable abbrev z17_0 (P : Params) : Obj := { cls := Value.type "getset_descriptor", data := Data.fields #[Value.str (Str.ofString "__weakref__") 203, Value.ref 14, Value.builtin "ExceptionGroup.__weakref__", Value.none] }
noncomputable abbrev z18_0 (P : Params) : Obj := { cls := Value.none, data := Data.seq #[Value.int 13 0, Value.str ({ cps := #[6, 189, 10, 95, 95, 109, 111, 100, 117, 108, 101, 95, 95, 6, 186, 17, 95, 102, 114, 111, 122, 101, 110, 95, 105, 109, 112, 111, 114, 116, 108, 105, 98, 6, 190, 15, 95, 95, 102, 105, 114, 115, 116, 108, 105, 110, 101, 110, 111, 95, 95, 4, 187, 0, 971, 6, 191, 7, 95, 95, 100, 111, 99, 95, 95, 9, 52, 95, 102, 114, 111, 122, 101, 110, 95, 105, 109, 112, 111, 114, 116, 108, 105, 98, 46, 66, 117, 105, 108, 116, 105, 110, 73, 109, 112, 111, 114, 116, 101, 114, 46, 95, 95, 100, 111, 99, 95, 95, 58, 115, 116, 114, 35, 111, 112, 97, 113, 117, 101, 6, 192, 7, 95, 79, 82, 73, 71, 73, 78, 6, 188, 8, 98, 117, 105, 108, 116, 45, 105, 110, 6, 193, 9, 102, 105, 110, 100, 95, 115, 112, 101, 99, 9, 50, 95, 102, 114, 111, 122, 101, 110, 95, 105, 109, 112, 111, 114, 116, 108, 105, 98, 46, 66, 117, 105, 108, 116, 105, 110, 73, 109, 112, 111, 114, 116, 101, 114, 46, 102, 105, 110, 100, 95, 115, 112, 101, 99, 35, 111, 112, 97, 113, 117, 101, 6, 194, 13, 99, 114, 101, 97, 116, 101, 95, 109, 111, 100, 117, 108, 101, 9, 54, 95, 102, 114, 111, 122, 101, 110, 95, 105, 109, 112, 111, 114, 116, 108, 105, 98, 46, 66, 117, 105, 108, 116, 105, 110, 73, 109, 112, 111, 114, 116, 101, 114, 46, 99, 114, 101, 97, 116, 101, 95, 109, 111, 100, 117, 108, 101, 35, 111, 112, 97, 113, 117, 101, 6, 195, 11, 101, 120, 101, 99, 95, 109, 111, 100, 117, 108, 101, 9, 52, 95, 102, 114, 111, 122, 101, 110, 95, 105, 109, 112, 111, 114, 116, 108, 105, 98, 46, 66, 117, 105, 108, 116, 105, 110, 73, 109, 112, 111, 114, 116, 101, 114, 46, 101, 120, 101, 99, 95, 109, 111, 100, 117, 108, 101, 35, 111, 112, 97, 113, 117, 101, 6, 196, 8, 103, 101, 116, 95, 99, 111, 100, 101, 9, 49, 95, 102, 114, 111, 122, 101, 110, 95, 105, 109, 112, 111, 114, 116, 108, 105, 98, 46, 66, 117, 105, 108, 116, 105, 110, 73, 109, 112, 111, 114, 116, 101, 114, 46, 103, 101, 116, 95, 99, 111, 100, 101, 35, 111, 112, 97, 113, 117, 101, 6, 197, 10, 103, 101, 116, 95, 115, 111, 117, 114, 99, 101, 9, 51, 95, 102, 114, 111, 122, 101, 110, 95, 105, 109, 112, 111, 114, 116, 108, 105, 98, 46, 66, 117, 105, 108, 116, 105, 110, 73, 109, 112, 111, 114, 116, 101, 114, 46, 103, 101, 116, 95, 115, 111, 117, 114, 99, 101, 35, 111, 112, 97, 113, 117, 101, 6, 198, 10, 105, 115, 95, 112, 97, 99, 107, 97, 103, 101, 9, 51, 95, 102, 114, 111, 122, 101, 110, 95, 105, 109, 112, 111, 114, 116, 108, 105, 98, 46, 66, 117, 105, 108, 116, 105, 110, 73, 109, 112, 111, 114, 116, 101, 114, 46, 105, 115, 95, 112, 97, 99, 107, 97, 103, 101, 35, 111, 112, 97, 113, 117, 101, 6, 199, 11, 108, 111, 97, 100, 95, 109, 111, 100, 117, 108, 101, 9, 52, 95, 102, 114, 111, 122, 101, 110, 95, 105, 109, 112, 111, 114, 116, 108, 105, 98, 46, 66, 117, 105, 108, 116, 105, 110, 73, 109, 112, 111, 114, 116, 101, 114, 46, 108, 111, 97, 100, 95, 109, 111, 100, 117, 108, 101, 35, 111, 112, 97, 113, 117, 101, 6, 200, 21, 95, 95, 115, 116, 97, 116, 105, 99, 95, 97, 116, 116, 114, 105, 98, 117, 116, 101, 115, 95, 95, 4, 0, 0, 15, 6, 202, 8, 95, 95, 100, 105, 99, 116, 95, 95, 4, 0, 0, 16, 6, 204, 11, 95, 95, 119, 101, 97, 107, 114, 101, 102, 95, 95, 4, 0, 0, 17] } : Str) 0, Value.bool true, Value.bool true, Value.str (Str.ofString "") 205, Value.int 21 0, Value.str ({ cps := #[6, 227, 10, 95, 95, 109, 111, 100, 117, 108, 101, 95, 95, 6, 217, 17, 95, 102, 114, 111, 122, 101, 110, 95, 105, 109, 112, 111, 114, 116, 108, 105, 98, 6, 228, 15, 95, 95, 102, 105, 114, 115, 116, 108, 105, 110, 101, 110, 111, 95, 95, 4, 218, 0, 562, 6, 229, 7, 95, 95, 100, 111, 99, 95, 95, 9, 47, 95, 102, 114, 111, 122, 101, 110, 95, 105, 109, 112, 111, 114, 116, 108, 105, 98, 46, 77, 111, 100, 117, 108, 101, 83, 112, 101, 99, 46, 95, 95, 100, 111, 99, 95, 95, 58, 115, 116, 114, 35, 111, 112, 97, 113, 117, 101, 6, 230, 8, 95, 95, 105, 110, 105, 116, 95, 95, 9, 44, 95, 102, 114, 111, 122, 101, 110, 95, 105, 109, 112, 111, 114, 116, 108, 105, 98, 46, 77, 111, 100, 117, 108, 101, 83, 112, 101, 99, 46, 95, 95, 105, 110, 105, 116, 95, 95, 35, 111, 112, 97, 113, 117, 101, 6, 231, 8, 95, 95, 114, 101, 112, 114, 95, 95, 9, 44, 95, 102, 114, 111, 122, 101, 110, 95, 105, 109, 112, 111, 114, 116, 108, 105, 98, 46, 77, 111, 100, 117, 108, 101, 83, 112, 101, 99, 46, 95, 95, 114, 101, 112, 114, 95, 95, 35, 111, 112, 97, 113, 117, 101, 6, 232, 6, 95, 95, 101, 113, 95, 95, 9, 42, 95, 102, 114, 111, 122, 101, 110, 95, 105, 109, 112, 111, 114, 116, 108, 105, 98, 46, 77, 111, 100, 117, 108, 101, 83, 112, 101, 99, 46, 95, 95, 101, 113, 95, 95, 35, 111, 112, 97, 113, 117, 101, 6, 233, 6, 99, 97, 99, 104, 101, 100, 9, 42, 95, 102, 114, 111, 122, 101, 110, 95, 105, 109, 112, 111, 114, 116, 108, 105, 98, 46, 77, 111, 100, 117, 108, 101, 83, 112, 101, 99, 46, 99, 97, 99, 104, 101, 100, 35, 111, 112, 97, 113, 117, 101, 6, 234, 6, 112, 97, 114, 101, 110, 116, 9, 42, 95, 102, 114, 111, 122, 101, 110, 95, 105, 109, 112, 111, 114, 116, 108, 105, 98, 46, 77, 111, 100, 117, 108, 101, 83, 112, 101, 99, 46, 112, 97, 114, 101, 110, 116, 35, 111, 112, 97, 113, 117, 101, 6, 235, 12, 104, 97, 115, 95, 108, 111, 99, 97, 116, 105, 111, 110, 9, 48, 95, 102, 114, 111, 122, 101, 110, 95, 105, 109, 112, 111, 114, 116, 108, 105, 98, 46, 77, 111, 100, 117, 108, 101, 83, 112, 101, 99, 46, 104, 97, 115, 95, 108, 111, 99, 97, 116, 105, 111, 110, 35, 111, 112, 97, 113, 117, 101, 6, 236, 21, 95, 95, 115, 116, 97, 116, 105, 99, 95, 97, 116, 116, 114, 105, 98, 117, 116, 101, 115, 95, 95, 4, 0, 0, 23, 6, 238, 8, 95, 95, 100, 105, 99, 116, 95, 95, 4, 0, 0, 24, 6, 240, 11, 95, 95, 119, 101, 97, 107, 114, 101, 102, 95, 95, 4, 0, 0, 25, 6, 241, 8, 95, 95, 104, 97, 115, 104, 95, 95, 0] } : Str) 0, Value.bool true, Value.bool true, Value.str (Str.ofString "") 242] 1 }
noncomputable abbrev z19_0 (P : Params) : Obj := { cls := Value.type "list", data := Data.seq #[] }
noncomputable abbrev z20_0 (P : Params) : Obj := { cls := Value.type "dict", data := Data.dict #[{ hash := PyData.keyHash P (Str.ofString "name"), key := Value.str (Str.ofString "name") 208, val := Value.str (Str.ofString "_sre") 207 }, { hash := PyData.keyHash P (Str.ofString "loader"), key := Value.str (Str.ofString "loader") 209, val := Value.ref 14 }, { hash := PyData.keyHash P (Str.ofString "origin"), key := Value.str (Str.ofString "origin") 210, val := Value.str (Str.ofString "built-in") 184 }, { hash := PyData.keyHash P (Str.ofString "loader_state"), key := Value.str (Str.ofString "loader_state") 211, val := Value.none }, { hash := PyData.keyHash P (Str.ofString "submodule_search_locations"), key := Value.str (Str.ofString "submodule_search_locations") 212, val := Value.none }, { hash := PyData.keyHash P (Str.ofString "_uninitialized_submodules"), key := Value.str (Str.ofString "_uninitialized_submodules") 213, val := Value.ref 19 }, { hash := PyData.keyHash P (Str.ofString "_set_fileattr"), key := Value.str (Str.ofString "_set_fileattr") 214, val := Value.bool false }, { hash := PyData.keyHash P (Str.ofString "_cached"), key := Value.str (Str.ofString "_cached") 215, val := Value.none }, { hash := PyData.keyHash P (Str.ofString "_initializing"), key := Value.str (Str.ofString "_initializing") 243, val := Value.bool false }] 9 }
noncomputable abbrev z21_0 (P : Params) : Obj := { cls := Value.type "dict", data := Data.dict #[{ hash := PyData.keyHash P (Str.ofString "__module__"), key := Value.str (Str.ofString "__module__") 227, val := Value.str (Str.ofString "_frozen_importlib") 217 }, { hash := PyData.keyHash P (Str.ofString "__firstlineno__"), key := Value.str (Str.ofString "__firstlineno__") 228, val := Value.int 562 218 }, { hash := PyData.keyHash P (Str.ofString "__doc__"), key := Value.str (Str.ofString "__doc__") 229, val := Value.builtin "_frozen_importlib.ModuleSpec.__doc__:str#opaque" }, { hash := PyData.keyHash P (Str.ofString "__init__"), key := Value.str (Str.ofString "__init__") 230, val := Value.builtin "_frozen_importlib.ModuleSpec.__init__#opaque" }, { hash := PyData.keyHash P (Str.ofString "__repr__"), key := Value.str (Str.ofString "__repr__") 231, val := Value.builtin "_frozen_importlib.ModuleSpec.__repr__#opaque" }, { hash := PyData.keyHash P (Str.ofString "__eq__"), key := Value.str (Str.ofString "__eq__") 232, val := Value.builtin "_frozen_importlib.ModuleSpec.__eq__#opaque" }, { hash := PyData.keyHash P (Str.ofString "cached"), key := Value.str (Str.ofString "cached") 233, val := Value.builtin "_frozen_importlib.ModuleSpec.cached#opaque" }, { hash := PyData.keyHash P (Str.ofString "parent"), key := Value.str (Str.ofString "parent") 234, val := Value.builtin "_frozen_importlib.ModuleSpec.parent#opaque" }, { hash := PyData.keyHash P (Str.ofString "has_location"), key := Value.str (Str.ofString "has_location") 235, val := Value.builtin "_frozen_importlib.ModuleSpec.has_location#opaque" }, { hash := PyData.keyHash P (Str.ofString "__static_attributes__"), key := Value.str (Str.ofString "__static_attributes__") 236, val := Value.ref 23 }, { hash := PyData.keyHash P (Str.ofString "__dict__"), key := Value.str (Str.ofString "__dict__") 238, val := Value.ref 24 }, { hash := PyData.keyHash P (Str.ofString "__weakref__"), key := Value.str (Str.ofString "__weakref__") 240, val := Value.ref 25 }, { hash := PyData.keyHash P (Str.ofString "__hash__"), key := Value.str (Str.ofString "__hash__") 241, val := Value.none }] 13 }
noncomputable abbrev z22_0 (P : Params) : Obj := { cls := Value.type "type", data := Data.cls { name := Str.ofString "ModuleSpec", bases := [Value.type "object"], mro := [Value.ref 22, Value.type "object"], ns := 21, qualname := Str.ofString "ModuleSpec" } }
noncomputable abbrev z23_0 (P : Params) : Obj := { cls := Value.type "tuple", data := Data.seq #[Value.str (Str.ofString "_cached") 219, Value.str (Str.ofString "_set_fileattr") 220, Value.str (Str.ofString "_uninitialized_submodules") 221, Value.str (Str.ofString "loader") 222, Value.str (Str.ofString "loader_state") 223, Value.str (Str.ofString "name") 224, Value.str (Str.ofString "origin") 225, Value.str (Str.ofString "submodule_search_locations") 226] }
noncomputable abbrev z24_0 (P : Params) : Obj := { cls := Value.type "getset_descriptor", data := Data.fields #[Value.str (Str.ofString "__dict__") 237, Value.ref 22, Value.builtin "function.__dict__", Value.builtin "function.__dict__#set"] }
noncomputable abbrev z25_0 (P : Params) : Obj := { cls := Value.type "getset_descriptor", data := Data.fields #[Value.str (Str.ofString "__weakref__") 239, Value.ref 22, Value.builtin "ExceptionGroup.__weakref__", Value.none] }
noncomputable abbrev z26_0 (P : Params) : Obj := { cls := Value.ref 22, dict := some 20 }
noncomputable abbrev z27_0 (P : Params) : Obj := { cls := Value.none, data := Data.seq #[Value.int 11 0, Value.str { cps := #[6, 247, 8, 95, 95, 110, 97, 109, 101, 95, 95, 6, 246, 4, 95, 115, 114, 101, 6, 248, 7, 95, 95, 100, 111, 99, 95, 95, 0, 6, 250, 11, 95, 95, 112, 97, 99, 107, 97, 103, 101, 95, 95, 6, 249, 0, 6, 251, 10, 95, 95, 108, 111, 97, 100, 101, 114, 95, 95, 4, 0, 0, 14, 6, 252, 8, 95, 95, 115, 112, 101, 99, 95, 95, 4, 0, 0, 26, 6, 253, 7, 99, 111, 109, 112, 105, 108, 101, 9, 12, 95, 115, 114, 101, 46, 99, 111, 109, 112, 105, 108, 101, 6, 254, 8, 116, 101, 109, 112, 108, 97, 116, 101, 9, 13, 95, 115, 114, 101, 46, 116, 101, 109, 112, 108, 97, 116, 101, 6, 255, 11, 103, 101, 116, 99, 111, 100, 101, 115, 105, 122, 101, 9, 16, 95, 115, 114, 101, 46, 103, 101, 116, 99, 111, 100, 101, 115, 105, 122, 101, 6, 256, 13, 97, 115, 99, 105, 105, 95, 105, 115, 99, 97, 115, 101, 100, 9, 18, 95, 115, 114, 101, 46, 97, 115, 99, 105, 105, 95, 105, 115, 99, 97, 115, 101, 100, 6, 257, 15, 117, 110, 105, 99, 111, 100, 101, 95, 105, 115, 99, 97, 115, 101, 100, 9, 20, 95, 115, 114, 101, 46, 117, 110, 105, 99, 111, 100, 101, 95, 105, 115, 99, 97, 115, 101, 100, 6, 258, 13, 97, 115, 99, 105, 105, 95, 116, 111, 108, 111, 119, 101, 114, 9, 18, 95, 115, 114, 101, 46, 97, 115, 99, 105, 105, 95, 116, 111, 108, 111, 119, 101, 114, 6, 259, 15, 117, 110, 105, 99, 111, 100, 101, 95, 116, 111, 108, 111, 119, 101, 114, 9, 20, 95, 115, 114, 101, 46, 117, 110, 105, 99, 111, 100, 101, 95, 116, 111, 108, 111, 119, 101, 114, 6, 261, 5, 77, 65, 71, 73, 67, 4, 260, 0, 20230612, 6, 263, 8, 67, 79, 68, 69, 83, 73, 90, 69, 4, 262, 0, 4, 6, 265, 9, 77, 65, 88, 82, 69, 80, 69, 65, 84, 4, 264, 0, 4294967295, 6, 267, 9, 77, 65, 88, 71, 82, 79, 85, 80, 83, 4, 266, 0, 1073741823, 6, 269, 9, 99, 111, 112, 121, 114, 105, 103, 104, 116, 6, 268, 53, 32, 83, 82, 69, 32, 50, 46, 50, 46, 50, 32, 67, 111, 112, 121, 114, 105, 103, 104, 116, 32, 40, 99, 41, 32, 49, 57, 57, 55, 45, 50, 48, 48, 50, 32, 98, 121, 32, 83, 101, 99, 114, 101, 116, 32, 76, 97, 98, 115, 32, 65, 66, 32] } 0, Value.bool true, Value.bool false, Value.str (Str.ofString "_sre") 271] }
noncomputable abbrev z11_1 (P : Params) : Obj := { cls := Value.type "dict", data := Data.dict #[{ hash := PyData.keyHash P (Str.ofString "__name__"), key := Value.str (Str.ofString "__name__") 247, val := Value.str (Str.ofString "_sre") 246 }, { hash := PyData.keyHash P (Str.ofString "__doc__"), key := Value.str (Str.ofString "__doc__") 248, val := Value.none }, { hash := PyData.keyHash P (Str.ofString "__package__"), key := Value.str (Str.ofString "__package__") 250, val := Value.str (Str.ofString "") 249 }, { hash := PyData.keyHash P (Str.ofString "__loader__"), key := Value.str (Str.ofString "__loader__") 251, val := Value.builtin "off-the-table:_sre.__loader__:shared#opaque" }, { hash := PyData.keyHash P (Str.ofString "__spec__"), key := Value.str (Str.ofString "__spec__") 252, val := Value.builtin "off-the-table:_sre.__spec__:shared#opaque" }, { hash := PyData.keyHash P (Str.ofString "compile"), key := Value.str (Str.ofString "compile") 253, val := Value.builtin "_sre.compile" }, { hash := PyData.keyHash P (Str.ofString "template"), key := Value.str (Str.ofString "template") 254, val := Value.builtin "off-the-table:_sre.template:shared#opaque" }, { hash := PyData.keyHash P (Str.ofString "getcodesize"), key := Value.str (Str.ofString "getcodesize") 255, val := Value.builtin "off-the-table:_sre.getcodesize:shared#opaque" }, { hash := PyData.keyHash P (Str.ofString "ascii_iscased"), key := Value.str (Str.ofString "ascii_iscased") 256, val := Value.builtin "off-the-table:_sre.ascii_iscased:shared#opaque" }, { hash := PyData.keyHash P (Str.ofString "unicode_iscased"), key := Value.str (Str.ofString "unicode_iscased") 257, val := Value.builtin "off-the-table:_sre.unicode_iscased:shared#opaque" }, { hash := PyData.keyHash P (Str.ofString "ascii_tolower"), key := Value.str (Str.ofString "ascii_tolower") 258, val := Value.builtin "off-the-table:_sre.ascii_tolower:shared#opaque" }, { hash := PyData.keyHash P (Str.ofString "unicode_tolower"), key := Value.str (Str.ofString "unicode_tolower") 259, val := Value.builtin "off-the-table:_sre.unicode_tolower:shared#opaque" }, { hash := PyData.keyHash P (Str.ofString "MAGIC"), key := Value.str (Str.ofString "MAGIC") 261, val := Value.int 20230612 260 }, { hash := PyData.keyHash P (Str.ofString "CODESIZE"), key := Value.str (Str.ofString "CODESIZE") 263, val := Value.int 4 262 }, { hash := PyData.keyHash P (Str.ofString "MAXREPEAT"), key := Value.str (Str.ofString "MAXREPEAT") 265, val := Value.int 4294967295 264 }, { hash := PyData.keyHash P (Str.ofString "MAXGROUPS"), key := Value.str (Str.ofString "MAXGROUPS") 267, val := Value.int 1073741823 266 }, { hash := PyData.keyHash P (Str.ofString "copyright"), key := Value.str (Str.ofString "copyright") 269, val := Value.str (Str.ofString " SRE 2.2.2 Copyright (c) 1997-2002 by Secret Labs AB ") 268 }] 17 }
noncomputable abbrev z28_0 (P : Params) : Obj := { cls := Value.type "tuple", data := Data.seq #[] }
noncomputable abbrev z29_0 (P : Params) : Obj := { cls := Value.none, data := Data.fields #[] }
noncomputable abbrev z30_0 (P : Params) : Obj := { cls := Value.type "code", data := Data.fields #[Value.str (Str.ofString "<module>") 277, Value.str (Str.ofString "<module>") 278, Value.str (Str.ofString "/claim/cut.py") 279, Value.int 1 0, Value.int 0 0, Value.int 0 0, Value.int 0 0, Value.int 0 0, Value.ref 28, Value.bool false, Value.int 276 0, Value.ref 29, Value.none, Value.none, Value.none, Value.none, Value.int 280 0, Value.int 1 0, Value.str (Str.ofString "/claim/cut.py") 281] }
noncomputable abbrev z31_0 (P : Params) : Obj := { cls := Value.type "frame", slots := #[some (Value.ref 30), some (Value.ref 3), some (Value.ref 3), none, some (Value.str (Str.ofString "__main__") 164), none, some (Value.ref 0)] }
noncomputable abbrev z3_1 (P : Params) : Obj := { cls := Value.type "dict", data := Data.dict #[{ hash := PyData.keyHash P (Str.ofString "__name__"), key := Value.str (Str.ofString "__name__") 165, val := Value.str (Str.ofString "re") 343 }, { hash := PyData.keyHash P (Str.ofString "__doc__"), key := Value.str (Str.ofString "__doc__") 166, val := Value.none }, { hash := PyData.keyHash P (Str.ofString "__package__"), key := Value.str (Str.ofString "__package__") 167, val := Value.none }, { hash := PyData.keyHash P (Str.ofString "__loader__"), key := Value.str (Str.ofString "__loader__") 168, val := Value.builtin "__main__.__loader__#opaque" }, { hash := PyData.keyHash P (Str.ofString "__spec__"), key := Value.str (Str.ofString "__spec__") 169, val := Value.none }, { hash := PyData.keyHash P (Str.ofString "__annotations__"), key := Value.str (Str.ofString "__annotations__") 170, val := Value.ref 6 }, { hash := PyData.keyHash P (Str.ofString "__builtins__"), key := Value.str (Str.ofString "__builtins__") 171, val := Value.ref 4 }, { hash := PyData.keyHash P (Str.ofString "__file__"), key := Value.str (Str.ofString "__file__") 173, val := Value.str (Str.ofString "/claim/cut.py") 172 }, { hash := PyData.keyHash P (Str.ofString "__cached__"), key := Value.str (Str.ofString "__cached__") 174, val := Value.none }, { hash := PyData.keyHash P (Str.ofString "_sre"), key := Value.str (Str.ofString "_sre") 275, val := Value.ref 12 }, { hash := PyData.keyHash P (Str.ofString "Int2AP"), key := Value.str (Str.ofString "Int2AP") 293, val := Value.ref 38 }, { hash := PyData.keyHash P (Str.ofString "_twin_re_1"), key := Value.str (Str.ofString "_twin_re_1") 333, val := Value.ref 43 }, { hash := PyData.keyHash P (Str.ofString "translate"), key := Value.str (Str.ofString "translate") 342, val := Value.ref 50 }] 13 }
noncomputable abbrev z29_1 (P : Params) : Obj := { cls := Value.none, data := Data.fields #[Value.int 3 0, Value.int 0 0, Value.ref 37, Value.int 13 0, Value.int 0 0, Value.ref 49] }
noncomputable abbrev z32_0 (P : Params) : Obj := { cls := Value.type "tuple", data := Data.seq #[] }
noncomputable abbrev z33_0 (P : Params) : Obj := { cls := Value.none, data := Data.fields #[] }
noncomputable abbrev z34_0 (P : Params) : Obj := { cls := Value.type "tuple", data := Data.seq #[Value.str (Str.ofString "num") 287, Value.str (Str.ofString "val") 288, Value.str (Str.ofString "AP") 289, Value.str (Str.ofString "mod") 290] }
noncomputable abbrev z35_0 (P : Params) : Obj := { cls := Value.type "tuple", data := Data.seq #[] }
noncomputable abbrev z36_0 (P : Params) : Obj := { cls := Value.none, data := Data.func { name := Str.ofString "Int2AP", qualname := Str.ofString "Int2AP", params := fd2.1, body := FuncBody.stmts (fd2.2.1), scope := fd2.2.2, globals := 0, closure := [], defaults := Value.none, kwdefaults := Value.none } }
noncomputable abbrev z37_0 (P : Params) : Obj := { cls := Value.type "code", data := Data.fields #[Value.str (Str.ofString "Int2AP") 284, Value.str (Str.ofString "Int2AP") 285, Value.str (Str.ofString "/claim/cut.py") 286, Value.int 3 0, Value.int 1 0, Value.int 0 0, Value.int 0 0, Value.int 3 0, Value.ref 32, Value.bool true, Value.int 276 0, Value.ref 33, Value.none, Value.ref 34, Value.ref 35, Value.ref 36, Value.int 291 0, Value.int 3 0, Value.str (Str.ofString "/claim/cut.py") 292] }
noncomputable abbrev z38_0 (P : Params) : Obj := { cls := Value.type "function", data := Data.func { name := Str.ofString "Int2AP", qualname := Str.ofString "Int2AP", params := fd2.1, body := FuncBody.stmts (fd2.2.1), scope := fd2.2.2, globals := 3, closure := [], defaults := Value.none, kwdefaults := Value.none, pyModule := Value.str (Str.ofString "cpy313.imaplib") 282, code := Value.ref 37 } }
noncomputable abbrev z39_0 (P : Params) : Obj := { cls := Value.type "list", data := Data.seq #[Value.int 14 299, Value.int 14 300, Value.int 4 301, Value.int 1 302, Value.int 1 303, Value.int 9 304, Value.int 0 305, Value.int 64 306, Value.int 0 307, Value.int 1342177280 308, Value.int 0 309, Value.int 0 310, Value.int 0 311, Value.int 0 312, Value.int 0 313, Value.int 17 314, Value.int 0 315, Value.int 13 316, Value.int 11 317, Value.int 9 318, Value.int 0 319, Value.int 64 320, Value.int 0 321, Value.int 1342177280 322, Value.int 0 323, Value.int 0 324, Value.int 0 325, Value.int 0 326, Value.int 0 327, Value.int 17 328, Value.int 1 329, Value.int 1 330] }
noncomputable abbrev z40_0 (P : Params) : Obj := { cls := Value.type "dict", data := Data.dict #[] }
noncomputable abbrev z41_0 (P : Params) : Obj := { cls := Value.type "tuple", data := Data.seq #[Value.none, Value.none] }
noncomputable abbrev z42_0 (P : Params) : Obj := { cls := Value.type "tuple", data := Data.seq #[Value.int 14 0, Value.int 14 0, Value.int 4 0, Value.int 1 0, Value.int 1 0, Value.int 9 0, Value.int 0 0, Value.int 64 0, Value.int 0 0, Value.int 1342177280 0, Value.int 0 0, Value.int 0 0, Value.int 0 0, Value.int 0 0, Value.int 0 0, Value.int 17 0, Value.int 0 0, Value.int 13 0, Value.int 11 0, Value.int 9 0, Value.int 0 0, Value.int 64 0, Value.int 0 0, Value.int 1342177280 0, Value.int 0 0, Value.int 0 0, Value.int 0 0, Value.int 0 0, Value.int 0 0, Value.int 17 0, Value.int 1 0, Value.int 1 0] }
noncomputable abbrev z43_0 (P : Params) : Obj := { cls := Value.type "re.Pattern", data := Data.fields #[Value.str (Str.ofString "([&~|])") 297, Value.int 32 332, Value.int 1 0, Value.none, Value.none, Value.ref 42, Value.int 0 0] }
noncomputable abbrev z44_0 (P : Params) : Obj := { cls := Value.type "tuple", data := Data.seq #[] }
noncomputable abbrev z45_0 (P : Params) : Obj := { cls := Value.none, data := Data.fields #[] }
noncomputable abbrev z46_0 (P : Params) : Obj := { cls := Value.type "tuple", data := Data.seq #[Value.str (Str.ofString "pat") 337, Value.str (Str.ofString "STAR") 338, Value.str (Str.ofString "parts") 339] }
noncomputable abbrev z47_0 (P : Params) : Obj := { cls := Value.type "tuple", data := Data.seq #[] }
noncomputable abbrev z48_0 (P : Params) : Obj := { cls := Value.none, data := Data.func { name := Str.ofString "translate", qualname := Str.ofString "translate", params := fd5.1, body := FuncBody.stmts (fd5.2.1), scope := fd5.2.2, globals := 0, closure := [], defaults := Value.none, kwdefaults := Value.none } }
noncomputable abbrev z49_0 (P : Params) : Obj := { cls := Value.type "code", data := Data.fields #[Value.str (Str.ofString "translate") 334, Value.str (Str.ofString "translate") 335, Value.str (Str.ofString "/claim/cut.py") 336, Value.int 13 0, Value.int 1 0, Value.int 0 0, Value.int 0 0, Value.int 3 0, Value.ref 44, Value.bool true, Value.int 276 0, Value.ref 45, Value.none, Value.ref 46, Value.ref 47, Value.ref 48, Value.int 340 0, Value.int 13 0, Value.str (Str.ofString "/claim/cut.py") 341] }
noncomputable abbrev z50_0 (P : Params) : Obj := { cls := Value.type "function", data := Data.func { name := Str.ofString "translate", qualname := Str.ofString "translate", params := fd5.1, body := FuncBody.stmts (fd5.2.1), scope := fd5.2.2, globals := 3, closure := [], defaults := Value.none, kwdefaults := Value.none, pyModule := Value.str (Str.ofString "cpy313.fnmatch") 294, code := Value.ref 49 } }
noncomputable abbrev z3_2 (P : Params) : Obj := { cls := Value.type "dict", data := Data.dict #[{ hash := PyData.keyHash P (Str.ofString "__name__"), key := Value.str (Str.ofString "__name__") 165, val := Value.str (Str.ofString "law_in0242_01") 548 }, { hash := PyData.keyHash P (Str.ofString "__doc__"), key := Value.str (Str.ofString "__doc__") 166, val := Value.none }, { hash := PyData.keyHash P (Str.ofString "__package__"), key := Value.str (Str.ofString "__package__") 167, val := Value.none }, { hash := PyData.keyHash P (Str.ofString "__loader__"), key := Value.str (Str.ofString "__loader__") 168, val := Value.builtin "__main__.__loader__#opaque" }, { hash := PyData.keyHash P (Str.ofString "__spec__"), key := Value.str (Str.ofString "__spec__") 169, val := Value.none }, { hash := PyData.keyHash P (Str.ofString "__annotations__"), key := Value.str (Str.ofString "__annotations__") 170, val := Value.ref 6 }, { hash := PyData.keyHash P (Str.ofString "__builtins__"), key := Value.str (Str.ofString "__builtins__") 171, val := Value.ref 4 }, { hash := PyData.keyHash P (Str.ofString "__file__"), key := Value.str (Str.ofString "__file__") 173, val := Value.str (Str.ofString "/claim/cut.py") 172 }, { hash := PyData.keyHash P (Str.ofString "__cached__"), key := Value.str (Str.ofString "__cached__") 174, val := Value.none }, { hash := PyData.keyHash P (Str.ofString "_sre"), key := Value.str (Str.ofString "_sre") 275, val := Value.ref 12 }, { hash := PyData.keyHash P (Str.ofString "Int2AP"), key := Value.str (Str.ofString "Int2AP") 293, val := Value.ref 38 }, { hash := PyData.keyHash P (Str.ofString "_twin_re_1"), key := Value.str (Str.ofString "_twin_re_1") 333, val := Value.ref 43 }, { hash := PyData.keyHash P (Str.ofString "translate"), key := Value.str (Str.ofString "translate") 342, val := Value.ref 50 }, { hash := PyData.keyHash P (Str.ofString "_special_chars_map"), key := Value.str (Str.ofString "_special_chars_map") 490, val := Value.ref 52 }, { hash := PyData.keyHash P (Str.ofString "escape"), key := Value.str (Str.ofString "escape") 497, val := Value.ref 62 }, { hash := PyData.keyHash P (Str.ofString "_translate"), key := Value.str (Str.ofString "_translate") 518, val := Value.ref 69 }, { hash := PyData.keyHash P (Str.ofString "_join_translated_parts"), key := Value.str (Str.ofString "_join_translated_parts") 531, val := Value.ref 76 }, { hash := PyData.keyHash P (Str.ofString "sorted_list_difference"), key := Value.str (Str.ofString "sorted_list_difference") 547, val := Value.ref 83 }, { hash := PyData.keyHash P (Str.ofString "_law_word"), key := Value.str (Str.ofString "_law_word") 555, val := Value.ref 88 }, { hash := PyData.keyHash P (Str.ofString "_law_read"), key := Value.str (Str.ofString "_law_read") 564, val := Value.ref 95 }, { hash := PyData.keyHash P (Str.ofString "_law_rows"), key := Value.str (Str.ofString "_law_rows") 573, val := Value.ref 102 }, { hash := PyData.keyHash P (Str.ofString "_law_text"), key := Value.str (Str.ofString "_law_text") 580, val := Value.ref 109 }, { hash := PyData.keyHash P (Str.ofString "_law_takes"), key := Value.str (Str.ofString "_law_takes") 591, val := Value.ref 116 }, { hash := PyData.keyHash P (Str.ofString "_law_rounds"), key := Value.str (Str.ofString "_law_rounds") 597, val := Value.ref 121 }, { hash := PyData.keyHash P (Str.ofString "_law_sum"), key := Value.str (Str.ofString "_law_sum") 605, val := Value.ref 128 }, { hash := PyData.keyHash P (Str.ofString "_law_below"), key := Value.str (Str.ofString "_law_below") 613, val := Value.ref 135 }, { hash := PyData.keyHash P (Str.ofString "_law_levels"), key := Value.str (Str.ofString "_law_levels") 619, val := Value.ref 140 }, { hash := PyData.keyHash P (Str.ofString "law"), key := Value.str (Str.ofString "law") 625, val := Value.ref 145 }] 28 }
noncomputable abbrev z29_2 (P : Params) : Obj := { cls := Value.none, data := Data.fields #[Value.int 3 0, Value.int 0 0, Value.ref 37, Value.int 13 0, Value.int 0 0, Value.ref 49, Value.int 19 0, Value.int 0 0, Value.ref 61, Value.int 26 0, Value.int 0 0, Value.ref 68, Value.int 88 0, Value.int 0 0, Value.ref 75, Value.int 116 0, Value.int 0 0, Value.ref 82, Value.int 149 0, Value.int 0 0, Value.ref 87, Value.int 151 0, Value.int 0 0, Value.ref 94, Value.int 156 0, Value.int 0 0, Value.ref 101, Value.int 162 0, Value.int 0 0, Value.ref 108, Value.int 164 0, Value.int 0 0, Value.ref 115, Value.int 182 0, Value.int 0 0, Value.ref 120, Value.int 198 0, Value.int 0 0, Value.ref 127, Value.int 204 0, Value.int 0 0, Value.ref 134, Value.int 206 0, Value.int 0 0, Value.ref 139, Value.int 212 0, Value.int 0 0, Value.ref 144] }
noncomputable abbrev z51_0 (P : Params) : Obj := { cls := Value.type "bytes_iterator", data := Data.fields #[Value.none, Value.int 24 0] }
noncomputable abbrev z52_0 (P : Params) : Obj := { cls := Value.type "dict", data := Data.dict #[{ hash := 40, key := Value.int 40 346, val := Value.str (Str.ofString "\\(") 350 }, { hash := 41, key := Value.int 41 352, val := Value.str (Str.ofString "\\)") 356 }, { hash := 91, key := Value.int 91 358, val := Value.str (Str.ofString "\\[") 362 }, { hash := 93, key := Value.int 93 364, val := Value.str (Str.ofString "\\]") 368 }, { hash := 123, key := Value.int 123 370, val := Value.str (Str.ofString "\\{") 374 }, { hash := 125, key := Value.int 125 376, val := Value.str (Str.ofString "\\}") 380 }, { hash := 63, key := Value.int 63 382, val := Value.str (Str.ofString "\\?") 386 }, { hash := 42, key := Value.int 42 388, val := Value.str (Str.ofString "\\*") 392 }, { hash := 43, key := Value.int 43 394, val := Value.str (Str.ofString "\\+") 398 }, { hash := 45, key := Value.int 45 400, val := Value.str (Str.ofString "\\-") 404 }, { hash := 124, key := Value.int 124 406, val := Value.str (Str.ofString "\\|") 410 }, { hash := 94, key := Value.int 94 412, val := Value.str (Str.ofString "\\^") 416 }, { hash := 36, key := Value.int 36 418, val := Value.str (Str.ofString "\\$") 422 }, { hash := 92, key := Value.int 92 424, val := Value.str (Str.ofString "\\\\") 428 }, { hash := 46, key := Value.int 46 430, val := Value.str (Str.ofString "\\.") 434 }, { hash := 38, key := Value.int 38 436, val := Value.str (Str.ofString "\\&") 440 }, { hash := 126, key := Value.int 126 442, val := Value.str (Str.ofString "\\~") 446 }, { hash := 35, key := Value.int 35 448, val := Value.str (Str.ofString "\\#") 452 }, { hash := 32, key := Value.int 32 454, val := Value.str (Str.ofString "\\ ") 458 }, { hash := 9, key := Value.int 9 460, val := Value.str (Str.ofString "\\\t") 464 }, { hash := 10, key := Value.int 10 466, val := Value.str (Str.ofString "\\\n") 470 }, { hash := 13, key := Value.int 13 472, val := Value.str (Str.ofString "\\\x0d") 476 }, { hash := 11, key := Value.int 11 478, val := Value.str (Str.ofString "\\\x0b") 482 }, { hash := 12, key := Value.int 12 484, val := Value.str (Str.ofString "\\\x0c") 488 }] 24 }
noncomputable abbrev z53_0 (P : Params) : Obj := { cls := Value.type "dict", data := Data.dict #[] 2 }
noncomputable abbrev z54_0 (P : Params) : Obj := { cls := Value.type "tuple", data := Data.seq #[] }
noncomputable abbrev z55_0 (P : Params) : Obj := { cls := Value.type "StopIteration", data := Data.fields #[Value.ref 54, Value.none, Value.none, Value.none, Value.bool false, Value.none] }
noncomputable abbrev z56_0 (P : Params) : Obj := { cls := Value.type "tuple", data := Data.seq #[] }
noncomputable abbrev z57_0 (P : Params) : Obj := { cls := Value.none, data := Data.fields #[] }
noncomputable abbrev z58_0 (P : Params) : Obj := { cls := Value.type "tuple", data := Data.seq #[Value.str (Str.ofString "pattern") 494] }
noncomputable abbrev z59_0 (P : Params) : Obj := { cls := Value.type "tuple", data := Data.seq #[] }
noncomputable abbrev z60_0 (P : Params) : Obj := { cls := Value.none, data := Data.func { name := Str.ofString "escape", qualname := Str.ofString "escape", params := fd8.1, body := FuncBody.stmts (fd8.2.1), scope := fd8.2.2, globals := 0, closure := [], defaults := Value.none, kwdefaults := Value.none } }
noncomputable abbrev z61_0 (P : Params) : Obj := { cls := Value.type "code", data := Data.fields #[Value.str (Str.ofString "escape") 491, Value.str (Str.ofString "escape") 492, Value.str (Str.ofString "/claim/cut.py") 493, Value.int 19 0, Value.int 1 0, Value.int 0 0, Value.int 0 0, Value.int 3 0, Value.ref 56, Value.bool true, Value.int 276 0, Value.ref 57, Value.none, Value.ref 58, Value.ref 59, Value.ref 60, Value.int 495 0, Value.int 19 0, Value.str (Str.ofString "/claim/cut.py") 496] }
noncomputable abbrev z62_0 (P : Params) : Obj := { cls := Value.type "function", data := Data.func { name := Str.ofString "escape", qualname := Str.ofString "escape", params := fd8.1, body := FuncBody.stmts (fd8.2.1), scope := fd8.2.2, globals := 3, closure := [], defaults := Value.none, kwdefaults := Value.none, pyModule := Value.str (Str.ofString "re") 343, code := Value.ref 61 } }
noncomputable abbrev z63_0 (P : Params) : Obj := { cls := Value.type "tuple", data := Data.seq #[] }
noncomputable abbrev z64_0 (P : Params) : Obj := { cls := Value.none, data := Data.fields #[] }
noncomputable abbrev z65_0 (P : Params) : Obj := { cls := Value.type "tuple", data := Data.seq #[Value.str (Str.ofString "pat") 503, Value.str (Str.ofString "STAR") 504, Value.str (Str.ofString "QUESTION_MARK") 505, Value.str (Str.ofString "res") 506, Value.str (Str.ofString "add") 507, Value.str (Str.ofString "i") 508, Value.str (Str.ofString "n") 509, Value.str (Str.ofString "c") 510, Value.str (Str.ofString "j") 511, Value.str (Str.ofString "stuff") 512, Value.str (Str.ofString "chunks") 513, Value.str (Str.ofString "k") 514, Value.str (Str.ofString "chunk") 515] }
noncomputable abbrev z66_0 (P : Params) : Obj := { cls := Value.type "tuple", data := Data.seq #[] }
noncomputable abbrev z67_0 (P : Params) : Obj := { cls := Value.none, data := Data.func { name := Str.ofString "_translate", qualname := Str.ofString "_translate", params := fd10.1, body := FuncBody.stmts (fd10.2.1), scope := fd10.2.2, globals := 0, closure := [], defaults := Value.none, kwdefaults := Value.none } }
noncomputable abbrev z68_0 (P : Params) : Obj := { cls := Value.type "code", data := Data.fields #[Value.str (Str.ofString "_translate") 500, Value.str (Str.ofString "_translate") 501, Value.str (Str.ofString "/claim/cut.py") 502, Value.int 26 0, Value.int 3 0, Value.int 0 0, Value.int 0 0, Value.int 3 0, Value.ref 63, Value.bool true, Value.int 276 0, Value.ref 64, Value.none, Value.ref 65, Value.ref 66, Value.ref 67, Value.int 516 0, Value.int 26 0, Value.str (Str.ofString "/claim/cut.py") 517] }
noncomputable abbrev z69_0 (P : Params) : Obj := { cls := Value.type "function", data := Data.func { name := Str.ofString "_translate", qualname := Str.ofString "_translate", params := fd10.1, body := FuncBody.stmts (fd10.2.1), scope := fd10.2.2, globals := 3, closure := [], defaults := Value.none, kwdefaults := Value.none, pyModule := Value.str (Str.ofString "cpy313.fnmatch") 498, code := Value.ref 68 } }
noncomputable abbrev z70_0 (P : Params) : Obj := { cls := Value.type "tuple", data := Data.seq #[] }
noncomputable abbrev z71_0 (P : Params) : Obj := { cls := Value.none, data := Data.fields #[] }
noncomputable abbrev z72_0 (P : Params) : Obj := { cls := Value.type "tuple", data := Data.seq #[Value.str (Str.ofString "inp") 522, Value.str (Str.ofString "STAR") 523, Value.str (Str.ofString "res") 524, Value.str (Str.ofString "add") 525, Value.str (Str.ofString "i") 526, Value.str (Str.ofString "n") 527, Value.str (Str.ofString "fixed") 528] }
noncomputable abbrev z73_0 (P : Params) : Obj := { cls := Value.type "tuple", data := Data.seq #[] }
noncomputable abbrev z74_0 (P : Params) : Obj := { cls := Value.none, data := Data.func { name := Str.ofString "_join_translated_parts", qualname := Str.ofString "_join_translated_parts", params := fd11.1, body := FuncBody.stmts (fd11.2.1), scope := fd11.2.2, globals := 0, closure := [], defaults := Value.none, kwdefaults := Value.none } }
noncomputable abbrev z75_0 (P : Params) : Obj := { cls := Value.type "code", data := Data.fields #[Value.str (Str.ofString "_join_translated_parts") 519, Value.str (Str.ofString "_join_translated_parts") 520, Value.str (Str.ofString "/claim/cut.py") 521, Value.int 88 0, Value.int 2 0, Value.int 0 0, Value.int 0 0, Value.int 3 0, Value.ref 70, Value.bool true, Value.int 276 0, Value.ref 71, Value.none, Value.ref 72, Value.ref 73, Value.ref 74, Value.int 529 0, Value.int 88 0, Value.str (Str.ofString "/claim/cut.py") 530] }
noncomputable abbrev z76_0 (P : Params) : Obj := { cls := Value.type "function", data := Data.func { name := Str.ofString "_join_translated_parts", qualname := Str.ofString "_join_translated_parts", params := fd11.1, body := FuncBody.stmts (fd11.2.1), scope := fd11.2.2, globals := 3, closure := [], defaults := Value.none, kwdefaults := Value.none, pyModule := Value.str (Str.ofString "cpy313.fnmatch") 498, code := Value.ref 75 } }
noncomputable abbrev z77_0 (P : Params) : Obj := { cls := Value.type "tuple", data := Data.seq #[] }
noncomputable abbrev z78_0 (P : Params) : Obj := { cls := Value.none, data := Data.fields #[] }
noncomputable abbrev z79_0 (P : Params) : Obj := { cls := Value.type "tuple", data := Data.seq #[Value.str (Str.ofString "expected") 537, Value.str (Str.ofString "actual") 538, Value.str (Str.ofString "i") 539, Value.str (Str.ofString "j") 540, Value.str (Str.ofString "missing") 541, Value.str (Str.ofString "unexpected") 542, Value.str (Str.ofString "e") 543, Value.str (Str.ofString "a") 544] }
noncomputable abbrev z80_0 (P : Params) : Obj := { cls := Value.type "tuple", data := Data.seq #[] }
noncomputable abbrev z81_0 (P : Params) : Obj := { cls := Value.none, data := Data.func { name := Str.ofString "sorted_list_difference", qualname := Str.ofString "sorted_list_difference", params := fd13.1, body := FuncBody.stmts (fd13.2.1), scope := fd13.2.2, globals := 0, closure := [], defaults := Value.none, kwdefaults := Value.none } }
noncomputable abbrev z82_0 (P : Params) : Obj := { cls := Value.type "code", data := Data.fields #[Value.str (Str.ofString "sorted_list_difference") 534, Value.str (Str.ofString "sorted_list_difference") 535, Value.str (Str.ofString "/claim/cut.py") 536, Value.int 116 0, Value.int 2 0, Value.int 0 0, Value.int 0 0, Value.int 3 0, Value.ref 77, Value.bool true, Value.int 276 0, Value.ref 78, Value.none, Value.ref 79, Value.ref 80, Value.ref 81, Value.int 545 0, Value.int 116 0, Value.str (Str.ofString "/claim/cut.py") 546] }
noncomputable abbrev z83_0 (P : Params) : Obj := { cls := Value.type "function", data := Data.func { name := Str.ofString "sorted_list_difference", qualname := Str.ofString "sorted_list_difference", params := fd13.1, body := FuncBody.stmts (fd13.2.1), scope := fd13.2.2, globals := 3, closure := [], defaults := Value.none, kwdefaults := Value.none, pyModule := Value.str (Str.ofString "cpy313.unittest.util") 532, code := Value.ref 82 } }
noncomputable abbrev z84_0 (P : Params) : Obj := { cls := Value.type "tuple", data := Data.seq #[] }
noncomputable abbrev z85_0 (P : Params) : Obj := { cls := Value.none, data := Data.fields #[] }
noncomputable abbrev z86_0 (P : Params) : Obj := { cls := Value.none, data := Data.func { name := Str.ofString "_law_word", qualname := Str.ofString "_law_word", params := fd15.1, body := FuncBody.stmts (fd15.2.1), scope := fd15.2.2, globals := 0, closure := [], defaults := Value.none, kwdefaults := Value.none } }
noncomputable abbrev z87_0 (P : Params) : Obj := { cls := Value.type "code", data := Data.fields #[Value.str (Str.ofString "_law_word") 550, Value.str (Str.ofString "_law_word") 551, Value.str (Str.ofString "/claim/cut.py") 552, Value.int 149 0, Value.int 1 0, Value.int 0 0, Value.int 0 0, Value.int 3 0, Value.ref 84, Value.bool true, Value.int 276 0, Value.ref 85, Value.none, Value.none, Value.none, Value.ref 86, Value.int 553 0, Value.int 149 0, Value.str (Str.ofString "/claim/cut.py") 554] }
noncomputable abbrev z88_0 (P : Params) : Obj := { cls := Value.type "function", data := Data.func { name := Str.ofString "_law_word", qualname := Str.ofString "_law_word", params := fd15.1, body := FuncBody.stmts (fd15.2.1), scope := fd15.2.2, globals := 3, closure := [], defaults := Value.none, kwdefaults := Value.none, pyModule := Value.str (Str.ofString "law_in0242_01") 548, code := Value.ref 87 } }
noncomputable abbrev z89_0 (P : Params) : Obj := { cls := Value.type "tuple", data := Data.seq #[] }
noncomputable abbrev z90_0 (P : Params) : Obj := { cls := Value.none, data := Data.fields #[] }
noncomputable abbrev z91_0 (P : Params) : Obj := { cls := Value.type "tuple", data := Data.seq #[Value.str (Str.ofString "word") 559, Value.str (Str.ofString "number") 560, Value.str (Str.ofString "letter") 561] }
noncomputable abbrev z92_0 (P : Params) : Obj := { cls := Value.type "tuple", data := Data.seq #[] }
noncomputable abbrev z93_0 (P : Params) : Obj := { cls := Value.none, data := Data.func { name := Str.ofString "_law_read", qualname := Str.ofString "_law_read", params := fd16.1, body := FuncBody.stmts (fd16.2.1), scope := fd16.2.2, globals := 0, closure := [], defaults := Value.none, kwdefaults := Value.none } }
noncomputable abbrev z94_0 (P : Params) : Obj := { cls := Value.type "code", data := Data.fields #[Value.str (Str.ofString "_law_read") 556, Value.str (Str.ofString "_law_read") 557, Value.str (Str.ofString "/claim/cut.py") 558, Value.int 151 0, Value.int 1 0, Value.int 0 0, Value.int 0 0, Value.int 3 0, Value.ref 89, Value.bool true, Value.int 276 0, Value.ref 90, Value.none, Value.ref 91, Value.ref 92, Value.ref 93, Value.int 562 0, Value.int 151 0, Value.str (Str.ofString "/claim/cut.py") 563] }
noncomputable abbrev z95_0 (P : Params) : Obj := { cls := Value.type "function", data := Data.func { name := Str.ofString "_law_read", qualname := Str.ofString "_law_read", params := fd16.1, body := FuncBody.stmts (fd16.2.1), scope := fd16.2.2, globals := 3, closure := [], defaults := Value.none, kwdefaults := Value.none, pyModule := Value.str (Str.ofString "law_in0242_01") 548, code := Value.ref 94 } }
noncomputable abbrev z96_0 (P : Params) : Obj := { cls := Value.type "tuple", data := Data.seq #[] }
noncomputable abbrev z97_0 (P : Params) : Obj := { cls := Value.none, data := Data.fields #[] }
noncomputable abbrev z98_0 (P : Params) : Obj := { cls := Value.type "tuple", data := Data.seq #[Value.str (Str.ofString "script") 568, Value.str (Str.ofString "rows") 569, Value.str (Str.ofString "x") 570] }
noncomputable abbrev z99_0 (P : Params) : Obj := { cls := Value.type "tuple", data := Data.seq #[] }
noncomputable abbrev z100_0 (P : Params) : Obj := { cls := Value.none, data := Data.func { name := Str.ofString "_law_rows", qualname := Str.ofString "_law_rows", params := fd17.1, body := FuncBody.stmts (fd17.2.1), scope := fd17.2.2, globals := 0, closure := [], defaults := Value.none, kwdefaults := Value.none } }
noncomputable abbrev z101_0 (P : Params) : Obj := { cls := Value.type "code", data := Data.fields #[Value.str (Str.ofString "_law_rows") 565, Value.str (Str.ofString "_law_rows") 566, Value.str (Str.ofString "/claim/cut.py") 567, Value.int 156 0, Value.int 1 0, Value.int 0 0, Value.int 0 0, Value.int 3 0, Value.ref 96, Value.bool true, Value.int 276 0, Value.ref 97, Value.none, Value.ref 98, Value.ref 99, Value.ref 100, Value.int 571 0, Value.int 156 0, Value.str (Str.ofString "/claim/cut.py") 572] }
noncomputable abbrev z102_0 (P : Params) : Obj := { cls := Value.type "function", data := Data.func { name := Str.ofString "_law_rows", qualname := Str.ofString "_law_rows", params := fd17.1, body := FuncBody.stmts (fd17.2.1), scope := fd17.2.2, globals := 3, closure := [], defaults := Value.none, kwdefaults := Value.none, pyModule := Value.str (Str.ofString "law_in0242_01") 548, code := Value.ref 101 } }
noncomputable abbrev z103_0 (P : Params) : Obj := { cls := Value.type "tuple", data := Data.seq #[] }
noncomputable abbrev z104_0 (P : Params) : Obj := { cls := Value.none, data := Data.fields #[] }
noncomputable abbrev z105_0 (P : Params) : Obj := { cls := Value.type "tuple", data := Data.seq #[Value.str (Str.ofString "word") 577] }
noncomputable abbrev z106_0 (P : Params) : Obj := { cls := Value.type "tuple", data := Data.seq #[] }
noncomputable abbrev z107_0 (P : Params) : Obj := { cls := Value.none, data := Data.func { name := Str.ofString "_law_text", qualname := Str.ofString "_law_text", params := fd18.1, body := FuncBody.stmts (fd18.2.1), scope := fd18.2.2, globals := 0, closure := [], defaults := Value.none, kwdefaults := Value.none } }
noncomputable abbrev z108_0 (P : Params) : Obj := { cls := Value.type "code", data := Data.fields #[Value.str (Str.ofString "_law_text") 574, Value.str (Str.ofString "_law_text") 575, Value.str (Str.ofString "/claim/cut.py") 576, Value.int 162 0, Value.int 1 0, Value.int 0 0, Value.int 0 0, Value.int 3 0, Value.ref 103, Value.bool true, Value.int 276 0, Value.ref 104, Value.none, Value.ref 105, Value.ref 106, Value.ref 107, Value.int 578 0, Value.int 162 0, Value.str (Str.ofString "/claim/cut.py") 579] }
noncomputable abbrev z109_0 (P : Params) : Obj := { cls := Value.type "function", data := Data.func { name := Str.ofString "_law_text", qualname := Str.ofString "_law_text", params := fd18.1, body := FuncBody.stmts (fd18.2.1), scope := fd18.2.2, globals := 3, closure := [], defaults := Value.none, kwdefaults := Value.none, pyModule := Value.str (Str.ofString "law_in0242_01") 548, code := Value.ref 108 } }
noncomputable abbrev z110_0 (P : Params) : Obj := { cls := Value.type "tuple", data := Data.seq #[] }
noncomputable abbrev z111_0 (P : Params) : Obj := { cls := Value.none, data := Data.fields #[] }
noncomputable abbrev z112_0 (P : Params) : Obj := { cls := Value.type "tuple", data := Data.seq #[Value.str (Str.ofString "text") 584, Value.str (Str.ofString "word") 585, Value.str (Str.ofString "at") 586, Value.str (Str.ofString "letter") 587, Value.str (Str.ofString "barred") 588] }
noncomputable abbrev z113_0 (P : Params) : Obj := { cls := Value.type "tuple", data := Data.seq #[] }
noncomputable abbrev z114_0 (P : Params) : Obj := { cls := Value.none, data := Data.func { name := Str.ofString "_law_takes", qualname := Str.ofString "_law_takes", params := fd19.1, body := FuncBody.stmts (fd19.2.1), scope := fd19.2.2, globals := 0, closure := [], defaults := Value.none, kwdefaults := Value.none } }
noncomputable abbrev z115_0 (P : Params) : Obj := { cls := Value.type "code", data := Data.fields #[Value.str (Str.ofString "_law_takes") 581, Value.str (Str.ofString "_law_takes") 582, Value.str (Str.ofString "/claim/cut.py") 583, Value.int 164 0, Value.int 2 0, Value.int 0 0, Value.int 0 0, Value.int 3 0, Value.ref 110, Value.bool true, Value.int 276 0, Value.ref 111, Value.none, Value.ref 112, Value.ref 113, Value.ref 114, Value.int 589 0, Value.int 164 0, Value.str (Str.ofString "/claim/cut.py") 590] }
noncomputable abbrev z116_0 (P : Params) : Obj := { cls := Value.type "function", data := Data.func { name := Str.ofString "_law_takes", qualname := Str.ofString "_law_takes", params := fd19.1, body := FuncBody.stmts (fd19.2.1), scope := fd19.2.2, globals := 3, closure := [], defaults := Value.none, kwdefaults := Value.none, pyModule := Value.str (Str.ofString "law_in0242_01") 548, code := Value.ref 115 } }
noncomputable abbrev z117_0 (P : Params) : Obj := { cls := Value.type "tuple", data := Data.seq #[] }
noncomputable abbrev z118_0 (P : Params) : Obj := { cls := Value.none, data := Data.fields #[] }
noncomputable abbrev z119_0 (P : Params) : Obj := { cls := Value.none, data := Data.func { name := Str.ofString "_law_rounds", qualname := Str.ofString "_law_rounds", params := fd20.1, body := FuncBody.stmts (fd20.2.1), scope := fd20.2.2, globals := 0, closure := [], defaults := Value.none, kwdefaults := Value.none } }
noncomputable abbrev z120_0 (P : Params) : Obj := { cls := Value.type "code", data := Data.fields #[Value.str (Str.ofString "_law_rounds") 592, Value.str (Str.ofString "_law_rounds") 593, Value.str (Str.ofString "/claim/cut.py") 594, Value.int 182 0, Value.int 2 0, Value.int 0 0, Value.int 0 0, Value.int 3 0, Value.ref 117, Value.bool true, Value.int 276 0, Value.ref 118, Value.none, Value.none, Value.none, Value.ref 119, Value.int 595 0, Value.int 182 0, Value.str (Str.ofString "/claim/cut.py") 596] }
noncomputable abbrev z121_0 (P : Params) : Obj := { cls := Value.type "function", data := Data.func { name := Str.ofString "_law_rounds", qualname := Str.ofString "_law_rounds", params := fd20.1, body := FuncBody.stmts (fd20.2.1), scope := fd20.2.2, globals := 3, closure := [], defaults := Value.none, kwdefaults := Value.none, pyModule := Value.str (Str.ofString "law_in0242_01") 548, code := Value.ref 120 } }
noncomputable abbrev z122_0 (P : Params) : Obj := { cls := Value.type "tuple", data := Data.seq #[] }
noncomputable abbrev z123_0 (P : Params) : Obj := { cls := Value.none, data := Data.fields #[] }
noncomputable abbrev z124_0 (P : Params) : Obj := { cls := Value.type "tuple", data := Data.seq #[Value.str (Str.ofString "number") 601, Value.str (Str.ofString "due") 602] }
noncomputable abbrev z125_0 (P : Params) : Obj := { cls := Value.type "tuple", data := Data.seq #[] }
noncomputable abbrev z126_0 (P : Params) : Obj := { cls := Value.none, data := Data.func { name := Str.ofString "_law_sum", qualname := Str.ofString "_law_sum", params := fd21.1, body := FuncBody.stmts (fd21.2.1), scope := fd21.2.2, globals := 0, closure := [], defaults := Value.none, kwdefaults := Value.none } }
noncomputable abbrev z127_0 (P : Params) : Obj := { cls := Value.type "code", data := Data.fields #[Value.str (Str.ofString "_law_sum") 598, Value.str (Str.ofString "_law_sum") 599, Value.str (Str.ofString "/claim/cut.py") 600, Value.int 198 0, Value.int 1 0, Value.int 0 0, Value.int 0 0, Value.int 3 0, Value.ref 122, Value.bool true, Value.int 276 0, Value.ref 123, Value.none, Value.ref 124, Value.ref 125, Value.ref 126, Value.int 603 0, Value.int 198 0, Value.str (Str.ofString "/claim/cut.py") 604] }
noncomputable abbrev z128_0 (P : Params) : Obj := { cls := Value.type "function", data := Data.func { name := Str.ofString "_law_sum", qualname := Str.ofString "_law_sum", params := fd21.1, body := FuncBody.stmts (fd21.2.1), scope := fd21.2.2, globals := 3, closure := [], defaults := Value.none, kwdefaults := Value.none, pyModule := Value.str (Str.ofString "law_in0242_01") 548, code := Value.ref 127 } }
noncomputable abbrev z129_0 (P : Params) : Obj := { cls := Value.type "tuple", data := Data.seq #[] }
noncomputable abbrev z130_0 (P : Params) : Obj := { cls := Value.none, data := Data.fields #[] }
noncomputable abbrev z131_0 (P : Params) : Obj := { cls := Value.type "tuple", data := Data.seq #[Value.str (Str.ofString "one") 609, Value.str (Str.ofString "other") 610] }
noncomputable abbrev z132_0 (P : Params) : Obj := { cls := Value.type "tuple", data := Data.seq #[] }
noncomputable abbrev z133_0 (P : Params) : Obj := { cls := Value.none, data := Data.func { name := Str.ofString "_law_below", qualname := Str.ofString "_law_below", params := fd22.1, body := FuncBody.stmts (fd22.2.1), scope := fd22.2.2, globals := 0, closure := [], defaults := Value.none, kwdefaults := Value.none } }
noncomputable abbrev z134_0 (P : Params) : Obj := { cls := Value.type "code", data := Data.fields #[Value.str (Str.ofString "_law_below") 606, Value.str (Str.ofString "_law_below") 607, Value.str (Str.ofString "/claim/cut.py") 608, Value.int 204 0, Value.int 2 0, Value.int 0 0, Value.int 0 0, Value.int 3 0, Value.ref 129, Value.bool true, Value.int 276 0, Value.ref 130, Value.none, Value.ref 131, Value.ref 132, Value.ref 133, Value.int 611 0, Value.int 204 0, Value.str (Str.ofString "/claim/cut.py") 612] }
noncomputable abbrev z135_0 (P : Params) : Obj := { cls := Value.type "function", data := Data.func { name := Str.ofString "_law_below", qualname := Str.ofString "_law_below", params := fd22.1, body := FuncBody.stmts (fd22.2.1), scope := fd22.2.2, globals := 3, closure := [], defaults := Value.none, kwdefaults := Value.none, pyModule := Value.str (Str.ofString "law_in0242_01") 548, code := Value.ref 134 } }
noncomputable abbrev z136_0 (P : Params) : Obj := { cls := Value.type "tuple", data := Data.seq #[] }
noncomputable abbrev z137_0 (P : Params) : Obj := { cls := Value.none, data := Data.fields #[] }
noncomputable abbrev z138_0 (P : Params) : Obj := { cls := Value.none, data := Data.func { name := Str.ofString "_law_levels", qualname := Str.ofString "_law_levels", params := fd23.1, body := FuncBody.stmts (fd23.2.1), scope := fd23.2.2, globals := 0, closure := [], defaults := Value.none, kwdefaults := Value.none } }
noncomputable abbrev z139_0 (P : Params) : Obj := { cls := Value.type "code", data := Data.fields #[Value.str (Str.ofString "_law_levels") 614, Value.str (Str.ofString "_law_levels") 615, Value.str (Str.ofString "/claim/cut.py") 616, Value.int 206 0, Value.int 1 0, Value.int 0 0, Value.int 0 0, Value.int 3 0, Value.ref 136, Value.bool true, Value.int 276 0, Value.ref 137, Value.none, Value.none, Value.none, Value.ref 138, Value.int 617 0, Value.int 206 0, Value.str (Str.ofString "/claim/cut.py") 618] }
noncomputable abbrev z140_0 (P : Params) : Obj := { cls := Value.type "function", data := Data.func { name := Str.ofString "_law_levels", qualname := Str.ofString "_law_levels", params := fd23.1, body := FuncBody.stmts (fd23.2.1), scope := fd23.2.2, globals := 3, closure := [], defaults := Value.none, kwdefaults := Value.none, pyModule := Value.str (Str.ofString "law_in0242_01") 548, code := Value.ref 139 } }
noncomputable abbrev z141_0 (P : Params) : Obj := { cls := Value.type "tuple", data := Data.seq #[] }
noncomputable abbrev z142_0 (P : Params) : Obj := { cls := Value.none, data := Data.fields #[] }
noncomputable abbrev z143_0 (P : Params) : Obj := { cls := Value.none, data := Data.func { name := Str.ofString "law", qualname := Str.ofString "law", params := fd24.1, body := FuncBody.stmts (fd24.2.1), scope := fd24.2.2, globals := 0, closure := [], defaults := Value.none, kwdefaults := Value.none } }
noncomputable abbrev z144_0 (P : Params) : Obj := { cls := Value.type "code", data := Data.fields #[Value.str (Str.ofString "law") 620, Value.str (Str.ofString "law") 621, Value.str (Str.ofString "/claim/cut.py") 622, Value.int 212 0, Value.int 1 0, Value.int 0 0, Value.int 0 0, Value.int 3 0, Value.ref 141, Value.bool true, Value.int 276 0, Value.ref 142, Value.none, Value.none, Value.none, Value.ref 143, Value.int 623 0, Value.int 212 0, Value.str (Str.ofString "/claim/cut.py") 624] }
noncomputable abbrev z145_0 (P : Params) : Obj := { cls := Value.type "function", data := Data.func { name := Str.ofString "law", qualname := Str.ofString "law", params := fd24.1, body := FuncBody.stmts (fd24.2.1), scope := fd24.2.2, globals := 3, closure := [], defaults := Value.none, kwdefaults := Value.none, pyModule := Value.str (Str.ofString "law_in0242_01") 548, code := Value.ref 144 } }
noncomputable abbrev z3_3 (P : Params) : Obj := { cls := Value.type "dict", data := Data.dict #[{ hash := PyData.keyHash P (Str.ofString "__name__"), key := Value.str (Str.ofString "__name__") 165, val := Value.str (Str.ofString "re") 343 }, { hash := PyData.keyHash P (Str.ofString "__doc__"), key := Value.str (Str.ofString "__doc__") 166, val := Value.none }, { hash := PyData.keyHash P (Str.ofString "__package__"), key := Value.str (Str.ofString "__package__") 167, val := Value.none }, { hash := PyData.keyHash P (Str.ofString "__loader__"), key := Value.str (Str.ofString "__loader__") 168, val := Value.builtin "__main__.__loader__#opaque" }, { hash := PyData.keyHash P (Str.ofString "__spec__"), key := Value.str (Str.ofString "__spec__") 169, val := Value.none }, { hash := PyData.keyHash P (Str.ofString "__annotations__"), key := Value.str (Str.ofString "__annotations__") 170, val := Value.ref 6 }, { hash := PyData.keyHash P (Str.ofString "__builtins__"), key := Value.str (Str.ofString "__builtins__") 171, val := Value.ref 4 }, { hash := PyData.keyHash P (Str.ofString "__file__"), key := Value.str (Str.ofString "__file__") 173, val := Value.str (Str.ofString "/claim/cut.py") 172 }, { hash := PyData.keyHash P (Str.ofString "__cached__"), key := Value.str (Str.ofString "__cached__") 174, val := Value.none }, { hash := PyData.keyHash P (Str.ofString "_sre"), key := Value.str (Str.ofString "_sre") 275, val := Value.ref 12 }, { hash := PyData.keyHash P (Str.ofString "Int2AP"), key := Value.str (Str.ofString "Int2AP") 293, val := Value.ref 38 }, { hash := PyData.keyHash P (Str.ofString "_twin_re_1"), key := Value.str (Str.ofString "_twin_re_1") 333, val := Value.ref 43 }, { hash := PyData.keyHash P (Str.ofString "translate"), key := Value.str (Str.ofString "translate") 342, val := Value.ref 50 }, { hash := PyData.keyHash P (Str.ofString "_special_chars_map"), key := Value.str (Str.ofString "_special_chars_map") 490, val := Value.ref 52 }] 14 }
noncomputable abbrev hlSZ (P : Params) : Heap := ⟨⟨[]⟩, {}⟩
noncomputable abbrev htSZ (P : Params) : BT := .nil
noncomputable abbrev hlSE (P : Params) : Heap := ⟨⟨[z0_0 P, z1_0 P, z2_0 P, z3_0 P, z4_0 P, z5_0 P, z6_0 P, z7_0 P, z8_0 P, z9_0 P, z10_0 P, z11_0 P, z12_0 P, z13_0 P, z14_0 P, z15_0 P, z16_0 P, z17_0 P, z18_0 P, z19_0 P, z20_0 P, z21_0 P, z22_0 P, z23_0 P, z24_0 P, z25_0 P, z26_0 P, z27_0 P]⟩, {}⟩
noncomputable abbrev htSE (P : Params) : BT := (.node (z0_0 P) (.node (z1_0 P) (.node (z3_0 P) (.node (z7_0 P) (.node (z15_0 P) .nil .nil) (.node (z23_0 P) .nil .nil)) (.node (z11_0 P) (.node (z19_0 P) .nil .nil) (.node (z27_0 P) .nil .nil))) (.node (z5_0 P) (.node (z9_0 P) (.node (z17_0 P) .nil .nil) (.node (z25_0 P) .nil .nil)) (.node (z13_0 P) (.node (z21_0 P) .nil .nil) .nil))) (.node (z2_0 P) (.node (z4_0 P) (.node (z8_0 P) (.node (z16_0 P) .nil .nil) (.node (z24_0 P) .nil .nil)) (.node (z12_0 P) (.node (z20_0 P) .nil .nil) .nil)) (.node (z6_0 P) (.node (z10_0 P) (.node (z18_0 P) .nil .nil) (.node (z26_0 P) .nil .nil)) (.node (z14_0 P) (.node (z22_0 P) .nil .nil) .nil))))
noncomputable abbrev hlS0 (P : Params) : Heap := ⟨⟨[z0_0 P, z1_0 P, z2_0 P, z3_0 P, z4_0 P, z5_0 P, z6_0 P, z7_0 P, z8_0 P, z9_0 P, z10_0 P, z11_1 P, z12_0 P, z13_0 P, z14_0 P, z15_0 P, z16_0 P, z17_0 P, z18_0 P, z19_0 P, z20_0 P, z21_0 P, z22_0 P, z23_0 P, z24_0 P, z25_0 P, z26_0 P, z27_0 P]⟩, {}⟩
noncomputable abbrev htS0 (P : Params) : BT := (.node (z0_0 P) (.node (z1_0 P) (.node (z3_0 P) (.node (z7_0 P) (.node (z15_0 P) .nil .nil) (.node (z23_0 P) .nil .nil)) (.node (z11_1 P) (.node (z19_0 P) .nil .nil) (.node (z27_0 P) .nil .nil))) (.node (z5_0 P) (.node (z9_0 P) (.node (z17_0 P) .nil .nil) (.node (z25_0 P) .nil .nil)) (.node (z13_0 P) (.node (z21_0 P) .nil .nil) .nil))) (.node (z2_0 P) (.node (z4_0 P) (.node (z8_0 P) (.node (z16_0 P) .nil .nil) (.node (z24_0 P) .nil .nil)) (.node (z12_0 P) (.node (z20_0 P) .nil .nil) .nil)) (.node (z6_0 P) (.node (z10_0 P) (.node (z18_0 P) .nil .nil) (.node (z26_0 P) .nil .nil)) (.node (z14_0 P) (.node (z22_0 P) .nil .nil) .nil))))
noncomputable abbrev hlSA (P : Params) : Heap := ⟨⟨[z0_0 P, z1_0 P, z2_0 P, z3_0 P, z4_0 P, z5_0 P, z6_0 P, z7_0 P, z8_0 P, z9_0 P, z10_0 P, z11_1 P, z12_0 P, z13_0 P, z14_0 P, z15_0 P, z16_0 P, z17_0 P, z18_0 P, z19_0 P, z20_0 P, z21_0 P, z22_0 P, z23_0 P, z24_0 P, z25_0 P, z26_0 P, z27_0 P, z28_0 P, z29_0 P, z30_0 P, z31_0 P]⟩, {}⟩
noncomputable abbrev htSA (P : Params) : BT := (.node (z0_0 P) (.node (z1_0 P) (.node (z3_0 P) (.node (z7_0 P) (.node (z15_0 P) (.node (z31_0 P) .nil .nil) .nil) (.node (z23_0 P) .nil .nil)) (.node (z11_1 P) (.node (z19_0 P) .nil .nil) (.node (z27_0 P) .nil .nil))) (.node (z5_0 P) (.node (z9_0 P) (.node (z17_0 P) .nil .nil) (.node (z25_0 P) .nil .nil)) (.node (z13_0 P) (.node (z21_0 P) .nil .nil) (.node (z29_0 P) .nil .nil)))) (.node (z2_0 P) (.node (z4_0 P) (.node (z8_0 P) (.node (z16_0 P) .nil .nil) (.node (z24_0 P) .nil .nil)) (.node (z12_0 P) (.node (z20_0 P) .nil .nil) (.node (z28_0 P) .nil .nil))) (.node (z6_0 P) (.node (z10_0 P) (.node (z18_0 P) .nil .nil) (.node (z26_0 P) .nil .nil)) (.node (z14_0 P) (.node (z22_0 P) .nil .nil) (.node (z30_0 P) .nil .nil)))))
noncomputable abbrev hlS1 (P : Params) : Heap := ⟨⟨[z0_0 P, z1_0 P, z2_0 P, z3_1 P, z4_0 P, z5_0 P, z6_0 P, z7_0 P, z8_0 P, z9_0 P, z10_0 P, z11_1 P, z12_0 P, z13_0 P, z14_0 P, z15_0 P, z16_0 P, z17_0 P, z18_0 P, z19_0 P, z20_0 P, z21_0 P, z22_0 P, z23_0 P, z24_0 P, z25_0 P, z26_0 P, z27_0 P, z28_0 P, z29_1 P, z30_0 P, z31_0 P, z32_0 P, z33_0 P, z34_0 P, z35_0 P, z36_0 P, z37_0 P, z38_0 P, z39_0 P, z40_0 P, z41_0 P, z42_0 P, z43_0 P, z44_0 P, z45_0 P, z46_0 P, z47_0 P, z48_0 P, z49_0 P, z50_0 P]⟩, {}⟩
noncomputable abbrev htS1 (P : Params) : BT := (.node (z0_0 P) (.node (z1_0 P) (.node (z3_1 P) (.node (z7_0 P) (.node (z15_0 P) (.node (z31_0 P) .nil .nil) (.node (z47_0 P) .nil .nil)) (.node (z23_0 P) (.node (z39_0 P) .nil .nil) .nil)) (.node (z11_1 P) (.node (z19_0 P) (.node (z35_0 P) .nil .nil) .nil) (.node (z27_0 P) (.node (z43_0 P) .nil .nil) .nil))) (.node (z5_0 P) (.node (z9_0 P) (.node (z17_0 P) (.node (z33_0 P) .nil .nil) (.node (z49_0 P) .nil .nil)) (.node (z25_0 P) (.node (z41_0 P) .nil .nil) .nil)) (.node (z13_0 P) (.node (z21_0 P) (.node (z37_0 P) .nil .nil) .nil) (.node (z29_1 P) (.node (z45_0 P) .nil .nil) .nil)))) (.node (z2_0 P) (.node (z4_0 P) (.node (z8_0 P) (.node (z16_0 P) (.node (z32_0 P) .nil .nil) (.node (z48_0 P) .nil .nil)) (.node (z24_0 P) (.node (z40_0 P) .nil .nil) .nil)) (.node (z12_0 P) (.node (z20_0 P) (.node (z36_0 P) .nil .nil) .nil) (.node (z28_0 P) (.node (z44_0 P) .nil .nil) .nil))) (.node (z6_0 P) (.node (z10_0 P) (.node (z18_0 P) (.node (z34_0 P) .nil .nil) (.node (z50_0 P) .nil .nil)) (.node (z26_0 P) (.node (z42_0 P) .nil .nil) .nil)) (.node (z14_0 P) (.node (z22_0 P) (.node (z38_0 P) .nil .nil) .nil) (.node (z30_0 P) (.node (z46_0 P) .nil .nil) .nil)))))
noncomputable abbrev hlSF (P : Params) : Heap := ⟨⟨[z0_0 P, z1_0 P, z2_0 P, z3_2 P, z4_0 P, z5_0 P, z6_0 P, z7_0 P, z8_0 P, z9_0 P, z10_0 P, z11_1 P, z12_0 P, z13_0 P, z14_0 P, z15_0 P, z16_0 P, z17_0 P, z18_0 P, z19_0 P, z20_0 P, z21_0 P, z22_0 P, z23_0 P, z24_0 P, z25_0 P, z26_0 P, z27_0 P, z28_0 P, z29_2 P, z30_0 P, z31_0 P, z32_0 P, z33_0 P, z34_0 P, z35_0 P, z36_0 P, z37_0 P, z38_0 P, z39_0 P, z40_0 P, z41_0 P, z42_0 P, z43_0 P, z44_0 P, z45_0 P, z46_0 P, z47_0 P, z48_0 P, z49_0 P, z50_0 P, z51_0 P, z52_0 P, z53_0 P, z54_0 P, z55_0 P, z56_0 P, z57_0 P, z58_0 P, z59_0 P, z60_0 P, z61_0 P, z62_0 P, z63_0 P, z64_0 P, z65_0 P, z66_0 P, z67_0 P, z68_0 P, z69_0 P, z70_0 P, z71_0 P, z72_0 P, z73_0 P, z74_0 P, z75_0 P, z76_0 P, z77_0 P, z78_0 P, z79_0 P, z80_0 P, z81_0 P, z82_0 P, z83_0 P, z84_0 P, z85_0 P, z86_0 P, z87_0 P, z88_0 P, z89_0 P, z90_0 P, z91_0 P, z92_0 P, z93_0 P, z94_0 P, z95_0 P, z96_0 P, z97_0 P, z98_0 P, z99_0 P, z100_0 P, z101_0 P, z102_0 P, z103_0 P, z104_0 P, z105_0 P, z106_0 P, z107_0 P, z108_0 P, z109_0 P, z110_0 P, z111_0 P, z112_0 P, z113_0 P, z114_0 P, z115_0 P, z116_0 P, z117_0 P, z118_0 P, z119_0 P, z120_0 P, z121_0 P, z122_0 P, z123_0 P, z124_0 P, z125_0 P, z126_0 P, z127_0 P, z128_0 P, z129_0 P, z130_0 P, z131_0 P, z132_0 P, z133_0 P, z134_0 P, z135_0 P, z136_0 P, z137_0 P, z138_0 P, z139_0 P, z140_0 P, z141_0 P, z142_0 P, z143_0 P, z144_0 P, z145_0 P]⟩, {}⟩
noncomputable abbrev htSF (P : Params) : BT := (.node (z0_0 P) (.node (z1_0 P) (.node (z3_2 P) (.node (z7_0 P) (.node (z15_0 P) (.node (z31_0 P) (.node (z63_0 P) (.node (z127_0 P) .nil .nil) .nil) (.node (z95_0 P) .nil .nil)) (.node (z47_0 P) (.node (z79_0 P) (.node (z143_0 P) .nil .nil) .nil) (.node (z111_0 P) .nil .nil))) (.node (z23_0 P) (.node (z39_0 P) (.node (z71_0 P) (.node (z135_0 P) .nil .nil) .nil) (.node (z103_0 P) .nil .nil)) (.node (z55_0 P) (.node (z87_0 P) .nil .nil) (.node (z119_0 P) .nil .nil)))) (.node (z11_1 P) (.node (z19_0 P) (.node (z35_0 P) (.node (z67_0 P) (.node (z131_0 P) .nil .nil) .nil) (.node (z99_0 P) .nil .nil)) (.node (z51_0 P) (.node (z83_0 P) .nil .nil) (.node (z115_0 P) .nil .nil))) (.node (z27_0 P) (.node (z43_0 P) (.node (z75_0 P) (.node (z139_0 P) .nil .nil) .nil) (.node (z107_0 P) .nil .nil)) (.node (z59_0 P) (.node (z91_0 P) .nil .nil) (.node (z123_0 P) .nil .nil))))) (.node (z5_0 P) (.node (z9_0 P) (.node (z17_0 P) (.node (z33_0 P) (.node (z65_0 P) (.node (z129_0 P) .nil .nil) .nil) (.node (z97_0 P) .nil .nil)) (.node (z49_0 P) (.node (z81_0 P) (.node (z145_0 P) .nil .nil) .nil) (.node (z113_0 P) .nil .nil))) (.node (z25_0 P) (.node (z41_0 P) (.node (z73_0 P) (.node (z137_0 P) .nil .nil) .nil) (.node (z105_0 P) .nil .nil)) (.node (z57_0 P) (.node (z89_0 P) .nil .nil) (.node (z121_0 P) .nil .nil)))) (.node (z13_0 P) (.node (z21_0 P) (.node (z37_0 P) (.node (z69_0 P) (.node (z133_0 P) .nil .nil) .nil) (.node (z101_0 P) .nil .nil)) (.node (z53_0 P) (.node (z85_0 P) .nil .nil) (.node (z117_0 P) .nil .nil))) (.node (z29_2 P) (.node (z45_0 P) (.node (z77_0 P) (.node (z141_0 P) .nil .nil) .nil) (.node (z109_0 P) .nil .nil)) (.node (z61_0 P) (.node (z93_0 P) .nil .nil) (.node (z125_0 P) .nil .nil)))))) (.node (z2_0 P) (.node (z4_0 P) (.node (z8_0 P) (.node (z16_0 P) (.node (z32_0 P) (.node (z64_0 P) (.node (z128_0 P) .nil .nil) .nil) (.node (z96_0 P) .nil .nil)) (.node (z48_0 P) (.node (z80_0 P) (.node (z144_0 P) .nil .nil) .nil) (.node (z112_0 P) .nil .nil))) (.node (z24_0 P) (.node (z40_0 P) (.node (z72_0 P) (.node (z136_0 P) .nil .nil) .nil) (.node (z104_0 P) .nil .nil)) (.node (z56_0 P) (.node (z88_0 P) .nil .nil) (.node (z120_0 P) .nil .nil)))) (.node (z12_0 P) (.node (z20_0 P) (.node (z36_0 P) (.node (z68_0 P) (.node (z132_0 P) .nil .nil) .nil) (.node (z100_0 P) .nil .nil)) (.node (z52_0 P) (.node (z84_0 P) .nil .nil) (.node (z116_0 P) .nil .nil))) (.node (z28_0 P) (.node (z44_0 P) (.node (z76_0 P) (.node (z140_0 P) .nil .nil) .nil) (.node (z108_0 P) .nil .nil)) (.node (z60_0 P) (.node (z92_0 P) .nil .nil) (.node (z124_0 P) .nil .nil))))) (.node (z6_0 P) (.node (z10_0 P) (.node (z18_0 P) (.node (z34_0 P) (.node (z66_0 P) (.node (z130_0 P) .nil .nil) .nil) (.node (z98_0 P) .nil .nil)) (.node (z50_0 P) (.node (z82_0 P) .nil .nil) (.node (z114_0 P) .nil .nil))) (.node (z26_0 P) (.node (z42_0 P) (.node (z74_0 P) (.node (z138_0 P) .nil .nil) .nil) (.node (z106_0 P) .nil .nil)) (.node (z58_0 P) (.node (z90_0 P) .nil .nil) (.node (z122_0 P) .nil .nil)))) (.node (z14_0 P) (.node (z22_0 P) (.node (z38_0 P) (.node (z70_0 P) (.node (z134_0 P) .nil .nil) .nil) (.node (z102_0 P) .nil .nil)) (.node (z54_0 P) (.node (z86_0 P) .nil .nil) (.node (z118_0 P) .nil .nil))) (.node (z30_0 P) (.node (z46_0 P) (.node (z78_0 P) (.node (z142_0 P) .nil .nil) .nil) (.node (z110_0 P) .nil .nil)) (.node (z62_0 P) (.node (z94_0 P) .nil .nil) (.node (z126_0 P) .nil .nil)))))))
noncomputable abbrev hlS2 (P : Params) : Heap := ⟨⟨[z0_0 P, z1_0 P, z2_0 P, z3_3 P, z4_0 P, z5_0 P, z6_0 P, z7_0 P, z8_0 P, z9_0 P, z10_0 P, z11_1 P, z12_0 P, z13_0 P, z14_0 P, z15_0 P, z16_0 P, z17_0 P, z18_0 P, z19_0 P, z20_0 P, z21_0 P, z22_0 P, z23_0 P, z24_0 P, z25_0 P, z26_0 P, z27_0 P, z28_0 P, z29_1 P, z30_0 P, z31_0 P, z32_0 P, z33_0 P, z34_0 P, z35_0 P, z36_0 P, z37_0 P, z38_0 P, z39_0 P, z40_0 P, z41_0 P, z42_0 P, z43_0 P, z44_0 P, z45_0 P, z46_0 P, z47_0 P, z48_0 P, z49_0 P, z50_0 P, z51_0 P, z52_0 P, z53_0 P, z54_0 P, z55_0 P]⟩, {}⟩
noncomputable abbrev htS2 (P : Params) : BT := (.node (z0_0 P) (.node (z1_0 P) (.node (z3_3 P) (.node (z7_0 P) (.node (z15_0 P) (.node (z31_0 P) .nil .nil) (.node (z47_0 P) .nil .nil)) (.node (z23_0 P) (.node (z39_0 P) .nil .nil) (.node (z55_0 P) .nil .nil))) (.node (z11_1 P) (.node (z19_0 P) (.node (z35_0 P) .nil .nil) (.node (z51_0 P) .nil .nil)) (.node (z27_0 P) (.node (z43_0 P) .nil .nil) .nil))) (.node (z5_0 P) (.node (z9_0 P) (.node (z17_0 P) (.node (z33_0 P) .nil .nil) (.node (z49_0 P) .nil .nil)) (.node (z25_0 P) (.node (z41_0 P) .nil .nil) .nil)) (.node (z13_0 P) (.node (z21_0 P) (.node (z37_0 P) .nil .nil) (.node (z53_0 P) .nil .nil)) (.node (z29_1 P) (.node (z45_0 P) .nil .nil) .nil)))) (.node (z2_0 P) (.node (z4_0 P) (.node (z8_0 P) (.node (z16_0 P) (.node (z32_0 P) .nil .nil) (.node (z48_0 P) .nil .nil)) (.node (z24_0 P) (.node (z40_0 P) .nil .nil) .nil)) (.node (z12_0 P) (.node (z20_0 P) (.node (z36_0 P) .nil .nil) (.node (z52_0 P) .nil .nil)) (.node (z28_0 P) (.node (z44_0 P) .nil .nil) .nil))) (.node (z6_0 P) (.node (z10_0 P) (.node (z18_0 P) (.node (z34_0 P) .nil .nil) (.node (z50_0 P) .nil .nil)) (.node (z26_0 P) (.node (z42_0 P) .nil .nil) .nil)) (.node (z14_0 P) (.node (z22_0 P) (.node (z38_0 P) .nil .nil) (.node (z54_0 P) .nil .nil)) (.node (z30_0 P) (.node (z46_0 P) .nil .nil) .nil)))))
end Mine
end
section
open PySem PySem.W PyProof.Rows
namespace Mine
set_option maxRecDepth 100000
set_option maxHeartbeats 0
abbrev pw : Program := PySem.Challenge.pw_in0242_01
abbrev vw : Program := view pw [0, 2, 4, 5, 7, 8, 10, 11, 13, 15, 16, 17, 18, 19, 20, 21, 22, 23, 24]
abbrev lse : List Str := [Str.ofString "_twin_re_1", Str.ofString "_special_chars_map"]
abbrev ks : List Addr := [2, 3, 6, 11, 12, 32, 34, 35, 37, 38, 42, 43, 44, 46, 47, 49, 50, 52, 56, 58, 59, 61, 62, 63, 65, 66, 68, 69,
  70, 72, 73, 75, 76, 77, 79, 80, 82, 83, 84, 87, 88, 89, 91, 92, 94, 95, 96, 98, 99, 101, 102, 103, 105, 106, 108, 109, 110, 112, 113, 115, 116, 117,
  120, 121, 122, 124, 125, 127, 128, 129, 131, 132, 134, 135, 136, 139, 140, 141, 144, 145]
theorem ksK : ∀ P, ks = (K P).map (·.1) := fun _ => by kernel_rfl
noncomputable abbrev hk : Hook := kmHook K ks ksK [64]
abbrev fw (b c : Bool) (w : World) : World := (w.withFollow "comprehension-iter-twice" b).withFollow "special-get-raises" c
abbrev bw : List Stmt := behindTheImports pw
abbrev ew : Env := { scope := pw.main.scope, locals := mainNs, globals := mainNs, cells := [], code := .ref 30, frame := some 31 }
abbrev cdw : Code := .body bw ew
abbrev q0 : Pos := { line := 0, col := 0, endLine := 0, endCol := 0 }
abbrev q1 : Pos := { line := 17, col := 0, endLine := 17, endCol := 8 }
abbrev q2 : Pos := { line := 18, col := 0, endLine := 18, endCol := 18 }
abbrev ann0 : Option Value := some (.ref 6)
abbrev bA : List Stmt := bw.take 6
abbrev bB : List Stmt := (bw.drop 6).take 1
abbrev bC : List Stmt := (bw.drop 6).drop 1
abbrev Xw (s : Shared) : Bool := xlAt vw [] s && recOk PySem.Challenge.rw_in0242_01.row.records s
noncomputable abbrev s0 (w : World) (os : OsState) : Shared := ⟨hlS0 w.params, ⟨[]⟩, {}, 276, os⟩
noncomputable abbrev sA (w : World) (os : OsState) : Shared := ⟨hlSA w.params, ⟨[]⟩, {}, 282, os⟩
noncomputable abbrev tA (w : World) (os : OsState) : SharedT := ⟨htSA w.params, 32, {}, ⟨[]⟩, {}, 282, os⟩
noncomputable abbrev t1 (w : World) (os : OsState) : SharedT := ⟨htS1 w.params, 51, {}, ⟨[]⟩, {}, 345, os⟩
noncomputable abbrev t2 (w : World) (os : OsState) : SharedT := ⟨htS2 w.params, 56, {}, ⟨[]⟩, {}, 491, os⟩
noncomputable abbrev tE (w : World) (os : OsState) : SharedT := ⟨htSE w.params, 28, {}, ⟨[]⟩, {}, 276, os⟩
noncomputable abbrev tZ (os : OsState) : SharedT := ⟨.nil, 0, {}, ⟨[]⟩, {}, 1, os⟩
theorem opn1 (w : World) (os : OsState) : (impGoT treeTable (opening pw) w 798 (tZ os) (start (opening pw)).2).map (fun r => (r.1, r.2.atExitBegin)) = some (tE w os, some []) := by
  rw [PySem.W.Fast.te14789777615569096658, PySem.W.Fast.te14364793385576792824, PySem.W.Fast.te1435165496053646825]
  kernel_rfl
theorem opn2 (w : World) (os : OsState) : (fenceModules? pw (tE w os).abs).map (fun s => (s.heap, s.gens, s.drawn, s.toks)) = some (hlS0 w.params, (⟨[]⟩ : Array GenState), ({} : Drawn), 276) := by
  rw [PySem.W.Fast.te14289696077712309145]
  kernel_rfl
theorem opn3 : (start (opening pw)).1 = (tZ (start (opening pw)).1.os).abs := by
  rw [PySem.W.Fast.te1435165496053646825]
  kernel_rfl
theorem open0 (w : World) : (fencedOpening treeTable pw w 3884).map (fun s => (s.heap, s.gens, s.drawn, s.toks)) = some (hlS0 w.params, (⟨[]⟩ : Array GenState), ({} : Drawn), 276) := by
  obtain ⟨⟨s, t⟩, h1, h2⟩ := Option.map_eq_some_iff.mp (opn1 w (start (opening pw)).1.os)
  obtain ⟨rfl, h2⟩ := Prod.mk.inj h2
  have e : importEnds treeTable (opening pw) w 1 (tE w (start (opening pw)).1.os).abs t = some (tE w (start (opening pw)).1.os).abs := by
    unfold importEnds; dsimp only at h2; rw [h2]
  have k := importEnds_mono (3884 - (798 + 1)) _ _ _ _ (imp_go (impGo_of h1) e)
  rw [← opn3] at k
  unfold fencedOpening
  rw [show (3884 : Nat) = 798 + 1 + (3884 - (798 + 1)) from rfl, k]
  exact opn2 w _
theorem size0 (w : World) : ((hlS0 w.params).isNs mainGlobals && (⟨[]⟩ : Array GenState).size == 0, (hlS0 w.params).objs.size, (hlS0 w.params).nsMap mainGlobals "__annotations__") = (true, 28, ann0) := by
  kernel_rfl
theorem pre0 (w : World) (os : OsState) : topGo treeTable pw w 28 ann0 12 (s0 w os) (topStub pw) = some (sA w os, ⟨denote treeTable cdw, cdw, q0, [topFrame q0]⟩) := by
  rw [PySem.W.Fast.te15667345088766844465, PySem.W.Fast.te14364793385576792824, PySem.W.Fast.te11892475500146522536]
  kernel_rfl
theorem blk0 (w : World) (os : OsState) : segRun treeTable pw w 28 ann0 1 1 (sA w os) (blockOf bw ew cdw q0 [topFrame q0]) = some (.next, (tA w os).abs, cdw, q0) := by
  rw [PySem.W.Fast.te14374325043358763698]
  kernel_rfl
theorem segA (w : World) (os : OsState) : segRunT treeTable pw w 28 ann0 1 172 (tA w os) (piecesOf bA ew cdw q0 [topFrame q0]) = some (.next, t1 w os, cdw, q1) := by
  rw [PySem.W.Fast.te10110043849684766642, PySem.W.Fast.te14364793385576792824]
  kernel_rfl
abbrev GoesB (w : World) : Prop := ∀ os : OsState, segRunT treeTable pw w 28 ann0 1 1300 (t1 w os) (piecesOf bB ew cdw q1 [topFrame q0]) = some (.next, t2 w os, cdw, q2)
theorem segFF (w : World) : GoesB (fw false false w) := fun os => by
  rw [PySem.W.Fast.te10110043849684766642, PySem.W.Fast.te14364793385576792824]
  kernel_rfl
theorem segFT (w : World) : GoesB (fw false true w) := fun os => by
  rw [PySem.W.Fast.te10110043849684766642, PySem.W.Fast.te14364793385576792824]
  kernel_rfl
theorem segTF (w : World) : GoesB (fw true false w) := fun os => by
  rw [PySem.W.Fast.te10110043849684766642, PySem.W.Fast.te14364793385576792824]
  kernel_rfl
theorem segTT (w : World) : GoesB (fw true true w) := fun os => by
  rw [PySem.W.Fast.te10110043849684766642, PySem.W.Fast.te14364793385576792824]
  kernel_rfl
theorem segB (w : World) : GoesB w :=
  byRow2 (P := GoesB) "special-get-raises" (fun w => byRow2 (P := fun w => GoesB (w.withFollow "special-get-raises" false)) "comprehension-iter-twice" segFF segTF w)
    (fun w => byRow2 (P := fun w => GoesB (w.withFollow "special-get-raises" true)) "comprehension-iter-twice" segFT segTT w) w
noncomputable abbrev tF (w : World) (os : OsState) : SharedT := ⟨htSF w.params, 146, {}, ⟨[]⟩, {}, 626, os⟩
noncomputable abbrev sF (w : World) (os : OsState) : Shared := ⟨hlSF w.params, ⟨[]⟩, {}, 626, os⟩
abbrev qF : Pos := { line := 212, col := 0, endLine := 224, endCol := 100 }
theorem segC (w : World) (os : OsState) : segRunT treeTable pw w 28 ann0 1 600 (t2 w os) (piecesOf bC ew cdw q2 [topFrame q0]) = some (.next, tF w os, cdw, qF) := by
  rw [PySem.W.Fast.te10110043849684766642, PySem.W.Fast.te14364793385576792824]
  kernel_rfl
theorem fin0 (w : World) (os : OsState) : topRun treeTable pw w 28 ann0 2 (tF w os).abs ⟨doneF .next, cdw, qF, [topFrame q0]⟩ = some (sF w os) := by
  rw [PySem.W.Fast.te14082659384304107361]
  kernel_rfl
theorem runC (w : World) (os : OsState) : topRun treeTable pw w 28 ann0 602 (t2 w os).abs (restOf bC ew cdw q2 [topFrame q0]) = some (sF w os) := by
  have h := piece_app (rest := []) (segRun_of (segC w os)) (piece_nil (fin0 w os))
  rwa [List.append_nil] at h
theorem lookS (w : World) (os : OsState) : (staticsOk (importedModules pw.main.body) (hlS0 w.params) (sF w os).heap && namesBound pw (sF w os).heap && gensDone (sF w os) && laidKept (hlS0 w.params) (sF w os).heap) = true := by
  rewrite [PySem.W.Fast.te5923862056798008813]
  kernel_rfl
theorem lookO (w : World) (os : OsState) : openSeen vw lse (importedModules pw.main.body) Xw true (sF w os) = openGood vw lse := by
  unfold openSeen openGood
  refine looks_pair ?_ (looks_pair ?_ (looks_pair ?_ (looks_pair ?_ (looks_pair ?_ (looks_pair ?_ (looks_pair ?_ (looks_pair ?_ ?_)))))))
  all_goals as_aux_lemma =>
    try rewrite [PySem.W.Fast.te5160383126252970620]
    try rewrite [PySem.W.Fast.te479339242167458305]
    try rewrite [PySem.W.Fast.te16090120013241838585]
    try rewrite [PySem.W.Fast.te2386780881361962483]
    try rewrite [PySem.W.Fast.te11698064438423848299]
    try rewrite [PySem.W.Fast.te7317090234206586261]
    try rewrite [PySem.W.Fast.te7369524293546568484]
    try rewrite [PySem.W.Fast.te10994771534591457954]
    try rewrite [PySem.W.Fast.te10880121769531294198]
    try rewrite [PySem.W.Fast.te14722251495701143533]
    try rewrite [PySem.W.Fast.te3399658132070893891]
    try rewrite [PySem.W.Fast.te5991557255702980513]
    try rewrite [PySem.W.Fast.te7409074990110511671]
    try rewrite [PySem.W.Fast.te13664370479719496447]
    try rewrite [PySem.W.Fast.te821141287760084731]
    try rewrite [PySem.W.Fast.te3247288618530077131]
    try rewrite [PySem.W.Fast.te5923862056798008813]
    kernel_rfl
theorem lookH (w : World) (os : OsState) : hk.obs (sF w os) = hk.val w := by kernel_rfl
theorem tail0 (w : World) (os : OsState) : (topRun treeTable pw w 28 ann0 602 (t2 w os).abs (restOf bC ew cdw q2 [topFrame q0])).map (fun s => ((staticsOk (importedModules pw.main.body) (hlS0 w.params) s.heap && namesBound pw s.heap && gensDone s && laidKept (hlS0 w.params) s.heap),
    openSeen vw lse (importedModules pw.main.body) Xw true s, hk.obs s)) = some (true, openGood vw lse, hk.val w) := by
  rw [runC w os, Option.map_some]
  exact congrArg some (looks_pair (lookS w os) (looks_pair (lookO w os) (lookH w os)))
/-- the top from its parts: the opening, the first statements, and what is left, looked at behind its end -/
theorem left_of_tail {p q : Program} {loose : List Str} {Xt : Shared → Bool} {α : Type} {Yf : Shared → α} {Ya : World → α} {N : Nat} {g0 : Bool} {H₀ : Params → Heap} {gs₀ : Array GenState} {d₀ : Drawn} {k₀ : Nat} {m₀ : Nat} {ann : Option Value} {M M2 : Nat}
    {S : World → OsState → Shared} {T : Thread}
    (open_ : ∀ w : World, (fencedOpening treeTable p w N).map (fun s => (s.heap, s.gens, s.drawn, s.toks)) = some (H₀ w.params, gs₀, d₀, k₀))
    (size : ∀ w : World, ((H₀ w.params).isNs mainGlobals && gs₀.size == 0, (H₀ w.params).objs.size, (H₀ w.params).nsMap mainGlobals "__annotations__") = (true, m₀, ann))
    (run : ∀ (w : World) (os : OsState) (r : Shared), topRun treeTable p w m₀ ann M2 (S w os) T = some r → topRun treeTable p w m₀ ann M ⟨H₀ w.params, gs₀, d₀, k₀, os⟩ (topStub p) = some r) (le : Nat.ble M N = true)
    (tail : ∀ (w : World) (os : OsState), (topRun treeTable p w m₀ ann M2 (S w os) T).map (fun s => ((staticsOk (importedModules p.main.body) (H₀ w.params) s.heap && namesBound p s.heap && gensDone s && laidKept (H₀ w.params) s.heap),
        openSeen q loose (importedModules p.main.body) Xt g0 s, Yf s)) = some (true, openGood q loose, Ya w)) : LeftO p q loose Xt Yf Ya N g0 := fun w => by
  obtain ⟨⟨h, gs, d, k, os⟩, e, e'⟩ := Option.map_eq_some_iff.mp (open_ w)
  obtain ⟨rfl, rfl, rfl, rfl⟩ : h = H₀ w.params ∧ gs = gs₀ ∧ d = d₀ ∧ k = k₀ := by simpa using e'
  obtain ⟨s, h1, h2⟩ := Option.map_eq_some_iff.mp (tail w os)
  obtain ⟨l1, h2⟩ := Prod.mk.inj h2
  obtain ⟨z1, z2⟩ := Prod.mk.inj (size w)
  obtain ⟨z2, z3⟩ := Prod.mk.inj z2
  have r := topRun_mono (N - M) _ _ _ _ (run w os s h1)
  rw [show M + (N - M) = N by have := Nat.le_of_ble_eq_true le; omega] at r
  have t : topFrom treeTable p w N ⟨H₀ w.params, gs, d, k, os⟩ = some s := by
    unfold topFrom
    dsimp only
    rw [z1, z2, z3, r]
    show (match staticsOk (importedModules p.main.body) (H₀ w.params) s.heap && namesBound p s.heap && gensDone s && laidKept (H₀ w.params) s.heap with | true => _ | false => _) = _
    rw [l1]
  unfold openEnds
  rw [e]
  show (topFrom treeTable p w N _).map _ = _
  rw [t]
  exact congrArg some h2
theorem bw_parts : bw = bA ++ (bB ++ bC) := by rw [List.take_append_drop, List.take_append_drop]
theorem run0 (w : World) (os : OsState) (r : Shared) (h : topRun treeTable pw w 28 ann0 602 (t2 w os).abs (restOf bC ew cdw q2 [topFrame q0]) = some r) :
    topRun treeTable pw w 28 ann0 (12 + (1 + (172 + (1300 + 602)))) (s0 w os) (topStub pw) = some r := by
  refine go_top (pre0 w os) (piece_block (blk0 w os) ?_)
  rw [show restOf bw ew cdw q0 [topFrame q0] = restOf (bA ++ (bB ++ bC)) ew cdw q0 [topFrame q0] from congrArg (fun b => restOf b ew cdw q0 [topFrame q0]) bw_parts]
  exact piece_app (segRun_of (segA w os)) (piece_app (segRun_of (segB w os)) h)
theorem left : LeftO pw vw lse Xw hk.obs hk.val 3884 := left_of_tail open0 size0 run0 (by decide +kernel) tail0
/-- the head: what is left is the law's own call -/
theorem hd {d : DefRec} {kwd : List (Str × Expr)} (hdef : defOf vw (Str.ofString "law") = some (d, kwd)) (hp : pw.theDef (Str.ofString "law") = some (d.params, d.body, d.scope)) (hkw : kwWritten? d.params.kwonlyargs d.params.kw_defaults = some kwd)
    (c : WalkO vw lse (XL vw []) hk.says PySem.Challenge.rw_in0242_01.row.toRowW d kwd fun f vs => PySem.call f vs) : PySem.Challenge.rw_in0242_01.Holds := by
  o_law
  rename_i said
  exact PySem.W.holds_open (q := vw) (loose := lse) (Xt := fun s => xlAt vw [] s && recOk PySem.Challenge.rw_in0242_01.row.records s) (XP := XL vw []) (Yf := hk.obs) (Ya := hk.val) (YP := hk.says) (N := 3884) left hk.of hk.keeps
    (fun s e => xl_of s (Bool.and_eq_true_iff.mp e).1) XL.keeps hdef hp hkw (fun s e => recFacts_of (Bool.and_eq_true_iff.mp e).2) (by rfl) said (by decide +kernel) ⟨rfl, rfl, rfl, rfl, rfl, by decide +kernel⟩ ⟨[.list []], by decide +kernel, by decide +kernel⟩ c
end Mine
end
section
open PySem PySem.W PyProof.Rows PySem.Calls PySem.Spec
set_option linter.unusedVariables false
set_option maxRecDepth 100000
set_option maxHeartbeats 8000000
namespace Mine
def LawFin (Gd : Heap) (s₁ s' : Shared) : Prop := ∃ L m ps nw, Fr Gd L s'.heap m ∧ News Gd L s'.heap ((64, tabObj ps) :: nw) ∧ AllBare s'.gens ∧ s'.os = s₁.os
theorem law_good {s₁ s' : Shared} {cl : Str → Option Addr} {mean : ExcName → Option Value} {args : List WData} (hT : TabsAt [(68, 64)] s₁.heap) (h : LawFin (ghostOf s₁.heap [(68, 64)]) s₁ s') :
    GoodWG PySem.Challenge.rw_in0242_01.row.claim cl mean args s₁ (.ok (.ret (.bool true))) s' := by
  obtain ⟨L, m, ps, nw, F, N, hG, ho⟩ := h
  refine ⟨.inl ⟨.bool true, .bool true, [], rfl, fun _ => rfl, ?_, ?_, fun _ => ⟨.nil, fun _ h => nomatch h⟩⟩, ?_, ho, hG⟩
  · exact .bool _
  · first | kernel_rfl | with_unfolding_all rfl
  · have hP : s'.heap.get? 64 = some (tabObj ps) := (N _ (.head _)).1
    have h64 := hT _ (.head _)
    have kp : ∀ b o, b ≠ 64 → s₁.heap.get? b = some o → s'.heap.get? b = some o := fun b o hb e => F.keep b o (ghost_ne e fun q => hb (by simpa using q))
    refine ⟨fun b o e => ?_, fun b o e => ?_⟩
    · by_cases hb : b = 64
      · subst hb
        have e2 := h64.2
        rw [show ((68, 64) : Addr × Addr).2 = 64 from rfl, e] at e2
        have eo : o = tabObj #[] := Option.some.inj e2
        subst eo
        exact .inr (.inl ⟨(h64.1.tab h64.2).isCodeTable, rfl, #[], ps, rfl, by rw [Array.empty_append]; exact hP⟩)
      · exact .inl (kp b o hb e)
    · by_cases hb : b = 64
      · subst hb; exact ⟨_, hP⟩
      · exact ⟨o, kp b o hb e⟩
theorem ints_nat {vs : List Value} {rs : List Nat} {i : Nat} {v : Value} (h : IntsAre vs (rs.map fun a : Nat => (a : Int))) (e : vs.toArray[i]? = some v) : ∃ n t, rs[i]? = some n ∧ v = .int (n : Int) t := by
  have e' : vs[i]? = some v := by simpa using e
  obtain ⟨z, t, rfl, hz⟩ := IntsAre.at h i v e'
  rw [List.getElem?_map] at hz
  obtain ⟨n, hn, rfl⟩ := Option.map_eq_some_iff.mp hz
  exact ⟨n, t, hn, rfl⟩
theorem map_snoc {β : Type} {l : List Nat} {i n : Nat} {f : Nat → β} (h : l[i]? = some n) : (l.take (i + 1)).map f = (l.take i).map f ++ [f n] := by
  obtain ⟨hi, e⟩ := List.getElem?_eq_some_iff.mp h
  rw [take_snoc hi, List.map_append, e]; rfl
theorem news_off {h₀ h : Heap} {L c : Addr} {o : Obj} {nw r : List (Addr × Obj)} (N : News h₀ L h nw) (hm : (c, o) ∈ nw) (hr : ∀ p ∈ r, p ∈ nw ∧ p.2 ≠ o) : ∀ p ∈ r, p.1 ≠ c := fun p hp q => by
  obtain ⟨h1, h2⟩ := hr p hp
  have e1 := (N p h1).1
  have e2 := (N _ hm).1
  rw [q] at e1
  rw [e1] at e2
  exact h2 (Option.some.inj e2)
theorem mem_rot {α : Type} (a b c d : α) (l : List α) : ∀ p ∈ d :: a :: b :: c :: l, p ∈ a :: b :: c :: d :: l := fun p hp => by
  simp only [List.mem_cons] at hp ⊢
  rcases hp with h | h | h | h | h <;> simp [h]
theorem mem_rot' {α : Type} (a b c d : α) (l : List α) : ∀ p ∈ a :: b :: c :: d :: l, p ∈ d :: a :: b :: c :: l := fun p hp => by
  simp only [List.mem_cons] at hp ⊢
  rcases hp with h | h | h | h | h <;> simp [h]
theorem strs_getF {lv : List Value} {ps : List Nat} {f : Nat → Str} {i : Nat} {v : Value} (h : StrsAre lv (ps.map f)) (e : lv.toArray[i]? = some v) : ∃ n t, ps[i]? = some n ∧ v = .str (f n) t := by
  have e' : lv[i]? = some v := by simpa using e
  obtain ⟨y, t, rfl, hy⟩ := StrsAre.item h i v e'
  rw [List.getElem?_map] at hy
  obtain ⟨n, hn, rfl⟩ := Option.map_eq_some_iff.mp hy
  exact ⟨n, t, hn, rfl⟩
theorem bools_dat {nw : List (Addr × Obj)} (rs : List Nat) (f : Nat → Bool) : DatAll nw (rs.map fun m => Value.bool (f m)) (rs.map fun m => PySem.W.Dat.bool (f m)) := by
  induction rs with
  | nil => exact .nil
  | cons a rs ih => exact .cons (.bool _) ih
theorem mem_rot4 {α : Type} (a b c d e : α) (l : List α) : ∀ p ∈ a :: b :: c :: d :: e :: l, p ∈ e :: a :: b :: c :: d :: l := fun p hp => by
  simp only [List.mem_cons] at hp ⊢
  rcases hp with h | h | h | h | h | h <;> simp [h]
theorem partF_mem {rs : List Nat} {c a : Nat} (h : a ∈ partF rs c) : a ∈ rs := by
  unfold partF at h
  obtain ⟨p, hp, rfl⟩ := List.mem_map.mp h
  exact levs_mem (List.mem_filter.mp hp).1
theorem partF_len (rs : List Nat) (c : Nat) : (partF rs c).length ≤ rs.length := by
  unfold partF
  rw [List.length_map]
  exact Nat.le_trans (List.length_filter_le _ _) (Nat.le_of_eq (levs_len rs))
theorem dat_list {nw : List (Addr × Obj)} {v : Value} {ds : List PySem.W.Dat} (h : DatIn nw v (.list ds)) : ∃ t ws n, v = .ref t ∧ (t, listOf (List.toArray ws) n) ∈ nw ∧ DatAll nw ws ds := by
  cases h with
  | list hm r => exact ⟨_, _, _, rfl, hm, r⟩
theorem dat_strs {nw : List (Addr × Obj)} : ∀ {vs : List Value} {ps : List Nat}, DatAll nw vs (ps.map fun n => PySem.W.Dat.str (wd n)) → StrsAre vs (ps.map wd) := by
  intro vs ps h
  induction ps generalizing vs with
  | nil => cases h; exact .nil
  | cons a ps ih => cases h with | cons h1 r => cases h1; exact .cons _ _ (ih r)
theorem part_at {nw : List (Addr × Obj)} : ∀ {vs : List Value} {pss : List (List Nat)}, DatAll nw vs (pss.map partD) → ∀ {i : Nat} {v : Value}, vs.toArray[i]? = some v → ∃ ps t ws n, pss[i]? = some ps ∧ v = .ref t ∧ (t, listOf (List.toArray ws) n) ∈ nw ∧ StrsAre ws (ps.map wd) := by
  intro vs pss h i v e
  have e' : vs[i]? = some v := by simpa using e
  clear e
  induction pss generalizing vs i with
  | nil => cases h; simp at e'
  | cons p pss ih =>
    cases h with
    | cons h1 r =>
      cases i with
      | zero =>
        simp at e'
        subst e'
        obtain ⟨t, ws, n, rfl, hm, hr⟩ := dat_list h1
        exact ⟨p, t, ws, n, rfl, rfl, hm, dat_strs hr⟩
      | succ i => simp at e'; exact ih r e'
theorem map_snocL {α β : Type} {l : List α} {i : Nat} {n : α} {f : α → β} (h : l[i]? = some n) : (l.take (i + 1)).map f = (l.take i).map f ++ [f n] := by
  obtain ⟨hi, e⟩ := List.getElem?_eq_some_iff.mp h
  rw [List.take_succ, List.getElem?_eq_getElem hi, List.map_append, e]; rfl
theorem mem_rot3 {α : Type} (a b c e : α) (l : List α) : ∀ p ∈ a :: b :: c :: e :: l, p ∈ e :: a :: b :: c :: l := fun p hp => by
  simp only [List.mem_cons] at hp ⊢
  rcases hp with h | h | h | h | h <;> simp [h]
theorem depth_is {rs : List Nat} {M : Int} (h : M ∈ (levs rs).map fun p : Nat × Nat => (p.2 : Int)) (hle : ∀ a, a ∈ ((levs rs).map fun p : Nat × Nat => (p.2 : Int)) → a ≤ M) : M = ((depthF rs : Nat) : Int) := by
  have key : ∀ z : Int, z ∈ (levs rs).map (fun p : Nat × Nat => (p.2 : Int)) ↔ ∃ a : Nat, a ∈ (levs rs).map (·.2) ∧ (a : Int) = z := fun z => by
    simp only [List.mem_map]
    constructor
    · rintro ⟨p, hp, rfl⟩; exact ⟨p.2, ⟨p, hp, rfl⟩, rfl⟩
    · rintro ⟨a, ⟨p, hp, rfl⟩, rfl⟩; exact ⟨p, hp, rfl⟩
  obtain ⟨a, ha, rfl⟩ := (key M).mp h
  have h1 : a ≤ depthF rs := le_maxl ha
  have h2 : depthF rs ≤ a := maxl_le fun b hb => Int.ofNat_le.mp (hle _ ((key _).mpr ⟨b, hb, rfl⟩))
  exact congrArg Int.ofNat (Nat.le_antisymm h1 h2)
theorem eq_nat {prog : Program} {w : World} {A : Around} {E : Value → Shared → Prop} {s : Shared} {a i : Nat} {t u : Tok} {c : Bool} {Q : Value → Shared → Prop} (hc : (a == i + 1) = c) (h : Q (.bool c) s) : wpAny (model prog w) A (compareOp .Eq (.int (a : Int) t) (.int (1 + (i : Int)) u)) Q E s := by
  refine P.eq_int ?_
  have e : ((a : Int) == 1 + (i : Int)) = c := by
    rw [← hc, Bool.eq_iff_iff, beq_iff_eq, beq_iff_eq]
    omega
  rw [e]; exact h
theorem lists_ok {α : Type} (l : List α) (f : α → List Nat) : ∀ d ∈ l.map (fun a => PySem.W.Dat.list ((f a).map fun n : Nat => PySem.W.Dat.int (n : Int))), kqdOk 8 d = true := fun d hd => by
  obtain ⟨a, _, rfl⟩ := List.mem_map.mp hd
  unfold kqdOk
  refine List.all_eq_true.mpr fun d hd => ?_
  obtain ⟨n, _, rfl⟩ := List.mem_map.mp hd
  rfl
theorem mem_front {α : Type} {a : α} {l : List α} (h : a ∈ l) : ∀ p ∈ a :: l, p ∈ l := fun p hp => by
  rcases List.mem_cons.mp hp with rfl | hp
  · exact h
  · exact hp
theorem law_holds : PySem.Challenge.rw_in0242_01.Holds := by
  refine hd (by rfl) (by rfl) (by rfl) ?_
  change WalkO vw lse (XL vw []) (kmHook K ks ksK [64]).says _ _ _ _
  k_fill
  intro w s₀ s₁ mg mb G Y fa o pm cd doc dV kV ho hd hcd hD hmg hg args vals as hpre hlay hrd hwl hlo
  have KX := km_in_of Y
  km_tabs Y
  have X := (Ground.X G).1
  have V := (Ground.X G).2
  refine Ground.open G ?_
  intro T B D TE TW
  clear D
  km_lay T hmg ho hd cd
  clear hmg
  wrow_args hpre hlay hrd hwl hlo
  first | refine callC_kw (enter_call ?_) | refine enter_call ?_
  w_top on
  w_call any ho hd hcd hD T F
  clear hd
  kn_ghosts F T
  k_drop
  (try dsimp only)
  rename_i hi hrr hc1 hc2 h₁ tk₁ oL oW oR dL dW dR X0 X1 T0 K1 F1 N1 l64
  refine wpAny_mono (Q := fun f s' => f = .ret (.bool true) ∧ LawFin (ghostOf s₁.heap [(68, 64)]) s₁ s') (E := fun _ _ => False) ?_ ?post (fun _ _ e => e.elim)
  case post =>
    rintro f s' ⟨rfl, hF⟩
    exact law_good hT9 hF
  rename_i xS hs9 hy9 hz9 hq9 hl9 a9 b9 lA vS c9 hL0 ra9 w19 r09
  obtain ⟨p, loose, mean, mg, mb, T1⟩ : ∃ p loose mean mg mb, Top p loose mean mg mb (ghostOf s₁.heap [(68, 64)]) := ⟨_, _, _, _, _, T0⟩
  clear T0
  replace dL : oL.data = .cell none := dL
  replace dW : oW.data = .cell none := dW
  replace dR : oR.data = .cell none := dR
  generalize hGd : ghostOf s₁.heap [(68, 64)] = Gd at X1 T1 K1 F1 N1 lifted ⊢
  generalize hL' : s₁.heap.objs.size = L' at F1 N1 l64 ⊢
  have hlx : xS.length ≤ 63 := by omega
  obtain ⟨m0, F2⟩ : ∃ m0, Fr Gd L' h₁ (kstB m0 [(Str.ofString "script", Value.ref lA)]) := ⟨_, fr_pin (ps := [(Str.ofString "script", Value.ref lA)]) (pin_cons rfl pin_nil) F1⟩
  clear F1 X0 hGd hL' hs9 hy9 hz9 hq9 hl9 a9 b9 c9 hL0 ra9 w19 r09 hrr hc1 hc2 hD hT9 hT8 X V T B TE TW Y G ho hcd codeHd

  repeat' (first
    | ((fail_if_success (with_reducible show wpAny _ _ (call (.ref _) _) _ _ _)); first
        | ((with_reducible refine wpAny_execs_nil ?_); (try dsimp only))
        | (with_reducible refine wpAny_If ?_)
        | ((with_reducible show ite (_ = true) _ _); (fail_if_success (with_reducible show ite (((_ : Bool) == _) = true) _ _)); first | refine PySem.W.ite_neg (Bool.eq_false_iff.mp rfl) ?_ | refine PySem.W.ite_pos rfl ?_)
        | (k_unfold; (try dsimp only)) | (k_end; wrow_close) | walk1 | (dsimp only; walk1) | (leave1; walk_say "STEP leave1"; try dsimp only) | fail "no step"))
  (rename News _ _ _ _ => lN'); (rename Fr _ _ _ _ => lF')
  refine' (rows_spc w lA vS xS hi hlx).use ?k1a ?k2a ?k3a ?k4a ?k5a ?k6a ?kPa ?k7a ?k8a ?_
  case k1a => exact K1
  case k2a => exact lF'
  case k3a => exact X1
  case k4a => exact lN'
  case k5a => exact T1
  case k6a => exact rfl
  case kPa => exact ⟨lifted, trivial⟩
  case k7a => first | ktr_room | decide
  case k8a => first | ktr_units | decide
  rintro _ h3 tk3 nw3 F3 N3 ⟨D1, v1, n1, rs, rfl, hv1, hR, rfl⟩
  obtain ⟨hne, hsr, h256, hlen⟩ := hR
  repeat' (first
    | ((fail_if_success (with_reducible show wpAny _ _ (storeName _ _ _) _ _ _)); first
        | ((with_reducible refine wpAny_execs_nil ?_); (try dsimp only))
        | (with_reducible refine wpAny_If ?_)
        | ((with_reducible show ite (_ = true) _ _); (fail_if_success (with_reducible show ite (((_ : Bool) == _) = true) _ _)); first | refine PySem.W.ite_neg (Bool.eq_false_iff.mp rfl) ?_ | refine PySem.W.ite_pos rfl ?_)
        | (k_unfold; (try dsimp only)) | (k_end; wrow_close) | walk1 | (dsimp only; walk1) | (leave1; walk_say "STEP leave1"; try dsimp only) | fail "no step"))
  (rename News _ _ _ _ => lN'); (rename Fr _ _ _ _ => lF')
  refine store_cell' (c := L' + 1) (o := oR) (rest' := [(D1, listOf v1.toArray n1), (L' + 1 + 1 + 1, oL), (L' + 1 + 1, oW), (64, tabObj #[])]) lF' lN' (.tail _ (.tail _ (.tail _ (.head _)))) dR (fun p hp => by simp only [List.mem_cons, List.not_mem_nil, or_false] at hp; rcases hp with rfl | rfl | rfl | rfl; exact ⟨.head _, .inr rfl⟩; exact ⟨(.tail _ (.head _)), .inl (by k_ne)⟩; exact ⟨(.tail _ (.tail _ (.head _))), .inl (by k_ne)⟩; exact ⟨(.tail _ (.tail _ (.tail _ (.tail _ (.head _))))), .inr rfl⟩) rfl ?_
  intro h7 oR4 F4 N4 dR4
  repeat' (first
    | ((fail_if_success (with_reducible show wpAny _ _ (eval (Expr.ListComp _ _ _ _) _) _ _ _)); (fail_if_success (with_reducible show wpAny _ _ (exec (Stmt.Assign _ (Expr.ListComp _ _ _ _) _) _) _ _ _)); first
        | ((with_reducible refine wpAny_execs_nil ?_); (try dsimp only))
        | (with_reducible refine wpAny_If ?_)
        | ((with_reducible show ite (_ = true) _ _); (fail_if_success (with_reducible show ite (((_ : Bool) == _) = true) _ _)); first | refine PySem.W.ite_neg (Bool.eq_false_iff.mp rfl) ?_ | refine PySem.W.ite_pos rfl ?_)
        | (k_unfold; (try dsimp only)) | (k_end; wrow_close) | walk1 | (dsimp only; walk1) | (leave1; walk_say "STEP leave1"; try dsimp only) | fail "no step"))
  walk1
  refine eval_list (cl := _) (by with_unfolding_all rfl) (by rfl) (by decide) ?_
  repeat' (first
    | ((fail_if_success (with_reducible show wpAny _ _ (pyIter _) _ _ _)); first
        | ((with_reducible refine wpAny_execs_nil ?_); (try dsimp only))
        | (with_reducible refine wpAny_If ?_)
        | ((with_reducible show ite (_ = true) _ _); (fail_if_success (with_reducible show ite (((_ : Bool) == _) = true) _ _)); first | refine PySem.W.ite_neg (Bool.eq_false_iff.mp rfl) ?_ | refine PySem.W.ite_pos rfl ?_)
        | (k_unfold; (try dsimp only)) | (k_end; wrow_close) | walk1 | (dsimp only; walk1) | (leave1; walk_say "STEP leave1"; try dsimp only) | fail "no step"))
  (try dsimp only)
  (rename News _ _ _ _ => lN'); (rename Fr _ _ _ _ => lF')
  refine iter_list (L := L') (its := v1.toArray) (T := fun _ _ _ => True) (fun i ys nw s' => nw = [(L' + 1, oR4), (D1, listOf v1.toArray n1), (L' + 1 + 1 + 1, oL), (L' + 1 + 1, oW), (64, tabObj #[])] ∧ (∃ h tk, s' = { s₁ with heap := h, toks := tk }) ∧ StrsAre ys ((rs.take i).map wd)) (fun i v m' => m' (Str.ofString "number") = some v) rfl (by decide) rfl lF' lN' ?szw ?hJw ?hlw (fun _ _ _ _ _ _ _ _ _ => trivial) ?hjw ?hBw ?turnw ?finw
  case szw => exact Nat.le_trans (show _ ≤ 11 from by rw [List.size_toArray, IntsAre.length hv1, List.length_map]; exact hlen) (by decide)
  case hjw => exact ⟨rfl, ⟨_, _, rfl⟩, .nil⟩
  case hlw => rintro i ys nw s' h ⟨rfl, _⟩ F N; exact News.isList N (.tail _ (.head _))
  case hBw => exact fun I => bind_name (P := fun i v => (v1.toArray)[i]? = some v) (St := fun i h => h.IsListIter I _ i ∧ h.IsList _ (v1.toArray)) (T := fun _ _ _ => True) rfl (by rfl)
  case hJw => rintro i ys nw s' h tk ⟨rfl, ⟨h9, tk9, rfl⟩, hz⟩; exact ⟨rfl, ⟨_, _, rfl⟩, hz⟩
  case turnw =>
    rintro I C D i v ys oC m' nw s' oI hv ⟨rfl, ⟨h9, tk9, rfl⟩, hz⟩ hNs hm F' N' sp lI lD lC
    obtain ⟨a9, ta, ha, rfl⟩ := ints_nat hv1 hv
    have ha256 : a9 < 256 := h256 _ (List.mem_of_getElem? ha)
    refine tests_none ?_
    rw [if_pos rfl]
    repeat' (first
      | ((fail_if_success (with_reducible show wpAny _ _ (eval (Expr.Name _ _) (compEnvC _ _ _ _)) _ _ _)); first
          | ((with_reducible refine wpAny_execs_nil ?_); (try dsimp only))
          | (with_reducible refine wpAny_If ?_)
          | ((with_reducible show ite (_ = true) _ _); (fail_if_success (with_reducible show ite (((_ : Bool) == _) = true) _ _)); first | refine PySem.W.ite_neg (Bool.eq_false_iff.mp rfl) ?_ | refine PySem.W.ite_pos rfl ?_)
          | (k_unfold; (try dsimp only)) | (k_end; wrow_close) | walk1 | (dsimp only; walk1) | (leave1; walk_say "STEP leave1"; try dsimp only) | fail "no step"))
    (rename Fr _ _ _ _ => lF')
    refine LCgL.ld_global lF' X1 T1 (v := .ref 88) (by with_unfolding_all rfl) ?_ (by rfl) (by rfl) (by rfl)
    repeat' (first
      | ((fail_if_success (with_reducible show wpAny _ _ (eval (Expr.Name _ _) (compEnvC _ _ _ _)) _ _ _)); first
          | ((with_reducible refine wpAny_execs_nil ?_); (try dsimp only))
          | (with_reducible refine wpAny_If ?_)
          | ((with_reducible show ite (_ = true) _ _); (fail_if_success (with_reducible show ite (((_ : Bool) == _) = true) _ _)); first | refine PySem.W.ite_neg (Bool.eq_false_iff.mp rfl) ?_ | refine PySem.W.ite_pos rfl ?_)
          | (k_unfold; (try dsimp only)) | (k_end; wrow_close) | walk1 | (dsimp only; walk1) | (leave1; walk_say "STEP leave1"; try dsimp only) | fail "no step"))
    (rename News _ _ _ _ => lN')
    refine LCgL.ld_own lN' (.tail _ (.tail _ (.head _))) hNs hm ?_ (by rfl) (by rfl)
    repeat' (first
      | ((fail_if_success (with_reducible show wpAny _ _ (call (.ref _) _) _ _ _)); first
          | ((with_reducible refine wpAny_execs_nil ?_); (try dsimp only))
          | (with_reducible refine wpAny_If ?_)
          | ((with_reducible show ite (_ = true) _ _); (fail_if_success (with_reducible show ite (((_ : Bool) == _) = true) _ _)); first | refine PySem.W.ite_neg (Bool.eq_false_iff.mp rfl) ?_ | refine PySem.W.ite_pos rfl ?_)
          | (k_unfold; (try dsimp only)) | (k_end; wrow_close) | walk1 | (dsimp only; walk1) | (leave1; walk_say "STEP leave1"; try dsimp only) | fail "no step"))
    (rename News _ _ _ _ => lN'); (rename Fr _ _ _ _ => lF')
    refine' (word_spc w (a9 / 16) (a9 % 16) (a9 : Int) ta (by omega) (by omega) (by omega)).use ?k1b ?k2b ?k3b ?k4b ?k5b ?k6b ?kPb ?k7b ?k8b ?_
    case k1b => exact K1
    case k2b => exact lF'
    case k3b => exact X1
    case k4b => exact lN'
    case k5b => exact T1
    case k6b => exact rfl
    case kPb => exact trivial
    case k7b => first | ktr_room | decide
    case k8b => first | ktr_units | decide
    rintro _ h5 tk5 nw5 F5 N5 ⟨rfl, tw, rfl⟩
    (try dsimp only)
    exact ⟨_, F5, N5, sp, rfl, ⟨_, _, rfl⟩, by rw [map_snoc ha]; exact hz.append' (.cons _ _ .nil)⟩
  case finw =>
    refine fin_eval (by rintro i ys nw s' h tk ⟨rfl, ⟨h9, tk9, rfl⟩, hz⟩; exact ⟨rfl, ⟨_, _, rfl⟩, hz⟩) ?_
    rintro D2 v2 nw s' ⟨rfl, ⟨h5, tk5, rfl⟩, hz⟩ F5 N5 off5 lD5
    have hv2 : StrsAre v2 (rs.map wd) := by rwa [List.size_toArray, IntsAre.length hv1, List.length_map, List.take_length] at hz
    clear hz
    repeat' (first
      | ((fail_if_success (with_reducible show wpAny _ _ (storeName _ _ _) _ _ _)); first
          | ((with_reducible refine wpAny_execs_nil ?_); (try dsimp only))
          | (with_reducible refine wpAny_If ?_)
          | ((with_reducible show ite (_ = true) _ _); (fail_if_success (with_reducible show ite (((_ : Bool) == _) = true) _ _)); first | refine PySem.W.ite_neg (Bool.eq_false_iff.mp rfl) ?_ | refine PySem.W.ite_pos rfl ?_)
          | (k_unfold; (try dsimp only)) | (k_end; wrow_close) | walk1 | (dsimp only; walk1) | (leave1; walk_say "STEP leave1"; try dsimp only) | fail "no step"))
    (rename News _ _ _ _ => lN'); (rename Fr _ _ _ _ => lF')
    refine store_cell' (c := L' + 1 + 1) (o := oW) (rest' := [(D2, listOf v2.toArray v2.length), (L' + 1, oR4), (D1, listOf v1.toArray n1), (L' + 1 + 1 + 1, oL), (64, tabObj #[])]) lF' lN' (.tail _ (.tail _ (.tail _ (.tail _ (.head _))))) dW (fun p hp => by simp only [List.mem_cons, List.not_mem_nil, or_false] at hp; rcases hp with rfl | rfl | rfl | rfl | rfl; exact ⟨.head _, .inr rfl⟩; exact ⟨(.tail _ (.head _)), .inl (by k_ne)⟩; exact ⟨(.tail _ (.tail _ (.head _))), .inr rfl⟩; exact ⟨(.tail _ (.tail _ (.tail _ (.head _)))), .inl (by k_ne)⟩; exact ⟨(.tail _ (.tail _ (.tail _ (.tail _ (.tail _ (.head _)))))), .inr rfl⟩) rfl ?_
    intro h7 oW6 F6 N6 dW6
    clear off5
    repeat' (first
      | ((fail_if_success (with_reducible show wpAny _ _ (eval (Expr.ListComp _ _ _ _) _) _ _ _)); first
          | ((with_reducible refine wpAny_execs_nil ?_); (try dsimp only))
          | (with_reducible refine wpAny_If ?_)
          | ((with_reducible show ite (_ = true) _ _); (fail_if_success (with_reducible show ite (((_ : Bool) == _) = true) _ _)); first | refine PySem.W.ite_neg (Bool.eq_false_iff.mp rfl) ?_ | refine PySem.W.ite_pos rfl ?_)
          | (k_unfold; (try dsimp only)) | (k_end; wrow_close) | walk1 | (dsimp only; walk1) | (leave1; walk_say "STEP leave1"; try dsimp only) | fail "no step"))
    refine eval_list (cl := _) (by with_unfolding_all rfl) (by rfl) (by decide) ?_
    repeat' (first
      | ((fail_if_success (with_reducible show wpAny _ _ (pyIter _) _ _ _)); first
          | ((with_reducible refine wpAny_execs_nil ?_); (try dsimp only))
          | (with_reducible refine wpAny_If ?_)
          | ((with_reducible show ite (_ = true) _ _); (fail_if_success (with_reducible show ite (((_ : Bool) == _) = true) _ _)); first | refine PySem.W.ite_neg (Bool.eq_false_iff.mp rfl) ?_ | refine PySem.W.ite_pos rfl ?_)
          | (k_unfold; (try dsimp only)) | (k_end; wrow_close) | walk1 | (dsimp only; walk1) | (leave1; walk_say "STEP leave1"; try dsimp only) | fail "no step"))
    (try dsimp only)
    (rename News _ _ _ _ => lN'); (rename Fr _ _ _ _ => lF')
    refine iter_list (L := L') (its := v2.toArray) (T := fun _ _ _ => True) (fun i ys nw s' => nw = [(L' + 1 + 1, oW6), (D2, listOf v2.toArray v2.length), (L' + 1, oR4), (D1, listOf v1.toArray n1), (L' + 1 + 1 + 1, oL), (64, tabObj #[])] ∧ (∃ h tk, s' = { s₁ with heap := h, toks := tk }) ∧ IntsAre ys ((rs.take i).map fun a : Nat => (a : Int))) (fun i v m' => m' (Str.ofString "word") = some v) rfl (by decide) rfl lF' lN' ?szr ?hJr ?hlr (fun _ _ _ _ _ _ _ _ _ => trivial) ?hjr ?hBr ?turnr ?finr
    case szr => exact Nat.le_trans (show _ ≤ 11 from by rw [List.size_toArray, strs_len hv2, List.length_map]; exact hlen) (by decide)
    case hjr => exact ⟨rfl, ⟨_, _, rfl⟩, .nil⟩
    case hlr => rintro i ys nw s' h ⟨rfl, _⟩ F N; exact News.isList N (.tail _ (.head _))
    case hBr => exact fun I => bind_name (P := fun i v => (v2.toArray)[i]? = some v) (St := fun i h => h.IsListIter I _ i ∧ h.IsList _ (v2.toArray)) (T := fun _ _ _ => True) rfl (by rfl)
    case hJr => rintro i ys nw s' h tk ⟨rfl, ⟨h9, tk9, rfl⟩, hz⟩; exact ⟨rfl, ⟨_, _, rfl⟩, hz⟩
    case turnr =>
      rintro I C D i v ys oC m' nw s' oI hv ⟨rfl, ⟨h9, tk9, rfl⟩, hz⟩ hNs hm F' N' sp lI lD lC
      obtain ⟨a9, ta, ha, rfl⟩ := strs_get hv2 hv
      have ha256 : a9 < 256 := h256 _ (List.mem_of_getElem? ha)
      refine tests_none ?_
      rw [if_pos rfl]
      repeat' (first
        | ((fail_if_success (with_reducible show wpAny _ _ (eval (Expr.Name _ _) (compEnvC _ _ _ _)) _ _ _)); first
            | ((with_reducible refine wpAny_execs_nil ?_); (try dsimp only))
            | (with_reducible refine wpAny_If ?_)
            | ((with_reducible show ite (_ = true) _ _); (fail_if_success (with_reducible show ite (((_ : Bool) == _) = true) _ _)); first | refine PySem.W.ite_neg (Bool.eq_false_iff.mp rfl) ?_ | refine PySem.W.ite_pos rfl ?_)
            | (k_unfold; (try dsimp only)) | (k_end; wrow_close) | walk1 | (dsimp only; walk1) | (leave1; walk_say "STEP leave1"; try dsimp only) | fail "no step"))
      (rename Fr _ _ _ _ => lF')
      refine LCgL.ld_global lF' X1 T1 (v := .ref 95) (by with_unfolding_all rfl) ?_ (by rfl) (by rfl) (by rfl)
      repeat' (first
        | ((fail_if_success (with_reducible show wpAny _ _ (eval (Expr.Name _ _) (compEnvC _ _ _ _)) _ _ _)); first
            | ((with_reducible refine wpAny_execs_nil ?_); (try dsimp only))
            | (with_reducible refine wpAny_If ?_)
            | ((with_reducible show ite (_ = true) _ _); (fail_if_success (with_reducible show ite (((_ : Bool) == _) = true) _ _)); first | refine PySem.W.ite_neg (Bool.eq_false_iff.mp rfl) ?_ | refine PySem.W.ite_pos rfl ?_)
            | (k_unfold; (try dsimp only)) | (k_end; wrow_close) | walk1 | (dsimp only; walk1) | (leave1; walk_say "STEP leave1"; try dsimp only) | fail "no step"))
      (rename News _ _ _ _ => lN')
      refine LCgL.ld_own lN' (.tail _ (.tail _ (.head _))) hNs hm ?_ (by rfl) (by rfl)
      repeat' (first
        | ((fail_if_success (with_reducible show wpAny _ _ (call (.ref _) _) _ _ _)); first
            | ((with_reducible refine wpAny_execs_nil ?_); (try dsimp only))
            | (with_reducible refine wpAny_If ?_)
            | ((with_reducible show ite (_ = true) _ _); (fail_if_success (with_reducible show ite (((_ : Bool) == _) = true) _ _)); first | refine PySem.W.ite_neg (Bool.eq_false_iff.mp rfl) ?_ | refine PySem.W.ite_pos rfl ?_)
            | (k_unfold; (try dsimp only)) | (k_end; wrow_close) | walk1 | (dsimp only; walk1) | (leave1; walk_say "STEP leave1"; try dsimp only) | fail "no step"))
      (rename News _ _ _ _ => lN'); (rename Fr _ _ _ _ => lF')
      refine' (read_spc w (a9 / 16) (a9 % 16) ta (by omega) (by omega)).use ?k1c ?k2c ?k3c ?k4c ?k5c ?k6c ?kPc ?k7c ?k8c ?_
      case k1c => exact K1
      case k2c => exact lF'
      case k3c => exact X1
      case k4c => exact lN'
      case k5c => exact T1
      case k6c => exact rfl
      case kPc => exact trivial
      case k7c => first | ktr_room | decide
      case k8c => first | ktr_units | decide
      rintro _ h5 tk5 nw5 F5 N5 ⟨rfl, tw, rfl⟩
      (try dsimp only)
      have e9 : 16 * ((a9 / 16 : Nat) : Int) + ((a9 % 16 : Nat) : Int) = (a9 : Int) := by omega
      rw [e9]
      exact ⟨_, F5, N5, sp, rfl, ⟨_, _, rfl⟩, by rw [map_snoc ha]; exact IntsAre.append hz (.cons _ _ .nil)⟩
    case finr =>
      refine fin_eval (by rintro i ys nw s' h tk ⟨rfl, ⟨h9, tk9, rfl⟩, hz⟩; exact ⟨rfl, ⟨_, _, rfl⟩, hz⟩) ?_
      rintro D3 v3 nw s' ⟨rfl, ⟨h5, tk5, rfl⟩, hz⟩ F5 N5 off5 lD5
      rw [List.size_toArray, strs_len hv2, List.length_map, List.take_length] at hz
      repeat' (first
        | ((fail_if_success (with_reducible show wpAny _ _ (compareOp _ _ _) _ _ _)); first
            | ((with_reducible refine wpAny_execs_nil ?_); (try dsimp only))
            | (with_reducible refine wpAny_If ?_)
            | ((with_reducible show ite (_ = true) _ _); (fail_if_success (with_reducible show ite (((_ : Bool) == _) = true) _ _)); first | refine PySem.W.ite_neg (Bool.eq_false_iff.mp rfl) ?_ | refine PySem.W.ite_pos rfl ?_)
            | (k_unfold; (try dsimp only)) | (k_end; wrow_close) | walk1 | (dsimp only; walk1) | (leave1; walk_say "STEP leave1"; try dsimp only) | fail "no step"))
      (rename News _ _ _ _ => lN')
      refine dat_ne lN' (.head _) (ints_dat hz) (.tail _ (.tail _ (.tail _ (.tail _ (.head _))))) (ints_dat hv1) (ints_ok _) (ints_ok _) (by first | ktr_units | decide) (c := false) (by simp) ?_
      clear off5 lD5 hz
      repeat' (first
        | ((fail_if_success (with_reducible show wpAny _ _ (exec (Stmt.Assign _ (Expr.ListComp _ _ _ _) _) _) _ _ _)); first
            | ((with_reducible refine wpAny_execs_nil ?_); (try dsimp only))
            | (with_reducible refine wpAny_If ?_)
            | ((with_reducible show ite (_ = true) _ _); (fail_if_success (with_reducible show ite (((_ : Bool) == _) = true) _ _)); first | refine PySem.W.ite_neg (Bool.eq_false_iff.mp rfl) ?_ | refine PySem.W.ite_pos rfl ?_)
            | (k_unfold; (try dsimp only)) | (k_end; wrow_close) | walk1 | (dsimp only; walk1) | (leave1; walk_say "STEP leave1"; try dsimp only) | fail "no step"))
      (rename News _ _ _ _ => lN')
      have N7 : News Gd L' _ ((64, tabObj #[]) :: [(L' + 1 + 1, oW6), (D2, listOf v2.toArray v2.length), (L' + 1, oR4), (D1, listOf v1.toArray n1), (L' + 1 + 1 + 1, oL)]) := news_of lN' (fun p hp => by simp only [List.mem_cons, List.not_mem_nil, or_false] at hp ⊢; rcases hp with h | h | h | h | h | h <;> simp [h, PySem.W.listOf])
      have off64 : ∀ p ∈ [(L' + 1 + 1, oW6), (D2, listOf v2.toArray v2.length), (L' + 1, oR4), (D1, listOf v1.toArray n1), (L' + 1 + 1 + 1, oL)], p.1 ≠ 64 := by
        refine news_off N7 (.head _) (fun p hp => ⟨.tail _ hp, ?_⟩)
        simp only [List.mem_cons, List.not_mem_nil, or_false] at hp
        rcases hp with rfl | rfl | rfl | rfl | rfl
        · intro e; rw [show oW6 = _ from e] at dW6; cases dW6
        · intro e; cases e
        · intro e; rw [show oR4 = _ from e] at dR4; cases dR4
        · intro e; cases e
        · intro e; rw [show oL = _ from e] at dL; cases dL
      clear lN'
      refine used_list (cl := _) (by rfl) (by with_unfolding_all rfl) (by rfl) (by decide) ?_
      repeat' (first
        | ((fail_if_success (with_reducible show wpAny _ _ (pyIter _) _ _ _)); first
            | ((with_reducible refine wpAny_execs_nil ?_); (try dsimp only))
            | (with_reducible refine wpAny_If ?_)
            | ((with_reducible show ite (_ = true) _ _); (fail_if_success (with_reducible show ite (((_ : Bool) == _) = true) _ _)); first | refine PySem.W.ite_neg (Bool.eq_false_iff.mp rfl) ?_ | refine PySem.W.ite_pos rfl ?_)
            | (k_unfold; (try dsimp only)) | (k_end; wrow_close) | walk1 | (dsimp only; walk1) | (leave1; walk_say "STEP leave1"; try dsimp only) | fail "no step"))
      (try dsimp only)
      (rename News _ _ _ _ => lN'); (rename Fr _ _ _ _ => lF')
      refine iter_list (L := L') (its := v2.toArray) (T := fun _ _ _ => True) (fun i ys nw s' => ∃ ps, Tb ps ∧ nw = (64, tabObj ps) :: [(L' + 1 + 1, oW6), (D2, listOf v2.toArray v2.length), (L' + 1, oR4), (D1, listOf v1.toArray n1), (L' + 1 + 1 + 1, oL)] ∧ AllBare s'.gens ∧ s'.os = s₁.os ∧ StrsAre ys ((rs.take i).map fun n => textXZ (n / 16) (n % 16 + 1))) (fun i v m' => m' (Str.ofString "word") = some v) rfl (by decide) rfl lF' lN' ?szt ?hJt ?hlt (fun _ _ _ _ _ _ _ _ _ => trivial) ?hjt ?hBt ?turnt ?fint
      case szt => exact Nat.le_trans (show _ ≤ 11 from by rw [List.size_toArray, strs_len hv2, List.length_map]; exact hlen) (by decide)
      case hjt => exact ⟨_, Tb.nil, rfl, AllBare.of_eq hg, rfl, .nil⟩
      case hlt => rintro i ys nw s' h ⟨ps, _, rfl, _⟩ F N; exact News.isList N (.tail _ (.tail _ (.head _)))
      case hBt => exact fun I => bind_name (P := fun i v => (v2.toArray)[i]? = some v) (St := fun i h => h.IsListIter I _ i ∧ h.IsList _ (v2.toArray)) (T := fun _ _ _ => True) rfl (by rfl)
      case hJt => rintro i ys nw s' h tk ⟨ps, hps, rfl, hg, ho, hz⟩; exact ⟨ps, hps, rfl, hg, ho, hz⟩
      case turnt =>
        rintro I C D i v ys oC m' nw ⟨h9, g9, d9, tk9, os9⟩ oI hv ⟨ps, hps, rfl, hGn, hos, hz⟩ hNs hm F' N' sp lI lD lC
        obtain ⟨a9, ta, ha, rfl⟩ := strs_get hv2 hv
        have ha256 : a9 < 256 := h256 _ (List.mem_of_getElem? ha)
        have l64I : 64 < I := lI _ (.head _)
        refine tests_none ?_
        rw [if_pos rfl]
        (try dsimp only at F' N' hGn hos ⊢)
        repeat' (first
          | ((fail_if_success (with_reducible show wpAny _ _ (eval (Expr.Name _ _) (compEnvC _ _ _ _)) _ _ _)); first
              | ((with_reducible refine wpAny_execs_nil ?_); (try dsimp only))
              | (with_reducible refine wpAny_If ?_)
              | ((with_reducible show ite (_ = true) _ _); (fail_if_success (with_reducible show ite (((_ : Bool) == _) = true) _ _)); first | refine PySem.W.ite_neg (Bool.eq_false_iff.mp rfl) ?_ | refine PySem.W.ite_pos rfl ?_)
              | (k_unfold; (try dsimp only)) | (k_end; wrow_close) | walk1 | (dsimp only; walk1) | (leave1; walk_say "STEP leave1"; try dsimp only) | fail "no step"))
        (rename Fr _ _ _ _ => lF')
        refine LCgL.ld_global lF' X1 T1 (v := .ref 109) (by with_unfolding_all rfl) ?_ (by rfl) (by rfl) (by rfl)
        repeat' (first
          | ((fail_if_success (with_reducible show wpAny _ _ (eval (Expr.Name _ _) (compEnvC _ _ _ _)) _ _ _)); first
              | ((with_reducible refine wpAny_execs_nil ?_); (try dsimp only))
              | (with_reducible refine wpAny_If ?_)
              | ((with_reducible show ite (_ = true) _ _); (fail_if_success (with_reducible show ite (((_ : Bool) == _) = true) _ _)); first | refine PySem.W.ite_neg (Bool.eq_false_iff.mp rfl) ?_ | refine PySem.W.ite_pos rfl ?_)
              | (k_unfold; (try dsimp only)) | (k_end; wrow_close) | walk1 | (dsimp only; walk1) | (leave1; walk_say "STEP leave1"; try dsimp only) | fail "no step"))
        (rename News _ _ _ _ => lN')
        refine LCgL.ld_own lN' (.tail _ (.tail _ (.head _))) hNs hm ?_ (by rfl) (by rfl)
        repeat' (first
          | ((fail_if_success (with_reducible show wpAny _ _ (call (.ref _) _) _ _ _)); first
              | ((with_reducible refine wpAny_execs_nil ?_); (try dsimp only))
              | (with_reducible refine wpAny_If ?_)
              | ((with_reducible show ite (_ = true) _ _); (fail_if_success (with_reducible show ite (((_ : Bool) == _) = true) _ _)); first | refine PySem.W.ite_neg (Bool.eq_false_iff.mp rfl) ?_ | refine PySem.W.ite_pos rfl ?_)
              | (k_unfold; (try dsimp only)) | (k_end; wrow_close) | walk1 | (dsimp only; walk1) | (leave1; walk_say "STEP leave1"; try dsimp only) | fail "no step"))
        (rename News _ _ _ _ => lN')
        replace lN' : News Gd L' _ ((64, tabObj ps) :: (I, oI) :: (D, LCg.lst ys) :: (C, oC) :: [(L' + 1 + 1, oW6), (D2, listOf v2.toArray v2.length), (L' + 1, oR4), (D1, listOf v1.toArray n1), (L' + 1 + 1 + 1, oL)]) := news_of lN' (mem_rot _ _ _ _ _)
        have o64 : ∀ p ∈ (I, oI) :: (D, LCg.lst ys) :: (C, oC) :: [(L' + 1 + 1, oW6), (D2, listOf v2.toArray v2.length), (L' + 1, oR4), (D1, listOf v1.toArray n1), (L' + 1 + 1 + 1, oL)], p.1 ≠ 64 := fun p hp => by
          rcases List.mem_cons.mp hp with rfl | hp
          · exact Nat.ne_of_gt l64I
          rcases List.mem_cons.mp hp with rfl | hp
          · exact Nat.ne_of_gt (Nat.lt_trans l64I lD)
          rcases List.mem_cons.mp hp with rfl | hp
          · exact Nat.ne_of_gt (Nat.lt_trans (Nat.lt_trans l64I lD) lC)
          · exact off64 p hp
        refine' (text_spc w (a9 / 16) (a9 % 16) ta ((I, oI) :: (D, LCg.lst ys) :: (C, oC) :: [(L' + 1 + 1, oW6), (D2, listOf v2.toArray v2.length), (L' + 1, oR4), (D1, listOf v1.toArray n1), (L' + 1 + 1 + 1, oL)]) (by omega) (by omega) o64).use ?k1d ?k2d ?k3d ?k4d ?k5d ?k6d ⟨ps, hps, rfl⟩ ?kGd ?k7d ?k8d ?_
        (rename Fr _ _ _ _ => lF')
        case k1d => exact K1
        case k2d => exact (by assumption)
        case k3d => exact X1
        case k4d => exact lN'
        case k5d => exact T1
        case kGd => exact hGn
        case k6d => exact rfl
        case k7d => first | ktr_room | decide
        case k8d => first | ktr_units | decide
        rintro _ s5 nw5 F5 N5 G5 o5 ⟨ps5, t5, rfl, hps5, rfl⟩
        exact ⟨_, F5, news_of N5 (mem_rot' _ _ _ _ _), fun p hp => by
          rcases List.mem_cons.mp hp with rfl | hp
          · exact sp (64, tabObj ps) (.head _)
          · exact sp p (.tail _ hp), ps5, hps5, rfl, G5, o5.trans hos, by rw [map_snoc ha]; exact hz.append' (.cons _ _ .nil)⟩
      case fint =>
        refine fin_used (env := envOfC _ _ L' fa cd) rfl (by rfl) (by rfl) (by rintro i ys nw s' h tk ⟨ps, hps, rfl, hg, ho, hz⟩; exact ⟨ps, hps, rfl, hg, ho, hz⟩) ?_
        rintro D4 v4 nw ⟨h5, g5, d5, tk5, os5⟩ ⟨ps, hps, rfl, hGn, hos, hz⟩ F5 N5 off5 lD5
        have hv4 : StrsAre v4 (rs.map fun n => textXZ (n / 16) (n % 16 + 1)) := by rwa [List.size_toArray, strs_len hv2, List.length_map, List.take_length] at hz
        clear hz off5 lD5
        (try dsimp only at F5 N5 hGn hos ⊢)
        have N8 : News Gd L' _ ((D4, listOf v4.toArray v4.length) :: (64, tabObj ps) :: [(L' + 1 + 1, oW6), (D2, listOf v2.toArray v2.length), (L' + 1, oR4), (D1, listOf v1.toArray n1), (L' + 1 + 1 + 1, oL)]) := N5
        repeat' (first
          | ((fail_if_success (with_reducible show wpAny _ _ (exec (Stmt.Assign _ (Expr.ListComp _ _ _ _) _) _) _ _ _)); first
              | ((with_reducible refine wpAny_execs_nil ?_); (try dsimp only))
              | (with_reducible refine wpAny_If ?_)
              | ((with_reducible show ite (_ = true) _ _); (fail_if_success (with_reducible show ite (((_ : Bool) == _) = true) _ _)); first | refine PySem.W.ite_neg (Bool.eq_false_iff.mp rfl) ?_ | refine PySem.W.ite_pos rfl ?_)
              | (k_unfold; (try dsimp only)) | (k_end; wrow_close) | walk1 | (dsimp only; walk1) | (leave1; walk_say "STEP leave1"; try dsimp only) | fail "no step"))
        refine used_list (cl := _) (by rfl) (by with_unfolding_all rfl) (by rfl) (by decide) ?_
        repeat' (first
          | ((fail_if_success (with_reducible show wpAny _ _ (pyIter _) _ _ _)); first
              | ((with_reducible refine wpAny_execs_nil ?_); (try dsimp only))
              | (with_reducible refine wpAny_If ?_)
              | ((with_reducible show ite (_ = true) _ _); (fail_if_success (with_reducible show ite (((_ : Bool) == _) = true) _ _)); first | refine PySem.W.ite_neg (Bool.eq_false_iff.mp rfl) ?_ | refine PySem.W.ite_pos rfl ?_)
              | (k_unfold; (try dsimp only)) | (k_end; wrow_close) | walk1 | (dsimp only; walk1) | (leave1; walk_say "STEP leave1"; try dsimp only) | fail "no step"))
        (try dsimp only)
        (rename News _ _ _ _ => lN'); (rename Fr _ _ _ _ => lF')
        refine iter_list_c (L := L') (its := v4.toArray) (fun i ys nw s' => (∀ p ∈ (D4, listOf v4.toArray v4.length) :: (64, tabObj ps) :: [(L' + 1 + 1, oW6), (D2, listOf v2.toArray v2.length), (L' + 1, oR4), (D1, listOf v1.toArray n1), (L' + 1 + 1 + 1, oL)], p ∈ nw) ∧ AllBare s'.gens ∧ s'.os = s₁.os ∧ DatAll nw ys ((rs.take i).map fun n => PySem.W.Dat.list (rs.map fun m => PySem.W.Dat.bool (le2 m n)))) rfl (by intro n; rfl) (by intro h; rfl) rfl (by rfl) lF' lN' ?szf ?hJf ?hlf ?hjf ?turnf ?finf
        case szf => exact Nat.le_trans (show _ ≤ 11 from by rw [List.size_toArray, strs_len hv4, List.length_map]; exact hlen) (by decide)
        case hjf => exact ⟨fun p hp => hp, hGn, hos, .nil⟩
        case hlf => rintro i ys nw s' h ⟨hb, _⟩ F N; exact News.isList N (hb _ (.head _))
        case hJf => rintro i ys nw s' h tk ⟨h1, h2, h3⟩; exact ⟨h1, h2, h3⟩
        case turnf =>
          rintro I C c D i v ys oC oc nw ⟨h9, g9, d9, tk9, os9⟩ oI hv ⟨hb, hGn9, hos9, hz⟩ hoc F' N' sp lI lD lC lc
          obtain ⟨a9, ta, ha, rfl⟩ := strs_getF hv4 hv
          have ha256 : a9 < 256 := h256 _ (List.mem_of_getElem? ha)
          refine tests_none ?_
          rw [if_pos rfl]
          (try dsimp only at F' N' hGn9 hos9 ⊢)
          refine eval_list (cl := _) (by with_unfolding_all rfl) (by rfl) (by decide) ?_
          have mV : (L' + 1 + 1, oW6) ∈ nw := hb _ (.tail _ (.tail _ (.head _)))
          have mWd : (D2, listOf v2.toArray v2.length) ∈ nw := hb _ (.tail _ (.tail _ (.tail _ (.head _))))
          (rename News _ _ _ _ => lN')
          refine lcf_cell lN' (c := L' + 1 + 1) (o := oW6) rfl (.tail _ (.tail _ (.tail _ (.tail _ mV)))) dW6 ?_ rfl rfl
          (try dsimp only)
          (rename News _ _ _ _ => lN'); (rename Fr _ _ _ _ => lF')
          refine iter_list (L := L') (its := v2.toArray) (T := fun _ _ _ => True) (fun i2 ys2 nw2 s2 => nw2 = (I, oI) :: (D, LCg.lst ys) :: (C, oC) :: (c, oc) :: nw ∧ (∃ h tk, s2 = { heap := h, gens := g9, drawn := d9, toks := tk, os := os9 }) ∧ ys2 = ((rs.take i2).map fun m => Value.bool (le2 m a9))) (fun i v m' => m' (Str.ofString "word") = some v) rfl (by decide) rfl lF' lN' ?szg ?hJg ?hlg (fun _ _ _ _ _ _ _ _ _ => trivial) ?hjg ?hBg ?turng ?fing
          case szg => exact Nat.le_trans (show _ ≤ 11 from by rw [List.size_toArray, strs_len hv2, List.length_map]; exact hlen) (by decide)
          case hjg => exact ⟨rfl, ⟨_, _, rfl⟩, rfl⟩
          case hlg => rintro i2 ys2 nw2 s2 h ⟨rfl, _⟩ F N; exact News.isList N (.tail _ (.tail _ (.tail _ (.tail _ mWd))))
          case hBg => exact fun I => bind_name (P := fun i v => (v2.toArray)[i]? = some v) (St := fun i h => h.IsListIter I _ i ∧ h.IsList _ (v2.toArray)) (T := fun _ _ _ => True) rfl (by rfl)
          case hJg => rintro i2 ys2 nw2 s2 h tk ⟨rfl, ⟨h9, tk9, rfl⟩, hz⟩; exact ⟨rfl, ⟨_, _, rfl⟩, hz⟩
          case turng =>
            rintro I2 C2 D2' i2 v ys2 oC2 m2 nw2 s2 oI2 hv2' ⟨rfl, ⟨h8, tk8, rfl⟩, hz2⟩ hNs hm F2' N2' sp2 lI2 lD2 lC2
            obtain ⟨b9, tb, hb9, rfl⟩ := strs_get hv2 hv2'
            have hb256 : b9 < 256 := h256 _ (List.mem_of_getElem? hb9)
            refine tests_none ?_
            rw [if_pos rfl]
            repeat' (first
              | ((fail_if_success (with_reducible show wpAny _ _ (eval (Expr.Name _ _) (compEnvC _ _ _ _)) _ _ _)); first
                  | ((with_reducible refine wpAny_execs_nil ?_); (try dsimp only))
                  | (with_reducible refine wpAny_If ?_)
                  | ((with_reducible show ite (_ = true) _ _); (fail_if_success (with_reducible show ite (((_ : Bool) == _) = true) _ _)); first | refine PySem.W.ite_neg (Bool.eq_false_iff.mp rfl) ?_ | refine PySem.W.ite_pos rfl ?_)
                  | (k_unfold; (try dsimp only)) | (k_end; wrow_close) | walk1 | (dsimp only; walk1) | (leave1; walk_say "STEP leave1"; try dsimp only) | fail "no step"))
            (rename Fr _ _ _ _ => lF')
            refine LCgL.ld_global lF' X1 T1 (v := .ref 116) (by with_unfolding_all rfl) ?_ (by rfl) (by rfl) (by rfl)
            repeat' (first
              | ((fail_if_success (with_reducible show wpAny _ _ (eval (Expr.Name _ _) (compEnvC _ _ _ _)) _ _ _)); first
                  | ((with_reducible refine wpAny_execs_nil ?_); (try dsimp only))
                  | (with_reducible refine wpAny_If ?_)
                  | ((with_reducible show ite (_ = true) _ _); (fail_if_success (with_reducible show ite (((_ : Bool) == _) = true) _ _)); first | refine PySem.W.ite_neg (Bool.eq_false_iff.mp rfl) ?_ | refine PySem.W.ite_pos rfl ?_)
                  | (k_unfold; (try dsimp only)) | (k_end; wrow_close) | walk1 | (dsimp only; walk1) | (leave1; walk_say "STEP leave1"; try dsimp only) | fail "no step"))
            (rename News _ _ _ _ => lN')
            refine lcf_cell lN' (c := c) (o := oc) rfl (.tail _ (.tail _ (.tail _ (.tail _ (.tail _ (.tail _ (.head _))))))) hoc ?_ rfl rfl
            repeat' (first
              | ((fail_if_success (with_reducible show wpAny _ _ (eval (Expr.Name _ _) (compEnvC _ _ _ _)) _ _ _)); first
                  | ((with_reducible refine wpAny_execs_nil ?_); (try dsimp only))
                  | (with_reducible refine wpAny_If ?_)
                  | ((with_reducible show ite (_ = true) _ _); (fail_if_success (with_reducible show ite (((_ : Bool) == _) = true) _ _)); first | refine PySem.W.ite_neg (Bool.eq_false_iff.mp rfl) ?_ | refine PySem.W.ite_pos rfl ?_)
                  | (k_unfold; (try dsimp only)) | (k_end; wrow_close) | walk1 | (dsimp only; walk1) | (leave1; walk_say "STEP leave1"; try dsimp only) | fail "no step"))
            (rename News _ _ _ _ => lN')
            refine LCgL.ld_own lN' (.tail _ (.tail _ (.head _))) hNs hm ?_ (by rfl) (by rfl)
            repeat' (first
              | ((fail_if_success (with_reducible show wpAny _ _ (call (.ref _) _) _ _ _)); first
                  | ((with_reducible refine wpAny_execs_nil ?_); (try dsimp only))
                  | (with_reducible refine wpAny_If ?_)
                  | ((with_reducible show ite (_ = true) _ _); (fail_if_success (with_reducible show ite (((_ : Bool) == _) = true) _ _)); first | refine PySem.W.ite_neg (Bool.eq_false_iff.mp rfl) ?_ | refine PySem.W.ite_pos rfl ?_)
                  | (k_unfold; (try dsimp only)) | (k_end; wrow_close) | walk1 | (dsimp only; walk1) | (leave1; walk_say "STEP leave1"; try dsimp only) | fail "no step"))
            (rename News _ _ _ _ => lN'); (rename Fr _ _ _ _ => lF')
            refine' (takes_spc w a9 b9 ta tb ha256 hb256).use ?k1g ?k2g ?k3g ?k4g ?k5g ?k6g ?kPg ?k7g ?k8g ?_
            case k1g => exact K1
            case k2g => exact lF'
            case k3g => exact X1
            case k4g => exact lN'
            case k5g => exact T1
            case k6g => exact rfl
            case kPg => exact trivial
            case k7g => first | ktr_room | decide
            case k8g => first | ktr_units | decide
            rintro _ h5 tk5 nw5 F5' N5' ⟨rfl, rfl⟩
            (try dsimp only)
            exact ⟨_, F5', N5', sp2, rfl, ⟨_, _, rfl⟩, by rw [map_snoc hb9, hz2]⟩
          case fing =>
            refine fin_eval (by rintro i2 ys2 nw2 s2 h tk ⟨rfl, ⟨h9, tk9, rfl⟩, hz⟩; exact ⟨rfl, ⟨_, _, rfl⟩, hz⟩) ?_
            rintro D6 ys6 nw6 s6 ⟨rfl, ⟨h8, tk8, rfl⟩, hz2⟩ F6 N6' off6 lD6
            rw [List.size_toArray, strs_len hv2, List.length_map, List.take_length] at hz2
            (try dsimp only)
            refine ⟨(D6, LCg.lst ys6) :: nw, F6, news_of N6' (mem_rot4 _ _ _ _ _ _), fun p hp => ?_, fun p hp => .tail _ (hb p hp), hGn9, hos9, ?_⟩
            · rcases List.mem_cons.mp hp with rfl | hp
              · have hI6 := lD6 _ (.head _)
                have hD6 := lD6 _ (.tail _ (.head _))
                have hC6 := lD6 _ (.tail _ (.tail _ (.head _)))
                have hc6 := lD6 _ (.tail _ (.tail _ (.tail _ (.head _))))
                refine ⟨Nat.ne_of_gt hI6, Nat.ne_of_gt hD6, fun q => ?_⟩
                simp only [List.map_cons, List.map_nil, List.mem_cons, List.not_mem_nil, or_false] at q
                rcases q with q | q
                · exact Nat.ne_of_gt hC6 q
                · exact Nat.ne_of_gt hc6 q
              · exact sp p hp
            · rw [map_snoc ha]
              refine dat_snoc (hz.mono fun p hp => .tail _ hp) (.list (vs := ys6) (.head _) ?_)
              rw [hz2]; exact bools_dat _ _
        case finf =>
          refine fin_used (env := envOfC _ _ L' fa cd) rfl (by rfl) (by rfl) (by rintro i ys nw s' h tk ⟨h1, h2, h3⟩; exact ⟨h1, h2, h3⟩) ?_
          rintro D7 v7 nw ⟨h5, g5, d5, tk5, os5⟩ ⟨hb7, hGn7, hos7, hz7⟩ F7 N7 off7 lD7
          rw [List.size_toArray, strs_len hv4, List.length_map, List.take_length] at hz7
          clear off7 lD7 hGn hos
          (try dsimp only at F7 N7 hGn7 hos7 ⊢)
          have hb8 : ∀ p ∈ (D4, listOf v4.toArray v4.length) :: (64, tabObj ps) :: [(L' + 1 + 1, oW6), (D2, listOf v2.toArray v2.length), (L' + 1, oR4), (D1, listOf v1.toArray n1), (L' + 1 + 1 + 1, oL)], p ∈ (D7, LCg.lst v7) :: nw := fun p hp => .tail _ (hb7 p hp)
          have mT7 : (D7, LCg.lst v7) ∈ (D7, LCg.lst v7) :: nw := .head _
          replace hz7 := DatAll.mono (fun p hp => List.mem_cons_of_mem (D7, LCg.lst v7) hp) hz7
          generalize hnw8 : (D7, LCg.lst v7) :: nw = nw8 at N7 hb8 mT7 hz7
          clear hnw8 hb7
          repeat' (first
            | ((fail_if_success (with_reducible show wpAny _ _ (eval (Expr.ListComp _ _ _ _) _) _ _ _)); (fail_if_success (with_reducible show wpAny _ _ (eval (Expr.Name (Str.ofString "rows") _) _) _ _ _)); first
                | ((with_reducible refine wpAny_execs_nil ?_); (try dsimp only))
                | (with_reducible refine wpAny_If ?_)
                | ((with_reducible show ite (_ = true) _ _); (fail_if_success (with_reducible show ite (((_ : Bool) == _) = true) _ _)); first | refine PySem.W.ite_neg (Bool.eq_false_iff.mp rfl) ?_ | refine PySem.W.ite_pos rfl ?_)
                | (k_unfold; (try dsimp only)) | (k_end; wrow_close) | walk1 | (dsimp only; walk1) | (leave1; walk_say "STEP leave1"; try dsimp only) | fail "no step"))
          refine eval_list (cl := _) (by with_unfolding_all rfl) (by rfl) (by decide) ?_
          (rename News _ _ _ _ => lN')
          refine nameX_C lN' (c := L' + 1) (o := oR4) rfl (hb8 _ (.tail _ (.tail _ (.tail _ (.tail _ (.head _)))))) dR4 ?_
          (try dsimp only)
          (rename News _ _ _ _ => lN'); (rename Fr _ _ _ _ => lF')
          refine iter_list_c (L := L') (its := v1.toArray) (fun i ys nw s' => (∀ p ∈ nw8, p ∈ nw) ∧ AllBare s'.gens ∧ s'.os = s₁.os ∧ DatAll nw ys ((rs.take i).map fun n => PySem.W.Dat.list (rs.map fun m => PySem.W.Dat.bool (le2 m n)))) rfl (by intro n; rfl) (by intro h; rfl) rfl (by rfl) lF' lN' ?szh ?hJh ?hlh ?hjh ?turnh ?finh
          case szh => exact Nat.le_trans (show _ ≤ 11 from by rw [List.size_toArray, IntsAre.length hv1, List.length_map]; exact hlen) (by decide)
          case hjh => exact ⟨fun p hp => hp, hGn7, hos7, .nil⟩
          case hlh => rintro i ys nw s' h ⟨hb, _⟩ F N; exact News.isList N (hb _ (hb8 _ (.tail _ (.tail _ (.tail _ (.tail _ (.tail _ (.head _))))))))
          case hJh => rintro i ys nw s' h tk ⟨h1, h2, h3⟩; exact ⟨h1, h2, h3⟩
          case turnh =>
            rintro I C c D i v ys oC oc nw ⟨h9, g9, d9, tk9, os9⟩ oI hv ⟨hb, hGn9, hos9, hz⟩ hoc F' N' sp lI lD lC lc
            obtain ⟨a9, ta, ha, rfl⟩ := ints_nat hv1 hv
            have ha256 : a9 < 256 := h256 _ (List.mem_of_getElem? ha)
            refine tests_none ?_
            rw [if_pos rfl]
            (try dsimp only at F' N' hGn9 hos9 ⊢)
            refine eval_list (cl := _) (by with_unfolding_all rfl) (by rfl) (by decide) ?_
            (rename News _ _ _ _ => lN')
            refine lcf_cell lN' (c := L' + 1) (o := oR4) rfl (.tail _ (.tail _ (.tail _ (.tail _ (hb _ (hb8 _ (.tail _ (.tail _ (.tail _ (.tail _ (.head _))))))))))) dR4 ?_ rfl rfl
            (try dsimp only)
            (rename News _ _ _ _ => lN'); (rename Fr _ _ _ _ => lF')
            refine iter_list (L := L') (its := v1.toArray) (T := fun _ _ _ => True) (fun i2 ys2 nw2 s2 => nw2 = (I, oI) :: (D, LCg.lst ys) :: (C, oC) :: (c, oc) :: nw ∧ (∃ h tk, s2 = { heap := h, gens := g9, drawn := d9, toks := tk, os := os9 }) ∧ ys2 = ((rs.take i2).map fun m => Value.bool (le2 m a9))) (fun i v m' => m' (Str.ofString "one") = some v) rfl (by decide) rfl lF' lN' ?szi ?hJi ?hli (fun _ _ _ _ _ _ _ _ _ => trivial) ?hji ?hBi ?turni ?fini
            case szi => exact Nat.le_trans (show _ ≤ 11 from by rw [List.size_toArray, IntsAre.length hv1, List.length_map]; exact hlen) (by decide)
            case hji => exact ⟨rfl, ⟨_, _, rfl⟩, rfl⟩
            case hli => rintro i2 ys2 nw2 s2 h ⟨rfl, _⟩ F N; exact News.isList N (.tail _ (.tail _ (.tail _ (.tail _ (hb _ (hb8 _ (.tail _ (.tail _ (.tail _ (.tail _ (.tail _ (.head _))))))))))))
            case hBi => exact fun I => bind_name (P := fun i v => (v1.toArray)[i]? = some v) (St := fun i h => h.IsListIter I _ i ∧ h.IsList _ (v1.toArray)) (T := fun _ _ _ => True) rfl (by rfl)
            case hJi => rintro i2 ys2 nw2 s2 h tk ⟨rfl, ⟨h9, tk9, rfl⟩, hz⟩; exact ⟨rfl, ⟨_, _, rfl⟩, hz⟩
            case turni =>
              rintro I2 C2 D2' i2 v ys2 oC2 m2 nw2 s2 oI2 hv2' ⟨rfl, ⟨h8, tk8, rfl⟩, hz2⟩ hNs hm F2' N2' sp2 lI2 lD2 lC2
              obtain ⟨b9, tb, hb9, rfl⟩ := ints_nat hv1 hv2'
              have hb256 : b9 < 256 := h256 _ (List.mem_of_getElem? hb9)
              refine tests_none ?_
              rw [if_pos rfl]
              repeat' (first
                | ((fail_if_success (with_reducible show wpAny _ _ (eval (Expr.Name _ _) (compEnvC _ _ _ _)) _ _ _)); first
                    | ((with_reducible refine wpAny_execs_nil ?_); (try dsimp only))
                    | (with_reducible refine wpAny_If ?_)
                    | ((with_reducible show ite (_ = true) _ _); (fail_if_success (with_reducible show ite (((_ : Bool) == _) = true) _ _)); first | refine PySem.W.ite_neg (Bool.eq_false_iff.mp rfl) ?_ | refine PySem.W.ite_pos rfl ?_)
                    | (k_unfold; (try dsimp only)) | (k_end; wrow_close) | walk1 | (dsimp only; walk1) | (leave1; walk_say "STEP leave1"; try dsimp only) | fail "no step"))
              (rename Fr _ _ _ _ => lF')
              refine LCgL.ld_global lF' X1 T1 (v := .ref 135) (by with_unfolding_all rfl) ?_ (by rfl) (by rfl) (by rfl)
              repeat' (first
                | ((fail_if_success (with_reducible show wpAny _ _ (eval (Expr.Name _ _) (compEnvC _ _ _ _)) _ _ _)); first
                    | ((with_reducible refine wpAny_execs_nil ?_); (try dsimp only))
                    | (with_reducible refine wpAny_If ?_)
                    | ((with_reducible show ite (_ = true) _ _); (fail_if_success (with_reducible show ite (((_ : Bool) == _) = true) _ _)); first | refine PySem.W.ite_neg (Bool.eq_false_iff.mp rfl) ?_ | refine PySem.W.ite_pos rfl ?_)
                    | (k_unfold; (try dsimp only)) | (k_end; wrow_close) | walk1 | (dsimp only; walk1) | (leave1; walk_say "STEP leave1"; try dsimp only) | fail "no step"))
              (rename News _ _ _ _ => lN')
              refine LCgL.ld_own lN' (.tail _ (.tail _ (.head _))) hNs hm ?_ (by rfl) (by rfl)
              repeat' (first
                | ((fail_if_success (with_reducible show wpAny _ _ (eval (Expr.Name _ _) (compEnvC _ _ _ _)) _ _ _)); first
                    | ((with_reducible refine wpAny_execs_nil ?_); (try dsimp only))
                    | (with_reducible refine wpAny_If ?_)
                    | ((with_reducible show ite (_ = true) _ _); (fail_if_success (with_reducible show ite (((_ : Bool) == _) = true) _ _)); first | refine PySem.W.ite_neg (Bool.eq_false_iff.mp rfl) ?_ | refine PySem.W.ite_pos rfl ?_)
                    | (k_unfold; (try dsimp only)) | (k_end; wrow_close) | walk1 | (dsimp only; walk1) | (leave1; walk_say "STEP leave1"; try dsimp only) | fail "no step"))
              (rename News _ _ _ _ => lN')
              refine lcf_cell lN' (c := c) (o := oc) rfl (.tail _ (.tail _ (.tail _ (.tail _ (.tail _ (.tail _ (.head _))))))) hoc ?_ rfl rfl
              repeat' (first
                | ((fail_if_success (with_reducible show wpAny _ _ (call (.ref _) _) _ _ _)); first
                    | ((with_reducible refine wpAny_execs_nil ?_); (try dsimp only))
                    | (with_reducible refine wpAny_If ?_)
                    | ((with_reducible show ite (_ = true) _ _); (fail_if_success (with_reducible show ite (((_ : Bool) == _) = true) _ _)); first | refine PySem.W.ite_neg (Bool.eq_false_iff.mp rfl) ?_ | refine PySem.W.ite_pos rfl ?_)
                    | (k_unfold; (try dsimp only)) | (k_end; wrow_close) | walk1 | (dsimp only; walk1) | (leave1; walk_say "STEP leave1"; try dsimp only) | fail "no step"))
              (rename News _ _ _ _ => lN'); (rename Fr _ _ _ _ => lF')
              refine' (below_spc w b9 a9 tb ta (by omega) (by omega) (by omega) (by omega)).use ?k1i ?k2i ?k3i ?k4i ?k5i ?k6i ?kPi ?k7i ?k8i ?_
              case k1i => exact K1
              case k2i => exact lF'
              case k3i => exact X1
              case k4i => exact lN'
              case k5i => exact T1
              case k6i => exact rfl
              case kPi => exact trivial
              case k7i => first | ktr_room | decide
              case k8i => first | ktr_units | decide
              rintro _ h5 tk5 nw5 F5' N5' ⟨rfl, rfl⟩
              (try dsimp only)
              rw [below_eq hb256 ha256]
              exact ⟨_, F5', N5', sp2, rfl, ⟨_, _, rfl⟩, by rw [map_snoc hb9, hz2]⟩
            case fini =>
              refine fin_eval (by rintro i2 ys2 nw2 s2 h tk ⟨rfl, ⟨h9, tk9, rfl⟩, hz⟩; exact ⟨rfl, ⟨_, _, rfl⟩, hz⟩) ?_
              rintro D6 ys6 nw6 s6 ⟨rfl, ⟨h8, tk8, rfl⟩, hz2⟩ F6 N6' off6 lD6
              rw [List.size_toArray, IntsAre.length hv1, List.length_map, List.take_length] at hz2
              (try dsimp only)
              refine ⟨(D6, LCg.lst ys6) :: nw, F6, news_of N6' (mem_rot4 _ _ _ _ _ _), fun p hp => ?_, fun p hp => .tail _ (hb p hp), hGn9, hos9, ?_⟩
              · rcases List.mem_cons.mp hp with rfl | hp
                · have hI6 := lD6 _ (.head _)
                  have hD6 := lD6 _ (.tail _ (.head _))
                  have hC6 := lD6 _ (.tail _ (.tail _ (.head _)))
                  have hc6 := lD6 _ (.tail _ (.tail _ (.tail _ (.head _))))
                  refine ⟨Nat.ne_of_gt hI6, Nat.ne_of_gt hD6, fun q => ?_⟩
                  simp only [List.map_cons, List.map_nil, List.mem_cons, List.not_mem_nil, or_false] at q
                  rcases q with q | q
                  · exact Nat.ne_of_gt hC6 q
                  · exact Nat.ne_of_gt hc6 q
                · exact sp p hp
              · rw [map_snoc ha]
                refine dat_snoc (hz.mono fun p hp => .tail _ hp) (.list (vs := ys6) (.head _) ?_)
                rw [hz2]; exact bools_dat _ _
          case finh =>
            refine fin_eval (by rintro i ys nw s' h tk ⟨h1, h2, h3⟩; exact ⟨h1, h2, h3⟩) ?_
            rintro D8 v8 nw ⟨h5, g5, d5, tk5, os5⟩ ⟨hb9, hGn9, hos9, hz8⟩ F8 N8 off8 lD8
            rw [List.size_toArray, IntsAre.length hv1, List.length_map, List.take_length] at hz8
            clear off8 lD8
            (try dsimp only at F8 N8 hGn9 hos9 ⊢)
            repeat' (first
              | ((fail_if_success (with_reducible show wpAny _ _ (compareOp _ _ _) _ _ _)); first
                  | ((with_reducible refine wpAny_execs_nil ?_); (try dsimp only))
                  | (with_reducible refine wpAny_If ?_)
                  | ((with_reducible show ite (_ = true) _ _); (fail_if_success (with_reducible show ite (((_ : Bool) == _) = true) _ _)); first | refine PySem.W.ite_neg (Bool.eq_false_iff.mp rfl) ?_ | refine PySem.W.ite_pos rfl ?_)
                  | (k_unfold; (try dsimp only)) | (k_end; wrow_close) | walk1 | (dsimp only; walk1) | (leave1; walk_say "STEP leave1"; try dsimp only) | fail "no step"))
            have er : (rs.map fun n => PySem.W.Dat.list (rs.map fun m => PySem.W.Dat.bool (le2 m n))) = ((rs.map fun n => rs.map fun m => le2 m n).map fun bs => PySem.W.Dat.list (bs.map PySem.W.Dat.bool)) := by simp [List.map_map, Function.comp_def]
            rw [er] at hz7 hz8
            (rename News _ _ _ _ => lN')
            refine bool_rows_ne lN' (.tail _ (hb9 _ mT7)) (hz7.mono fun p hp => .tail _ (hb9 p hp)) (.head _) (hz8.mono fun p hp => .tail _ hp) (by first | ktr_units | decide) ?_
            repeat' (first
              | ((fail_if_success (with_reducible show wpAny _ _ (exec (Stmt.Assign _ (Expr.ListComp _ _ _ _) _) _) _ _ _)); first
                  | ((with_reducible refine wpAny_execs_nil ?_); (try dsimp only))
                  | (with_reducible refine wpAny_If ?_)
                  | ((with_reducible show ite (_ = true) _ _); (fail_if_success (with_reducible show ite (((_ : Bool) == _) = true) _ _)); first | refine PySem.W.ite_neg (Bool.eq_false_iff.mp rfl) ?_ | refine PySem.W.ite_pos rfl ?_)
                  | (k_unfold; (try dsimp only)) | (k_end; wrow_close) | walk1 | (dsimp only; walk1) | (leave1; walk_say "STEP leave1"; try dsimp only) | fail "no step"))
            have hb0 : ∀ p ∈ (D4, listOf v4.toArray v4.length) :: (64, tabObj ps) :: [(L' + 1 + 1, oW6), (D2, listOf v2.toArray v2.length), (L' + 1, oR4), (D1, listOf v1.toArray n1), (L' + 1 + 1 + 1, oL)], p ∈ (D8, LCg.lst v8) :: nw := fun p hp => .tail _ (hb9 p (hb8 p hp))
            replace N8 : News Gd L' _ ((D8, LCg.lst v8) :: nw) := lN'
            generalize hnw0 : (D8, LCg.lst v8) :: nw = nw0 at N8 hb0
            clear hnw0 hb9 hz7 hz8 er hb8 mT7 lN'
            refine used_list (cl := _) (by rfl) (by with_unfolding_all rfl) (by rfl) (by decide) ?_
            repeat' (first
              | ((fail_if_success (with_reducible show wpAny _ _ (pyIter _) _ _ _)); (fail_if_success (with_reducible show wpAny _ _ (call (.ref _) _) _ _ _)); (fail_if_success (with_reducible show wpAny _ _ (eval (Expr.Name (Str.ofString "words") _) _) _ _ _)); first
                  | ((with_reducible refine wpAny_execs_nil ?_); (try dsimp only))
                  | (with_reducible refine wpAny_If ?_)
                  | ((with_reducible show ite (_ = true) _ _); (fail_if_success (with_reducible show ite (((_ : Bool) == _) = true) _ _)); first | refine PySem.W.ite_neg (Bool.eq_false_iff.mp rfl) ?_ | refine PySem.W.ite_pos rfl ?_)
                  | (k_unfold; (try dsimp only)) | (k_end; wrow_close) | walk1 | (dsimp only; walk1) | (leave1; walk_say "STEP leave1"; try dsimp only) | fail "no step"))
            (rename News _ _ _ _ => lN')
            refine nameX_C lN' (c := L' + 1 + 1) (o := oW6) rfl (hb0 _ (.tail _ (.tail _ (.head _)))) dW6 ?_
            repeat' (first
              | ((fail_if_success (with_reducible show wpAny _ _ (call (.ref _) _) _ _ _)); first
                  | ((with_reducible refine wpAny_execs_nil ?_); (try dsimp only))
                  | (with_reducible refine wpAny_If ?_)
                  | ((with_reducible show ite (_ = true) _ _); (fail_if_success (with_reducible show ite (((_ : Bool) == _) = true) _ _)); first | refine PySem.W.ite_neg (Bool.eq_false_iff.mp rfl) ?_ | refine PySem.W.ite_pos rfl ?_)
                  | (k_unfold; (try dsimp only)) | (k_end; wrow_close) | walk1 | (dsimp only; walk1) | (leave1; walk_say "STEP leave1"; try dsimp only) | fail "no step"))
            (try dsimp only)
            (rename News _ _ _ _ => lN'); (rename Fr _ _ _ _ => lF')
            refine' (rounds_spc w rs v2 v4 D2 D4 v2.length v4.length hv2 hv4 hsr h256 hlen).use ?k1j ?k2j ?k3j ?k4j ?k5j ?k6j ?kPj ?k7j ?k8j ?_
            case k1j => exact K1
            case k2j => exact lF'
            case k3j => exact X1
            case k4j => exact lN'
            case k5j => exact T1
            case k6j => exact rfl
            case kPj => exact ⟨hb0 _ (.tail _ (.tail _ (.tail _ (.head _)))), hb0 _ (.head _)⟩
            case k7j => first | ktr_room | decide
            case k8j => first | ktr_units | decide
            rintro v9 g9 h9 tk9 nw9 G9 F9 N9 ⟨hD9, hb9⟩
            replace F9 := gnd_nil G9 F9
            replace N9 := gnd_nilN G9 N9
            clear G9
            rw [plain_law hsr] at hD9
            generalize hparts : ((List.range (depthF rs)).map fun k => partF rs (k + 1)) = parts at hD9
            have hp1 : parts.length ≤ 11 := by rw [← hparts, List.length_map, List.length_range]; exact Nat.le_trans (depthF_le rs) hlen
            have hp2 : ∀ ps ∈ parts, ∀ a ∈ ps, a < 256 := by
              rw [← hparts]
              intro ps hps a ha
              obtain ⟨k, _, rfl⟩ := List.mem_map.mp hps
              exact h256 a (partF_mem ha)
            have hp3 : ∀ ps ∈ parts, ps.length ≤ 11 := by
              rw [← hparts]
              intro ps hps
              obtain ⟨k, _, rfl⟩ := List.mem_map.mp hps
              exact Nat.le_trans (partF_len rs _) hlen
            obtain ⟨t9, w9, n9, rfl, hm9, hw9⟩ := dat_list hD9
            (try dsimp only)
            (rename News _ _ _ _ => lN'); (rename Fr _ _ _ _ => lF')
            refine iter_list (L := L') (its := w9.toArray) (T := fun _ _ _ => True) (fun i ys nw s' => (∀ p ∈ nw9, p ∈ nw) ∧ AllBare s'.gens ∧ s'.os = s₁.os ∧ DatAll nw ys ((parts.take i).map fun ps : List Nat => PySem.W.Dat.list (ps.map fun n : Nat => PySem.W.Dat.int (n : Int)))) (fun i v m' => m' (Str.ofString "part") = some v) rfl (by decide) rfl lF' lN' ?szk ?hJk ?hlk (fun _ _ _ _ _ _ _ _ _ => trivial) ?hjk ?hBk ?turnk ?fink
            case szk => exact Nat.le_trans (show _ ≤ 11 from by rw [List.size_toArray, dat_len hw9, List.length_map]; exact hp1) (by decide)
            case hjk => exact ⟨fun p hp => hp, hGn9, hos9, .nil⟩
            case hlk => rintro i ys nw s' h ⟨hb, _⟩ F N; exact News.isList N (hb _ hm9)
            case hBk => exact fun I => bind_name (P := fun i v => (w9.toArray)[i]? = some v) (St := fun i h => h.IsListIter I _ i ∧ h.IsList _ (w9.toArray)) (T := fun _ _ _ => True) rfl (by rfl)
            case hJk => rintro i ys nw s' h tk ⟨h1, h2, h3⟩; exact ⟨h1, h2, h3⟩
            case turnk =>
              rintro I C D i v ys oC m' nw ⟨h9, g9, d9, tk9, os9⟩ oI hv ⟨hb, hGn9, hos9, hz⟩ hNs hm F' N' sp lI lD lC
              obtain ⟨ps9, t8, w8, n8, ha, rfl, hm8, hw8⟩ := part_at hw9 hv
              have hps : ∀ a ∈ ps9, a < 256 := hp2 ps9 (List.mem_of_getElem? ha)
              refine tests_none ?_
              rw [if_pos rfl]
              (try dsimp only at F' N' hGn9 hos9 ⊢)
              refine eval_list (cl := _) (by with_unfolding_all rfl) (by rfl) (by decide) ?_
              (rename News _ _ _ _ => lN')
              refine LCgL.ld_own lN' (.tail _ (.tail _ (.head _))) hNs hm ?_ (by rfl) (by rfl)
              have hlp : ps9.length ≤ 11 := hp3 ps9 (List.mem_of_getElem? ha)
              (try dsimp only)
              (rename News _ _ _ _ => lN'); (rename Fr _ _ _ _ => lF')
              refine iter_list (L := L') (its := w8.toArray) (T := fun _ _ _ => True) (fun i2 ys2 nw2 s2 => nw2 = (I, oI) :: (D, LCg.lst ys) :: (C, oC) :: nw ∧ (∃ h tk, s2 = { heap := h, gens := g9, drawn := d9, toks := tk, os := os9 }) ∧ IntsAre ys2 ((ps9.take i2).map fun a : Nat => (a : Int))) (fun i v m' => m' (Str.ofString "word") = some v) rfl (by decide) rfl lF' lN' ?szl ?hJl ?hll (fun _ _ _ _ _ _ _ _ _ => trivial) ?hjl ?hBl ?turnl ?finl
              case szl => exact Nat.le_trans (show _ ≤ 11 from by rw [List.size_toArray, strs_len hw8, List.length_map]; exact hlp) (by decide)
              case hjl => exact ⟨rfl, ⟨_, _, rfl⟩, .nil⟩
              case hll => rintro i2 ys2 nw2 s2 h ⟨rfl, _⟩ F N; exact News.isList N (.tail _ (.tail _ (.tail _ (hb _ hm8))))
              case hBl => exact fun I => bind_name (P := fun i v => (w8.toArray)[i]? = some v) (St := fun i h => h.IsListIter I _ i ∧ h.IsList _ (w8.toArray)) (T := fun _ _ _ => True) rfl (by rfl)
              case hJl => rintro i2 ys2 nw2 s2 h tk ⟨rfl, ⟨h9, tk9, rfl⟩, hz⟩; exact ⟨rfl, ⟨_, _, rfl⟩, hz⟩
              case turnl =>
                rintro I2 C2 D2' i2 v ys2 oC2 m2 nw2 s2 oI2 hv2' ⟨rfl, ⟨h8, tk8, rfl⟩, hz2⟩ hNs hm F2' N2' sp2 lI2 lD2 lC2
                obtain ⟨b9, tb, hb9', rfl⟩ := strs_get hw8 hv2'
                have hb256 : b9 < 256 := hps _ (List.mem_of_getElem? hb9')
                refine tests_none ?_
                rw [if_pos rfl]
                repeat' (first
                  | ((fail_if_success (with_reducible show wpAny _ _ (eval (Expr.Name _ _) (compEnvC _ _ _ _)) _ _ _)); first
                      | ((with_reducible refine wpAny_execs_nil ?_); (try dsimp only))
                      | (with_reducible refine wpAny_If ?_)
                      | ((with_reducible show ite (_ = true) _ _); (fail_if_success (with_reducible show ite (((_ : Bool) == _) = true) _ _)); first | refine PySem.W.ite_neg (Bool.eq_false_iff.mp rfl) ?_ | refine PySem.W.ite_pos rfl ?_)
                      | (k_unfold; (try dsimp only)) | (k_end; wrow_close) | walk1 | (dsimp only; walk1) | (leave1; walk_say "STEP leave1"; try dsimp only) | fail "no step"))
                (rename Fr _ _ _ _ => lF')
                refine LCgL.ld_global lF' X1 T1 (v := .ref 95) (by with_unfolding_all rfl) ?_ (by rfl) (by rfl) (by rfl)
                repeat' (first
                  | ((fail_if_success (with_reducible show wpAny _ _ (eval (Expr.Name _ _) (compEnvC _ _ _ _)) _ _ _)); first
                      | ((with_reducible refine wpAny_execs_nil ?_); (try dsimp only))
                      | (with_reducible refine wpAny_If ?_)
                      | ((with_reducible show ite (_ = true) _ _); (fail_if_success (with_reducible show ite (((_ : Bool) == _) = true) _ _)); first | refine PySem.W.ite_neg (Bool.eq_false_iff.mp rfl) ?_ | refine PySem.W.ite_pos rfl ?_)
                      | (k_unfold; (try dsimp only)) | (k_end; wrow_close) | walk1 | (dsimp only; walk1) | (leave1; walk_say "STEP leave1"; try dsimp only) | fail "no step"))
                (rename News _ _ _ _ => lN')
                refine LCgL.ld_own lN' (.tail _ (.tail _ (.head _))) hNs hm ?_ (by rfl) (by rfl)
                repeat' (first
                  | ((fail_if_success (with_reducible show wpAny _ _ (call (.ref _) _) _ _ _)); first
                      | ((with_reducible refine wpAny_execs_nil ?_); (try dsimp only))
                      | (with_reducible refine wpAny_If ?_)
                      | ((with_reducible show ite (_ = true) _ _); (fail_if_success (with_reducible show ite (((_ : Bool) == _) = true) _ _)); first | refine PySem.W.ite_neg (Bool.eq_false_iff.mp rfl) ?_ | refine PySem.W.ite_pos rfl ?_)
                      | (k_unfold; (try dsimp only)) | (k_end; wrow_close) | walk1 | (dsimp only; walk1) | (leave1; walk_say "STEP leave1"; try dsimp only) | fail "no step"))
                (rename News _ _ _ _ => lN'); (rename Fr _ _ _ _ => lF')
                refine' (read_spc w (b9 / 16) (b9 % 16) tb (by omega) (by omega)).use ?k1l ?k2l ?k3l ?k4l ?k5l ?k6l ?kPl ?k7l ?k8l ?_
                case k1l => exact K1
                case k2l => exact lF'
                case k3l => exact X1
                case k4l => exact lN'
                case k5l => exact T1
                case k6l => exact rfl
                case kPl => exact trivial
                case k7l => first | ktr_room | decide
                case k8l => first | ktr_units | decide
                rintro _ h5 tk5 nw5 F5' N5' ⟨rfl, tw, rfl⟩
                (try dsimp only)
                have e9 : 16 * ((b9 / 16 : Nat) : Int) + ((b9 % 16 : Nat) : Int) = (b9 : Int) := by omega
                rw [e9]
                exact ⟨_, F5', N5', sp2, rfl, ⟨_, _, rfl⟩, by rw [map_snoc hb9']; exact IntsAre.append hz2 (.cons _ _ .nil)⟩
              case finl =>
                refine fin_eval (by rintro i2 ys2 nw2 s2 h tk ⟨rfl, ⟨h9, tk9, rfl⟩, hz⟩; exact ⟨rfl, ⟨_, _, rfl⟩, hz⟩) ?_
                rintro D6 ys6 nw6 s6 ⟨rfl, ⟨h8, tk8, rfl⟩, hz2⟩ F6 N6' off6 lD6
                rw [List.size_toArray, strs_len hw8, List.length_map, List.take_length] at hz2
                (try dsimp only)
                refine ⟨(D6, LCg.lst ys6) :: nw, F6, news_of N6' (mem_rot3 _ _ _ _ _), fun p hp => ?_, fun p hp => .tail _ (hb p hp), hGn9, hos9, ?_⟩
                · rcases List.mem_cons.mp hp with rfl | hp
                  · have hI6 := lD6 _ (.head _)
                    have hD6 := lD6 _ (.tail _ (.head _))
                    have hC6 := lD6 _ (.tail _ (.tail _ (.head _)))
                    refine ⟨Nat.ne_of_gt hI6, Nat.ne_of_gt hD6, fun q => ?_⟩
                    simp only [List.map_cons, List.map_nil, List.mem_cons, List.not_mem_nil, or_false] at q
                    exact Nat.ne_of_gt hC6 q
                  · exact sp p hp
                · rw [map_snocL ha]
                  refine dat_snoc (hz.mono fun p hp => .tail _ hp) (.list (vs := ys6) (.head _) ?_)
                  have := ints_dat (nw := (D6, LCg.lst ys6) :: nw) hz2
                  rwa [List.map_map] at this
            case fink =>
              refine fin_used (env := envOfC _ _ L' fa cd) rfl (by rfl) (by rfl) (by rintro i ys nw s' h tk ⟨h1, h2, h3⟩; exact ⟨h1, h2, h3⟩) ?_
              rintro D10 v10 nw ⟨h5, g5, d5, tk5, os5⟩ ⟨hb10, hGn10, hos10, hz10⟩ F10 N10 off10 lD10
              rw [List.size_toArray, dat_len hw9, List.length_map, List.take_length] at hz10
              clear off10 lD10
              (try dsimp only at F10 N10 hGn10 hos10 ⊢)
              have hbA : ∀ p ∈ (D4, listOf v4.toArray v4.length) :: (64, tabObj ps) :: [(L' + 1 + 1, oW6), (D2, listOf v2.toArray v2.length), (L' + 1, oR4), (D1, listOf v1.toArray n1), (L' + 1 + 1 + 1, oL)], p ∈ (D10, LCg.lst v10) :: nw := fun p hp => .tail _ (hb10 p (hb9 p (hb0 p hp)))
              replace hz10 := DatAll.mono (fun p hp => List.mem_cons_of_mem (D10, LCg.lst v10) hp) hz10
              have mTold : (D10, LCg.lst v10) ∈ (D10, LCg.lst v10) :: nw := .head _
              generalize hnwA : (D10, LCg.lst v10) :: nw = nwA at N10 hbA hz10 mTold
              clear hnwA hb10
              repeat' (first
                | ((fail_if_success (with_reducible show wpAny _ _ (eval (Expr.Name (Str.ofString "rows") _) _) _ _ _)); first
                    | ((with_reducible refine wpAny_execs_nil ?_); (try dsimp only))
                    | (with_reducible refine wpAny_If ?_)
                    | ((with_reducible show ite (_ = true) _ _); (fail_if_success (with_reducible show ite (((_ : Bool) == _) = true) _ _)); first | refine PySem.W.ite_neg (Bool.eq_false_iff.mp rfl) ?_ | refine PySem.W.ite_pos rfl ?_)
                    | (k_unfold; (try dsimp only)) | (k_end; wrow_close) | walk1 | (dsimp only; walk1) | (leave1; walk_say "STEP leave1"; try dsimp only) | fail "no step"))
              (rename News _ _ _ _ => lN')
              refine nameX_C lN' (c := L' + 1) (o := oR4) rfl (hbA _ (.tail _ (.tail _ (.tail _ (.tail _ (.head _)))))) dR4 ?_
              repeat' (first
                | ((fail_if_success (with_reducible show wpAny _ _ (call (.ref _) _) _ _ _)); first
                    | ((with_reducible refine wpAny_execs_nil ?_); (try dsimp only))
                    | (with_reducible refine wpAny_If ?_)
                    | ((with_reducible show ite (_ = true) _ _); (fail_if_success (with_reducible show ite (((_ : Bool) == _) = true) _ _)); first | refine PySem.W.ite_neg (Bool.eq_false_iff.mp rfl) ?_ | refine PySem.W.ite_pos rfl ?_)
                    | (k_unfold; (try dsimp only)) | (k_end; wrow_close) | walk1 | (dsimp only; walk1) | (leave1; walk_say "STEP leave1"; try dsimp only) | fail "no step"))
              (rename News _ _ _ _ => lN'); (rename Fr _ _ _ _ => lF')
              refine' (levels_spc w rs D1 v1 n1 hv1 h256 hlen).use ?k1m ?k2m ?k3m ?k4m ?k5m ?k6m ?kPm ?k7m ?k8m ?_
              case k1m => exact K1
              case k2m => exact lF'
              case k3m => exact X1
              case k4m => exact lN'
              case k5m => exact T1
              case k6m => exact rfl
              case kPm => exact hbA _ (.tail _ (.tail _ (.tail _ (.tail _ (.tail _ (.head _))))))
              case k7m => first | ktr_room | decide
              case k8m => first | ktr_units | decide
              rintro _ h11 tk11 nwB F11 N11 ⟨hDL, hbB⟩
              obtain ⟨tL, wL, nL, rfl, hmL, hwL⟩ := dat_list hDL
              repeat' (first
                | ((fail_if_success (with_reducible show wpAny _ _ (storeName _ _ _) _ _ _)); first
                    | ((with_reducible refine wpAny_execs_nil ?_); (try dsimp only))
                    | (with_reducible refine wpAny_If ?_)
                    | ((with_reducible show ite (_ = true) _ _); (fail_if_success (with_reducible show ite (((_ : Bool) == _) = true) _ _)); first | refine PySem.W.ite_neg (Bool.eq_false_iff.mp rfl) ?_ | refine PySem.W.ite_pos rfl ?_)
                    | (k_unfold; (try dsimp only)) | (k_end; wrow_close) | walk1 | (dsimp only; walk1) | (leave1; walk_say "STEP leave1"; try dsimp only) | fail "no step"))
              (rename News _ _ _ _ => lN'); (rename Fr _ _ _ _ => lF')
              refine store_cell' (c := L' + 1 + 1 + 1) (o := oL) (rest' := nwB.filter notCell) lF' lN' (hbB _ (hbA _ (.tail _ (.tail _ (.tail _ (.tail _ (.tail _ (.tail _ (.head _))))))))) dL (fun p hp => ⟨(List.mem_filter.mp hp).1, .inr (List.mem_filter.mp hp).2⟩) rfl ?_
              intro h12 oZ F12 N12 dZ
              have mT : (64, tabObj ps) ∈ nwB.filter notCell := List.mem_filter.mpr ⟨hbB _ (hbA _ (.tail _ (.head _))), rfl⟩
              replace mTold : (D10, LCg.lst v10) ∈ nwB.filter notCell := List.mem_filter.mpr ⟨hbB _ mTold, rfl⟩
              replace hz10 := datAll_nc (hz10.mono hbB)
              replace hmL : (tL, listOf wL.toArray nL) ∈ nwB.filter notCell := List.mem_filter.mpr ⟨hmL, rfl⟩
              replace hwL := datAll_nc hwL
              generalize nwB.filter notCell = nwF at N12 mT mTold hz10 hmL hwL
              clear lN' hbB hbA hDL
              repeat' (first
                | ((fail_if_success (with_reducible show wpAny _ _ (eval (Expr.ListComp _ _ _ _) _) _ _ _)); first
                    | ((with_reducible refine wpAny_execs_nil ?_); (try dsimp only))
                    | (with_reducible refine wpAny_If ?_)
                    | ((with_reducible show ite (_ = true) _ _); (fail_if_success (with_reducible show ite (((_ : Bool) == _) = true) _ _)); first | refine PySem.W.ite_neg (Bool.eq_false_iff.mp rfl) ?_ | refine PySem.W.ite_pos rfl ?_)
                    | (k_unfold; (try dsimp only)) | (k_end; wrow_close) | walk1 | (dsimp only; walk1) | (leave1; walk_say "STEP leave1"; try dsimp only) | fail "no step"))
              refine eval_list (cl := _) (by with_unfolding_all rfl) (by rfl) (by decide) ?_
              repeat' (first
                | ((fail_if_success (with_reducible show wpAny _ _ (pyIter _) _ _ _)); first
                    | ((with_reducible refine wpAny_execs_nil ?_); (try dsimp only))
                    | (with_reducible refine wpAny_If ?_)
                    | ((with_reducible show ite (_ = true) _ _); (fail_if_success (with_reducible show ite (((_ : Bool) == _) = true) _ _)); first | refine PySem.W.ite_neg (Bool.eq_false_iff.mp rfl) ?_ | refine PySem.W.ite_pos rfl ?_)
                    | (k_unfold; (try dsimp only)) | (k_end; wrow_close) | walk1 | (dsimp only; walk1) | (leave1; walk_say "STEP leave1"; try dsimp only) | fail "no step"))
              (try dsimp only)
              (rename News _ _ _ _ => lN'); (rename Fr _ _ _ _ => lF')
              refine iter_list (L := L') (its := wL.toArray) (T := fun i3 v rest => ∃ t a b k, v = .ref t ∧ (fun i3 a b => ∃ p ta tb, (levs rs)[i3]? = some p ∧ a = Value.int (p.1 : Int) ta ∧ b = Value.int (p.2 : Int) tb) i3 a b ∧ (t, ({ cls := .type "tuple", data := .seq #[a, b] k } : Obj)) ∈ rest) (fun i3 ys nw s' => nw = (L' + 1 + 1 + 1, oZ) :: nwF ∧ (∃ h tk, s' = { heap := h, gens := g5, drawn := d5, toks := tk, os := os5 }) ∧ IntsAre ys (((levs rs).take i3).map fun p : Nat × Nat => (p.2 : Int))) (fun i3 v m' => ∃ a b, (fun i3 a b => ∃ p ta tb, (levs rs)[i3]? = some p ∧ a = Value.int (p.1 : Int) ta ∧ b = Value.int (p.2 : Int) tb) i3 a b ∧ m' (Str.ofString "number") = some a ∧ m' (Str.ofString "level") = some b) rfl (by decide) rfl lF' lN' ?szn ?hJn ?hln ?hTn ?hjn ?hBn ?turnn ?finn
              case szn => exact Nat.le_trans (show _ ≤ 11 from by rw [List.size_toArray, dat_len hwL, List.length_map, levs_len]; exact hlen) (by decide)
              case hJn => rintro i3 ys nw s' h3 tk3 ⟨rfl, ⟨h9, tk9, rfl⟩, hz⟩; exact ⟨rfl, ⟨_, _, rfl⟩, hz⟩
              case hln => rintro i3 ys nw s' h3 ⟨rfl, _⟩ F N; exact News.isList N (.tail _ hmL)
              case hjn => exact ⟨rfl, ⟨_, _, rfl⟩, .nil⟩
              case hTn =>
                rintro i3 ys nw s' v rest ⟨rfl, _⟩ hv3 hr
                obtain ⟨p, t9, ta, tb, k9, hp, rfl, hm⟩ := pair_at hwL (show wL[i3]? = some v by simpa using hv3)
                exact ⟨t9, _, _, k9, rfl, ⟨p, ta, tb, hp, rfl, rfl⟩, hr _ (.tail _ hm)⟩
              case hBn => exact fun I => bind_pair (ax := tL) (its := wL.toArray) (fun i3 a b => ∃ p ta tb, (levs rs)[i3]? = some p ∧ a = Value.int (p.1 : Int) ta ∧ b = Value.int (p.2 : Int) tb) rfl rfl (by rfl) (by rfl) (by decide)
              case turnn =>
                rintro I3 C3 D3 i3 v3 ys oC3 m3 nw s' oI3 hv3 ⟨rfl, ⟨h9, tk9, rfl⟩, hzs⟩ hNs ⟨_, _, ⟨p, ta, tb, hp, rfl, rfl⟩, hm3, hm4⟩ F₃ N₃ sp3 lI3 lD3 lC3
                refine tests_none ?_
                rw [if_pos rfl]
                (try dsimp only)
                (rename News _ _ _ _ => lN')
                refine LCgL.ld_own lN' (.tail _ (.tail _ (.head _))) hNs hm4 ?_ (by rfl) (by rfl)
                (try dsimp only)
                (rename News _ _ _ _ => lN'); (rename Fr _ _ _ _ => lF')
                exact ⟨_, lF', lN', sp3, rfl, ⟨_, _, rfl⟩, by rw [map_snocL hp]; exact IntsAre.append hzs (.cons _ _ .nil)⟩
              case finn =>
                refine fin_eval (by rintro i3 ys nw s' h3 tk3 ⟨rfl, ⟨h9, tk9, rfl⟩, hz⟩; exact ⟨rfl, ⟨_, _, rfl⟩, hz⟩) ?_
                rintro D13 v13 nw s' ⟨rfl, ⟨h13, tk13, rfl⟩, hz13⟩ F13 N13 off13 lD13
                rw [List.size_toArray, dat_len hwL, List.length_map, List.take_length] at hz13
                repeat' (first
                  | ((fail_if_success (with_reducible show wpAny _ _ (call (Value.builtin "max") _) _ _ _)); first
                      | ((with_reducible refine wpAny_execs_nil ?_); (try dsimp only))
                      | (with_reducible refine wpAny_If ?_)
                      | ((with_reducible show ite (_ = true) _ _); (fail_if_success (with_reducible show ite (((_ : Bool) == _) = true) _ _)); first | refine PySem.W.ite_neg (Bool.eq_false_iff.mp rfl) ?_ | refine PySem.W.ite_pos rfl ?_)
                      | (k_unfold; (try dsimp only)) | (k_end; wrow_close) | walk1 | (dsimp only; walk1) | (leave1; walk_say "STEP leave1"; try dsimp only) | fail "no step"))
                (rename News _ _ _ _ => lN'); (rename Fr _ _ _ _ => lF')
                refine kso_max lF' lN' (News.isList lN' (.head _)) hz13 (by rw [List.length_map, levs_len]; exact List.length_pos_iff.mpr hne) rfl ?_
                intro h14 M tM tk14 F14 N14 hM hMle
                have eM : M = ((depthF rs : Nat) : Int) := depth_is hM hMle
                subst eM
                replace N14 : News Gd L' h14 ((L' + 1 + 1 + 1, oZ) :: nwF) := fun p hp => N14 p (.tail _ hp)
                clear hM hMle hz13 off13 lD13 lN' lF'
                repeat' (first
                  | ((fail_if_success (with_reducible show wpAny _ _ (exec (Stmt.Return _ _) _) _ _ _)); first
                      | ((with_reducible refine wpAny_execs_nil ?_); (try dsimp only))
                      | (with_reducible refine wpAny_If ?_)
                      | ((with_reducible show ite (_ = true) _ _); (fail_if_success (with_reducible show ite (((_ : Bool) == _) = true) _ _)); first | refine PySem.W.ite_neg (Bool.eq_false_iff.mp rfl) ?_ | refine PySem.W.ite_pos rfl ?_)
                      | (k_unfold; (try dsimp only)) | (k_end; wrow_close) | walk1 | (dsimp only; walk1) | (leave1; walk_say "STEP leave1"; try dsimp only) | fail "no step"))
                skip
                repeat' (first
                  | ((fail_if_success (with_reducible show wpAny _ _ (eval (Expr.ListComp _ _ _ _) _) _ _ _)); first
                      | ((with_reducible refine wpAny_execs_nil ?_); (try dsimp only))
                      | (with_reducible refine wpAny_If ?_)
                      | ((with_reducible show ite (_ = true) _ _); (fail_if_success (with_reducible show ite (((_ : Bool) == _) = true) _ _)); first | refine PySem.W.ite_neg (Bool.eq_false_iff.mp rfl) ?_ | refine PySem.W.ite_pos rfl ?_)
                      | (k_unfold; (try dsimp only)) | (k_end; wrow_close) | walk1 | (dsimp only; walk1) | (leave1; walk_say "STEP leave1"; try dsimp only) | fail "no step"))
                refine eval_list (cl := _) (by with_unfolding_all rfl) (by rfl) (by decide) ?_
                repeat' (first
                  | ((fail_if_success (with_reducible show wpAny _ _ (pyIter _) _ _ _)); first
                      | ((with_reducible refine wpAny_execs_nil ?_); (try dsimp only))
                      | (with_reducible refine wpAny_If ?_)
                      | ((with_reducible show ite (_ = true) _ _); (fail_if_success (with_reducible show ite (((_ : Bool) == _) = true) _ _)); first | refine PySem.W.ite_neg (Bool.eq_false_iff.mp rfl) ?_ | refine PySem.W.ite_pos rfl ?_)
                      | (k_unfold; (try dsimp only)) | (k_end; wrow_close) | walk1 | (dsimp only; walk1) | (leave1; walk_say "STEP leave1"; try dsimp only) | fail "no step"))
                have hdep : depthF rs ≤ 11 := Nat.le_trans (depthF_le rs) hlen
                have hr1 := range_from1 ⟨depthF rs, by omega⟩
                (try dsimp only)
                (rename News _ _ _ _ => lN'); (rename Fr _ _ _ _ => lF'); (rename IsRange _ _ _ _ _ _ _ _ => lR')
                refine iter_range_c (L := L') (fun i ys nw s' => (∀ p ∈ (L' + 1 + 1 + 1, oZ) :: nwF, p ∈ nw) ∧ (∃ h tk, s' = { heap := h, gens := g5, drawn := d5, toks := tk, os := os5 }) ∧ DatAll nw ys ((List.range i).map fun k => PySem.W.Dat.list ((partF rs (k + 1)).map fun n : Nat => PySem.W.Dat.int (n : Int)))) rfl (by intro n; rfl) (by intro h; rfl) rfl (by rfl) lF' lN' lR' hr1.1 hr1.2 (Nat.le_trans hdep (by decide)) ?hJo ?hjo ?turno ?fino
                case hJo => rintro i ys nw s' h tk ⟨h1, ⟨h9, tk9, rfl⟩, h3⟩; exact ⟨h1, ⟨_, _, rfl⟩, h3⟩
                case hjo => exact ⟨fun p hp => hp, ⟨_, _, rfl⟩, .nil⟩
                case turno =>
                  rintro I C c D i t ys oC oc nw s' oI hi ⟨hb, ⟨h9, tk9, rfl⟩, hz⟩ hoc F' N' sp lI lD lC lc
                  refine tests_none ?_
                  rw [if_pos rfl]
                  refine eval_list (cl := _) (by with_unfolding_all rfl) (by rfl) (by decide) ?_
                  (rename News _ _ _ _ => lN')
                  refine lcf_cell lN' (c := L' + 1 + 1 + 1) (o := oZ) rfl (.tail _ (.tail _ (.tail _ (.tail _ (hb _ (.head _)))))) dZ ?_ rfl rfl
                  (try dsimp only)
                  (rename News _ _ _ _ => lN'); (rename Fr _ _ _ _ => lF')
                  refine iter_list (L := L') (its := wL.toArray) (T := fun i3 v rest => ∃ t a b k, v = .ref t ∧ (fun i3 a b => ∃ p ta tb, (levs rs)[i3]? = some p ∧ a = Value.int (p.1 : Int) ta ∧ b = Value.int (p.2 : Int) tb) i3 a b ∧ (t, ({ cls := .type "tuple", data := .seq #[a, b] k } : Obj)) ∈ rest) (fun i3 ys2 nw2 s2 => nw2 = (I, oI) :: (D, LCg.lst ys) :: (C, oC) :: (c, oc) :: nw ∧ (∃ h tk, s2 = { heap := h, gens := g5, drawn := d5, toks := tk, os := os5 }) ∧ IntsAre ys2 ((((levs rs).take i3).filter fun p => p.2 == i + 1).map fun p : Nat × Nat => (p.1 : Int))) (fun i3 v m' => ∃ a b, (fun i3 a b => ∃ p ta tb, (levs rs)[i3]? = some p ∧ a = Value.int (p.1 : Int) ta ∧ b = Value.int (p.2 : Int) tb) i3 a b ∧ m' (Str.ofString "number") = some a ∧ m' (Str.ofString "level") = some b) rfl (by decide) rfl lF' lN' ?szp ?hJp ?hlp ?hTp ?hjp ?hBp ?turnp ?finp
                  case szp => exact Nat.le_trans (show _ ≤ 11 from by rw [List.size_toArray, dat_len hwL, List.length_map, levs_len]; exact hlen) (by decide)
                  case hJp => rintro i3 ys nw s' h3 tk3 ⟨rfl, ⟨h9, tk9, rfl⟩, hz⟩; exact ⟨rfl, ⟨_, _, rfl⟩, hz⟩
                  case hlp => rintro i3 ys2 nw2 s2 h3 ⟨rfl, _⟩ F N; exact News.isList N (.tail _ (.tail _ (.tail _ (.tail _ (hb _ (.tail _ hmL))))))
                  case hjp => exact ⟨rfl, ⟨_, _, rfl⟩, .nil⟩
                  case hTp =>
                    rintro i3 ys nw s' v rest ⟨rfl, _⟩ hv3 hr
                    obtain ⟨p, t9, ta, tb, k9, hp, rfl, hm⟩ := pair_at hwL (show wL[i3]? = some v by simpa using hv3)
                    exact ⟨t9, _, _, k9, rfl, ⟨p, ta, tb, hp, rfl, rfl⟩, hr _ (.tail _ (.tail _ (.tail _ (.tail _ (hb _ (.tail _ hm))))))⟩
                  case hBp => exact fun I => bind_pair (ax := tL) (its := wL.toArray) (fun i3 a b => ∃ p ta tb, (levs rs)[i3]? = some p ∧ a = Value.int (p.1 : Int) ta ∧ b = Value.int (p.2 : Int) tb) rfl rfl (by rfl) (by rfl) (by decide)
                  case turnp =>
                    rintro I3 C3 D3 i3 v3 ys2 oC3 m3 nw2 s2 oI3 hv3 ⟨rfl, ⟨h8, tk8, rfl⟩, hzs⟩ hNs ⟨_, _, ⟨p, ta, tb, hp, rfl, rfl⟩, hm3, hm4⟩ F₃ N₃ sp3 lI3 lD3 lC3
                    refine tests_one ?_
                    repeat' (first
                      | ((fail_if_success (with_reducible show wpAny _ _ (eval (Expr.Name _ _) (compEnvC _ _ _ _)) _ _ _)); first
                          | ((with_reducible refine wpAny_execs_nil ?_); (try dsimp only))
                          | (with_reducible refine wpAny_If ?_)
                          | ((with_reducible show ite (_ = true) _ _); (fail_if_success (with_reducible show ite (((_ : Bool) == _) = true) _ _)); first | refine PySem.W.ite_neg (Bool.eq_false_iff.mp rfl) ?_ | refine PySem.W.ite_pos rfl ?_)
                          | (k_unfold; (try dsimp only)) | (k_end; wrow_close) | walk1 | (dsimp only; walk1) | (leave1; walk_say "STEP leave1"; try dsimp only) | fail "no step"))
                    (rename News _ _ _ _ => lN')
                    refine LCgL.ld_own lN' (.tail _ (.tail _ (.head _))) hNs hm4 ?_ (by rfl) (by rfl)
                    repeat' (first
                      | ((fail_if_success (with_reducible show wpAny _ _ (eval (Expr.Name _ _) (compEnvC _ _ _ _)) _ _ _)); first
                          | ((with_reducible refine wpAny_execs_nil ?_); (try dsimp only))
                          | (with_reducible refine wpAny_If ?_)
                          | ((with_reducible show ite (_ = true) _ _); (fail_if_success (with_reducible show ite (((_ : Bool) == _) = true) _ _)); first | refine PySem.W.ite_neg (Bool.eq_false_iff.mp rfl) ?_ | refine PySem.W.ite_pos rfl ?_)
                          | (k_unfold; (try dsimp only)) | (k_end; wrow_close) | walk1 | (dsimp only; walk1) | (leave1; walk_say "STEP leave1"; try dsimp only) | fail "no step"))
                    (rename News _ _ _ _ => lN')
                    refine lcf_cell lN' (c := c) (o := oc) rfl (.tail _ (.tail _ (.tail _ (.tail _ (.tail _ (.tail _ (.head _))))))) hoc ?_ rfl rfl
                    repeat' (first
                      | ((fail_if_success (with_reducible show wpAny _ _ (compareOp _ _ _) _ _ _)); first
                          | ((with_reducible refine wpAny_execs_nil ?_); (try dsimp only))
                          | (with_reducible refine wpAny_If ?_)
                          | ((with_reducible show ite (_ = true) _ _); (fail_if_success (with_reducible show ite (((_ : Bool) == _) = true) _ _)); first | refine PySem.W.ite_neg (Bool.eq_false_iff.mp rfl) ?_ | refine PySem.W.ite_pos rfl ?_)
                          | (k_unfold; (try dsimp only)) | (k_end; wrow_close) | walk1 | (dsimp only; walk1) | (leave1; walk_say "STEP leave1"; try dsimp only) | fail "no step"))
                    (try dsimp only)
                    refine eq_nat (c := p.2 == i + 1) rfl ?_
                    cases hc : p.2 == i + 1 with
                    | false =>
                      repeat' (first
                        | ((with_reducible refine wpAny_execs_nil ?_); (try dsimp only))
                        | (with_reducible refine wpAny_If ?_)
                        | ((with_reducible show ite (_ = true) _ _); (fail_if_success (with_reducible show ite (((_ : Bool) == _) = true) _ _)); first | refine PySem.W.ite_neg (Bool.eq_false_iff.mp rfl) ?_ | refine PySem.W.ite_pos rfl ?_)
                        | (k_unfold; (try dsimp only)) | (k_end; wrow_close) | walk1 | (dsimp only; walk1) | (leave1; walk_say "STEP leave1"; try dsimp only) | fail "no step")
                      (rename News _ _ _ _ => lN'); (rename Fr _ _ _ _ => lF')
                      exact ⟨_, lF', lN', sp3, rfl, ⟨_, _, rfl⟩, by rw [filter_snocP hp, hc]; simpa using hzs⟩
                    | true =>
                      repeat' (first
                        | ((fail_if_success (with_reducible show wpAny _ _ (eval (Expr.Name _ _) (compEnvC _ _ _ _)) _ _ _)); first
                            | ((with_reducible refine wpAny_execs_nil ?_); (try dsimp only))
                            | (with_reducible refine wpAny_If ?_)
                            | ((with_reducible show ite (_ = true) _ _); (fail_if_success (with_reducible show ite (((_ : Bool) == _) = true) _ _)); first | refine PySem.W.ite_neg (Bool.eq_false_iff.mp rfl) ?_ | refine PySem.W.ite_pos rfl ?_)
                            | (k_unfold; (try dsimp only)) | (k_end; wrow_close) | walk1 | (dsimp only; walk1) | (leave1; walk_say "STEP leave1"; try dsimp only) | fail "no step"))
                      (try dsimp only)
                      (rename News _ _ _ _ => lN')
                      refine LCgL.ld_own lN' (.tail _ (.tail _ (.head _))) hNs hm3 ?_ (by rfl) (by rfl)
                      (try dsimp only)
                      (rename News _ _ _ _ => lN'); (rename Fr _ _ _ _ => lF')
                      exact ⟨_, lF', lN', sp3, rfl, ⟨_, _, rfl⟩, by rw [filter_snocP hp, hc, List.map_append]; exact IntsAre.append hzs (.cons _ _ .nil)⟩
                  case finp =>
                    refine fin_eval (by rintro i2 ys2 nw2 s2 h tk ⟨rfl, ⟨h9, tk9, rfl⟩, hz⟩; exact ⟨rfl, ⟨_, _, rfl⟩, hz⟩) ?_
                    rintro D6 ys6 nw6 s6 ⟨rfl, ⟨h8, tk8, rfl⟩, hz2⟩ F6 N6' off6 lD6
                    rw [List.size_toArray, dat_len hwL, List.length_map, List.take_length] at hz2
                    (try dsimp only)
                    refine ⟨(D6, LCg.lst ys6) :: nw, F6, news_of N6' (mem_rot4 _ _ _ _ _ _), fun p hp => ?_, fun p hp => .tail _ (hb p hp), ⟨_, _, rfl⟩, ?_⟩
                    · rcases List.mem_cons.mp hp with rfl | hp
                      · have hI6 := lD6 _ (.head _)
                        have hD6 := lD6 _ (.tail _ (.head _))
                        have hC6 := lD6 _ (.tail _ (.tail _ (.head _)))
                        have hc6 := lD6 _ (.tail _ (.tail _ (.tail _ (.head _))))
                        refine ⟨Nat.ne_of_gt hI6, Nat.ne_of_gt hD6, fun q => ?_⟩
                        simp only [List.map_cons, List.map_nil, List.mem_cons, List.not_mem_nil, or_false] at q
                        rcases q with q | q
                        · exact Nat.ne_of_gt hC6 q
                        · exact Nat.ne_of_gt hc6 q
                      · exact sp p hp
                    · rw [List.range_succ, List.map_append]
                      refine dat_snoc (hz.mono fun p hp => .tail _ hp) (.list (vs := ys6) (.head _) ?_)
                      have := ints_dat (nw := (D6, LCg.lst ys6) :: nw) hz2
                      unfold partF
                      simpa [List.map_map, Function.comp_def] using this
                case fino =>
                  refine fin_eval (by rintro i ys nw s' h tk ⟨h1, ⟨h9, tk9, rfl⟩, h3⟩; exact ⟨h1, ⟨_, _, rfl⟩, h3⟩) ?_
                  rintro D15 v15 nw s' ⟨hb, ⟨h15, tk15, rfl⟩, hz15⟩ F15 N15 off15 lD15
                  clear off15 lD15
                  repeat' (first
                    | ((fail_if_success (with_reducible show wpAny _ _ (compareOp _ _ _) _ _ _)); first
                        | ((with_reducible refine wpAny_execs_nil ?_); (try dsimp only))
                        | (with_reducible refine wpAny_If ?_)
                        | ((with_reducible show ite (_ = true) _ _); (fail_if_success (with_reducible show ite (((_ : Bool) == _) = true) _ _)); first | refine PySem.W.ite_neg (Bool.eq_false_iff.mp rfl) ?_ | refine PySem.W.ite_pos rfl ?_)
                        | (k_unfold; (try dsimp only)) | (k_end; wrow_close) | walk1 | (dsimp only; walk1) | (leave1; walk_say "STEP leave1"; try dsimp only) | fail "no step"))
                  (rename News _ _ _ _ => lN'); (rename Fr _ _ _ _ => lF')
                  have eq : parts.map (fun ps : List Nat => PySem.W.Dat.list (ps.map fun n : Nat => PySem.W.Dat.int (n : Int))) = (List.range (depthF rs)).map fun k => PySem.W.Dat.list ((partF rs (k + 1)).map fun n : Nat => PySem.W.Dat.int (n : Int)) := by rw [← hparts, List.map_map]; rfl
                  refine dat_eq lN' (.tail _ (hb _ (.tail _ mTold))) (hz10.mono fun p hp => .tail _ (hb p (.tail _ hp))) (.head _) (hz15.mono fun p hp => .tail _ hp) (lists_ok _ _) (lists_ok _ _) (by first | ktr_units | decide) (c := true) (by simp [eq]) ?_
                  (try dsimp only)
                  (rename News _ _ _ _ => lN'); (rename Fr _ _ _ _ => lF')
                  exact ⟨rfl, _, _, _, _, lF', news_of lN' (mem_front (.tail _ (hb _ (.tail _ mT)))), hGn10, hos10⟩
end Mine
end
theorem PySem.Challenge.cw_in0242_01_holds : PySem.Challenge.rw_in0242_01.Holds :=
  Mine.law_holds
