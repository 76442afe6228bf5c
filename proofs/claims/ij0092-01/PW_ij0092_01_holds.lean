import PyProof.Rows.All
import Wide.All
import OpenK.AllK
import Wide.FinOn
import Lean
import PySem.Challenge.RW_ij0092_01
set_option rowWalk.seconds 0
section
open PySem PySem.W PyProof.Rows
set_option Elab.async false
set_option maxRecDepth 100000
set_option maxHeartbeats 0
namespace Mine.hd
abbrev Def (i : Nat) (p : Arguments) (b : List Stmt) (s : Scope) : Prop := ∃ n d r t o w q, PySem.Challenge.pw_ij0092_01.main.body[i]? = some (.FunctionDef n p b d r t s o w q)
abbrev At (i : Nat) (a : Stmt) : Prop := PySem.Challenge.pw_ij0092_01.main.body[i]? = some a
noncomputable def heap_39 : Params → Frag := by
  apply (?F : (p3 : Arguments) → (b3 : List Stmt) → (s3 : Scope) → (p6 : Arguments) → (b6 : List Stmt) → (s6 : Scope) → (p8 : Arguments) → (b8 : List Stmt) → (s8 : Scope) → (p9 : Arguments) → (b9 : List Stmt) → (s9 : Scope) → (p11 : Arguments) → (b11 : List Stmt) → (s11 : Scope) → (p12 : Arguments) → (b12 : List Stmt) → (s12 : Scope) → (p13 : Arguments) → (b13 : List Stmt) → (s13 : Scope) → (p14 : Arguments) → (b14 : List Stmt) → (s14 : Scope) → (p15 : Arguments) → (b15 : List Stmt) → (s15 : Scope) → (p17 : Arguments) → (b17 : List Stmt) → (s17 : Scope) → (p18 : Arguments) → (b18 : List Stmt) → (s18 : Scope) → (p19 : Arguments) → (b19 : List Stmt) → (s19 : Scope) → (p20 : Arguments) → (b20 : List Stmt) → (s20 : Scope) → (h3 : Def 3 p3 b3 s3) → (h6 : Def 6 p6 b6 s6) → (h8 : Def 8 p8 b8 s8) → (h9 : Def 9 p9 b9 s9) → (h11 : Def 11 p11 b11 s11) → (h12 : Def 12 p12 b12 s12) → (h13 : Def 13 p13 b13 s13) → (h14 : Def 14 p14 b14 s14) → (h15 : Def 15 p15 b15 s15) → (h17 : Def 17 p17 b17 s17) → (h18 : Def 18 p18 b18 s18) → (h19 : Def 19 p19 b19 s19) → (h20 : Def 20 p20 b20 s20) → Params → Frag)
  case h3 => exact ⟨_, _, _, _, _, _, _, rfl⟩
  case h6 => exact ⟨_, _, _, _, _, _, _, rfl⟩
  case h8 => exact ⟨_, _, _, _, _, _, _, rfl⟩
  case h9 => exact ⟨_, _, _, _, _, _, _, rfl⟩
  case h11 => exact ⟨_, _, _, _, _, _, _, rfl⟩
  case h12 => exact ⟨_, _, _, _, _, _, _, rfl⟩
  case h13 => exact ⟨_, _, _, _, _, _, _, rfl⟩
  case h14 => exact ⟨_, _, _, _, _, _, _, rfl⟩
  case h15 => exact ⟨_, _, _, _, _, _, _, rfl⟩
  case h17 => exact ⟨_, _, _, _, _, _, _, rfl⟩
  case h18 => exact ⟨_, _, _, _, _, _, _, rfl⟩
  case h19 => exact ⟨_, _, _, _, _, _, _, rfl⟩
  case h20 => exact ⟨_, _, _, _, _, _, _, rfl⟩
  case F => exact fun p3 b3 s3 p6 b6 s6 p8 b8 s8 p9 b9 s9 p11 b11 s11 p12 b12 s12 p13 b13 s13 p14 b14 s14 p15 b15 s15 p17 b17 s17 p18 b18 s18 p19 b19 s19 p20 b20 s20 _ _ _ _ _ _ _ _ _ _ _ _ _ => fun P =>
  (nat_lit 3, { cls := Value.type "dict", data := Data.dict #[{ hash := PyData.keyHash P (Str.ofString "__name__"), key := Value.str (Str.ofString "__name__") 165, val := Value.str (Str.ofString "law_ij0092_01") 559 }, { hash := PyData.keyHash P (Str.ofString "__doc__"), key := Value.str (Str.ofString "__doc__") 166, val := Value.none }, { hash := PyData.keyHash P (Str.ofString "__package__"), key := Value.str (Str.ofString "__package__") 167, val := Value.none }, { hash := PyData.keyHash P (Str.ofString "__loader__"), key := Value.str (Str.ofString "__loader__") 168, val := Value.builtin "__main__.__loader__#opaque" }, { hash := PyData.keyHash P (Str.ofString "__spec__"), key := Value.str (Str.ofString "__spec__") 169, val := Value.none }, { hash := PyData.keyHash P (Str.ofString "__annotations__"), key := Value.str (Str.ofString "__annotations__") 170, val := Value.ref 6 }, { hash := PyData.keyHash P (Str.ofString "__builtins__"), key := Value.str (Str.ofString "__builtins__") 171, val := Value.ref 4 }, { hash := PyData.keyHash P (Str.ofString "__file__"), key := Value.str (Str.ofString "__file__") 173, val := Value.str (Str.ofString "/claim/cut.py") 172 }, { hash := PyData.keyHash P (Str.ofString "__cached__"), key := Value.str (Str.ofString "__cached__") 174, val := Value.none }, { hash := PyData.keyHash P (Str.ofString "_sre"), key := Value.str (Str.ofString "_sre") 275, val := Value.ref 12 }, { hash := PyData.keyHash P (Str.ofString "_twin_re_1"), key := Value.str (Str.ofString "_twin_re_1") 321, val := Value.ref 36 }, { hash := PyData.keyHash P (Str.ofString "translate"), key := Value.str (Str.ofString "translate") 330, val := Value.ref 43 }, { hash := PyData.keyHash P (Str.ofString "_special_chars_map"), key := Value.str (Str.ofString "_special_chars_map") 478, val := Value.ref 45 }, { hash := PyData.keyHash P (Str.ofString "escape"), key := Value.str (Str.ofString "escape") 485, val := Value.ref 55 }, { hash := PyData.keyHash P (Str.ofString "_translate"), key := Value.str (Str.ofString "_translate") 506, val := Value.ref 62 }, { hash := PyData.keyHash P (Str.ofString "_join_translated_parts"), key := Value.str (Str.ofString "_join_translated_parts") 519, val := Value.ref 69 }, { hash := PyData.keyHash P (Str.ofString "_ctoi"), key := Value.str (Str.ofString "_ctoi") 528, val := Value.ref 76 }, { hash := PyData.keyHash P (Str.ofString "iscntrl"), key := Value.str (Str.ofString "iscntrl") 535, val := Value.ref 83 }, { hash := PyData.keyHash P (Str.ofString "isprint"), key := Value.str (Str.ofString "isprint") 542, val := Value.ref 90 }, { hash := PyData.keyHash P (Str.ofString "ismeta"), key := Value.str (Str.ofString "ismeta") 549, val := Value.ref 97 }, { hash := PyData.keyHash P (Str.ofString "unctrl"), key := Value.str (Str.ofString "unctrl") 558, val := Value.ref 104 }, { hash := PyData.keyHash P (Str.ofString "_law_runs"), key := Value.str (Str.ofString "_law_runs") 570, val := Value.ref 111 }, { hash := PyData.keyHash P (Str.ofString "_law_lies"), key := Value.str (Str.ofString "_law_lies") 576, val := Value.ref 116 }, { hash := PyData.keyHash P (Str.ofString "_law_takes"), key := Value.str (Str.ofString "_law_takes") 587, val := Value.ref 123 }, { hash := PyData.keyHash P (Str.ofString "law"), key := Value.str (Str.ofString "law") 593, val := Value.ref 128 }] 25 }) ::
  (nat_lit 6, { cls := Value.type "dict", data := Data.dict #[] }) ::
  (nat_lit 11, { cls := Value.type "dict", data := Data.dict #[{ hash := PyData.keyHash P (Str.ofString "__name__"), key := Value.str (Str.ofString "__name__") 247, val := Value.str (Str.ofString "_sre") 246 }, { hash := PyData.keyHash P (Str.ofString "__doc__"), key := Value.str (Str.ofString "__doc__") 248, val := Value.none }, { hash := PyData.keyHash P (Str.ofString "__package__"), key := Value.str (Str.ofString "__package__") 250, val := Value.str (Str.ofString "") 249 }, { hash := PyData.keyHash P (Str.ofString "__loader__"), key := Value.str (Str.ofString "__loader__") 251, val := Value.builtin "off-the-table:_sre.__loader__:shared#opaque" }, { hash := PyData.keyHash P (Str.ofString "__spec__"), key := Value.str (Str.ofString "__spec__") 252, val := Value.builtin "off-the-table:_sre.__spec__:shared#opaque" }, { hash := PyData.keyHash P (Str.ofString "compile"), key := Value.str (Str.ofString "compile") 253, val := Value.builtin "_sre.compile" }, { hash := PyData.keyHash P (Str.ofString "template"), key := Value.str (Str.ofString "template") 254, val := Value.builtin "off-the-table:_sre.template:shared#opaque" }, { hash := PyData.keyHash P (Str.ofString "getcodesize"), key := Value.str (Str.ofString "getcodesize") 255, val := Value.builtin "off-the-table:_sre.getcodesize:shared#opaque" }, { hash := PyData.keyHash P (Str.ofString "ascii_iscased"), key := Value.str (Str.ofString "ascii_iscased") 256, val := Value.builtin "off-the-table:_sre.ascii_iscased:shared#opaque" }, { hash := PyData.keyHash P (Str.ofString "unicode_iscased"), key := Value.str (Str.ofString "unicode_iscased") 257, val := Value.builtin "off-the-table:_sre.unicode_iscased:shared#opaque" }, { hash := PyData.keyHash P (Str.ofString "ascii_tolower"), key := Value.str (Str.ofString "ascii_tolower") 258, val := Value.builtin "off-the-table:_sre.ascii_tolower:shared#opaque" }, { hash := PyData.keyHash P (Str.ofString "unicode_tolower"), key := Value.str (Str.ofString "unicode_tolower") 259, val := Value.builtin "off-the-table:_sre.unicode_tolower:shared#opaque" }, { hash := PyData.keyHash P (Str.ofString "MAGIC"), key := Value.str (Str.ofString "MAGIC") 261, val := Value.int 20230612 260 }, { hash := PyData.keyHash P (Str.ofString "CODESIZE"), key := Value.str (Str.ofString "CODESIZE") 263, val := Value.int 4 262 }, { hash := PyData.keyHash P (Str.ofString "MAXREPEAT"), key := Value.str (Str.ofString "MAXREPEAT") 265, val := Value.int 4294967295 264 }, { hash := PyData.keyHash P (Str.ofString "MAXGROUPS"), key := Value.str (Str.ofString "MAXGROUPS") 267, val := Value.int 1073741823 266 }, { hash := PyData.keyHash P (Str.ofString "copyright"), key := Value.str (Str.ofString "copyright") 269, val := Value.str (Str.ofString " SRE 2.2.2 Copyright (c) 1997-2002 by Secret Labs AB ") 268 }] 17 }) ::
  (nat_lit 12, { cls := Value.type "module", dict := Option.some 11 }) ::
  (nat_lit 35, { cls := Value.type "tuple", data := Data.seq #[Value.int 14 0, Value.int 14 0, Value.int 4 0, Value.int 1 0, Value.int 1 0, Value.int 9 0, Value.int 0 0, Value.int 64 0, Value.int 0 0, Value.int 1342177280 0, Value.int 0 0, Value.int 0 0, Value.int 0 0, Value.int 0 0, Value.int 0 0, Value.int 17 0, Value.int 0 0, Value.int 13 0, Value.int 11 0, Value.int 9 0, Value.int 0 0, Value.int 64 0, Value.int 0 0, Value.int 1342177280 0, Value.int 0 0, Value.int 0 0, Value.int 0 0, Value.int 0 0, Value.int 0 0, Value.int 17 0, Value.int 1 0, Value.int 1 0] }) ::
  (nat_lit 36, { cls := Value.type "re.Pattern", data := Data.fields #[Value.str (Str.ofString "([&~|])") 285, Value.int 32 320, Value.int 1 0, Value.none, Value.none, Value.ref 35, Value.int 0 0] }) ::
  (nat_lit 37, { cls := Value.type "tuple", data := Data.seq #[] }) ::
  (nat_lit 39, { cls := Value.type "tuple", data := Data.seq #[Value.str (Str.ofString "pat") 325, Value.str (Str.ofString "STAR") 326, Value.str (Str.ofString "parts") 327] }) ::
  (nat_lit 40, { cls := Value.type "tuple", data := Data.seq #[] }) ::
  (nat_lit 42, { cls := Value.type "code", data := Data.fields #[Value.str (Str.ofString "translate") 322, Value.str (Str.ofString "translate") 323, Value.str (Str.ofString "/claim/cut.py") 324, Value.int 4 0, Value.int 1 0, Value.int 0 0, Value.int 0 0, Value.int 3 0, Value.ref 37, Value.bool true, Value.int 276 0, Value.ref 38, Value.none, Value.ref 39, Value.ref 40, Value.ref 41, Value.int 328 0, Value.int 4 0, Value.str (Str.ofString "/claim/cut.py") 329] }) ::
  (nat_lit 43, { cls := Value.type "function", data := Data.func { name := Str.ofString "translate", qualname := Str.ofString "translate", params := p3, body := FuncBody.stmts b3, scope := s3, globals := 3, closure := [], defaults := Value.none, kwdefaults := Value.none, pyModule := Value.str (Str.ofString "cpy313.fnmatch") 282, code := Value.ref 42 } }) ::
  (nat_lit 45, { cls := Value.type "dict", data := Data.dict #[{ hash := 40, key := Value.int 40 334, val := Value.str (Str.ofString "\\(") 338 }, { hash := 41, key := Value.int 41 340, val := Value.str (Str.ofString "\\)") 344 }, { hash := 91, key := Value.int 91 346, val := Value.str (Str.ofString "\\[") 350 }, { hash := 93, key := Value.int 93 352, val := Value.str (Str.ofString "\\]") 356 }, { hash := 123, key := Value.int 123 358, val := Value.str (Str.ofString "\\{") 362 }, { hash := 125, key := Value.int 125 364, val := Value.str (Str.ofString "\\}") 368 }, { hash := 63, key := Value.int 63 370, val := Value.str (Str.ofString "\\?") 374 }, { hash := 42, key := Value.int 42 376, val := Value.str (Str.ofString "\\*") 380 }, { hash := 43, key := Value.int 43 382, val := Value.str (Str.ofString "\\+") 386 }, { hash := 45, key := Value.int 45 388, val := Value.str (Str.ofString "\\-") 392 }, { hash := 124, key := Value.int 124 394, val := Value.str (Str.ofString "\\|") 398 }, { hash := 94, key := Value.int 94 400, val := Value.str (Str.ofString "\\^") 404 }, { hash := 36, key := Value.int 36 406, val := Value.str (Str.ofString "\\$") 410 }, { hash := 92, key := Value.int 92 412, val := Value.str (Str.ofString "\\\\") 416 }, { hash := 46, key := Value.int 46 418, val := Value.str (Str.ofString "\\.") 422 }, { hash := 38, key := Value.int 38 424, val := Value.str (Str.ofString "\\&") 428 }, { hash := 126, key := Value.int 126 430, val := Value.str (Str.ofString "\\~") 434 }, { hash := 35, key := Value.int 35 436, val := Value.str (Str.ofString "\\#") 440 }, { hash := 32, key := Value.int 32 442, val := Value.str (Str.ofString "\\ ") 446 }, { hash := 9, key := Value.int 9 448, val := Value.str (Str.ofString "\\\t") 452 }, { hash := 10, key := Value.int 10 454, val := Value.str (Str.ofString "\\\n") 458 }, { hash := 13, key := Value.int 13 460, val := Value.str (Str.ofString "\\\x0d") 464 }, { hash := 11, key := Value.int 11 466, val := Value.str (Str.ofString "\\\x0b") 470 }, { hash := 12, key := Value.int 12 472, val := Value.str (Str.ofString "\\\x0c") 476 }] 24 }) ::
  (nat_lit 49, { cls := Value.type "tuple", data := Data.seq #[] }) ::
  (nat_lit 51, { cls := Value.type "tuple", data := Data.seq #[Value.str (Str.ofString "pattern") 482] }) ::
  (nat_lit 52, { cls := Value.type "tuple", data := Data.seq #[] }) ::
  (nat_lit 54, { cls := Value.type "code", data := Data.fields #[Value.str (Str.ofString "escape") 479, Value.str (Str.ofString "escape") 480, Value.str (Str.ofString "/claim/cut.py") 481, Value.int 10 0, Value.int 1 0, Value.int 0 0, Value.int 0 0, Value.int 3 0, Value.ref 49, Value.bool true, Value.int 276 0, Value.ref 50, Value.none, Value.ref 51, Value.ref 52, Value.ref 53, Value.int 483 0, Value.int 10 0, Value.str (Str.ofString "/claim/cut.py") 484] }) ::
  (nat_lit 55, { cls := Value.type "function", data := Data.func { name := Str.ofString "escape", qualname := Str.ofString "escape", params := p6, body := FuncBody.stmts b6, scope := s6, globals := 3, closure := [], defaults := Value.none, kwdefaults := Value.none, pyModule := Value.str (Str.ofString "re") 331, code := Value.ref 54 } }) ::
  (nat_lit 56, { cls := Value.type "tuple", data := Data.seq #[] }) ::
  (nat_lit 58, { cls := Value.type "tuple", data := Data.seq #[Value.str (Str.ofString "pat") 491, Value.str (Str.ofString "STAR") 492, Value.str (Str.ofString "QUESTION_MARK") 493, Value.str (Str.ofString "res") 494, Value.str (Str.ofString "add") 495, Value.str (Str.ofString "i") 496, Value.str (Str.ofString "n") 497, Value.str (Str.ofString "c") 498, Value.str (Str.ofString "j") 499, Value.str (Str.ofString "stuff") 500, Value.str (Str.ofString "chunks") 501, Value.str (Str.ofString "k") 502, Value.str (Str.ofString "chunk") 503] }) ::
  (nat_lit 59, { cls := Value.type "tuple", data := Data.seq #[] }) ::
  (nat_lit 61, { cls := Value.type "code", data := Data.fields #[Value.str (Str.ofString "_translate") 488, Value.str (Str.ofString "_translate") 489, Value.str (Str.ofString "/claim/cut.py") 490, Value.int 17 0, Value.int 3 0, Value.int 0 0, Value.int 0 0, Value.int 3 0, Value.ref 56, Value.bool true, Value.int 276 0, Value.ref 57, Value.none, Value.ref 58, Value.ref 59, Value.ref 60, Value.int 504 0, Value.int 17 0, Value.str (Str.ofString "/claim/cut.py") 505] }) ::
  (nat_lit 62, { cls := Value.type "function", data := Data.func { name := Str.ofString "_translate", qualname := Str.ofString "_translate", params := p8, body := FuncBody.stmts b8, scope := s8, globals := 3, closure := [], defaults := Value.none, kwdefaults := Value.none, pyModule := Value.str (Str.ofString "cpy313.fnmatch") 486, code := Value.ref 61 } }) ::
  (nat_lit 63, { cls := Value.type "tuple", data := Data.seq #[] }) ::
  (nat_lit 65, { cls := Value.type "tuple", data := Data.seq #[Value.str (Str.ofString "inp") 510, Value.str (Str.ofString "STAR") 511, Value.str (Str.ofString "res") 512, Value.str (Str.ofString "add") 513, Value.str (Str.ofString "i") 514, Value.str (Str.ofString "n") 515, Value.str (Str.ofString "fixed") 516] }) ::
  (nat_lit 66, { cls := Value.type "tuple", data := Data.seq #[] }) ::
  (nat_lit 68, { cls := Value.type "code", data := Data.fields #[Value.str (Str.ofString "_join_translated_parts") 507, Value.str (Str.ofString "_join_translated_parts") 508, Value.str (Str.ofString "/claim/cut.py") 509, Value.int 79 0, Value.int 2 0, Value.int 0 0, Value.int 0 0, Value.int 3 0, Value.ref 63, Value.bool true, Value.int 276 0, Value.ref 64, Value.none, Value.ref 65, Value.ref 66, Value.ref 67, Value.int 517 0, Value.int 79 0, Value.str (Str.ofString "/claim/cut.py") 518] }) ::
  (nat_lit 69, { cls := Value.type "function", data := Data.func { name := Str.ofString "_join_translated_parts", qualname := Str.ofString "_join_translated_parts", params := p9, body := FuncBody.stmts b9, scope := s9, globals := 3, closure := [], defaults := Value.none, kwdefaults := Value.none, pyModule := Value.str (Str.ofString "cpy313.fnmatch") 486, code := Value.ref 68 } }) ::
  (nat_lit 70, { cls := Value.type "tuple", data := Data.seq #[] }) ::
  (nat_lit 72, { cls := Value.type "tuple", data := Data.seq #[Value.str (Str.ofString "c") 525] }) ::
  (nat_lit 73, { cls := Value.type "tuple", data := Data.seq #[] }) ::
  (nat_lit 75, { cls := Value.type "code", data := Data.fields #[Value.str (Str.ofString "_ctoi") 522, Value.str (Str.ofString "_ctoi") 523, Value.str (Str.ofString "/claim/cut.py") 524, Value.int 107 0, Value.int 1 0, Value.int 0 0, Value.int 0 0, Value.int 3 0, Value.ref 70, Value.bool true, Value.int 276 0, Value.ref 71, Value.none, Value.ref 72, Value.ref 73, Value.ref 74, Value.int 526 0, Value.int 107 0, Value.str (Str.ofString "/claim/cut.py") 527] }) ::
  (nat_lit 76, { cls := Value.type "function", data := Data.func { name := Str.ofString "_ctoi", qualname := Str.ofString "_ctoi", params := p11, body := FuncBody.stmts b11, scope := s11, globals := 3, closure := [], defaults := Value.none, kwdefaults := Value.none, pyModule := Value.str (Str.ofString "cpy313.curses.ascii") 520, code := Value.ref 75 } }) ::
  (nat_lit 77, { cls := Value.type "tuple", data := Data.seq #[] }) ::
  (nat_lit 79, { cls := Value.type "tuple", data := Data.seq #[Value.str (Str.ofString "c") 532] }) ::
  (nat_lit 80, { cls := Value.type "tuple", data := Data.seq #[] }) ::
  (nat_lit 82, { cls := Value.type "code", data := Data.fields #[Value.str (Str.ofString "iscntrl") 529, Value.str (Str.ofString "iscntrl") 530, Value.str (Str.ofString "/claim/cut.py") 531, Value.int 112 0, Value.int 1 0, Value.int 0 0, Value.int 0 0, Value.int 3 0, Value.ref 77, Value.bool true, Value.int 276 0, Value.ref 78, Value.none, Value.ref 79, Value.ref 80, Value.ref 81, Value.int 533 0, Value.int 112 0, Value.str (Str.ofString "/claim/cut.py") 534] }) ::
  (nat_lit 83, { cls := Value.type "function", data := Data.func { name := Str.ofString "iscntrl", qualname := Str.ofString "iscntrl", params := p12, body := FuncBody.stmts b12, scope := s12, globals := 3, closure := [], defaults := Value.none, kwdefaults := Value.none, pyModule := Value.str (Str.ofString "cpy313.curses.ascii") 520, code := Value.ref 82 } }) ::
  (nat_lit 84, { cls := Value.type "tuple", data := Data.seq #[] }) ::
  (nat_lit 86, { cls := Value.type "tuple", data := Data.seq #[Value.str (Str.ofString "c") 539] }) ::
  (nat_lit 87, { cls := Value.type "tuple", data := Data.seq #[] }) ::
  (nat_lit 89, { cls := Value.type "code", data := Data.fields #[Value.str (Str.ofString "isprint") 536, Value.str (Str.ofString "isprint") 537, Value.str (Str.ofString "/claim/cut.py") 538, Value.int 114 0, Value.int 1 0, Value.int 0 0, Value.int 0 0, Value.int 3 0, Value.ref 84, Value.bool true, Value.int 276 0, Value.ref 85, Value.none, Value.ref 86, Value.ref 87, Value.ref 88, Value.int 540 0, Value.int 114 0, Value.str (Str.ofString "/claim/cut.py") 541] }) ::
  (nat_lit 90, { cls := Value.type "function", data := Data.func { name := Str.ofString "isprint", qualname := Str.ofString "isprint", params := p13, body := FuncBody.stmts b13, scope := s12, globals := 3, closure := [], defaults := Value.none, kwdefaults := Value.none, pyModule := Value.str (Str.ofString "cpy313.curses.ascii") 520, code := Value.ref 89 } }) ::
  (nat_lit 91, { cls := Value.type "tuple", data := Data.seq #[] }) ::
  (nat_lit 93, { cls := Value.type "tuple", data := Data.seq #[Value.str (Str.ofString "c") 546] }) ::
  (nat_lit 94, { cls := Value.type "tuple", data := Data.seq #[] }) ::
  (nat_lit 96, { cls := Value.type "code", data := Data.fields #[Value.str (Str.ofString "ismeta") 543, Value.str (Str.ofString "ismeta") 544, Value.str (Str.ofString "/claim/cut.py") 545, Value.int 116 0, Value.int 1 0, Value.int 0 0, Value.int 0 0, Value.int 3 0, Value.ref 91, Value.bool true, Value.int 276 0, Value.ref 92, Value.none, Value.ref 93, Value.ref 94, Value.ref 95, Value.int 547 0, Value.int 116 0, Value.str (Str.ofString "/claim/cut.py") 548] }) ::
  (nat_lit 97, { cls := Value.type "function", data := Data.func { name := Str.ofString "ismeta", qualname := Str.ofString "ismeta", params := p14, body := FuncBody.stmts b14, scope := s12, globals := 3, closure := [], defaults := Value.none, kwdefaults := Value.none, pyModule := Value.str (Str.ofString "cpy313.curses.ascii") 520, code := Value.ref 96 } }) ::
  (nat_lit 98, { cls := Value.type "tuple", data := Data.seq #[] }) ::
  (nat_lit 100, { cls := Value.type "tuple", data := Data.seq #[Value.str (Str.ofString "c") 553, Value.str (Str.ofString "bits") 554, Value.str (Str.ofString "rep") 555] }) ::
  (nat_lit 101, { cls := Value.type "tuple", data := Data.seq #[] }) ::
  (nat_lit 103, { cls := Value.type "code", data := Data.fields #[Value.str (Str.ofString "unctrl") 550, Value.str (Str.ofString "unctrl") 551, Value.str (Str.ofString "/claim/cut.py") 552, Value.int 118 0, Value.int 1 0, Value.int 0 0, Value.int 0 0, Value.int 3 0, Value.ref 98, Value.bool true, Value.int 276 0, Value.ref 99, Value.none, Value.ref 100, Value.ref 101, Value.ref 102, Value.int 556 0, Value.int 118 0, Value.str (Str.ofString "/claim/cut.py") 557] }) ::
  (nat_lit 104, { cls := Value.type "function", data := Data.func { name := Str.ofString "unctrl", qualname := Str.ofString "unctrl", params := p15, body := FuncBody.stmts b15, scope := s15, globals := 3, closure := [], defaults := Value.none, kwdefaults := Value.none, pyModule := Value.str (Str.ofString "cpy313.curses.ascii") 520, code := Value.ref 103 } }) ::
  (nat_lit 105, { cls := Value.type "tuple", data := Data.seq #[] }) ::
  (nat_lit 107, { cls := Value.type "tuple", data := Data.seq #[Value.str (Str.ofString "text") 564, Value.str (Str.ofString "runs") 565, Value.str (Str.ofString "begun") 566, Value.str (Str.ofString "k") 567] }) ::
  (nat_lit 108, { cls := Value.type "tuple", data := Data.seq #[] }) ::
  (nat_lit 110, { cls := Value.type "code", data := Data.fields #[Value.str (Str.ofString "_law_runs") 561, Value.str (Str.ofString "_law_runs") 562, Value.str (Str.ofString "/claim/cut.py") 563, Value.int 130 0, Value.int 1 0, Value.int 0 0, Value.int 0 0, Value.int 3 0, Value.ref 105, Value.bool true, Value.int 276 0, Value.ref 106, Value.none, Value.ref 107, Value.ref 108, Value.ref 109, Value.int 568 0, Value.int 130 0, Value.str (Str.ofString "/claim/cut.py") 569] }) ::
  (nat_lit 111, { cls := Value.type "function", data := Data.func { name := Str.ofString "_law_runs", qualname := Str.ofString "_law_runs", params := p17, body := FuncBody.stmts b17, scope := s17, globals := 3, closure := [], defaults := Value.none, kwdefaults := Value.none, pyModule := Value.str (Str.ofString "law_ij0092_01") 559, code := Value.ref 110 } }) ::
  (nat_lit 112, { cls := Value.type "tuple", data := Data.seq #[] }) ::
  (nat_lit 115, { cls := Value.type "code", data := Data.fields #[Value.str (Str.ofString "_law_lies") 571, Value.str (Str.ofString "_law_lies") 572, Value.str (Str.ofString "/claim/cut.py") 573, Value.int 147 0, Value.int 3 0, Value.int 0 0, Value.int 0 0, Value.int 3 0, Value.ref 112, Value.bool true, Value.int 276 0, Value.ref 113, Value.none, Value.none, Value.none, Value.ref 114, Value.int 574 0, Value.int 147 0, Value.str (Str.ofString "/claim/cut.py") 575] }) ::
  (nat_lit 116, { cls := Value.type "function", data := Data.func { name := Str.ofString "_law_lies", qualname := Str.ofString "_law_lies", params := p18, body := FuncBody.stmts b18, scope := s18, globals := 3, closure := [], defaults := Value.none, kwdefaults := Value.none, pyModule := Value.str (Str.ofString "law_ij0092_01") 559, code := Value.ref 115 } }) ::
  (nat_lit 117, { cls := Value.type "tuple", data := Data.seq #[] }) ::
  (nat_lit 119, { cls := Value.type "tuple", data := Data.seq #[Value.str (Str.ofString "runs") 580, Value.str (Str.ofString "name") 581, Value.str (Str.ofString "place") 582, Value.str (Str.ofString "run") 583, Value.str (Str.ofString "last") 584] }) ::
  (nat_lit 120, { cls := Value.type "tuple", data := Data.seq #[] }) ::
  (nat_lit 122, { cls := Value.type "code", data := Data.fields #[Value.str (Str.ofString "_law_takes") 577, Value.str (Str.ofString "_law_takes") 578, Value.str (Str.ofString "/claim/cut.py") 579, Value.int 150 0, Value.int 2 0, Value.int 0 0, Value.int 0 0, Value.int 3 0, Value.ref 117, Value.bool true, Value.int 276 0, Value.ref 118, Value.none, Value.ref 119, Value.ref 120, Value.ref 121, Value.int 585 0, Value.int 150 0, Value.str (Str.ofString "/claim/cut.py") 586] }) ::
  (nat_lit 123, { cls := Value.type "function", data := Data.func { name := Str.ofString "_law_takes", qualname := Str.ofString "_law_takes", params := p19, body := FuncBody.stmts b19, scope := s19, globals := 3, closure := [], defaults := Value.none, kwdefaults := Value.none, pyModule := Value.str (Str.ofString "law_ij0092_01") 559, code := Value.ref 122 } }) ::
  (nat_lit 124, { cls := Value.type "tuple", data := Data.seq #[] }) ::
  (nat_lit 127, { cls := Value.type "code", data := Data.fields #[Value.str (Str.ofString "law") 588, Value.str (Str.ofString "law") 589, Value.str (Str.ofString "/claim/cut.py") 590, Value.int 164 0, Value.int 1 0, Value.int 0 0, Value.int 0 0, Value.int 3 0, Value.ref 124, Value.bool true, Value.int 276 0, Value.ref 125, Value.none, Value.none, Value.none, Value.ref 126, Value.int 591 0, Value.int 164 0, Value.str (Str.ofString "/claim/cut.py") 592] }) ::
  (nat_lit 128, { cls := Value.type "function", data := Data.func { name := Str.ofString "law", qualname := Str.ofString "law", params := p20, body := FuncBody.stmts b20, scope := s20, globals := 3, closure := [], defaults := Value.none, kwdefaults := Value.none, pyModule := Value.str (Str.ofString "law_ij0092_01") 559, code := Value.ref 127 } }) :: []
noncomputable def view_39 : Program := by
  apply (?F : (a0 : Stmt) → (a2 : Stmt) → (a3 : Stmt) → (a5 : Stmt) → (a6 : Stmt) → (a8 : Stmt) → (a9 : Stmt) → (a11 : Stmt) → (a12 : Stmt) → (a13 : Stmt) → (a14 : Stmt) → (a15 : Stmt) → (a17 : Stmt) → (a18 : Stmt) → (a19 : Stmt) → (a20 : Stmt) → (h0 : At 0 a0) → (h2 : At 2 a2) → (h3 : At 3 a3) → (h5 : At 5 a5) → (h6 : At 6 a6) → (h8 : At 8 a8) → (h9 : At 9 a9) → (h11 : At 11 a11) → (h12 : At 12 a12) → (h13 : At 13 a13) → (h14 : At 14 a14) → (h15 : At 15 a15) → (h17 : At 17 a17) → (h18 : At 18 a18) → (h19 : At 19 a19) → (h20 : At 20 a20) → Program)
  case h0 => exact rfl
  case h2 => exact rfl
  case h3 => exact rfl
  case h5 => exact rfl
  case h6 => exact rfl
  case h8 => exact rfl
  case h9 => exact rfl
  case h11 => exact rfl
  case h12 => exact rfl
  case h13 => exact rfl
  case h14 => exact rfl
  case h15 => exact rfl
  case h17 => exact rfl
  case h18 => exact rfl
  case h19 => exact rfl
  case h20 => exact rfl
  case F => exact fun a0 a2 a3 a5 a6 a8 a9 a11 a12 a13 a14 a15 a17 a18 a19 a20 _ _ _ _ _ _ _ _ _ _ _ _ _ _ _ _ => { PySem.Challenge.pw_ij0092_01 with main := { PySem.Challenge.pw_ij0092_01.main with body := [a0, a2, a3, a5, a6, a8, a9, a11, a12, a13, a14, a15, a17, a18, a19, a20] } }
abbrev asK : List Nat := [3, 6, 11, 12, 35, 36, 37, 39, 40, 42, 43, 45, 49, 51, 52, 54, 55, 56, 58, 59, 61, 62, 63, 65, 66, 68, 69, 70, 72, 73, 75, 76, 77, 79, 80, 82, 83, 84, 86, 87, 89, 90, 91, 93, 94, 96, 97, 98, 100, 101, 103, 104, 105, 107, 108, 110, 111, 112, 115, 116, 117, 119, 120, 122, 123, 124, 127, 128]
abbrev loose : List Str := [Str.ofString "_twin_re_1", Str.ofString "_special_chars_map"]
theorem keys (P : Params) : asK = (heap_39 P).map (·.1) := by kernel_rfl
end Mine.hd
end
section
open PySem PySem.W PyProof.Rows
set_option Elab.async false
set_option maxRecDepth 100000
set_option maxHeartbeats 0
namespace Mine.hd
noncomputable abbrev PP (w : World) : Prop := (openEnds treeTable PySem.Challenge.pw_ij0092_01 w 3682).map (fun s => (openSeen view_39 loose (importedModules PySem.Challenge.pw_ij0092_01.main.body) (fun s => xlAt view_39 [] s && recOk (RowW.records PySem.Challenge.rw_ij0092_01.row.toRowW) s) true s, (kmHook heap_39 asK keys [57]).obs s)) = some (openGood view_39 loose, (kmHook heap_39 asK keys [57]).val w)
theorem hl00 (w : World) : PP ((w.withFollow "special-get-raises" false).withFollow "comprehension-iter-twice" false) := by unfold PP; kernel_rfl
theorem hl01 (w : World) : PP ((w.withFollow "special-get-raises" false).withFollow "comprehension-iter-twice" true) := by unfold PP; kernel_rfl
theorem hl10 (w : World) : PP ((w.withFollow "special-get-raises" true).withFollow "comprehension-iter-twice" false) := by unfold PP; kernel_rfl
theorem hl11 (w : World) : PP ((w.withFollow "special-get-raises" true).withFollow "comprehension-iter-twice" true) := by unfold PP; kernel_rfl
theorem hl : LeftO PySem.Challenge.pw_ij0092_01 view_39 loose (fun s => xlAt view_39 [] s && recOk (RowW.records PySem.Challenge.rw_ij0092_01.row.toRowW) s) (kmHook heap_39 asK keys [57]).obs (kmHook heap_39 asK keys [57]).val 3682 :=
  fun w => byRow2 "comprehension-iter-twice" (P := PP) (byRow2 "special-get-raises" (P := fun w => PP (w.withFollow "comprehension-iter-twice" false)) hl00 hl10) (byRow2 "special-get-raises" (P := fun w => PP (w.withFollow "comprehension-iter-twice" true)) hl01 hl11) w
end Mine.hd
end
section
set_option maxRecDepth 100000
open PySem PySem.W PyProof.Rows PySem.Calls
namespace Mine
/-- a contract of a def of the text, over any caller's frame -/
abbrev Con (w : World) (f : Addr) (need : Nat) (news : List (Addr × Obj)) (vs : List Value) (R : Value → List (Addr × Obj) → Prop) : Prop :=
  ∀ (dp un : Nat) (gd : Option (List Code)) (cn : Str) (cs : Scope) (a : Addr) (ccd : Value) (cl : List (Str × Addr)) (outer : List Env) (A₀ : Around) (base h₀ : Heap) (L : Addr) (m : Str → Option Value) (s : Shared) (Q E : Value → Shared → Prop)
    (p : Program) (loose : List Str) (mean : ExcName → Option Value) (mg mb : Str → Option Value),
    Below A₀ base outer h₀ → Fr h₀ L s.heap m → (Mine.hd.heap_39 w.params).In h₀ → News h₀ L s.heap news → Top p loose mean mg mb h₀ → cs.kind = .function →
    dp + need < recursionLimit → un + 8 * need < cLine →
    (∀ v tl h' tk', Fr h₀ L h' m → News h₀ L h' (tl ++ news) → (∀ q ∈ tl, ∀ p ∈ news, p.1 < q.1) → R v tl → Q v { s with heap := h', toks := tk' }) →
    wpAny (model PySem.Challenge.rw_ij0092_01.row.prog w) (ktrTop dp un gd cn cs L a ccd cl outer) (call (.ref f) vs) Q E s
end Mine
end
section
set_option maxRecDepth 100000
set_option pp.deepTerms false
set_option pp.deepTerms.threshold 6
set_option pp.maxSteps 20000
set_option Elab.async false
open PySem PySem.W PyProof.Rows PySem.Calls
namespace Mine
theorem f_slot_md_get : Slot "method_descriptor" "__get__" "method_descriptor.__get__" :=
  .of (owner := "method_descriptor") (n := "__get__") (by rw [typeLookup_type, builtinLookup_eq_fast]; kernel_rfl) (by decide +kernel) (by decide +kernel) (by decide +kernel)
    (by first | exact .inl (by decide +kernel) | exact .inr (by decide +kernel)) (by rw [isSubtype_type]; kernel_rfl)
theorem f_md_set : typeLookup (.type "method_descriptor") "__set__" = pure none := by rw [typeLookup_type, builtinLookup_eq_fast]; kernel_rfl
theorem f_md_delete : typeLookup (.type "method_descriptor") "__delete__" = pure none := by rw [typeLookup_type, builtinLookup_eq_fast]; kernel_rfl
theorem f_entry_md_get : entryFor table "method_descriptor.__get__" = some Builtin.«method_descriptor.__get__» := entryFor_of_tree (by kernel_rfl)
theorem f_args_md_get (a b c : Value) : argsOk "method_descriptor.__get__" ⟨[a, b, c], []⟩ := by unfold argsOk; kernel_rfl
theorem f_entry_list_ga : entryFor table "list.__getattribute__" = some Builtin.«object.__getattribute__» :=
  entryFor_alias (id' := "object.__getattribute__") (by kernel_rfl) (by decide +kernel) (by decide +kernel) (by kernel_rfl)
theorem f_owner_append : (".".intercalate ("list.append".cutAt '.').dropLast) = "list" := by
  have e0 : "list.append".cutAt '.' = ["list", "append"] := by first | rfl | decide +kernel
  rw [e0]; decide +kernel
theorem f_sub_append_owner : isSubtype (.type "list") (.type (".".intercalate ("list.append".cutAt '.').dropLast)) = pure true := by
  rw [f_owner_append, isSubtype_type]; kernel_rfl

section
variable {prog : Program} {w : World} {A : Around} {E : Value → Shared → Prop} {h : Heap} {g : Array GenState} {d : Drawn} {t : Nat} {os : OsState} {a : Addr} {its : Array Value} {n : Nat}
theorem md_get_append {R : Result → Shared → Prop} (hx : h.get? a = some (W.listOf its n)) (hq : R (.ok (.ret (.ref h.objs.size))) ⟨h.push { cls := .type "builtin_function_or_method", data := .fields #[.builtin "list.append", .ref a] }, g, d, t, os⟩) :
    codeAny (model prog w) A (.call (.builtin "method_descriptor.__get__") ⟨[.builtin "list.append", .ref a, .type "list"], []⟩) R ⟨h, g, d, t, os⟩ := by
  have hT : (⟨h, g, d, t, os⟩ : Shared).TypeIs (.ref a) "list" := ⟨_, hx, rfl⟩
  have hT5 : (⟨h, g, d, t, os⟩ : Shared).TypeIs (.builtin "list.append") "method_descriptor" := type_list_append
  have f8 := f_sub_append_owner
  refine codeAny_call_builtin f_slot_md_get.plain f_entry_md_get (f_slot_md_get.check _ _ _ _ _ _ _ _ hT5 (f_args_md_get _ _ _) ?_)
  repeat (any_goals (first | assumption | wp_step))

theorem ga_entry_append {tk : Tok} {Q : Fin → Shared → Prop} (hx : h.get? a = some (W.listOf its n)) (hq : Q (.done (.ret (.ref h.objs.size))) ⟨h.push { cls := .type "builtin_function_or_method", data := .fields #[.builtin "list.append", .ref a] }, g, d, t, os⟩) :
    wpAny (model prog w) A (Builtin.«object.__getattribute__» ⟨[.ref a, .str (Str.ofString "append") tk], []⟩) Q E ⟨h, g, d, t, os⟩ := by
  have hT : (⟨h, g, d, t, os⟩ : Shared).TypeIs (.ref a) "list" := ⟨_, hx, rfl⟩
  have hT5 : (⟨h, g, d, t, os⟩ : Shared).TypeIs (.builtin "list.append") "method_descriptor" := type_list_append
  have f4 : typeLookup (.type "list") (Str.ofString "append") = pure (some (.builtin "list.append")) := slot_list_append.lookup
  have f5 := type_list_append
  have f6 := f_slot_md_get.lookup
  have f7 := f_md_set
  have f8 := f_md_delete
  repeat (any_goals (first | assumption | wp_step))
  refine md_get_append hx ?_
  repeat (any_goals (first | assumption | wp_step))

theorem ga_call_append {tk : Tok} {R : Result → Shared → Prop} (hx : h.get? a = some (W.listOf its n)) (hq : R (.ok (.ret (.ref h.objs.size))) ⟨h.push { cls := .type "builtin_function_or_method", data := .fields #[.builtin "list.append", .ref a] }, g, d, t, os⟩) :
    codeAny (model prog w) A (.call (.builtin "list.__getattribute__") ⟨[.ref a, .str (Str.ofString "append") tk], []⟩) R ⟨h, g, d, t, os⟩ :=
  codeAny_call_builtin F.slot_list_getattribute.plain f_entry_list_ga (F.slot_list_getattribute.check _ _ _ _ _ _ _ _ (show (⟨h, g, d, t, os⟩ : Shared).TypeIs (.ref a) "list" from ⟨_, hx, rfl⟩) (F.args_list_getattribute_2 _ _) (ga_entry_append hx hq))

theorem getAttr_append0 {Q : Value → Shared → Prop} (hx : h.get? a = some (W.listOf its n)) (hq : Q (.ref h.objs.size) ⟨h.push { cls := .type "builtin_function_or_method", data := .fields #[.builtin "list.append", .ref a] }, g, d, t + 1, os⟩) :
    wpAny (model prog w) A (getAttr (.ref a) (Str.ofString "append") true) Q E ⟨h, g, d, t, os⟩ := by
  have hT : ∀ tk', (⟨h, g, d, tk', os⟩ : Shared).TypeIs (.ref a) "list" := fun _ => ⟨_, hx, rfl⟩
  have f2 := F.slot_list_getattribute.lookup
  have f3 := F.slot_list_getattribute.bind (.ref a)
  have f5 : typeLookup (.type "list") "__getattr__" = pure none := list_getattr_none
  unfold getAttr getAttrBy
  repeat (any_goals (first | assumption | exact hT _ | wp_step))
  refine ga_call_append hx ?_
  repeat (any_goals (first | assumption | exact hT _ | wp_step))

end

abbrev appOf (l : Addr) : Obj := { cls := .type "builtin_function_or_method", data := .fields #[.builtin "list.append", .ref l] }
section
variable {prog : Program} {w : World} {A : Around} {E : Value → Shared → Prop} {s : Shared} {h₀ : Heap} {L l : Addr} {m : Str → Option Value} {news : List (Addr × Obj)} {its : Array Value} {n : Nat}
theorem getAttr_append {Q : Value → Shared → Prop} (F : Fr h₀ L s.heap m) (N : News h₀ L s.heap news) (hm : (l, W.listOf its n) ∈ news)
    (h : ∀ q h', Fr h₀ L h' m → News h₀ L h' ((q, appOf l) :: news) → (∀ p ∈ news, p.1 < q) → Q (.ref q) { s with heap := h', toks := s.toks + 1 }) :
    wpAny (model prog w) A (getAttr (.ref l) (Str.ofString "append") true) Q E s :=
  getAttr_append0 (N _ hm).1 (h _ _ (F.push _) (N.push F _) fun p hp => Heap.lt_size (N p hp).1)
end
end Mine
end
section
set_option maxRecDepth 100000
set_option pp.deepTerms false
set_option pp.deepTerms.threshold 6
set_option pp.maxSteps 20000
set_option Elab.async false
open PySem PySem.W PyProof.Rows PySem.Calls
namespace Mine
theorem f_list_module : isSubtype (.type "list") (.type "module") = pure false := by rw [isSubtype_type]; kernel_rfl
theorem f_list_type : isSubtype (.type "list") (.type "type") = pure false := by rw [isSubtype_type]; kernel_rfl
section
variable {prog : Program} {w : World} {A : Around} {E : Value → Shared → Prop} {h : Heap} {g : Array GenState} {d : Drawn} {t : Nat} {os : OsState} {q l : Addr} {its : Array Value} {n : Nat} {x : Value}
theorem check_append {Q : Unit → Shared → Prop} (hx : h.get? l = some (W.listOf its n)) (hq : Q () ⟨h, g, d, t, os⟩) :
    wpAny (model prog w) A (checkBoundCall "list.append" ⟨[.ref l, x], []⟩) Q E ⟨h, g, d, t, os⟩ := by
  have hT : (⟨h, g, d, t, os⟩ : Shared).TypeIs (.ref l) "list" := ⟨_, hx, rfl⟩
  have f1 := f_list_module
  have f2 := f_list_type
  unfold checkBoundCall
  repeat (any_goals (first | assumption | wp_step))
theorem call_app0 {R : Result → Shared → Prop} (hx : h.get? l = some (W.listOf its n)) (ha : h.get? q = some (appOf l))
   (hq : codeAny (model prog w) A (.builtin "list.append" ⟨[.ref l, x], []⟩) R ⟨h, g, d, t, os⟩) :
    codeAny (model prog w) A (.call (.ref q) ⟨[x], []⟩) R ⟨h, g, d, t, os⟩ := by
  have hT : (⟨h, g, d, t, os⟩ : Shared).TypeIs (.ref l) "list" := ⟨_, hx, rfl⟩
  refine codeAny_of_tree ?_
  show wpAny (model prog w) (A.under (Code.call (Value.ref q) { pos := [x] })) (callAny (.ref q) ⟨[x], []⟩) _ _ _
  unfold callAny
  repeat (any_goals (first | assumption | ((with_reducible show wpAny _ _ (checkBoundCall _ _) _ _ _); refine check_append hx ?_) | wp_step))
  exact ⟨Code.quiet_builtin _ (by decide +kernel), hq⟩
end

section
variable {prog : Program} {w : World} {A : Around} {E : Value → Shared → Prop} {s : Shared} {h₀ : Heap} {L q l : Addr} {m : Str → Option Value} {news news' : List (Addr × Obj)} {its : Array Value} {n : Nat} {x : Value}
theorem call_app {Q : Value → Shared → Prop} (F : Fr h₀ L s.heap m) (N : News h₀ L s.heap news) (ha : (q, appOf l) ∈ news) (U : Upd l (W.listOf its n) (W.listOf (its.push x) (n + 1)) news news')
    (h : ∀ h', Fr h₀ L h' m → News h₀ L h' news' → Q .none { s with heap := h' }) (hsz : its.size ≤ sizeLine := by size_fits) : wpAny (model prog w) A (call (.ref q) [x]) Q E s := by
  obtain ⟨pre, post, rfl, rfl, a, b⟩ := U.split
  have z := N (l, W.listOf its n) (List.mem_append.mpr (.inr (.head _)))
  refine wpAny_call (call_app0 z.1 (N _ ha).1 (codeAny_builtin entry_list_append ?_))
  show wpAny _ _ (updateSeq l (·.push x) >>= fun _ => ret .none) _ _ s
  refine wpAny_bind ?_
  refine wpAny_updateSeq z.1 rfl (wpAny_pure ?_)
  have hs : Heap.SameBut l s.heap (s.heap.update l (Obj.mapSeq (·.push x))) := Heap.SameBut.update ..
  have ho' : (s.heap.update l (Obj.mapSeq (·.push x))).get? l = some (W.listOf (its.push x) (n + 1)) := by
    rw [Heap.get?_update_self _ z.1 (by rw [mapSeq_push]; rfl), mapSeq_push]
  exact h _ (F.change hs z.2.1 z.2.2) (news_set N a b hs ho')

def AppP (q l : Addr) (h : Heap) : Prop := h.get? q = some (appOf l)
theorem keeps_app {M : Model} (h : Heap) (X : AppP q l h) : ∃ k, (k = Keeper.frame ∨ k = Keeper.machine ∨ k = Keeper.boundFrame) ∧ Looks M h (keeperOf (.ref q)) k :=
  ⟨.machine, .inr (.inl rfl), (Looks.ld (part := none) X).andThen .now⟩
theorem callWith_app {M : Model} {env : Env} {pos : Pos} {e : Expr} {Q : Value → Shared → Prop} (l : Addr)
    (h : wpAny M A (spliced (backTo pos (starEach [e] env))) (fun vs s₁ => AppP q l s₁.heap ∧ wpAny M A (call (.ref q) ([] ++ vs)) Q E s₁) E s)
    (he : starEach [e] env = (false, eval e env) :: starEach [] env := by rfl) :
    wpAny M A (callWith pos (.ref q) [] (backTo pos (starEach [e] env)) []) Q E s := by
  rw [he] at h ⊢
  exact callWith_of rfl keeps_app (evalArgs_plain h)
theorem appP {h : Heap} (N : News h₀ L h news) (hq : (q, appOf l) ∈ news) : AppP q l h := (N _ hq).1
end
end Mine
end
section
set_option maxRecDepth 100000
open PySem PySem.W PyProof.Rows PySem.Calls
namespace Mine
def Hold (P : Prop) : Prop := P
theorem unhold {P : Prop} (h : Hold P) : P := h
theorem hold {P : Prop} (h : P) : Hold P := h

/-- a place of the list that _translate makes: the star, or a text -/
inductive Part where
  | star
  | txt (s : Str)
def trStep (ps : List Part) (c : Nat) : List Part :=
  if c = 42 then (match ps.getLast? with | some .star => ps | _ => ps ++ [.star])
  else if c = 63 then ps ++ [.txt (Str.ofString ".")]
  else if c = 94 then ps ++ [.txt ⟨#[92, 94]⟩]
  else ps ++ [.txt ⟨#[c]⟩]
def trF (cs : List Nat) : List Part := cs.foldl trStep []
theorem trF_snoc (cs : List Nat) (c : Nat) : trF (cs ++ [c]) = trStep (trF cs) c := by simp [trF]

inductive PartsAre (S : Addr) : List Value → List Part → Prop
  | nil : PartsAre S [] []
  | star {vs ps} : PartsAre S vs ps → PartsAre S (.ref S :: vs) (.star :: ps)
  | txt (x : Str) (t : Tok) {vs ps} : PartsAre S vs ps → PartsAre S (.str x t :: vs) (.txt x :: ps)
theorem PartsAre.snoc_star {S : Addr} : ∀ {vs : List Value} {ps : List Part}, PartsAre S vs ps → PartsAre S (vs ++ [.ref S]) (ps ++ [.star])
  | _, _, .nil => .star .nil
  | _, _, .star h => .star h.snoc_star
  | _, _, .txt x t h => .txt x t h.snoc_star
theorem PartsAre.snoc_txt {S : Addr} (x : Str) (t : Tok) : ∀ {vs : List Value} {ps : List Part}, PartsAre S vs ps → PartsAre S (vs ++ [.str x t]) (ps ++ [.txt x])
  | _, _, .nil => .txt x t .nil
  | _, _, .star h => .star (h.snoc_txt x t)
  | _, _, .txt y u h => .txt y u (h.snoc_txt x t)
theorem PartsAre.length {S : Addr} : ∀ {vs : List Value} {ps : List Part}, PartsAre S vs ps → ps.length = vs.length
  | _, _, .nil => rfl
  | _, _, .star h => by simp [h.length]
  | _, _, .txt _ _ h => by simp [h.length]
/-- the last place, seen from both sides -/
theorem PartsAre.last {S : Addr} {vs : List Value} {ps : List Part} (h : PartsAre S vs ps) :
    (vs = [] ∧ ps = []) ∨ (∃ us qs, vs = us ++ [.ref S] ∧ ps = qs ++ [.star]) ∨ (∃ us qs x t, vs = us ++ [.str x t] ∧ ps = qs ++ [.txt x]) := by
  induction h with
  | nil => exact .inl ⟨rfl, rfl⟩
  | star h ih =>
    rcases ih with ⟨rfl, rfl⟩ | ⟨us, qs, rfl, rfl⟩ | ⟨us, qs, x, t, rfl, rfl⟩
    · exact .inr (.inl ⟨[], [], rfl, rfl⟩)
    · exact .inr (.inl ⟨_ :: us, _ :: qs, rfl, rfl⟩)
    · exact .inr (.inr ⟨_ :: us, _ :: qs, x, t, rfl, rfl⟩)
  | txt y u h ih =>
    rcases ih with ⟨rfl, rfl⟩ | ⟨us, qs, rfl, rfl⟩ | ⟨us, qs, x, t, rfl, rfl⟩
    · exact .inr (.inr ⟨[], [], y, u, rfl, rfl⟩)
    · exact .inr (.inl ⟨_ :: us, _ :: qs, rfl, rfl⟩)
    · exact .inr (.inr ⟨_ :: us, _ :: qs, x, t, rfl, rfl⟩)
theorem take_succ_snoc {l : List Nat} {i : Nat} {c : Nat} (h : l[i]? = some c) : l.take (i + 1) = l.take i ++ [c] := by simp [List.take_add_one, h]

abbrev TrSt := Int × Tok × List Value × Nat
section
variable {prog : Program} {w : World} {A : Around} {E : Value → Shared → Prop} {Q : Flow → Shared → Prop} {s : Shared} {env : Env} {h₀ : Heap} {L : Addr}
abbrev trLed (q l : Addr) (news : List (Addr × Obj)) (c : TrSt) : List (Addr × Obj) := (q, appOf l) :: (l, W.listOf c.2.2.1.toArray c.2.2.2) :: news
abbrev trPs (c : TrSt) : List (Str × Value) := [(Str.ofString "i", .int c.1 c.2.1)]
abbrev trInv (S : Addr) (P : Str) (c : TrSt) : Prop := 0 ≤ c.1 ∧ c.1 ≤ (P.length : Int) ∧ (c.2.2.1.length : Int) ≤ c.1 ∧ PartsAre S c.2.2.1 (trF (P.cps.toList.take c.1.toNat))
theorem tr_while {test : PySem.Expr} {body : List Stmt} {pos : Pos} {m₀ : Str → Option Value} (S : Addr) (P : Str) {q l D : Addr} {oD : Obj} {n₀ : Nat} {t₀ : Tok} {news : List (Addr × Obj)}
    (F : Fr h₀ L s.heap m₀) (N : News h₀ L s.heap ((D, oD) :: (q, appOf l) :: (l, W.listOf ([] : List Value).toArray n₀) :: news)) (hi : m₀ (Str.ofString "i") = some (.int 0 t₀))
    (turn : ∀ (i : Int) (t : Tok) (vs : List Value) (cnt : Nat) (u : Str → Option Value) h tk, 0 ≤ i → i ≤ (P.length : Int) → (vs.length : Int) ≤ i → PartsAre S vs (trF (P.cps.toList.take i.toNat)) →
      Fr h₀ L h (kstB (fun z => if [Str.ofString "c"].contains z then u z else m₀ z) [(Str.ofString "i", .int i t)]) → News h₀ L h ((q, appOf l) :: (l, W.listOf vs.toArray cnt) :: news) →
      wpAny (model prog w) A (isTrue test env (eval test env)) (fun b s₂ =>
        if b = true then wpAny (model prog w) A (execs body env) (KswPost h₀ L s (trLed q l news) trPs (fun _ => True) [Str.ofString "c"] m₀ (trInv S P) (fun c => (P.length : Int).toNat - c.1.toNat) Q (i, t, vs, cnt)) E s₂ else Q .next s₂) E { s with heap := h, toks := tk })
    (hE : PassesOwn (model prog w) A env E := by passes_own) :
    wpAny (model prog w) A (exec (.While test body [] pos) env) Q E s :=
  ksw_while (trLed q l news) trPs (fun _ => True) [Str.ofString "c"] (trInv S P) (fun c => (P.length : Int).toNat - c.1.toNat) (0, t₀, [], n₀) F (fun p hp => N p (.tail _ hp)) trivial
    (fun p hp => by rcases List.mem_cons.mp hp with rfl | hp; exact hi; cases hp) ⟨Int.le_refl _, by omega, by simp, by simpa [trF] using PartsAre.nil⟩
    (fun c u h tk _ hp F N => turn c.1 c.2.1 c.2.2.1 c.2.2.2 u h tk hp.1 hp.2.1 hp.2.2.1 hp.2.2.2 F N) hE
end
end Mine
end
section
set_option maxRecDepth 100000
open PySem PySem.W PyProof.Rows PySem.Calls
namespace Mine
section
variable {prog : Program} {w : World} {A : Around} {E : Value → Shared → Prop} {s : Shared} {h₀ : Heap} {L l : Addr} {news : List (Addr × Obj)} {us : List Value} {v : Value} {n : Nat}
theorem item_str_at {value slice : PySem.Expr} {x : Str} {t : Tok} {i : Int} {u : Tok} {c : Nat} {Q : Value → Shared → Prop} (hc : x.cps[i.toNat]? = some c) (h0 : 0 ≤ i) (hi : i < 2 ^ 63)
    (h : Q (.str ⟨#[c]⟩ s.toks) { s with toks := s.toks + 1 })
    (hs : subscripted slice false (.str x t) (.int i u) = operate [.str x t, .int i u] (getItem (.str x t) (.int i u)) := by with_unfolding_all rfl) :
    wpAny (model prog w) A (subscriptTail value slice (.str x t) (.int i u)) Q E s := by
  refine tail_any (typeIs_str s x t) slot_str_getitem.lookup (PyProof.Rows.getItem_str ?_ ?_ h) hs
  · simp only [Bool.or_eq_false_iff, decide_eq_false_iff_not]; omega
  · have hlt : i.toNat < x.cps.size := by
      rcases Nat.lt_or_ge i.toNat x.cps.size with q | q
      · exact q
      · rw [Array.getElem?_eq_none q] at hc; cases hc
    have : seqIndex? i x.length = some i.toNat := by
      unfold seqIndex?
      have e : x.length = x.cps.size := rfl
      have hn : ¬ i < 0 := by omega
      simp only [hn, if_false]
      rw [if_pos (by simp only [Bool.and_eq_true, decide_eq_true_eq]; omega)]
    rw [this]; exact hc
theorem item_last {value slice : PySem.Expr} {u : Tok} {Q : Value → Shared → Prop} (N : News h₀ L s.heap news) (hm : (l, W.listOf (us ++ [v]).toArray n) ∈ news) (h : Q v s)
    (hs : subscripted slice false (.ref l) (.int (-1) u) = operate [.ref l, .int (-1) u] (getItem (.ref l) (.int (-1) u)) := by with_unfolding_all rfl) :
    wpAny (model prog w) A (subscriptTail value slice (.ref l) (.int (-1) u)) Q E s := by
  have hl : s.heap.IsList l (us ++ [v]).toArray := ⟨_, (N _ hm).1, rfl, n, rfl⟩
  refine tail_any hl.typeIs slot_list_getitem.lookup (wpAny_getItem_list_neg hl (by decide) ?_ (by decide) ?_ h) hs
  · simp only [List.size_toArray, List.length_append, List.length_singleton]; omega
  · have : (-1 + (((us ++ [v]).toArray.size : Nat) : Int)).toNat = us.length := by simp only [List.size_toArray, List.length_append, List.length_singleton]; omega
    rw [this]; simp
theorem truthy_some {Q : Bool → Shared → Prop} (N : News h₀ L s.heap news) (hm : (l, W.listOf (us ++ [v]).toArray n) ∈ news) (hz : us.length < 1000000) (h : ∀ tk, Q true { s with toks := tk }) : wpAny (model prog w) A (truthy (.ref l)) Q E s := by
  have hl : s.heap.IsList l (us ++ [v]).toArray := ⟨_, (N _ hm).1, rfl, n, rfl⟩
  refine wpAny_truthy_list hl (by simp; omega) ?_
  have e : (us ++ [v]).toArray.isEmpty = false := by simp
  rw [e]
  exact h _
theorem truthy_nil {Q : Bool → Shared → Prop} (N : News h₀ L s.heap news) (hm : (l, W.listOf ([] : List Value).toArray n) ∈ news) (h : ∀ tk, Q false { s with toks := tk }) : wpAny (model prog w) A (truthy (.ref l)) Q E s := by
  have hl : s.heap.IsList l ([] : List Value).toArray := ⟨_, (N _ hm).1, rfl, n, rfl⟩
  exact wpAny_truthy_list hl (by simp) (h _)
end
end Mine
namespace Mine
section
variable {prog : Program} {w : World} {A : Around} {E : Value → Shared → Prop} {s : Shared}
theorem isNot_str_ref {x : Str} {t : Tok} {S : Addr} {Q : Value → Shared → Prop} (h : Q (.bool true) s) : wpAny (model prog w) A (compareOp .IsNot (.str x t) (.ref S)) Q E s :=
  wpAny_isNot_other rfl (fun e => nomatch e) h
theorem is_str_ref {x : Str} {t : Tok} {S : Addr} {Q : Value → Shared → Prop} (h : Q (.bool false) s) : wpAny (model prog w) A (compareOp .Is (.str x t) (.ref S)) Q E s :=
  wpAny_is_other rfl (fun e => nomatch e) h
end
theorem same_i_c {m₀ u m' : Str → Option Value} {v a b : Value} {z : Str} (hz : z ≠ Str.ofString "i") (hc : z ≠ Str.ofString "c")
    (e : m' = fun y => if y = Str.ofString "i" then some a else if y = Str.ofString "c" then some b else kstB (fun z => if [Str.ofString "c"].contains z then u z else m₀ z) [(Str.ofString "i", v)] y) : m' z = m₀ z := by
  have hc' : [Str.ofString "c"].contains z = false := by simp [hc]
  rw [e]
  simp only [kstB, if_neg hz, if_neg hc, hc']
  rfl
theorem tr_close {h₀ h' : Heap} {L q l : Addr} {s : Shared} {S : Addr} {P : Str} {i : Int} {t t' : Tok} {vs vs' : List Value} {cnt cnt' tk c : Nat} {m₀ m' : Str → Option Value} {news news' : List (Addr × Obj)}
    (F : Fr h₀ L h' m') (N : News h₀ L h' news') (hn : ∀ p ∈ (q, appOf l) :: (l, W.listOf vs'.toArray cnt') :: news, p ∈ news') (hi : m' (Str.ofString "i") = some (.int (i + 1) t')) (hm : ∀ z, z ≠ Str.ofString "i" → z ≠ Str.ofString "c" → m' z = m₀ z)
    (h0 : 0 ≤ i) (hlt : i < (P.length : Int)) (hlen : (vs'.length : Int) ≤ i + 1) (hc : P.cps[i.toNat]? = some c) (hp : PartsAre S vs' (trStep (trF (P.cps.toList.take i.toNat)) c)) :
    KswEnd h₀ L s (trLed q l news) trPs (fun _ => True) [Str.ofString "c"] m₀ (trInv S P) (fun c => (P.length : Int).toNat - c.1.toNat) (i, t, vs, cnt) { s with heap := h', toks := tk } := by
  refine ksw_end (i + 1, t', vs', cnt') F N hn trivial (fun p hp => by rcases List.mem_cons.mp hp with rfl | hp; exact hi; cases hp) (fun z h2 h3 => hm z (h2 _ (.head _)) (fun e => by subst e; simp at h3)) ⟨by show 0 ≤ i + 1; omega, by show i + 1 ≤ _; omega, hlen, ?_⟩ ?_
  · show PartsAre S vs' (trF (P.cps.toList.take (i + 1).toNat))
    have e : (i + 1).toNat = i.toNat + 1 := by omega
    have hc' : P.cps.toList[i.toNat]? = some c := by simpa using hc
    rw [e, take_succ_snoc hc', trF_snoc]
    exact hp
  · show (P.length : Int).toNat - (i + 1).toNat < (P.length : Int).toNat - i.toNat
    omega
end Mine
end
section
set_option maxRecDepth 100000
set_option pp.deepTerms false
set_option pp.deepTerms.threshold 6
set_option pp.maxSteps 20000
set_option Elab.async false
open PySem PySem.W PyProof.Rows PySem.Calls
namespace Mine
section
variable {prog : Program} {w : World} {A : Around} {E : Value → Shared → Prop} {s : Shared} {a : Addr} {f : Int → Option Value}
theorem asInt_str (y : Str) (t : Tok) : asInt? (.str y t) = pure none := by first | rfl | (unfold asInt?; rfl)
theorem asStr_str (y : Str) (t : Tok) : asStr? (.str y t) = pure (some y) := by first | rfl | (unfold asStr?; rfl)
theorem lookup_hit {c : Nat} {y : Str} {t : Tok} {Q : Builtin.Str.Mapped → Shared → Prop} (M : s.heap.MapOf (intKind prog w) a f) (hf : f c = some (.str y t)) (h : ∀ tk, Q (.text y) { s with toks := tk }) :
    wpAny (model prog w) A (Builtin.Str.tableLookup (.ref a) c) Q E s := by
  have f1 := asInt_str y t
  have f2 := asStr_str y t
  unfold Builtin.Str.tableLookup
  repeat (any_goals (first | assumption | ((with_reducible show wpAny _ _ (getItem (Value.ref _) (Value.int _ _)) _ _ _); refine wpAny_getItem_of (intKind_is prog w _ _) M hf ?_) | wp_step))
  exact h _
theorem f_key_lookup : isSubtype (.type "KeyError") (.type "LookupError") = pure true := by rw [isSubtype_type]; kernel_rfl
theorem lookup_miss {c : Nat} {Q : Builtin.Str.Mapped → Shared → Prop} (hA : A.handled = none) (ha : (a == sysModules) = false) (M : s.heap.MapOf (intKind prog w) a f) (hf : f c = none)
    (h : ∀ h' tk e, Heap.NewExc s.heap h' e "KeyError" → Q .keep { s with heap := h', toks := tk }) :
    wpAny (model prog w) A (Builtin.Str.tableLookup (.ref a) c) Q E s := by
  unfold Builtin.Str.tableLookup
  refine wpAny_bind (wpAny_attempt ?_)
  refine wpAny_bind (wpAny_mkInt ?_)
  refine wpAny_getItem_missing_of (intKind_is prog w _ _) ha hA M hf (fun h' e hx => ?_)
  have hT : ∀ g d tk os, (⟨h', g, d, tk, os⟩ : Shared).TypeIs (.ref e) "KeyError" := by
    intro g d tk os
    obtain ⟨ob, t, h1, h2, _⟩ := hx.there
    exact ⟨ob, h1, h2⟩
  have f1 := f_key_lookup
  clear M
  refine wpAny_bind (wpAny_isInstance (hT _ _ _ _) f1 ?_)
  repeat (any_goals (first | assumption | wp_step))
  exact h _ _ _ hx
theorem all_one {c : Nat} (hc : c < 128) : (#[c] : Array Nat).all (· < 128) = true := by simp [hc]
theorem translate_miss {c : Nat} {t : Tok} {Q : Fin → Shared → Prop} (hA : A.handled = none) (ha : (a == sysModules) = false) (M : s.heap.MapOf (intKind prog w) a f) (hc : c < 128) (hf : f c = none)
    (h : ∀ h' tk tk' e, Heap.NewExc s.heap h' e "KeyError" → Q (.done (.ret (.str ⟨#[c]⟩ tk'))) { s with heap := h', toks := tk }) :
    wpAny (model prog w) A (Builtin.«str.translate» ⟨[.str ⟨#[c]⟩ t, .ref a], []⟩) Q E s := by
  have f1 := all_one hc
  unfold Builtin.«str.translate»
  refine wpAny_bind (wpAny_pure ?_)
  dsimp only
  rw [f1]
  iterate 8 (first | assumption | ((with_reducible show wpAny _ _ (Builtin.Str.tableLookup _ _) _ _ _); refine lookup_miss hA ha M hf ?_; intro h' tk e hx) | wp_step)
  simp only [List.lookup_nil, if_true]
  dsimp only [List.size_toArray, List.length_cons, List.length_nil, List.getElem_toArray, Nat.sub_zero, Nat.zero_add, Nat.sub_self, List.getElem_cons_zero]
  refine wpAny_bind ?_
  refine lookup_miss (c := c) hA ha M hf ?_
  intro h' tk e hx
  dsimp only
  iterate 10 (wp_step)
  show wpAny (model prog w) A (mkStr ⟨#[c]⟩) _ _ _
  refine wpAny_mkStr (wpAny_pure ?_)
  exact h _ _ _ _ hx
theorem translate_hit {c d₁ d₂ : Nat} {t t' : Tok} {Q : Fin → Shared → Prop} (M : s.heap.MapOf (intKind prog w) a f) (hc : c < 128) (hf : f c = some (.str ⟨#[d₁, d₂]⟩ t'))
    (h : ∀ tk tk', Q (.done (.ret (.str ⟨#[d₁, d₂]⟩ tk'))) { s with toks := tk }) :
    wpAny (model prog w) A (Builtin.«str.translate» ⟨[.str ⟨#[c]⟩ t, .ref a], []⟩) Q E s := by
  have f1 := all_one hc
  unfold Builtin.«str.translate»
  refine wpAny_bind (wpAny_pure ?_)
  dsimp only
  rw [f1]
  iterate 8 (first | assumption | wp_step)
  simp only [List.lookup_nil, if_true]
  dsimp only [List.size_toArray, List.length_cons, List.length_nil, List.getElem_toArray, Nat.sub_zero, Nat.zero_add, Nat.sub_self, List.getElem_cons_zero]
  refine wpAny_bind ?_
  refine lookup_hit (c := c) M hf ?_
  intro tk
  dsimp only
  iterate 6 (wp_step)
  refine wpAny_ite_false rfl ?_
  refine wpAny_bind ?_
  refine lookup_hit (s := { s with toks := tk }) (c := c) M hf ?_
  intro tk2
  dsimp only
  iterate 2 (wp_step)
  refine wpAny_pure (a := ([(⟨#[d₁, d₂]⟩ : Str)], 0 + (⟨#[d₁, d₂]⟩ : Str).length, false, ([] : List (Nat × Option Nat)), false)) ?_
  refine wpAny_ite_false (Q := Q) (hc := by
    show decide (Builtin.Str.tooLong 2 = true) = false
    decide +kernel) ?_
  simp only [List.reverse_cons, List.reverse_nil, List.nil_append, List.foldl_cons, List.foldl_nil, Array.empty_append]
  refine wpAny_bind (m := mkStr ⟨#[d₁, d₂]⟩) (wpAny_mkStr (hx := by show 2 ≤ sizeLine; rw [sizeLine_eq]; omega) (wpAny_pure ?_))
  exact h _ _
end
end Mine
namespace Mine
open PyProof.V
section
variable {prog : Program} {w : World} {A : Around} {E : Value → Shared → Prop} {s : Shared} {h₀ : Heap} {L a : Addr} {m : Str → Option Value} {news : List (Addr × Obj)} {D : List (Int × PyData)}
theorem gm_translate {M : Model} {x : Str} {t : Tok} {pl : Sem Bool} {Q : Value × List Value → Shared → Prop} (h : Q (.builtin "str.translate", [.str x t]) s) : wpAny M A (getMethod (.str x t) (Str.ofString "translate") pl) Q E s := by
  with_reducible exact PySem.GM.of (.str x t) (typeIs_str _ _ _) F.slot_str_translate F.type_str_translate PySem.GM.noRef h
theorem call_translate_miss {c : Nat} {t : Tok} {Q : Value → Shared → Prop} (Ky : KTD.Keyed h₀ a D) (hA : A.handled = none) (F : Fr h₀ L s.heap m) (N : News h₀ L s.heap news) (hc : c < 128) (hl : KTD.datumAt (c : Int) D = none)
    (h : ∀ h' tk tk', Fr h₀ L h' m → News h₀ L h' news → Q (.str ⟨#[c]⟩ tk') { s with heap := h', toks := tk }) :
    wpAny (model prog w) A (call (.builtin "str.translate") [.str ⟨#[c]⟩ t, .ref a]) Q E s := by
  obtain ⟨lo, kvs, hd, hf⟩ := Ky.keep F.keep prog w
  refine wpAny_call_entry PySem.F.slot_str_translate (typeIs_str s _ t) PySem.F.entry_str_translate ?_ (PySem.F.args_str_translate_2 _ _)
  refine translate_miss (by exact hA) lo hd.mapOf hc (hf.none_of_lookup same_int (by rw [KTD.lookup_keyed]; exact hl)) ?_
  intro h' tk tk' e hx
  exact ⟨_, rfl, h h' tk tk' (F.keeps hx.keeps) (N.grown hx.keeps)⟩
theorem call_translate_hit {c d₁ d₂ : Nat} {t : Tok} {Q : Value → Shared → Prop} (Ky : KTD.Keyed h₀ a D) (F : Fr h₀ L s.heap m) (hc : c < 128) (hl : KTD.datumAt (c : Int) D = some (.str ⟨#[d₁, d₂]⟩))
    (h : ∀ tk tk', Q (.str ⟨#[d₁, d₂]⟩ tk') { s with toks := tk }) :
    wpAny (model prog w) A (call (.builtin "str.translate") [.str ⟨#[c]⟩ t, .ref a]) Q E s := by
  obtain ⟨lo, kvs, hd, hf⟩ := Ky.keep F.keep prog w
  obtain ⟨v, hv, hfl⟩ := hf.of_lookup same_int (k := (c : Int)) (by rw [KTD.lookup_keyed]; exact hl)
  obtain ⟨t', rfl⟩ := hfl.str_inv
  refine wpAny_call_entry PySem.F.slot_str_translate (typeIs_str s _ t) PySem.F.entry_str_translate ?_ (PySem.F.args_str_translate_2 _ _)
  refine translate_hit hd.mapOf hc hv ?_
  intro tk tk'
  exact ⟨_, rfl, h tk tk'⟩
end
end Mine
namespace Mine
section
variable {prog : Program} {w : World} {A : Around} {E : Value → Shared → Prop} {s : Shared} {h₀ : Heap} {L q l : Addr} {news : List (Addr × Obj)}
theorem callWith_appN {M : Model} {env : Env} {pos : Pos} {e : PySem.Expr} {Q : Value → Shared → Prop} (_N : News h₀ L s.heap news) (_hq : (q, appOf l) ∈ news)
    (h : wpAny M A (spliced (backTo pos (starEach [e] env))) (fun vs s₁ => AppP q l s₁.heap ∧ wpAny M A (call (.ref q) ([] ++ vs)) Q E s₁) E s)
    (he : starEach [e] env = (false, eval e env) :: starEach [] env := by rfl) :
    wpAny M A (callWith pos (.ref q) [] (backTo pos (starEach [e] env)) []) Q E s := callWith_app l h he
end
end Mine
end
section
set_option maxRecDepth 100000
set_option pp.deepTerms false
set_option pp.deepTerms.threshold 6
set_option pp.maxSteps 20000
set_option Elab.async false
open PySem PySem.W PyProof.Rows PySem.Calls
namespace Mine
theorem f_lookup_object_new : typeLookup (.type "object") "__new__" = pure (some (.builtin "object.__new__")) := by rw [typeLookup_type, builtinLookup_eq_fast]; kernel_rfl
theorem f_called_object : TypeCalled "object" "object.__new__" "object.__init__" :=
  ⟨by decide +kernel, by decide +kernel, ⟨_, _, PySem.F.mro_object⟩, madeBy_type PySem.F.mro_object f_lookup_object_new (by decide +kernel), by decide +kernel, by rw [isSubtype_type]; kernel_rfl, PySem.F.slot_object_init⟩
theorem f_typeCall_object : checkTypeCall "object" ⟨[], []⟩ = pure () := by kernel_rfl
theorem f_newCall_object : checkBuiltinCall "object.__new__" ⟨[.type "object"], []⟩ = pure () := by kernel_rfl
abbrev objObj : Obj := { cls := .type "object", data := .plain }
theorem f_object_new : Meets (Builtin.«object.__new__» ⟨[.type "object"], []⟩) (fun _ R s => R (.ok (.ret (.ref s.heap.objs.size))) { s with heap := s.heap.push objObj }) :=
  Meets.of_wp fun prog w A R s hs => by
    obtain ⟨h, g, d, t, os⟩ := s
    have f1 := f_called_object.made
    have f2 := f_called_object.sub
    unfold Builtin.«object.__new__»
    repeat (any_goals (first | assumption | wp_step))
    exact ⟨_, rfl, hs⟩
theorem f_object_init (o : Addr) : Meets (Builtin.«object.__init__» ⟨[.ref o], []⟩) (fun _ R s => R (.ok (.ret .none)) s) :=
  Meets.of_wp fun prog w A R s hs => wpAny_pure ⟨_, rfl, hs⟩
theorem f_args_object_init (a : Value) : argsOk "object.__init__" ⟨[a], []⟩ := by
  unfold argsOk; rw [signature?_of (id := "object.__init__") (n := ['_', '_', 't', 'i', 'n', 'i', '_', '_']) (o := ['t', 'c', 'e', 'j', 'b', 'o']) (by kernel_rfl) PySem.F.owner_object]; kernel_rfl
section
variable {prog : Program} {w : World} {A : Around} {E : Value → Shared → Prop} {s : Shared} {h₀ : Heap} {L : Addr} {m : Str → Option Value} {news : List (Addr × Obj)}
theorem call_object {Q : Value → Shared → Prop} (F : Fr h₀ L s.heap m) (N : News h₀ L s.heap news)
    (h : ∀ o h', Fr h₀ L h' m → News h₀ L h' ((o, objObj) :: news) → (∀ p ∈ news, p.1 < o) → Q (.ref o) { s with heap := h' }) : wpAny (model prog w) A (call (.type "object") []) Q E s := by
  refine callType_meets (Q₁ := fun obj s₁ => ∃ o, obj = .ref o ∧ s₁.heap.get? o = some objObj ∧ Q (.ref o) s₁) f_called_object f_typeCall_object f_newCall_object PySem.F.entry_object_new PySem.F.entry_object_init f_object_new ?_ ?_
  · exact ⟨_, rfl, Heap.get?_push_size _ rfl, h _ _ (F.push _) (N.push F _) fun p hp => Heap.lt_size (N p hp).1⟩
  · rintro obj s₁ ⟨o, rfl, ho, hq⟩
    exact ⟨⟨_, ho, rfl⟩, f_args_object_init _, _, f_object_init o, rfl, hq⟩
end
end Mine
end
section
set_option maxRecDepth 100000
open PySem PySem.W PyProof.Rows PySem.Calls
namespace Mine
/-- the texts, side by side -/
def cat : List Str → Str
  | [] => ⟨#[]⟩
  | x :: r => ⟨x.cps ++ (cat r).cps⟩
theorem cat_length : ∀ f : List Str, (cat f).length = (f.map (·.length)).sum
  | [] => rfl
  | x :: r => by
    show (x.cps ++ (cat r).cps).size = _
    rw [Array.size_append, List.map_cons, List.sum_cons, ← cat_length r]; rfl
theorem str_eq {x y : Str} (h : x.cps.toList = y.cps.toList) : x = y := by
  cases x; cases y; congr 1; exact Array.ext' h
theorem glue_fold : ∀ (r : List Str) (a : Array Nat), (r.foldl (fun acc p => acc ++ (Str.ofString "").cps ++ p.cps) a).toList = a.toList ++ (cat r).cps.toList
  | [], a => by simp [cat]
  | x :: r, a => by
    have e0 : (Str.ofString "").cps = #[] := by decide +kernel
    rw [List.foldl_cons, glue_fold r, e0]
    simp [cat]
theorem join_cat (f : List Str) : Txt.join (Str.ofString "") f = cat f := by
  cases f with
  | nil => rfl
  | cons x r => exact str_eq (by show (r.foldl (fun acc p => acc ++ (Str.ofString "").cps ++ p.cps) x.cps).toList = _; rw [glue_fold]; simp [cat])

def dotStar : Str := Str.ofString ".*"
/-- the group that stands for the texts between two stars -/
def unit (f : List Str) : Str := ⟨#[40, 63, 62, 46, 42, 63] ++ (cat f).cps ++ #[41]⟩
/-- what _join_translated_parts has in its list at the end; the middle: none ahead of the first star, else the texts behind the last star -/
def jl : List Part → Option (List Str) → List Str → List Str
  | [], none, acc => acc
  | [], some f, acc => if f = [] then acc ++ [dotStar] else acc ++ [dotStar, cat f]
  | .txt x :: r, none, acc => jl r none (acc ++ [x])
  | .star :: r, none, acc => jl r (some []) acc
  | .txt x :: r, some f, acc => jl r (some (f ++ [x])) acc
  | .star :: r, some f, acc => jl r (some []) (acc ++ [unit f])
def frame (x : Str) : Str := ⟨#[40, 63, 115, 58] ++ x.cps ++ #[41, 92, 90]⟩
theorem unit_eq (f : List Str) : Str.empty ++ Str.ofString "(?>.*?" ++ cat f ++ Str.ofString ")" = unit f := by
  refine str_eq ?_
  show (((#[] ++ (Str.ofString "(?>.*?").cps) ++ (cat f).cps) ++ (Str.ofString ")").cps).toList = _
  have e1 : (Str.ofString "(?>.*?").cps = #[40, 63, 62, 46, 42, 63] := by decide +kernel
  have e2 : (Str.ofString ")").cps = #[41] := by decide +kernel
  rw [e1, e2]; simp [unit]
theorem frame_eq (x : Str) : Str.empty ++ Str.ofString "(?s:" ++ x ++ Str.ofString ")\\Z" = frame x := by
  refine str_eq ?_
  show (((#[] ++ (Str.ofString "(?s:").cps) ++ x.cps) ++ (Str.ofString ")\\Z").cps).toList = _
  have e1 : (Str.ofString "(?s:").cps = #[40, 63, 115, 58] := by decide +kernel
  have e2 : (Str.ofString ")\\Z").cps = #[41, 92, 90] := by decide +kernel
  rw [e1, e2]; simp [frame]
/-- no two stars side by side, short texts -/
def okP : List Part → Bool
  | .star :: .star :: _ => false
  | .star :: r => okP r
  | .txt x :: r => decide (x.length ≤ 2) && okP r
  | [] => true
theorem okP_star {p : Part} {r : List Part} (h : okP (.star :: p :: r) = true) : ∃ x, p = .txt x := by
  cases p with
  | star => simp [okP] at h
  | txt x => exact ⟨x, rfl⟩
theorem okP_tail {p : Part} {r : List Part} (h : okP (p :: r) = true) : okP r = true := by
  cases p with
  | star =>
    cases r with
    | nil => rfl
    | cons q r => cases q with
      | star => simp [okP] at h
      | txt x => simpa [okP] using h
  | txt x => simp [okP] at h; exact h.2
theorem okP_drop : ∀ {i : Nat} {l : List Part}, okP l = true → okP (l.drop i) = true
  | 0, _, h => by simpa using h
  | i + 1, [], _ => by simp [okP]
  | i + 1, p :: r, h => by simpa using okP_drop (i := i) (okP_tail h)
theorem okP_txt {x : Str} {r : List Part} (h : okP (.txt x :: r) = true) : x.length ≤ 2 := by
  simp [okP] at h; exact h.1

theorem PartsAre.drop {S : Addr} : ∀ {i : Nat} {vs : List Value} {ps : List Part}, PartsAre S vs ps → PartsAre S (vs.drop i) (ps.drop i)
  | 0, _, _, h => by simpa using h
  | i + 1, _, _, .nil => by simpa using PartsAre.nil
  | i + 1, _, _, .star h => by simpa using h.drop
  | i + 1, _, _, .txt x t h => by simpa using h.drop
theorem get_of_drop {α : Type} {l : List α} {i : Nat} {x : α} {r : List α} (h : l.drop i = x :: r) : l[i]? = some x := by
  have := congrArg (fun l => l[0]?) h
  simpa using this
theorem drop_of_drop {α : Type} {l : List α} {i : Nat} {x : α} {r : List α} (h : l.drop i = x :: r) : l.drop (i + 1) = r := by
  have : l.drop (i + 1) = (l.drop i).drop 1 := by rw [List.drop_drop]
  rw [this, h]; rfl
theorem lt_of_drop {α : Type} {l : List α} {i : Nat} {x : α} {r : List α} (h : l.drop i = x :: r) : i < l.length := by
  rcases Nat.lt_or_ge i l.length with q | q
  · exact q
  · rw [List.drop_of_length_le q] at h; cases h
theorem le_of_drop {α : Type} {l : List α} {i : Nat} (h : l.drop i = []) : l.length ≤ i := by simpa using h
theorem PartsAre.at_star {S : Addr} {i : Nat} {vs : List Value} {ps r : List Part} (h : PartsAre S vs ps) (e : ps.drop i = .star :: r) : vs[i]? = some (.ref S) := by
  have := h.drop (i := i)
  rw [e] at this
  generalize hw : vs.drop i = ws at this
  cases this
  exact get_of_drop hw
theorem PartsAre.at_txt {S : Addr} {i : Nat} {vs : List Value} {ps r : List Part} {x : Str} (h : PartsAre S vs ps) (e : ps.drop i = .txt x :: r) : ∃ t, vs[i]? = some (.str x t) := by
  have := h.drop (i := i)
  rw [e] at this
  generalize hw : vs.drop i = ws at this
  cases this
  exact ⟨_, get_of_drop hw⟩
theorem strs_snoc (x : Str) (t : Tok) : ∀ {vs : List Value} {ys : List Str}, StrsAre vs ys → StrsAre (vs ++ [.str x t]) (ys ++ [x])
  | _, _, .nil => .cons x t .nil
  | _, _, .cons y u h => .cons y u (strs_snoc x t h)
theorem strs_length : ∀ {vs : List Value} {ys : List Str}, StrsAre vs ys → ys.length = vs.length
  | _, _, .nil => rfl
  | _, _, .cons _ _ h => by simp [strs_length h]
theorem sum_le_two : ∀ {f : List Str}, (∀ x ∈ f, x.length ≤ 2) → (f.map (·.length)).sum ≤ 2 * f.length
  | [], _ => by simp
  | x :: r, h => by
    have h1 := h x (.head _)
    have h2 := sum_le_two (f := r) fun y hy => h y (.tail _ hy)
    simp only [List.map_cons, List.sum_cons, List.length_cons]; omega

section
variable {prog : Program} {w : World} {A : Around} {E : Value → Shared → Prop} {s : Shared} {h₀ : Heap} {L l : Addr} {news : List (Addr × Obj)} {vs : List Value} {v : Value} {n : Nat}
theorem item_at {value slice : PySem.Expr} {i : Int} {u : Tok} {Q : Value → Shared → Prop} (N : News h₀ L s.heap news) (hm : (l, W.listOf vs.toArray n) ∈ news) (hx : vs[i.toNat]? = some v) (h0 : 0 ≤ i) (hi : i < 2 ^ 63) (h : Q v s)
    (hs : subscripted slice false (.ref l) (.int i u) = operate [.ref l, .int i u] (getItem (.ref l) (.int i u)) := by with_unfolding_all rfl) :
    wpAny (model prog w) A (subscriptTail value slice (.ref l) (.int i u)) Q E s := by
  have hl : s.heap.IsList l vs.toArray := ⟨_, (N _ hm).1, rfl, n, rfl⟩
  exact tail_any hl.typeIs slot_list_getitem.lookup (wpAny_getItem_list hl h0 hi (by simpa using hx) h) hs
theorem len_at {Q : Value → Shared → Prop} (N : News h₀ L s.heap news) (hm : (l, W.listOf vs.toArray n) ∈ news) (hz : vs.length < 1000000) (h : ∀ t tk, Q (.int vs.length t) { s with toks := tk }) :
    wpAny (model prog w) A (call (.builtin "len") [.ref l]) Q E s := by
  have hl : s.heap.IsList l vs.toArray := ⟨_, (N _ hm).1, rfl, n, rfl⟩
  refine len_list hl (by simp; omega) ?_
  have e : vs.toArray.size = vs.length := by simp
  rw [e]
  exact h _ _
theorem join_at {t : Tok} {ys : List Str} {Q : Value → Shared → Prop} (N : News h₀ L s.heap news) (hm : (l, W.listOf vs.toArray n) ∈ news) (hy : StrsAre vs ys) (hz : (ys.map (·.length)).sum ≤ 16777216) (h : ∀ t tk, Q (.str (cat ys) t) { s with toks := tk }) :
    wpAny (model prog w) A (call (.builtin "str.join") [.str (Str.ofString "") t, .ref l]) Q E s := by
  have hl : s.heap.IsList l vs.toArray := ⟨_, (N _ hm).1, rfl, n, rfl⟩
  refine join_list (ys := ys) hl (by simpa using hy) (by have : (Str.ofString "").length = 0 := by decide +kernel
                                                         rw [this]; omega) fun t' k => ?_
  rw [join_cat]
  exact h _ _
end
end Mine
end
section
set_option maxRecDepth 100000
open PySem PySem.W PyProof.Rows PySem.Calls
namespace Mine
def SameOff (m' m₀ : Str → Option Value) (x : Str) (stored : List Str) : Prop := ∀ z, z ≠ x → stored.contains z = false → m' z = m₀ z
theorem so_base {m₀ u : Str → Option Value} {x : Str} {stored : List Str} {v : Value} : SameOff (kstB (fun z => if stored.contains z then u z else m₀ z) [(x, v)]) m₀ x stored := by
  intro z h1 h2
  simp only [kstB, if_neg h1, h2]
  rfl
theorem so_kst {m₀ m₁ u : Str → Option Value} {x : Str} {stored st2 : List Str} {v : Value} (hs : ∀ z, stored.contains z = false → st2.contains z = false) (h : SameOff m₁ m₀ x stored) :
    SameOff (kstB (fun z => if st2.contains z then u z else m₁ z) [(x, v)]) m₀ x stored := by
  intro z h1 h2
  simp only [kstB, if_neg h1, hs z h2]
  exact h z h1 h2
theorem so_x {m₀ m' : Str → Option Value} {x : Str} {stored : List Str} {a : Option Value} (h : SameOff m' m₀ x stored) : SameOff (fun y => if y = x then a else m' y) m₀ x stored := by
  intro z h1 h2
  show (if z = x then a else m' z) = _
  rw [if_neg h1]; exact h z h1 h2
theorem so_st {m₀ m' : Str → Option Value} {x c : Str} {stored : List Str} {a : Option Value} (hc : stored.contains c = true) (h : SameOff m' m₀ x stored) : SameOff (fun y => if y = c then a else m' y) m₀ x stored := by
  intro z h1 h2
  show (if z = c then a else m' z) = _
  rw [if_neg (fun e => by rw [e, hc] at h2; cases h2)]; exact h z h1 h2
theorem news_tail {h₀ h : Heap} {L : Addr} {p : Addr × Obj} {l : List (Addr × Obj)} (N : News h₀ L h (p :: l)) : News h₀ L h l := fun q hq => N q (.tail _ hq)
section
variable {prog : Program} {w : World} {A : Around} {E : Value → Shared → Prop} {Q : Flow → Shared → Prop} {s : Shared} {env : Env} {h₀ : Heap} {L : Addr} {β : Type}
abbrev xPs (x : Str) (c : Int × Tok × β) : List (Str × Value) := [(x, .int c.1 c.2.1)]
def XEnd (h₀ : Heap) (L : Addr) (s : Shared) (x : Str) (Led : β → List (Addr × Obj)) (stored : List Str) (m₀ : Str → Option Value) (P : Int → β → Prop) (top : Int) (i : Int) (t : Tok) (b : β) (s₂ : Shared) : Prop :=
  KswEnd h₀ L s (fun c : Int × Tok × β => Led c.2.2) (xPs x) (fun _ => True) stored m₀ (fun c => P c.1 c.2.2) (fun c => (top - c.1).toNat) (i, t, b) s₂
def XPost (h₀ : Heap) (L : Addr) (s : Shared) (x : Str) (Led : β → List (Addr × Obj)) (stored : List Str) (m₀ : Str → Option Value) (P : Int → β → Prop) (top : Int) (Q : Flow → Shared → Prop) (i : Int) (t : Tok) (b : β) (f : Flow) (s₂ : Shared) : Prop :=
  KswPost h₀ L s (fun c : Int × Tok × β => Led c.2.2) (xPs x) (fun _ => True) stored m₀ (fun c => P c.1 c.2.2) (fun c => (top - c.1).toNat) Q (i, t, b) f s₂
/-- a while whose one int name x counts up to top; beside it the ledger hangs on b -/
theorem x_while {test : PySem.Expr} {body : List Stmt} {pos : Pos} {m₀ : Str → Option Value} (x : Str) (Led : β → List (Addr × Obj)) (stored : List Str) (P : Int → β → Prop) (top : Int) {i₀ : Int} {t₀ : Tok} (b₀ : β)
    (F : Fr h₀ L s.heap m₀) (N : News h₀ L s.heap (Led b₀)) (hi : m₀ x = some (.int i₀ t₀)) (hp : P i₀ b₀)
    (turn : ∀ (i : Int) (t : Tok) (b : β) (u : Str → Option Value) h tk, P i b →
      Fr h₀ L h (kstB (fun z => if stored.contains z then u z else m₀ z) [(x, .int i t)]) → News h₀ L h (Led b) →
      wpAny (model prog w) A (isTrue test env (eval test env)) (fun r s₂ =>
        if r = true then wpAny (model prog w) A (execs body env) (XPost h₀ L s x Led stored m₀ P top Q i t b) E s₂ else Q .next s₂) E { s with heap := h, toks := tk })
    (hE : PassesOwn (model prog w) A env E := by passes_own) :
    wpAny (model prog w) A (exec (.While test body [] pos) env) Q E s :=
  ksw_while (fun c : Int × Tok × β => Led c.2.2) (xPs x) (fun _ => True) stored (fun c => P c.1 c.2.2) (fun c => (top - c.1).toNat) (i₀, t₀, b₀) F N trivial
    (fun p hp => by rcases List.mem_cons.mp hp with rfl | hp; exact hi; cases hp) hp
    (fun c u h tk _ hp F N => turn c.1 c.2.1 c.2.2 u h tk hp F N) hE
theorem x_close {x : Str} {Led : β → List (Addr × Obj)} {stored : List Str} {m₀ m' : Str → Option Value} {P : Int → β → Prop} {top i i' : Int} {t t' : Tok} {b : β} (b' : β) {h' : Heap} {tk : Nat} {news' : List (Addr × Obj)}
    (F : Fr h₀ L h' m') (N : News h₀ L h' news') (hn : ∀ p ∈ Led b', p ∈ news') (hi : m' x = some (.int i' t')) (hm : SameOff m' m₀ x stored) (hp : P i' b') (h1 : i < i') (h2 : i' ≤ top) :
    XEnd h₀ L s x Led stored m₀ P top i t b { s with heap := h', toks := tk } :=
  ksw_end (i', t', b') F N hn trivial (fun p hp => by rcases List.mem_cons.mp hp with rfl | hp; exact hi; cases hp) (fun z h2 h3 => hm z (h2 _ (.head _)) h3) hp (by show (top - i').toNat < (top - i).toNat; omega)
section
variable {x : Str} {Led : β → List (Addr × Obj)} {stored : List Str} {m₀ : Str → Option Value} {P : Int → β → Prop} {top i : Int} {t : Tok} {b : β} {s₂ : Shared}
theorem xp_next (h : XEnd h₀ L s x Led stored m₀ P top i t b s₂) : XPost h₀ L s x Led stored m₀ P top Q i t b .next s₂ := h
theorem xp_cont (h : XEnd h₀ L s x Led stored m₀ P top i t b s₂) : XPost h₀ L s x Led stored m₀ P top Q i t b .cont s₂ := h
theorem xp_brk (h : Q .next s₂) : XPost h₀ L s x Led stored m₀ P top Q i t b .brk s₂ := h
theorem xp_ret {v : Value} (h : Q (.ret v) s₂) : XPost h₀ L s x Led stored m₀ P top Q i t b (.ret v) s₂ := h
end
/-- the way out of such a while: behind its test, or by a break -/
def XOut (h₀ : Heap) (L : Addr) (s : Shared) (x : Str) (Led : β → List (Addr × Obj)) (stored : List Str) (m₀ : Str → Option Value) (Done : Int → β → Prop) (s₂ : Shared) : Prop :=
  ∃ (i : Int) (t : Tok) (b : β) (u : Str → Option Value) (h : Heap) (tk : Nat), s₂ = { s with heap := h, toks := tk } ∧ Fr h₀ L h (kstB (fun z => if stored.contains z then u z else m₀ z) [(x, .int i t)]) ∧ News h₀ L h (Led b) ∧ Done i b
def XQ (h₀ : Heap) (L : Addr) (s : Shared) (x : Str) (Led : β → List (Addr × Obj)) (stored : List Str) (m₀ : Str → Option Value) (Done : Int → β → Prop) (Q : Flow → Shared → Prop) (f : Flow) (s₂ : Shared) : Prop :=
  match f with
  | .next => XOut h₀ L s x Led stored m₀ Done s₂
  | f => Q f s₂
theorem x_out {x : Str} {Led : β → List (Addr × Obj)} {stored : List Str} {m₀ m' : Str → Option Value} {Done : Int → β → Prop} {i' : Int} {t' : Tok} (b' : β) {h' : Heap} {tk : Nat} {news' : List (Addr × Obj)}
    (F : Fr h₀ L h' m') (N : News h₀ L h' news') (hn : ∀ p ∈ Led b', p ∈ news') (hi : m' x = some (.int i' t')) (hm : SameOff m' m₀ x stored) (hd : Done i' b') :
    XOut h₀ L s x Led stored m₀ Done { s with heap := h', toks := tk } :=
  ⟨i', t', b', m', h', tk, rfl, ksw_fr (fun p hp => by rcases List.mem_cons.mp hp with rfl | hp; exact hi; cases hp) (fun z h2 h3 => hm z (h2 _ (.head _)) h3) F, fun p hp => N p (hn p hp), hd⟩
theorem x_while2 {test : PySem.Expr} {body : List Stmt} {pos : Pos} {m₀ : Str → Option Value} (x : Str) (Led : β → List (Addr × Obj)) (stored : List Str) (P Done : Int → β → Prop) (top : Int) {i₀ : Int} {t₀ : Tok} (b₀ : β)
    (F : Fr h₀ L s.heap m₀) (N : News h₀ L s.heap (Led b₀)) (hi : m₀ x = some (.int i₀ t₀)) (hp : P i₀ b₀)
    (turn : ∀ (i : Int) (t : Tok) (b : β) (u : Str → Option Value) h tk, P i b →
      Fr h₀ L h (kstB (fun z => if stored.contains z then u z else m₀ z) [(x, .int i t)]) → News h₀ L h (Led b) →
      wpAny (model prog w) A (isTrue test env (eval test env)) (fun r s₂ =>
        if r = true then wpAny (model prog w) A (execs body env) (XPost h₀ L s x Led stored m₀ P top (XQ h₀ L s x Led stored m₀ Done Q) i t b) E s₂ else XOut h₀ L s x Led stored m₀ Done s₂) E { s with heap := h, toks := tk })
    (done : ∀ (i : Int) (t : Tok) (b : β) (u : Str → Option Value) h tk, Done i b →
      Fr h₀ L h (kstB (fun z => if stored.contains z then u z else m₀ z) [(x, .int i t)]) → News h₀ L h (Led b) → Q .next { s with heap := h, toks := tk })
    (hE : PassesOwn (model prog w) A env E := by passes_own) :
    wpAny (model prog w) A (exec (.While test body [] pos) env) Q E s := by
  refine wpAny_mono (x_while (Q := XQ h₀ L s x Led stored m₀ Done Q) x Led stored P top b₀ F N hi hp turn hE) (fun f s₂ hq => ?_) fun _ _ e => e
  cases f with
  | next =>
    obtain ⟨i, t, b, u, h, tk, rfl, F', N', hd⟩ := hq
    exact done i t b u h tk hd F' N'
  | brk => exact hq
  | cont => exact hq
  | ret v => exact hq
end
end Mine
end
section
set_option maxRecDepth 100000
set_option pp.deepTerms false
set_option pp.deepTerms.threshold 6
set_option pp.maxSteps 20000
set_option Elab.async false
open PySem PySem.W PyProof.Rows PySem.Calls
namespace Mine
local macro_rules | `(tactic| walk_at "call ref") => `(tactic| (k_here; (refine wpAny_call ?_); k_dflt (refine' code_def ?k1 ?k2 ?k3 ?k4 ?k5 ?kA ?kF ?kK ?k6 ?k7 ?k8 ?k9 ?kB ?_ ?c2 ?c3 ?c4 ?c5; (case kA => exact rfl); (case kF => exact rfl); (case kK => first | exact rfl | assumption); (case k1 => k_asm); (case k2 => k_asm); (case k3 => k_asm); (case k4 => k_asm); (case k5 => k_asm); (case k6 => k_is); (case k7 => k_is); (case k8 => ktr_room); (case k9 => exact BindsTo.of_eq rfl); (case c5 => decide); (case kB => exact locs rfl); (case c2 => exact rfl); (case c3 => exact rfl); (case c4 => exact rfl); k_whole; intro g' L' h' FG' F' N' B' X' T'; (try dsimp only); (try k_fold))))
local macro_rules | `(tactic| walk_at "getAttr ref") => `(tactic| (k_here; (with_reducible show wpAny _ _ (getAttr (Value.ref _) (Str.ofString "append") _) _ _ _); k_dflt (refine' getAttr_append ?k1 ?k2 ?k3 ?_; (case k1 => k_asm); (case k2 => k_asm); (case k3 => k_mem); k_whole); intro q' h' F' N' l1; (try k_lt l1); (try k_sweep)))
local macro_rules | `(tactic| walk_at "callWith ref") => `(tactic| (k_here; k_dflt (refine' callWith_appN ?k1 ?k2 ?_; (case k1 => k_asm); (case k2 => k_mem); k_whole)))
local macro_rules | `(tactic| walk_at "And") => `(tactic| ((with_reducible show AppP _ _ _ ∧ _); refine ⟨appP (by k_asm) (by k_mem), ?_⟩; try dsimp only [List.nil_append, List.cons_append]))
local macro_rules | `(tactic| walk_at "call ref") => `(tactic| (k_here; (with_reducible show wpAny _ _ (call (Value.ref _) [_]) _ _ _); k_dflt (refine' call_app ?k1 ?k2 ?k3 ?k4 ?_ ?z; (case k1 => k_asm); (case k2 => k_asm); (case k3 => k_mem); (case k4 => k_upd); (case z => size_fits); k_whole); intro h' F' N'; (try k_sweep)))
local macro_rules | `(tactic| walk_at "subscriptTail Name Name str int") => `(tactic| (k_here; k_dflt (refine' item_str_at ?k1 ?k2 ?k3 ?_ ?k4; (case k1 => assumption); (case k2 => omega); (case k3 => omega); (case k4 => with_unfolding_all rfl); k_whole)))
local macro_rules | `(tactic| walk_at "subscriptTail") => `(tactic| (k_here; (with_reducible show wpAny _ _ (subscriptTail _ _ (Value.ref _) (Value.int (-1) _)) _ _ _); k_dflt (refine' item_last ?k1 ?k2 ?_ ?k4; (case k1 => k_asm); (case k2 => k_mem); (case k4 => with_unfolding_all rfl); k_whole)))
local macro_rules | `(tactic| walk_at "truthy ref") => `(tactic| (k_here; k_dflt (first
  | (refine' truthy_some ?k1 ?k2 ?k3 ?_; (case k1 => k_asm); (case k2 => k_mem); (case k3 => first | omega | ((simp only [List.length_append, List.length_singleton] at *); omega)); k_whole; intro _)
  | (refine' truthy_nil ?k1 ?k2 ?_; (case k1 => k_asm); (case k2 => k_mem); k_whole; intro _))))
local macro_rules | `(tactic| walk_at "getMethod str") => `(tactic| (k_here; with_reducible refine gm_translate ?_))
local macro_rules | `(tactic| walk_at "call builtin:str.translate") => `(tactic| (k_here; kt_k; (with_reducible rename KTD.Keyed _ _ _ => kyX); k_dflt (first
  | (refine' call_translate_miss kyX ?k1 ?k2 ?k3 ?k4 ?k5 ?_; (case k1 => rfl); (case k2 => k_asm); (case k3 => k_asm); (case k4 => decide); (case k5 => rfl); k_whole; intro h' tk' tk2' F' N'; (try k_sweep))
  | (refine' call_translate_hit kyX ?k1 ?k2 ?k3 ?_; (case k1 => k_asm); (case k2 => decide); (case k3 => rfl); k_whole; intro tk' tk2'))))
local macro_rules | `(tactic| walk_at "AppP") => `(tactic| exact appP (by k_asm) (by k_mem))
local macro_rules | `(tactic| walk_at "compareOp IsNot") => `(tactic| (k_here; first | refine isNot_str_ref ?_ | refine wpAny_isNot_ref_self ?_))
local macro_rules | `(tactic| walk_at "exec While Compare cons nil") => `(tactic| (k_here; refine unhold ?_))
set_option maxHeartbeats 4000000 in
theorem translate1_con (w : World) (news : List (Addr × Obj)) (P : Str) (tp tq : Tok) (S : Addr) (hP : P.length ≤ 100) (hA : ∀ (i : Nat) (c : Nat), P.cps[i]? = some c → c = 42 ∨ c = 63 ∨ c = 33 ∨ c = 94) :
    Con w 62 5 news [.str P tp, .ref S, .str (Str.ofString ".") tq] (fun v tl => ∃ r vs n, v = .ref r ∧ tl = [(r, W.listOf vs.toArray n)] ∧ PartsAre S vs (trF P.cps.toList)) := by
  unfold Con; k_fill
  intro dp un gd cn cs a ccd cl outer A₀ base h₀ L m s Q E p loose mean mg mb B F X N T hk hd hu hret
  refine wpAny_call ?_
  k_dflt cell_enter
  k_steps
  refine hold ?_
  (rename Fr _ _ _ _ => lF); (rename News _ _ _ _ => lN)
  refine' tr_while S P lF lN ?ki ?_
  case ki => exact rfl
  clear lF lN
  intro i t vs cnt u h tk h0 hle hlen hparts F9 N9
  by_cases hlt : i < (P.length : Int)
  · obtain ⟨ch, hch⟩ : ∃ ch, P.cps[i.toNat]? = some ch := by
      have : i.toNat < P.cps.size := by have : P.length = P.cps.size := rfl; omega
      exact ⟨_, Array.getElem?_eq_getElem this⟩
    rcases hA _ _ hch with rfl | rfl | rfl | rfl
    · rcases hparts.last with ⟨rfl, he⟩ | ⟨us, qs, rfl, he⟩ | ⟨us, qs, x, tx, rfl, he⟩
      · k_steps
        (rename Fr _ _ _ _ => lF'); (rename News _ _ _ _ => lN'); (try simp only [List.push_toArray] at lN')
        refine tr_close lF' lN' (fun p hp => hp) rfl (fun z h1 h2 => same_i_c h1 h2 rfl) h0 hlt ?_ hch ?_
        · simp; omega
        · rw [he]; exact PartsAre.star .nil
      · k_steps
        (rename Fr _ _ _ _ => lF'); (rename News _ _ _ _ => lN'); (try simp only [List.push_toArray] at lN')
        refine tr_close lF' lN' (fun p hp => hp) rfl (fun z h1 h2 => same_i_c h1 h2 rfl) h0 hlt ?_ hch ?_
        · simp at hlen ⊢; omega
        · simpa [trStep, he] using hparts
      · k_steps
        (rename Fr _ _ _ _ => lF'); (rename News _ _ _ _ => lN'); (try simp only [List.push_toArray] at lN')
        refine tr_close lF' lN' (fun p hp => hp) rfl (fun z h1 h2 => same_i_c h1 h2 rfl) h0 hlt ?_ hch ?_
        · simp at hlen ⊢; omega
        · simpa [trStep, he] using hparts.snoc_star
    · k_steps
      (rename Fr _ _ _ _ => lF'); (rename News _ _ _ _ => lN'); (try simp only [List.push_toArray] at lN')
      refine tr_close lF' lN' (fun p hp => hp) rfl (fun z h1 h2 => same_i_c h1 h2 rfl) h0 hlt ?_ hch ?_
      · simp at hlen ⊢; omega
      · simpa [trStep] using hparts.snoc_txt (Str.ofString ".") _
    · k_steps
      (rename Fr _ _ _ _ => lF'); (rename News _ _ _ _ => lN'); (try simp only [List.push_toArray] at lN')
      refine tr_close lF' lN' (fun p hp => hp) rfl (fun z h1 h2 => same_i_c h1 h2 rfl) h0 hlt ?_ hch ?_
      · simp at hlen ⊢; omega
      · simpa [trStep] using hparts.snoc_txt ⟨#[33]⟩ _
    · k_steps
      (rename Fr _ _ _ _ => lF'); (rename News _ _ _ _ => lN'); (try simp only [List.push_toArray] at lN')
      refine tr_close lF' lN' (fun p hp => hp) rfl (fun z h1 h2 => same_i_c h1 h2 rfl) h0 hlt ?_ hch ?_
      · simp at hlen ⊢; omega
      · simpa [trStep] using hparts.snoc_txt ⟨#[92, 94]⟩ _
  · k_steps
    · (with_reducible rename Fr h₀ _ _ _ => lF'); (with_reducible rename News h₀ _ _ _ => lN')
      refine hret _ [(_, W.listOf vs.toArray cnt)] _ _ lF' (fun p hp => lN' p (List.mem_cons_of_mem _ (by simpa using hp))) ?_ ⟨_, vs, cnt, rfl, rfl, ?_⟩
      · intro q hq p hp
        rw [List.mem_singleton.mp hq]
        exact ‹∀ p ∈ news, p.1 < _› p hp
      · have e : i.toNat = P.cps.toList.length := by
          have : P.length = P.cps.toList.length := by simp [PySem.Str.length]
          omega
        rw [e, List.take_length] at hparts
        exact hparts
    · exfalso; omega
end Mine
end
section
set_option maxRecDepth 100000
set_option pp.deepTerms false
set_option pp.deepTerms.threshold 6
set_option pp.maxSteps 20000
set_option Elab.async false
open PySem PySem.W PyProof.Rows PySem.Calls
namespace Mine
local macro_rules | `(tactic| k_mem) => `(tactic| assumption)
local macro_rules | `(tactic| walk_at "call ref") => `(tactic| (k_here; (refine wpAny_call ?_); k_dflt (refine' code_def ?k1 ?k2 ?k3 ?k4 ?k5 ?kA ?kF ?kK ?k6 ?k7 ?k8 ?k9 ?kB ?_ ?c2 ?c3 ?c4 ?c5; (case kA => exact rfl); (case kF => exact rfl); (case kK => first | exact rfl | assumption); (case k1 => k_asm); (case k2 => k_asm); (case k3 => k_asm); (case k4 => k_asm); (case k5 => k_asm); (case k6 => k_is); (case k7 => k_is); (case k8 => ktr_room); (case k9 => exact BindsTo.of_eq rfl); (case c5 => decide); (case kB => exact locs rfl); (case c2 => exact rfl); (case c3 => exact rfl); (case c4 => exact rfl); k_whole; intro g' L' h' FG' F' N' B' X' T'; (try dsimp only); (try k_fold))))
local macro_rules | `(tactic| walk_at "getAttr ref") => `(tactic| (k_here; (with_reducible show wpAny _ _ (getAttr (Value.ref _) (Str.ofString "append") _) _ _ _); k_dflt (refine' getAttr_append ?k1 ?k2 ?k3 ?_; (case k1 => k_asm); (case k2 => k_asm); (case k3 => k_mem); k_whole); intro q' h' F' N' l1; (try k_lt l1); (try k_sweep)))
local macro_rules | `(tactic| walk_at "callWith ref") => `(tactic| (k_here; k_dflt (refine' callWith_appN ?k1 ?k2 ?_; (case k1 => k_asm); (case k2 => k_mem); k_whole)))
local macro_rules | `(tactic| walk_at "And") => `(tactic| ((with_reducible show AppP _ _ _ ∧ _); refine ⟨appP (by k_asm) (by k_mem), ?_⟩; try dsimp only [List.nil_append, List.cons_append]))
local macro_rules | `(tactic| walk_at "call ref") => `(tactic| (k_here; (with_reducible show wpAny _ _ (call (Value.ref _) [_]) _ _ _); k_dflt (refine' call_app ?k1 ?k2 ?k3 ?k4 ?_ ?z; (case k1 => k_asm); (case k2 => k_asm); (case k3 => k_mem); (case k4 => k_upd); (case z => size_fits); k_whole); intro h' F' N'; (try k_sweep)))
local macro_rules | `(tactic| walk_at "subscriptTail Name Name str int") => `(tactic| (k_here; k_dflt (refine' item_str_at ?k1 ?k2 ?k3 ?_ ?k4; (case k1 => assumption); (case k2 => omega); (case k3 => omega); (case k4 => with_unfolding_all rfl); k_whole)))
local macro_rules | `(tactic| walk_at "subscriptTail") => `(tactic| (k_here; (with_reducible show wpAny _ _ (subscriptTail _ _ (Value.ref _) (Value.int (-1) _)) _ _ _); k_dflt (refine' item_last ?k1 ?k2 ?_ ?k4; (case k1 => k_asm); (case k2 => k_mem); (case k4 => with_unfolding_all rfl); k_whole)))
local macro_rules | `(tactic| walk_at "truthy ref") => `(tactic| (k_here; k_dflt (first
  | (refine' truthy_some ?k1 ?k2 ?k3 ?_; (case k1 => k_asm); (case k2 => k_mem); (case k3 => first | omega | ((simp only [List.length_append, List.length_singleton] at *); omega)); k_whole; intro _)
  | (refine' truthy_nil ?k1 ?k2 ?_; (case k1 => k_asm); (case k2 => k_mem); k_whole; intro _))))
local macro_rules | `(tactic| walk_at "getMethod str") => `(tactic| (k_here; with_reducible refine gm_translate ?_))
local macro_rules | `(tactic| walk_at "call builtin:str.translate") => `(tactic| (k_here; kt_k; (with_reducible rename KTD.Keyed _ _ _ => kyX); k_dflt (first
  | (refine' call_translate_miss kyX ?k1 ?k2 ?k3 ?k4 ?k5 ?_; (case k1 => rfl); (case k2 => k_asm); (case k3 => k_asm); (case k4 => decide); (case k5 => rfl); k_whole; intro h' tk' tk2' F' N'; (try k_sweep))
  | (refine' call_translate_hit kyX ?k1 ?k2 ?k3 ?_; (case k1 => k_asm); (case k2 => decide); (case k3 => rfl); k_whole; intro tk' tk2'))))
local macro_rules | `(tactic| walk_at "AppP") => `(tactic| exact appP (by k_asm) (by k_mem))
local macro_rules | `(tactic| walk_at "compareOp IsNot") => `(tactic| (k_here; first | refine isNot_str_ref ?_ | refine wpAny_isNot_ref_self ?_))
local macro_rules | `(tactic| walk_at "exec While Compare cons nil") => `(tactic| (k_here; refine unhold ?_))
local macro_rules | `(tactic| walk_at "exec While BoolOp") => `(tactic| (k_here; refine unhold ?_))
local macro_rules | `(tactic| walk_at "call builtin:len") => `(tactic| (k_here; (with_reducible show wpAny _ _ (call (Value.builtin "len") [Value.ref _]) _ _ _); k_dflt (refine' len_at ?k1 ?k2 ?k3 ?_; (case k1 => k_asm); (case k2 => k_mem); (case k3 => omega); k_whole); intro _ _))
local macro_rules | `(tactic| walk_at "subscriptTail") => `(tactic| (k_here; (with_reducible show wpAny _ _ (subscriptTail _ _ (Value.ref _) (Value.int _ _)) _ _ _); k_dflt (refine' item_at ?k1 ?k2 ?k3 ?k4 ?k5 ?_ ?k6; (case k1 => k_asm); (case k2 => k_mem); (case k3 => assumption); (case k4 => omega); (case k5 => omega); (case k6 => with_unfolding_all rfl); k_whole)))
local macro_rules | `(tactic| walk_at "compareOp Is ref") => `(tactic| (k_here; refine wpAny_is_ref_self ?_))
local macro_rules | `(tactic| walk_at "call builtin:str.join") => `(tactic| (k_here; k_dflt (refine' join_at ?k1 ?k2 ?k3 ?k4 ?_; (case k1 => k_asm); (case k2 => k_mem); (case k3 => assumption); (case k4 => first | assumption | omega); k_whole); intro _ _))
local macro_rules | `(tactic| walk_at "XQ") => `(tactic| (dsimp only [XQ]))
local macro_rules | `(tactic| walk_at "XPost") => `(tactic| first | refine xp_next ?_ | refine xp_cont ?_ | refine xp_brk ?_ | refine xp_ret ?_)
local macro_rules | `(tactic| ktr_rel) => `(tactic| (first | (with_reducible exact so_base) | ((with_reducible refine so_st ?_ ?_); (focus (first | (simp; done) | decide +kernel)); ktr_rel) | ((with_reducible refine so_x ?_); ktr_rel) | ((with_reducible refine so_kst ?_ ?_); (focus (intro z _; rfl)); ktr_rel)))
local macro_rules | `(tactic| walk_at "call type:object") => `(tactic| (k_here; k_dflt (refine' call_object ?k1 ?k2 ?_; (case k1 => k_asm); (case k2 => k_asm); k_whole); intro o' h' F' N' l1; (try k_lt l1); (try k_sweep)))

set_option maxHeartbeats 4000000 in
theorem join_con (w : World) (news : List (Addr × Obj)) (I S : Addr) (vs : List Value) (ni : Nat) (ps : List Part) (hI : (I, W.listOf vs.toArray ni) ∈ news) (hp : PartsAre S vs ps) (hok : okP ps = true) (hz : ps.length ≤ 100) (hR : ((jl ps none []).map (·.length)).sum ≤ 100000) :
    Con w 69 3 news [.ref I, .ref S] (fun v tl => tl = [] ∧ ∃ t, v = .str (frame (cat (jl ps none []))) t) := by
  have hvl : vs.length ≤ 100 := by rw [← hp.length]; exact hz
  have hvp : ps.length = vs.length := hp.length
  unfold Con; k_fill
  intro dp un gd cn cs a ccd cl outer A₀ base h₀ L m s Q E p loose mean mg mb B F X N T hk hd hu hret
  refine wpAny_call ?_
  k_dflt cell_enter
  k_steps
  refine hold ?_
  (rename Fr _ _ _ _ => lF); (rename News _ _ _ _ => lN)
  refine' x_while2 (Str.ofString "i") (fun b : List Value × Nat × List Str => (_, appOf _) :: (_, W.listOf b.1.toArray b.2.1) :: news) []
    (fun i b => 0 ≤ i ∧ i ≤ (vs.length : Int) ∧ (b.1.length : Int) ≤ i ∧ StrsAre b.1 b.2.2 ∧ jl (ps.drop i.toNat) none b.2.2 = jl ps none [])
    (fun i b => 0 ≤ i ∧ (b.1.length : Int) ≤ i ∧ StrsAre b.1 b.2.2 ∧ ((i = (vs.length : Int) ∧ b.2.2 = jl ps none []) ∨ (∃ r, ps.drop i.toNat = .star :: r ∧ jl r (some []) b.2.2 = jl ps none [])))
    vs.length ([], 0, []) lF (news_tail lN) ?ki ?kp ?_ ?_
  case ki => exact rfl
  case kp => exact ⟨by decide, by omega, by simp, .nil, rfl⟩
  · clear lF lN
    rintro i t ⟨us, cnt, acc⟩ u h tk ⟨h0, hle, hlen, hs, hj⟩ F9 N9
    dsimp only at h0 hle hlen hs hj N9
    rcases hdr : ps.drop i.toNat with _ | ⟨_ | x, r⟩
    · have hi : i = (vs.length : Int) := by have := le_of_drop hdr; omega
      k_steps
      (with_reducible rename Fr _ _ _ _ => lF); (with_reducible rename News _ _ _ _ => lN)
      refine x_out (us, cnt, acc) lF lN (fun p hp => hp) rfl (by ktr_rel) ⟨h0, hlen, hs, .inl ⟨hi, ?_⟩⟩
      rw [hdr] at hj; exact hj
    · have hv := hp.at_star hdr
      have hlt : i < (vs.length : Int) := by have := lt_of_drop hdr; omega
      k_steps
      (with_reducible rename Fr _ _ _ _ => lF); (with_reducible rename News _ _ _ _ => lN)
      refine x_out (us, cnt, acc) lF lN (fun p hp => hp) rfl (by ktr_rel) ⟨h0, hlen, hs, .inr ⟨r, hdr, ?_⟩⟩
      rw [hdr] at hj; exact hj
    · obtain ⟨tx, hv⟩ := hp.at_txt hdr
      have hlt : i < (vs.length : Int) := by have := lt_of_drop hdr; omega
      k_steps
      (with_reducible rename Fr _ _ _ _ => lF); (with_reducible rename News _ _ _ _ => lN); (try simp only [List.push_toArray] at lN)
      have e : (i + 1).toNat = i.toNat + 1 := by omega
      refine x_close (us ++ [.str x tx], cnt + 1, acc ++ [x]) lF lN (fun p hp => hp) rfl (by ktr_rel) ⟨by omega, by omega, by simp; omega, strs_snoc x tx hs, ?_⟩ (by omega) (by omega)
      rw [e, drop_of_drop hdr]; rw [hdr] at hj; exact hj
  · clear lF lN
    rintro i t ⟨us, cnt, acc⟩ u h tk ⟨h0, hlen, hs, hd⟩ F9 N9
    dsimp only at h0 hlen hs hd N9
    k_steps
    refine hold ?_
    (with_reducible rename Fr _ _ _ _ => lF); (with_reducible rename News _ _ _ _ => lN)
    refine' x_while2 (Str.ofString "i") (fun b : List Value × Nat × List Str => (_, appOf _) :: (_, W.listOf b.1.toArray b.2.1) :: news) [Str.ofString "fixed"]
      (fun i b => 0 ≤ i ∧ (b.1.length : Int) ≤ 2 * i ∧ StrsAre b.1 b.2.2 ∧ ((i = (vs.length : Int) ∧ b.2.2 = jl ps none []) ∨ (∃ r, ps.drop i.toNat = .star :: r ∧ jl r (some []) b.2.2 = jl ps none [])))
      (fun i b => i = (vs.length : Int) ∧ (b.1.length : Int) ≤ 2 * i ∧ StrsAre b.1 b.2.2 ∧ b.2.2 = jl ps none [])
      vs.length (us, cnt, acc) lF lN ?ki ?kp ?_ ?_
    case ki => exact rfl
    case kp => exact ⟨h0, by dsimp only; omega, hs, hd⟩
    · clear lF lN hs hd hlen h0
      rintro i t ⟨us, cnt, acc⟩ u h tk ⟨h0, hlen, hs, hd⟩ F9 N9
      dsimp only at h0 hlen hs hd N9
      rcases hd with ⟨hi, ha⟩ | ⟨r, hdr, hj⟩
      · k_steps
        (with_reducible rename Fr _ _ _ _ => lF); (with_reducible rename News _ _ _ _ => lN)
        refine x_out (us, cnt, acc) lF lN (fun p hp => hp) rfl (by ktr_rel) ⟨hi, hlen, hs, ha⟩
      · have hv := hp.at_star hdr
        have hlt : i < (vs.length : Int) := by have := lt_of_drop hdr; omega
        have hokr := okP_drop (i := i.toNat) hok
        rw [hdr] at hokr
        have e1 : (i + 1).toNat = i.toNat + 1 := by omega
        rcases r with _ | ⟨p1, r1⟩
        · have hi1 : i + 1 = (vs.length : Int) := by have := le_of_drop (drop_of_drop hdr); omega
          k_steps
          all_goals (try (exfalso; omega))
          (with_reducible rename Fr _ _ _ _ => lF); (with_reducible rename News _ _ _ _ => lN); (try simp only [List.push_toArray] at lN)
          refine x_out (us ++ [.str dotStar _], cnt + 1, acc ++ [dotStar]) lF lN (fun p hp => hp) rfl (by ktr_rel) ⟨hi1, by simp; omega, strs_snoc dotStar _ hs, ?_⟩
          simpa [jl] using hj
        · obtain ⟨x, rfl⟩ := okP_star hokr
          have hdr1 : ps.drop (i + 1).toNat = .txt x :: r1 := by rw [e1]; exact drop_of_drop hdr
          obtain ⟨tx, hv1⟩ := hp.at_txt hdr1
          have hlt1 : i + 1 < (vs.length : Int) := by have := lt_of_drop hdr1; omega
          k_steps
          all_goals (try (exfalso; omega))
          refine hold ?_
          (with_reducible rename Fr _ _ _ _ => lF); (with_reducible rename News _ _ _ _ => lN)
          refine' x_while2 (Str.ofString "i") (fun b : List Value × Nat × List Str => (_, W.listOf b.1.toArray b.2.1) :: (_, appOf _) :: (_, W.listOf us.toArray cnt) :: news) []
            (fun j b => i + 1 ≤ j ∧ j ≤ (vs.length : Int) ∧ (b.1.length : Int) ≤ j ∧ StrsAre b.1 b.2.2 ∧ (∀ y ∈ b.2.2, y.length ≤ 2) ∧ (b.2.2 = [] → j = i + 1) ∧ jl (ps.drop j.toNat) (some b.2.2) acc = jl ps none [])
            (fun j b => i + 1 ≤ j ∧ (b.1.length : Int) ≤ 100 ∧ StrsAre b.1 b.2.2 ∧ (∀ y ∈ b.2.2, y.length ≤ 2) ∧ b.2.2 ≠ [] ∧ ((j = (vs.length : Int) ∧ acc ++ [dotStar, cat b.2.2] = jl ps none []) ∨ (∃ r, ps.drop j.toNat = .star :: r ∧ jl r (some []) (acc ++ [unit b.2.2]) = jl ps none [])))
            vs.length ([], 0, []) lF lN ?ki ?kp ?_ ?_
          case ki => exact rfl
          case kp => exact ⟨by omega, by omega, by simp; omega, .nil, fun _ h => (nomatch h), fun _ => rfl, by rw [hdr1, ← drop_of_drop hdr, ← e1, hdr1] at *; exact hj⟩
          · clear lF lN
            rintro j t2 ⟨fs, cf, ft⟩ u2 h2 tk2 ⟨g1, g2, g3, g4, g5, g6, g7⟩ F9 N9
            dsimp only at g1 g2 g3 g4 g5 g6 g7 N9
            have e2 : (j + 1).toNat = j.toNat + 1 := by omega
            rcases hdj : ps.drop j.toNat with _ | ⟨_ | y, r2⟩
            · have hjn : j = (vs.length : Int) := by have := le_of_drop hdj; omega
              have hne : ft ≠ [] := fun e => by have := g6 e; omega
              k_steps
              (with_reducible rename Fr _ _ _ _ => lF); (with_reducible rename News _ _ _ _ => lN)
              refine x_out (fs, cf, ft) lF lN (fun p hp => hp) rfl (by ktr_rel) ⟨g1, by dsimp only; omega, g4, g5, hne, .inl ⟨hjn, ?_⟩⟩
              rw [hdj] at g7
              simpa [jl, hne] using g7
            · have hvj := hp.at_star hdj
              have hltj : j < (vs.length : Int) := by have := lt_of_drop hdj; omega
              have hne : ft ≠ [] := fun e => by
                have := g6 e
                rw [this, hdr1] at hdj; cases hdj
              k_steps
              (with_reducible rename Fr _ _ _ _ => lF); (with_reducible rename News _ _ _ _ => lN)
              refine x_out (fs, cf, ft) lF lN (fun p hp => hp) rfl (by ktr_rel) ⟨g1, by dsimp only; omega, g4, g5, hne, .inr ⟨r2, hdj, ?_⟩⟩
              rw [hdj] at g7
              simpa [jl] using g7
            · obtain ⟨ty, hvj⟩ := hp.at_txt hdj
              have hltj : j < (vs.length : Int) := by have := lt_of_drop hdj; omega
              have hy2 : y.length ≤ 2 := by
                have := okP_drop (i := j.toNat) hok
                rw [hdj] at this; exact okP_txt this
              k_steps
              (with_reducible rename Fr _ _ _ _ => lF); (with_reducible rename News _ _ _ _ => lN); (try simp only [List.push_toArray] at lN)
              refine x_close (fs ++ [.str y ty], cf + 1, ft ++ [y]) lF lN (fun p hp => hp) rfl (by ktr_rel) ⟨by omega, by omega, by simp; omega, strs_snoc y ty g4, ?_, ?_, ?_⟩ (by omega) (by omega)
              · intro z hz
                rcases List.mem_append.mp hz with hz | hz
                · exact g5 z hz
                · rw [List.mem_singleton.mp hz]; exact hy2
              · intro e; simp at e
              · rw [e2, drop_of_drop hdj]; rw [hdj] at g7; simpa [jl] using g7
          · clear lF lN
            rintro j t2 ⟨fs, cf, ft⟩ u2 h2 tk2 ⟨g1, g3, g4, g5, hne, hdone⟩ F9 N9
            dsimp only at g1 g3 g4 g5 hne hdone N9
            have hsum : (ft.map (·.length)).sum ≤ 200 := by
              have a1 := sum_le_two g5
              have a2 := strs_length g4
              omega
            have hcat : (cat ft).length ≤ 200 := by rw [cat_length]; exact hsum
            rcases hdone with ⟨hjn, hfin⟩ | ⟨r2, hdj, hfin⟩
            · k_steps
              all_goals (try (exfalso; omega))
              (with_reducible rename Fr _ _ _ _ => lF); (with_reducible rename News _ _ _ _ => lN); (try simp only [List.push_toArray] at lN)
              refine x_close (us ++ [.str dotStar _] ++ [.str (cat ft) _], cnt + 1 + 1, acc ++ [dotStar] ++ [cat ft]) lF lN (fun p hp => List.mem_cons_of_mem _ hp) rfl (by ktr_rel) ⟨by omega, by simp; omega, strs_snoc _ _ (strs_snoc dotStar _ hs), .inl ⟨hjn, ?_⟩⟩ (by omega) (by omega)
              simpa using hfin
            · have hltj : j < (vs.length : Int) := by have := lt_of_drop hdj; omega
              k_steps
              all_goals (try (exfalso; omega))
              (with_reducible rename Fr _ _ _ _ => lF); (with_reducible rename News _ _ _ _ => lN); (try simp only [List.push_toArray, unit_eq] at lN)
              refine x_close (us ++ [.str (unit ft) _], cnt + 1, acc ++ [unit ft]) lF lN (fun p hp => List.mem_cons_of_mem _ hp) rfl (by ktr_rel) ⟨by omega, by simp; omega, strs_snoc _ _ hs, .inr ⟨r2, hdj, hfin⟩⟩ (by omega) (by omega)
    · clear lF lN hs hd hlen h0
      rintro i t ⟨us, cnt, acc⟩ u h tk ⟨hi, hlen, hs, rfl⟩ F9 N9
      dsimp only at hi hlen hs N9
      have hcat : (cat (jl ps none [])).length ≤ 100000 := by rw [cat_length]; exact hR
      k_steps
      all_goals (try (exfalso; omega))
      rw [frame_eq]
      (with_reducible rename Fr h₀ _ _ _ => lF); (with_reducible rename News h₀ _ _ _ => lN)
      exact hret _ [] _ _ lF (fun p hp => lN p (by simp at hp ⊢; exact .inr (.inr hp))) (fun q hq => nomatch hq) ⟨rfl, _, rfl⟩
end Mine
end
section
set_option maxRecDepth 100000
open PySem PySem.W PyProof.Rows PySem.Calls
namespace Mine
theorem Con.use {w : World} {f : Addr} {need : Nat} {news : List (Addr × Obj)} {vs : List Value} {R : Value → List (Addr × Obj) → Prop} (C : Con w f need news vs R)
    {dp un : Nat} {gd : Option (List Code)} {cn : Str} {cs : Scope} {a : Addr} {ccd : Value} {cl : List (Str × Addr)} {outer : List Env} {A₀ : Around} {base h₀ : Heap} {L : Addr} {m : Str → Option Value} {s : Shared} {Q E : Value → Shared → Prop}
    {p : Program} {loose : List Str} {mean : ExcName → Option Value} {mg mb : Str → Option Value}
    (B : Below A₀ base outer h₀) (F : Fr h₀ L s.heap m) (X : (Mine.hd.heap_39 w.params).In h₀) (N : News h₀ L s.heap news) (T : Top p loose mean mg mb h₀) (hk : cs.kind = .function)
    (hd : dp + need < recursionLimit) (hu : un + 8 * need < cLine)
    (hret : ∀ v tl h' tk', Fr h₀ L h' m → News h₀ L h' (tl ++ news) → (∀ q ∈ tl, ∀ p ∈ news, p.1 < q.1) → R v tl → Q v { s with heap := h', toks := tk' }) :
    wpAny (model PySem.Challenge.rw_ij0092_01.row.prog w) (ktrTop dp un gd cn cs L a ccd cl outer) (call (.ref f) vs) Q E s :=
  C dp un gd cn cs a ccd cl outer A₀ base h₀ L m s Q E p loose mean mg mb B F X N T hk hd hu hret
/-- what translate gives for a pattern of stars, marks and question marks -/
def transF (P : Str) : Str := frame (cat (jl (trF P.cps.toList) none []))
end Mine
end
section
set_option maxRecDepth 100000
set_option pp.deepTerms false
set_option pp.deepTerms.threshold 6
set_option pp.maxSteps 20000
set_option Elab.async false
open PySem PySem.W PyProof.Rows PySem.Calls
namespace Mine
local macro_rules | `(tactic| k_mem) => `(tactic| assumption)
local macro_rules | `(tactic| walk_at "call ref") => `(tactic| (k_here; (refine wpAny_call ?_); k_dflt (refine' code_def ?k1 ?k2 ?k3 ?k4 ?k5 ?kA ?kF ?kK ?k6 ?k7 ?k8 ?k9 ?kB ?_ ?c2 ?c3 ?c4 ?c5; (case kA => exact rfl); (case kF => exact rfl); (case kK => first | exact rfl | assumption); (case k1 => k_asm); (case k2 => k_asm); (case k3 => k_asm); (case k4 => k_asm); (case k5 => k_asm); (case k6 => k_is); (case k7 => k_is); (case k8 => ktr_room); (case k9 => exact BindsTo.of_eq rfl); (case c5 => decide); (case kB => exact locs rfl); (case c2 => exact rfl); (case c3 => exact rfl); (case c4 => exact rfl); k_whole; intro g' L' h' FG' F' N' B' X' T'; (try dsimp only); (try k_fold))))
local macro_rules | `(tactic| walk_at "getAttr ref") => `(tactic| (k_here; (with_reducible show wpAny _ _ (getAttr (Value.ref _) (Str.ofString "append") _) _ _ _); k_dflt (refine' getAttr_append ?k1 ?k2 ?k3 ?_; (case k1 => k_asm); (case k2 => k_asm); (case k3 => k_mem); k_whole); intro q' h' F' N' l1; (try k_lt l1); (try k_sweep)))
local macro_rules | `(tactic| walk_at "callWith ref") => `(tactic| (k_here; k_dflt (refine' callWith_appN ?k1 ?k2 ?_; (case k1 => k_asm); (case k2 => k_mem); k_whole)))
local macro_rules | `(tactic| walk_at "And") => `(tactic| ((with_reducible show AppP _ _ _ ∧ _); refine ⟨appP (by k_asm) (by k_mem), ?_⟩; try dsimp only [List.nil_append, List.cons_append]))
local macro_rules | `(tactic| walk_at "call ref") => `(tactic| (k_here; (with_reducible show wpAny _ _ (call (Value.ref _) [_]) _ _ _); k_dflt (refine' call_app ?k1 ?k2 ?k3 ?k4 ?_ ?z; (case k1 => k_asm); (case k2 => k_asm); (case k3 => k_mem); (case k4 => k_upd); (case z => size_fits); k_whole); intro h' F' N'; (try k_sweep)))
local macro_rules | `(tactic| walk_at "subscriptTail Name Name str int") => `(tactic| (k_here; k_dflt (refine' item_str_at ?k1 ?k2 ?k3 ?_ ?k4; (case k1 => assumption); (case k2 => omega); (case k3 => omega); (case k4 => with_unfolding_all rfl); k_whole)))
local macro_rules | `(tactic| walk_at "subscriptTail") => `(tactic| (k_here; (with_reducible show wpAny _ _ (subscriptTail _ _ (Value.ref _) (Value.int (-1) _)) _ _ _); k_dflt (refine' item_last ?k1 ?k2 ?_ ?k4; (case k1 => k_asm); (case k2 => k_mem); (case k4 => with_unfolding_all rfl); k_whole)))
local macro_rules | `(tactic| walk_at "truthy ref") => `(tactic| (k_here; k_dflt (first
  | (refine' truthy_some ?k1 ?k2 ?k3 ?_; (case k1 => k_asm); (case k2 => k_mem); (case k3 => first | omega | ((simp only [List.length_append, List.length_singleton] at *); omega)); k_whole; intro _)
  | (refine' truthy_nil ?k1 ?k2 ?_; (case k1 => k_asm); (case k2 => k_mem); k_whole; intro _))))
local macro_rules | `(tactic| walk_at "getMethod str") => `(tactic| (k_here; with_reducible refine gm_translate ?_))
local macro_rules | `(tactic| walk_at "call builtin:str.translate") => `(tactic| (k_here; kt_k; (with_reducible rename KTD.Keyed _ _ _ => kyX); k_dflt (first
  | (refine' call_translate_miss kyX ?k1 ?k2 ?k3 ?k4 ?k5 ?_; (case k1 => rfl); (case k2 => k_asm); (case k3 => k_asm); (case k4 => decide); (case k5 => rfl); k_whole; intro h' tk' tk2' F' N'; (try k_sweep))
  | (refine' call_translate_hit kyX ?k1 ?k2 ?k3 ?_; (case k1 => k_asm); (case k2 => decide); (case k3 => rfl); k_whole; intro tk' tk2'))))
local macro_rules | `(tactic| walk_at "AppP") => `(tactic| exact appP (by k_asm) (by k_mem))
local macro_rules | `(tactic| walk_at "compareOp IsNot") => `(tactic| (k_here; first | refine isNot_str_ref ?_ | refine wpAny_isNot_ref_self ?_))
local macro_rules | `(tactic| walk_at "exec While Compare cons nil") => `(tactic| (k_here; refine unhold ?_))
local macro_rules | `(tactic| walk_at "exec While BoolOp") => `(tactic| (k_here; refine unhold ?_))
local macro_rules | `(tactic| walk_at "call builtin:len") => `(tactic| (k_here; (with_reducible show wpAny _ _ (call (Value.builtin "len") [Value.ref _]) _ _ _); k_dflt (refine' len_at ?k1 ?k2 ?k3 ?_; (case k1 => k_asm); (case k2 => k_mem); (case k3 => omega); k_whole); intro _ _))
local macro_rules | `(tactic| walk_at "subscriptTail") => `(tactic| (k_here; (with_reducible show wpAny _ _ (subscriptTail _ _ (Value.ref _) (Value.int _ _)) _ _ _); k_dflt (refine' item_at ?k1 ?k2 ?k3 ?k4 ?k5 ?_ ?k6; (case k1 => k_asm); (case k2 => k_mem); (case k3 => assumption); (case k4 => omega); (case k5 => omega); (case k6 => with_unfolding_all rfl); k_whole)))
local macro_rules | `(tactic| walk_at "compareOp Is ref") => `(tactic| (k_here; refine wpAny_is_ref_self ?_))
local macro_rules | `(tactic| walk_at "call builtin:str.join") => `(tactic| (k_here; k_dflt (refine' join_at ?k1 ?k2 ?k3 ?k4 ?_; (case k1 => k_asm); (case k2 => k_mem); (case k3 => assumption); (case k4 => first | assumption | omega); k_whole); intro _ _))
local macro_rules | `(tactic| walk_at "XQ") => `(tactic| (dsimp only [XQ]))
local macro_rules | `(tactic| walk_at "XPost") => `(tactic| first | refine xp_next ?_ | refine xp_cont ?_ | refine xp_brk ?_ | refine xp_ret ?_)
local macro_rules | `(tactic| ktr_rel) => `(tactic| (first | (with_reducible exact so_base) | ((with_reducible refine so_st ?_ ?_); (focus (first | (simp; done) | decide +kernel)); ktr_rel) | ((with_reducible refine so_x ?_); ktr_rel) | ((with_reducible refine so_kst ?_ ?_); (focus (intro z _; rfl)); ktr_rel)))
local macro_rules | `(tactic| walk_at "call type:object") => `(tactic| (k_here; k_dflt (refine' call_object ?k1 ?k2 ?_; (case k1 => k_asm); (case k2 => k_asm); k_whole); intro o' h' F' N' l1; (try k_lt l1); (try k_sweep)))
local macro_rules | `(tactic| walk_at "call ref") => `(tactic| (k_here; (with_reducible show wpAny _ _ (call (Value.ref 62) _) _ _ _); k_dflt (refine' Con.use (translate1_con _ _ _ _ _ _ ?hP ?hA) ?k1 ?k2 ?k3 ?k4 ?k5 ?kK ?kd ?ku ?_; (case k1 => k_asm); (case k2 => k_asm); (case k3 => k_asm); (case k4 => k_asm); (case k5 => k_asm); (case kK => first | exact rfl | assumption); (case hP => assumption); (case hA => assumption); (case kd => ktr_room); (case ku => ktr_units)); intro v' tl' h' tk' F' N' l1 hR'; obtain ⟨r', vs', n', e1', e2', hp'⟩ := hR'; subst e1'; subst e2'; (simp only [List.singleton_append] at N'); (try k_sweep)))
local macro_rules | `(tactic| walk_at "call ref") => `(tactic| (k_here; (with_reducible show wpAny _ _ (call (Value.ref 69) _) _ _ _); k_dflt (refine' Con.use (join_con _ _ _ _ _ _ _ ?hI ?hp ?hok ?hz ?hR) ?k1 ?k2 ?k3 ?k4 ?k5 ?kK ?kd ?ku ?_; (case k1 => k_asm); (case k2 => k_asm); (case k3 => k_asm); (case k4 => k_asm); (case k5 => k_asm); (case kK => first | exact rfl | assumption); (case hI => k_mem); (case hp => assumption); (case hok => assumption); (case hz => assumption); (case hR => assumption); (case kd => ktr_room); (case ku => ktr_units)); intro v' tl' h' tk' F' N' l1 hR'; obtain ⟨e1', t', e2'⟩ := hR'; subst e1'; subst e2'; (simp only [List.nil_append] at N'); (try k_sweep)))
set_option maxHeartbeats 4000000 in
theorem translate_con (w : World) (news : List (Addr × Obj)) (P : Str) (tp : Tok) (hP : P.length ≤ 100) (hA : ∀ (i : Nat) (c : Nat), P.cps[i]? = some c → c = 42 ∨ c = 63 ∨ c = 33 ∨ c = 94)
    (hok : okP (trF P.cps.toList) = true) (hz : (trF P.cps.toList).length ≤ 100) (hR : ((jl (trF P.cps.toList) none []).map (·.length)).sum ≤ 100000) :
    Con w 43 7 news [.str P tp] (fun v tl => tl = [] ∧ ∃ t, v = .str (transF P) t) := by
  unfold Con; k_fill
  intro dp un gd cn cs a ccd cl outer A₀ base h₀ L m s Q E p loose mean mg mb B F X N T hk hd hu hret
  refine wpAny_call ?_
  k_dflt cell_enter
  k_steps
  (with_reducible rename Fr h₀ _ _ _ => lF); (with_reducible rename News h₀ _ _ _ => lN)
  exact hret _ [] _ _ lF (fun p hp => lN p (by simp at hp ⊢; exact .inr (.inr hp))) (fun q hq => nomatch hq) ⟨rfl, _, rfl⟩
end Mine
end
section
set_option maxRecDepth 100000
open PySem PySem.W PyProof.Rows PySem.Calls
namespace Mine
/-- what _law_runs has begun: nothing, a group, a group's end, the rest behind .* -/
inductive BB | z | o | c | d
def bv : BB → Str
  | .z => Str.ofString ""
  | .o => Str.ofString "("
  | .c => Str.ofString ")"
  | .d => Str.ofString "."
def s6 (x : Str) (i : Int) : Bool := (Txt.slice x (some i) (some (i + 6))).cps.toList == (Str.ofString "(?>.*?").cps.toList
def s2 (x : Str) (i : Int) : Bool := (Txt.slice x (some i) (some (i + 2))).cps.toList == (Str.ofString ".*").cps.toList
/-- _law_runs, where it keeps to the ways that the patterns here go -/
def lrStep (x : Str) (g : Int → BB → List (List Str) → List Str → Option (List (List Str))) (i : Int) (b : BB) (done : List (List Str)) (last : List Str) : Option (List (List Str)) :=
  if (x.length : Int) - 3 ≤ i then
    match b with
    | .z => some (done ++ [last])
    | .d => some (done ++ [last])
    | .o => none
    | .c => none
  else match b with
    | .z => if x.cps[i.toNat]? = some 40 then (if s6 x i = true then g (i + 6) .o (done ++ [last]) [] else none)
            else if x.cps[i.toNat]? = some 46 then (if s6 x i = true then none else if s2 x i = true then g (i + 2) .d (done ++ [last]) [] else g (i + 1) .z done (last ++ [Str.ofString ""]))
            else none
    | .c => if x.cps[i.toNat]? = some 40 then (if s6 x i = true then g (i + 6) .o (done ++ [last]) [] else none)
            else if x.cps[i.toNat]? = some 46 then (if s6 x i = true then none else if s2 x i = true then g (i + 2) .d (done ++ [last]) [] else none)
            else none
    | .o => if x.cps[i.toNat]? = some 41 then g (i + 1) .c done last
            else if x.cps[i.toNat]? = some 33 then g (i + 1) .o done (last ++ [Str.ofString "!"])
            else if x.cps[i.toNat]? = some 92 then (if x.cps[(i + 1).toNat]? = some 94 then g (i + 2) .o done (last ++ [Str.ofString "^"]) else none)
            else none
    | .d => none
def lr (x : Str) : Nat → Int → BB → List (List Str) → List Str → Option (List (List Str))
  | 0 => fun _ _ _ _ => none
  | f + 1 => lrStep x (lr x f)
/-- the ways that one turn can go -/
inductive Turn (x : Str) (RS : List (List Str)) (i : Int) : BB → List (List Str) → List Str → Prop
  | fin (b : BB) (done : List (List Str)) (last : List Str) : (x.length : Int) - 3 ≤ i → (b = .z ∨ b = .d) → RS = done ++ [last] → Turn x RS i b done last
  | grp (b : BB) (done : List (List Str)) (last : List Str) (f : Nat) : i < (x.length : Int) - 3 → (b = .z ∨ b = .c) → x.cps[i.toNat]? = some 40 → s6 x i = true → lr x f (i + 6) .o (done ++ [last]) [] = some RS → Turn x RS i b done last
  | rst (b : BB) (done : List (List Str)) (last : List Str) (f : Nat) : i < (x.length : Int) - 3 → (b = .z ∨ b = .c) → x.cps[i.toNat]? = some 46 → s6 x i = false → s2 x i = true → lr x f (i + 2) .d (done ++ [last]) [] = some RS → Turn x RS i b done last
  | any (done : List (List Str)) (last : List Str) (f : Nat) : i < (x.length : Int) - 3 → x.cps[i.toNat]? = some 46 → s6 x i = false → s2 x i = false → lr x f (i + 1) .z done (last ++ [Str.ofString ""]) = some RS → Turn x RS i .z done last
  | shut (done : List (List Str)) (last : List Str) (f : Nat) : i < (x.length : Int) - 3 → x.cps[i.toNat]? = some 41 → lr x f (i + 1) .c done last = some RS → Turn x RS i .o done last
  | bang (done : List (List Str)) (last : List Str) (f : Nat) : i < (x.length : Int) - 3 → x.cps[i.toNat]? = some 33 → lr x f (i + 1) .o done (last ++ [Str.ofString "!"]) = some RS → Turn x RS i .o done last
  | hat (done : List (List Str)) (last : List Str) (f : Nat) : i < (x.length : Int) - 3 → x.cps[i.toNat]? = some 92 → x.cps[(i + 1).toNat]? = some 94 → lr x f (i + 2) .o done (last ++ [Str.ofString "^"]) = some RS → Turn x RS i .o done last
theorem lr_inv {x : Str} {f : Nat} {i : Int} {b : BB} {done : List (List Str)} {last : List Str} {RS : List (List Str)} (h : lr x f i b done last = some RS) : Turn x RS i b done last := by
  cases f with
  | zero => cases h
  | succ f =>
    change lrStep x (lr x f) i b done last = some RS at h
    unfold lrStep at h
    split at h
    · rename_i hlt
      cases b with
      | z => exact .fin _ _ _ hlt (.inl rfl) (by simpa using h.symm)
      | d => exact .fin _ _ _ hlt (.inr rfl) (by simpa using h.symm)
      | o => cases h
      | c => cases h
    · rename_i hlt
      have hlt' : i < (x.length : Int) - 3 := by omega
      cases b with
      | z =>
        dsimp only at h
        by_cases e : x.cps[i.toNat]? = some 40
        · rw [if_pos e] at h
          by_cases e6 : s6 x i = true
          · rw [if_pos e6] at h; exact .grp _ _ _ f hlt' (.inl rfl) e e6 h
          · rw [if_neg e6] at h; cases h
        · rw [if_neg e] at h
          by_cases e : x.cps[i.toNat]? = some 46
          · rw [if_pos e] at h
            by_cases e6 : s6 x i = true
            · rw [if_pos e6] at h; cases h
            · rw [if_neg e6] at h
              by_cases e2 : s2 x i = true
              · rw [if_pos e2] at h; exact .rst _ _ _ f hlt' (.inl rfl) e (by simpa using e6) e2 h
              · rw [if_neg e2] at h; exact .any _ _ f hlt' e (by simpa using e6) (by simpa using e2) h
          · rw [if_neg e] at h; cases h
      | c =>
        dsimp only at h
        by_cases e : x.cps[i.toNat]? = some 40
        · rw [if_pos e] at h
          by_cases e6 : s6 x i = true
          · rw [if_pos e6] at h; exact .grp _ _ _ f hlt' (.inr rfl) e e6 h
          · rw [if_neg e6] at h; cases h
        · rw [if_neg e] at h
          by_cases e : x.cps[i.toNat]? = some 46
          · rw [if_pos e] at h
            by_cases e6 : s6 x i = true
            · rw [if_pos e6] at h; cases h
            · rw [if_neg e6] at h
              by_cases e2 : s2 x i = true
              · rw [if_pos e2] at h; exact .rst _ _ _ f hlt' (.inr rfl) e (by simpa using e6) e2 h
              · rw [if_neg e2] at h; cases h
          · rw [if_neg e] at h; cases h
      | o =>
        dsimp only at h
        by_cases e : x.cps[i.toNat]? = some 41
        · rw [if_pos e] at h; exact .shut _ _ f hlt' e h
        · rw [if_neg e] at h
          by_cases e : x.cps[i.toNat]? = some 33
          · rw [if_pos e] at h; exact .bang _ _ f hlt' e h
          · rw [if_neg e] at h
            by_cases e : x.cps[i.toNat]? = some 92
            · rw [if_pos e] at h
              by_cases e' : x.cps[(i + 1).toNat]? = some 94
              · rw [if_pos e'] at h; exact .hat _ _ f hlt' e e' h
              · rw [if_neg e'] at h; cases h
            · rw [if_neg e] at h; cases h
      | d => cases h
/-- the lists of texts that a list of runs holds -/
inductive RunsIn (led : List (Addr × Obj)) : List Value → List (List Str) → Prop
  | nil : RunsIn led [] []
  | cons {a : Addr} {us : List Value} {n : Nat} {xs : List Str} {vs : List Value} {rs : List (List Str)} : (a, W.listOf us.toArray n) ∈ led → StrsAre us xs → us.length ≤ 1000 → RunsIn led vs rs → RunsIn led (.ref a :: vs) (xs :: rs)
theorem RunsIn.mono {led led' : List (Addr × Obj)} {vs : List Value} {rs : List (List Str)} (hs : ∀ p ∈ led, p ∈ led') (h : RunsIn led vs rs) : RunsIn led' vs rs := by
  induction h with
  | nil => exact .nil
  | cons h1 h2 h3 _ ih => exact .cons (hs _ h1) h2 h3 ih
theorem RunsIn.snoc {led : List (Addr × Obj)} {vs : List Value} {rs : List (List Str)} {a : Addr} {us : List Value} {n : Nat} {xs : List Str} (h1 : (a, W.listOf us.toArray n) ∈ led) (h2 : StrsAre us xs) (h3 : us.length ≤ 1000)
    (h : RunsIn led vs rs) : RunsIn led (vs ++ [.ref a]) (rs ++ [xs]) := by
  induction h with
  | nil => exact .cons h1 h2 h3 .nil
  | cons g1 g2 g3 _ ih => exact .cons g1 g2 g3 ih
theorem RunsIn.length {led : List (Addr × Obj)} {vs : List Value} {rs : List (List Str)} (h : RunsIn led vs rs) : vs.length = rs.length := by
  induction h with
  | nil => rfl
  | cons _ _ _ _ ih => simp [ih]

section
variable {prog : Program} {w : World} {A : Around} {E : Value → Shared → Prop} {s : Shared} {x y : Str} {t u : Tok} {Q : Value → Shared → Prop}
theorem eq_yes (e : (x.cps.toList == y.cps.toList) = true) (h : Q (.bool true) s) : wpAny (model prog w) A (compareOp .Eq (.str x t) (.str y u)) Q E s := PySem.P.eq_str (by rw [e]; exact h)
theorem eq_no (e : (x.cps.toList == y.cps.toList) = false) (h : Q (.bool false) s) : wpAny (model prog w) A (compareOp .Eq (.str x t) (.str y u)) Q E s := PySem.P.eq_str (by rw [e]; exact h)
theorem in_no (e : (PySem.Builtin.Str.occurrences x y 0 x.length 1).isEmpty = true) (h : Q (.bool false) s) : wpAny (model prog w) A (compareOp .In (.str y u) (.str x t)) Q E s := PySem.P.in_str (by rw [e]; exact h)
theorem in_yes (e : (PySem.Builtin.Str.occurrences x y 0 x.length 1).isEmpty = false) (h : Q (.bool true) s) : wpAny (model prog w) A (compareOp .In (.str y u) (.str x t)) Q E s := PySem.P.in_str (by rw [e]; exact h)
end
section
variable {prog : Program} {w : World} {A : Around} {E : Value → Shared → Prop} {Q : Flow → Shared → Prop} {s : Shared} {env : Env} {h₀ : Heap} {L : Addr} {β : Type}
abbrev yPs (x y : Str) (yv : β → Value) (c : Int × Tok × β) : List (Str × Value) := [(x, .int c.1 c.2.1), (y, yv c.2.2)]
def YEnd (h₀ : Heap) (L : Addr) (s : Shared) (x y : Str) (yv : β → Value) (Led : β → List (Addr × Obj)) (stored : List Str) (m₀ : Str → Option Value) (P : Int → β → Prop) (top : Int) (i : Int) (t : Tok) (b : β) (s₂ : Shared) : Prop :=
  KswEnd h₀ L s (fun c : Int × Tok × β => Led c.2.2) (yPs x y yv) (fun _ => True) stored m₀ (fun c => P c.1 c.2.2) (fun c => (top - c.1).toNat) (i, t, b) s₂
def YPost (h₀ : Heap) (L : Addr) (s : Shared) (x y : Str) (yv : β → Value) (Led : β → List (Addr × Obj)) (stored : List Str) (m₀ : Str → Option Value) (P : Int → β → Prop) (top : Int) (Q : Flow → Shared → Prop) (i : Int) (t : Tok) (b : β) (f : Flow) (s₂ : Shared) : Prop :=
  KswPost h₀ L s (fun c : Int × Tok × β => Led c.2.2) (yPs x y yv) (fun _ => True) stored m₀ (fun c => P c.1 c.2.2) (fun c => (top - c.1).toNat) Q (i, t, b) f s₂
/-- the names beside x and y are as before -/
def SameOff2 (m' m₀ : Str → Option Value) (x y : Str) (stored : List Str) : Prop := ∀ z, z ≠ x → z ≠ y → stored.contains z = false → m' z = m₀ z
theorem sp_base {m₀ u : Str → Option Value} {x y : Str} {stored : List Str} {v v' : Value} : SameOff2 (kstB (fun z => if stored.contains z then u z else m₀ z) [(x, v), (y, v')]) m₀ x y stored := by
  intro z h1 h2 h3
  simp only [kstB, if_neg h1, if_neg h2, h3]
  rfl
theorem sp_x {m₀ m' : Str → Option Value} {x y : Str} {stored : List Str} {a : Option Value} (h : SameOff2 m' m₀ x y stored) : SameOff2 (fun z => if z = x then a else m' z) m₀ x y stored := by
  intro z h1 h2 h3
  show (if z = x then a else m' z) = _
  rw [if_neg h1]; exact h z h1 h2 h3
theorem sp_y {m₀ m' : Str → Option Value} {x y : Str} {stored : List Str} {a : Option Value} (h : SameOff2 m' m₀ x y stored) : SameOff2 (fun z => if z = y then a else m' z) m₀ x y stored := by
  intro z h1 h2 h3
  show (if z = y then a else m' z) = _
  rw [if_neg h2]; exact h z h1 h2 h3
theorem sp_st {m₀ m' : Str → Option Value} {x y c : Str} {stored : List Str} {a : Option Value} (hc : stored.contains c = true) (h : SameOff2 m' m₀ x y stored) : SameOff2 (fun z => if z = c then a else m' z) m₀ x y stored := by
  intro z h1 h2 h3
  show (if z = c then a else m' z) = _
  rw [if_neg (fun e => by rw [e, hc] at h3; cases h3)]; exact h z h1 h2 h3
theorem y_close {x y : Str} {yv : β → Value} {Led : β → List (Addr × Obj)} {stored : List Str} {m₀ m' : Str → Option Value} {P : Int → β → Prop} {top i i' : Int} {t t' : Tok} {b : β} (b' : β) {h' : Heap} {tk : Nat} {news' : List (Addr × Obj)}
    (F : Fr h₀ L h' m') (N : News h₀ L h' news') (hn : ∀ p ∈ Led b', p ∈ news') (hi : m' x = some (.int i' t')) (hy : m' y = some (yv b')) (hm : SameOff2 m' m₀ x y stored) (hp : P i' b') (h1 : i < i') (h2 : i < top) :
    YEnd h₀ L s x y yv Led stored m₀ P top i t b { s with heap := h', toks := tk } :=
  ksw_end (i', t', b') F N hn trivial (fun p hp => by rcases List.mem_cons.mp hp with rfl | hp; exact hi; rcases List.mem_cons.mp hp with rfl | hp; exact hy; cases hp) (fun z h2 h3 => hm z (h2 _ (.head _)) (h2 _ (.tail _ (.head _))) h3) hp (by show (top - i').toNat < (top - i).toNat; omega)
section
variable {x y : Str} {yv : β → Value} {Led : β → List (Addr × Obj)} {stored : List Str} {m₀ : Str → Option Value} {P : Int → β → Prop} {top i : Int} {t : Tok} {b : β} {s₂ : Shared}
theorem yp_next (h : YEnd h₀ L s x y yv Led stored m₀ P top i t b s₂) : YPost h₀ L s x y yv Led stored m₀ P top Q i t b .next s₂ := h
theorem yp_cont (h : YEnd h₀ L s x y yv Led stored m₀ P top i t b s₂) : YPost h₀ L s x y yv Led stored m₀ P top Q i t b .cont s₂ := h
theorem yp_brk (h : Q .next s₂) : YPost h₀ L s x y yv Led stored m₀ P top Q i t b .brk s₂ := h
theorem yp_ret {v : Value} (h : Q (.ret v) s₂) : YPost h₀ L s x y yv Led stored m₀ P top Q i t b (.ret v) s₂ := h
end
def YOut (h₀ : Heap) (L : Addr) (s : Shared) (x y : Str) (yv : β → Value) (Led : β → List (Addr × Obj)) (stored : List Str) (m₀ : Str → Option Value) (Done : Int → β → Prop) (s₂ : Shared) : Prop :=
  ∃ (i : Int) (t : Tok) (b : β) (u : Str → Option Value) (h : Heap) (tk : Nat), s₂ = { s with heap := h, toks := tk } ∧ Fr h₀ L h (kstB (fun z => if stored.contains z then u z else m₀ z) [(x, .int i t), (y, yv b)]) ∧ News h₀ L h (Led b) ∧ Done i b
def YQ (h₀ : Heap) (L : Addr) (s : Shared) (x y : Str) (yv : β → Value) (Led : β → List (Addr × Obj)) (stored : List Str) (m₀ : Str → Option Value) (Done : Int → β → Prop) (Q : Flow → Shared → Prop) (f : Flow) (s₂ : Shared) : Prop :=
  match f with
  | .next => YOut h₀ L s x y yv Led stored m₀ Done s₂
  | f => Q f s₂
theorem y_out {x y : Str} {yv : β → Value} {Led : β → List (Addr × Obj)} {stored : List Str} {m₀ m' : Str → Option Value} {Done : Int → β → Prop} {i' : Int} {t' : Tok} (b' : β) {h' : Heap} {tk : Nat} {news' : List (Addr × Obj)}
    (F : Fr h₀ L h' m') (N : News h₀ L h' news') (hn : ∀ p ∈ Led b', p ∈ news') (hi : m' x = some (.int i' t')) (hy : m' y = some (yv b')) (hm : SameOff2 m' m₀ x y stored) (hd : Done i' b') :
    YOut h₀ L s x y yv Led stored m₀ Done { s with heap := h', toks := tk } :=
  ⟨i', t', b', m', h', tk, rfl, ksw_fr (fun p hp => by rcases List.mem_cons.mp hp with rfl | hp; exact hi; rcases List.mem_cons.mp hp with rfl | hp; exact hy; cases hp) (fun z h2 h3 => hm z (h2 _ (.head _)) (h2 _ (.tail _ (.head _))) h3) F, fun p hp => N p (hn p hp), hd⟩
theorem y_while {test : PySem.Expr} {body : List Stmt} {pos : Pos} {m₀ : Str → Option Value} (x y : Str) (yv : β → Value) (Led : β → List (Addr × Obj)) (stored : List Str) (P Done : Int → β → Prop) (top : Int) {i₀ : Int} {t₀ : Tok} (b₀ : β)
    (F : Fr h₀ L s.heap m₀) (N : News h₀ L s.heap (Led b₀)) (hi : m₀ x = some (.int i₀ t₀)) (hy : m₀ y = some (yv b₀)) (hp : P i₀ b₀)
    (turn : ∀ (i : Int) (t : Tok) (b : β) (u : Str → Option Value) h tk, P i b →
      Fr h₀ L h (kstB (fun z => if stored.contains z then u z else m₀ z) [(x, .int i t), (y, yv b)]) → News h₀ L h (Led b) →
      wpAny (model prog w) A (isTrue test env (eval test env)) (fun r s₂ =>
        if r = true then wpAny (model prog w) A (execs body env) (YPost h₀ L s x y yv Led stored m₀ P top (YQ h₀ L s x y yv Led stored m₀ Done Q) i t b) E s₂ else YOut h₀ L s x y yv Led stored m₀ Done s₂) E { s with heap := h, toks := tk })
    (done : ∀ (i : Int) (t : Tok) (b : β) (u : Str → Option Value) h tk, Done i b →
      Fr h₀ L h (kstB (fun z => if stored.contains z then u z else m₀ z) [(x, .int i t), (y, yv b)]) → News h₀ L h (Led b) → Q .next { s with heap := h, toks := tk })
    (hE : PassesOwn (model prog w) A env E := by passes_own) :
    wpAny (model prog w) A (exec (.While test body [] pos) env) Q E s := by
  refine wpAny_mono (ksw_while (Q := YQ h₀ L s x y yv Led stored m₀ Done Q) (fun c : Int × Tok × β => Led c.2.2) (yPs x y yv) (fun _ => True) stored (fun c => P c.1 c.2.2) (fun c => (top - c.1).toNat) (i₀, t₀, b₀) F N trivial
    (fun p hp => by rcases List.mem_cons.mp hp with rfl | hp; exact hi; rcases List.mem_cons.mp hp with rfl | hp; exact hy; cases hp) hp
    (fun c u h tk _ hp F N => turn c.1 c.2.1 c.2.2 u h tk hp F N) hE) (fun f s₂ hq => ?_) fun _ _ e => e
  cases f with
  | next =>
    obtain ⟨i, t, b, u, h, tk, rfl, F', N', hd⟩ := hq
    exact done i t b u h tk hd F' N'
  | brk => exact hq
  | cont => exact hq
  | ret v => exact hq
end
end Mine
end
section
set_option maxRecDepth 100000
open PySem PySem.W PyProof.Rows PySem.Calls
namespace Mine
open Builtin Builtin.Str
/-- the parts of a zip over two drawers lie apart -/
structure ZA (z TI TO i1 i2 : Addr) (fp1 fp2 : List Addr) : Prop where
  TIz : TI ≠ z
  TOz : TO ≠ z
  TITO : TI ≠ TO
  TIi1 : TI ≠ i1
  TIi2 : TI ≠ i2
  TOi1 : TO ≠ i1
  TOi2 : TO ≠ i2
  i1z : i1 ≠ z
  i2z : i2 ≠ z
  z1 : z ∉ fp1
  z2 : z ∉ fp2
  T1 : TO ∉ fp1
  T2 : TO ∉ fp2
  i12 : i1 ∉ fp2
  i21 : i2 ∉ fp1
theorem ne_of_not_mem {b c : Addr} {l : List Addr} (h : c ∉ l) (hb : b ∈ l) : b ≠ c := fun e => h (e ▸ hb)
section
variable {prog : Program} {w : World} {A : Around} {E : Value → Shared → Prop} {s : Shared}
theorem zip_next_itemD {z TI TO i1 i2 : Addr} {fp1 fp2 : List Addr} {k n1 n2 : Nat} {P1 P2 : Nat → Value → Prop} {St1 St2 : Nat → Heap → Prop} {a b : Value} {Q : Value → Shared → Prop} (D : ZA z TI TO i1 i2 fp1 fp2)
    (D1 : Draws prog w A i1 fp1 n1 P1 St1) (D2 : Draws prog w A i2 fp2 n2 P2 St2)
    (hz : IsZip s.heap z TI TO .none) (hTI : IsPair s.heap TI (.ref i1) (.ref i2)) (hTO : IsPair s.heap TO a b)
    (h1 : St1 k s.heap) (h2 : St2 k s.heap) (hx : k < n1) (hy : k < n2)
    (hQ : ∀ x y h' tk, P1 k x → P2 k y → IsZip h' z TI TO (rawInt s.heap.objs.size) → IsPair h' TO x y → St1 (k + 1) h' → St2 (k + 1) h' → IsPair h' s.heap.objs.size x y → h'.objs.size = s.heap.objs.size + 1 →
      (∀ c o, c ≠ z → c ≠ TO → c ≠ i1 → c ≠ i2 → s.heap.get? c = some o → h'.get? c = some o) → Q (.ref s.heap.objs.size) { s with heap := h', toks := tk }) :
    wpAny (model prog w) A (Builtin.«zip.__next__» ⟨[.ref z], []⟩) (fun fin s' => ∃ v, fin = .done (.ret v) ∧ Q v s') E s := by
  show wpAny _ _ (field (.ref z) 2 >>= _) _ _ _
  refine wpAny_bind (wpAny_field hz rfl (x := .bool false) rfl ?_)
  show wpAny _ _ (field (.ref z) 3 >>= _) _ _ _
  refine wpAny_bind (wpAny_field hz rfl (x := .ref TI) rfl ?_)
  refine wpAny_bind (wpAny_seqItems hTI rfl ?_)
  show wpAny _ _ (Builtin.SmallTypes.ownedTupleIsFree (.ref z) >>= _) _ _ _
  refine wpAny_bind ?_
  unfold Builtin.SmallTypes.ownedTupleIsFree
  refine wpAny_bind (wpAny_field hz rfl (x := .none) rfl (wpAny_pure ?_))
  simp only [if_true]
  refine wpAny_bind (wpAny_rule ?_)
  refine wpAny_bind (wpAny_field hz rfl (x := .ref TO) rfl ?_)
  refine wpAny_bind (wpAny_setField_rec hz (by simp) fun h₁ hz₁ hs₁ => ?_)
  replace hz₁ : IsZip h₁ z TI TO .ellipsis := hz₁
  refine wpAny_bind ?_
  simp only [List.zipIdx_cons, List.zipIdx_nil, List.forIn_cons, List.forIn_nil]
  refine wpAny_bind (wpAny_bind (wpAny_onRaise ?_))
  show wpAny _ _ (Builtin.SmallTypes.nextOf (.ref i1) >>= _) _ _ _
  refine wpAny_bind (D1.item k _ _ _ hx (D1.frame _ _ _ h1 fun b hb o e => hs₁.extBut b o (ne_of_not_mem D.z1 hb) e) fun x h₂ tk₂ hPx h1₂ hs₂ => wpAny_pure ?_)
  replace hs₂ : Heap.SameBut i1 h₁ h₂ := hs₂
  have hTO₂ : IsPair h₂ TO a b := hs₂.extBut _ _ D.TOi1 (hs₁.extBut _ _ D.TOz hTO)
  have h2₂ : St2 k h₂ := D2.frame _ _ _ h2 fun b hb o e => hs₂.extBut b o (ne_of_not_mem D.i12 hb) (hs₁.extBut b o (ne_of_not_mem D.z2 hb) e)
  refine wpAny_bind (wpAny_seqItems hTO₂ rfl ?_)
  refine wpAny_bind (wpAny_updateSeq_pair hTO₂ fun h₃ hTO₃ hs₃ => ?_)
  replace hTO₃ : IsPair h₃ TO x b := hTO₃
  replace hs₃ : Heap.SameBut TO h₂ h₃ := hs₃
  refine wpAny_bind (wpAny_letGo (wpAny_pure ?_))
  refine wpAny_bind (wpAny_bind (wpAny_onRaise ?_))
  show wpAny _ _ (Builtin.SmallTypes.nextOf (.ref i2) >>= _) _ _ _
  refine wpAny_bind (D2.item k _ _ _ hy (D2.frame _ _ _ h2₂ fun b hb o e => hs₃.extBut b o (ne_of_not_mem D.T2 hb) e) fun y h₄ tk₄ hPy h2₄ hs₄ => wpAny_pure ?_)
  replace hs₄ : Heap.SameBut i2 h₃ h₄ := hs₄
  have hTO₄ : IsPair h₄ TO x b := hs₄.extBut _ _ D.TOi2 hTO₃
  refine wpAny_bind (wpAny_seqItems hTO₄ rfl ?_)
  refine wpAny_bind (wpAny_updateSeq_pair hTO₄ fun h₅ hTO₅ hs₅ => ?_)
  replace hTO₅ : IsPair h₅ TO x y := hTO₅
  replace hs₅ : Heap.SameBut TO h₄ h₅ := hs₅
  refine wpAny_bind (wpAny_letGo (wpAny_pure (wpAny_pure ?_)))
  refine wpAny_bind (wpAny_seqItems hTO₅ rfl ?_)
  refine wpAny_bind (wpAny_newTuple ?_)
  have hsz : h₅.objs.size = s.heap.objs.size := by rw [hs₅.1, hs₄.1, hs₃.1, hs₂.1, hs₁.1]
  have hi1lt : i1 < h₅.objs.size := by rw [hsz]; obtain ⟨_, e⟩ := D1.live _ _ h1; exact Heap.lt_size e
  have hi2lt : i2 < h₅.objs.size := by rw [hsz]; obtain ⟨_, e⟩ := D2.live _ _ h2; exact Heap.lt_size e
  have hz₅ : IsZip h₅ z TI TO .ellipsis := hs₅.extBut _ _ D.TOz.symm (hs₄.extBut _ _ D.i2z.symm (hs₃.extBut _ _ D.TOz.symm (hs₂.extBut _ _ D.i1z.symm hz₁)))
  have hk₅ : ∀ c o, c ≠ z → c ≠ TO → c ≠ i1 → c ≠ i2 → s.heap.get? c = some o → h₅.get? c = some o := fun c o c1 c2 c3 c4 e =>
    hs₅.extBut _ _ c2 (hs₄.extBut _ _ c4 (hs₃.extBut _ _ c2 (hs₂.extBut _ _ c3 (hs₁.extBut _ _ c1 e))))
  have h1₅ : St1 (k + 1) h₅ := D1.frame _ _ _ h1₂ fun b hb o e => hs₅.extBut b o (ne_of_not_mem D.T1 hb) (hs₄.extBut b o (ne_of_not_mem D.i21 hb) (hs₃.extBut b o (ne_of_not_mem D.T1 hb) e))
  have h2₅ : St2 (k + 1) h₅ := D2.frame _ _ _ h2₄ fun b hb o e => hs₅.extBut b o (ne_of_not_mem D.T2 hb) e
  have hzlt : z < h₅.objs.size := Heap.lt_size hz₅
  have hTOlt : TO < h₅.objs.size := Heap.lt_size hTO₅
  show wpAny _ _ (Builtin.SmallTypes.ownedTupleHandOut (.ref z) (.ref h₅.objs.size) >>= _) _ _ _
  refine wpAny_bind ?_
  unfold Builtin.SmallTypes.ownedTupleHandOut
  have hz₆ : IsZip (h₅.push { cls := .type "tuple", data := .seq #[x, y] }) z TI TO .ellipsis := Heap.get?_push_of_some _ hz₅
  refine wpAny_bind (wpAny_setField_rec hz₆ (by simp) fun h₇ hz₇ hs₇ => ?_)
  replace hz₇ : IsZip h₇ z TI TO (rawInt h₅.objs.size) := hz₇
  refine wpAny_setField_rec hz₇ (by simp) fun h₈ hz₈ hs₈ => ?_
  replace hz₈ : IsZip h₈ z TI TO (rawInt h₅.objs.size) := hz₈
  have up : ∀ c o, c ≠ z → h₅.get? c = some o → h₈.get? c = some o := fun c o c1 e => hs₈.extBut _ _ c1 (hs₇.extBut _ _ c1 (Heap.get?_push_of_some _ e))
  have hT₈ : IsPair h₈ h₅.objs.size x y := hs₈.extBut _ _ (Nat.ne_of_gt hzlt) (hs₇.extBut _ _ (Nat.ne_of_gt hzlt) (Heap.get?_push_size _ rfl))
  have hz8 : h₈.objs.size = h₅.objs.size + 1 := by rw [hs₈.1, hs₇.1, Heap.size_push]
  rw [hsz] at hz₈ hT₈ hz8
  refine wpAny_pure ⟨_, rfl, ?_⟩
  show Q (.ref h₅.objs.size) _
  rw [hsz]
  exact hQ x y h₈ _ hPx hPy hz₈ (up _ _ D.TOz hTO₅) (D1.frame _ _ _ h1₅ fun b hb o e => up b o (ne_of_not_mem D.z1 hb) e) (D2.frame _ _ _ h2₅ fun b hb o e => up b o (ne_of_not_mem D.z2 hb) e) hT₈ hz8 fun c o c1 c2 c3 c4 e => up c o c1 (hk₅ c o c1 c2 c3 c4 e)

theorem zip_next_endD {z TI TO i1 i2 : Addr} {fp1 fp2 : List Addr} {k n1 n2 : Nat} {P1 P2 : Nat → Value → Prop} {St1 St2 : Nat → Heap → Prop} {a b : Value} {Q : Fin → Shared → Prop} (D : ZA z TI TO i1 i2 fp1 fp2)
    (D1 : Draws prog w A i1 fp1 n1 P1 St1) (D2 : Draws prog w A i2 fp2 n2 P2 St2)
    (hz : IsZip s.heap z TI TO .none) (hTI : IsPair s.heap TI (.ref i1) (.ref i2)) (hTO : IsPair s.heap TO a b)
    (h1 : St1 k s.heap) (h2 : St2 k s.heap) (hend : k = n1 ∨ (k < n1 ∧ k = n2))
    (hE : ∀ h' e tk, (∀ c o, c ≠ z → c ≠ TO → c ≠ i1 → c ≠ i2 → s.heap.get? c = some o → h'.get? c = some o) → (∃ o, h'.get? e = some o ∧ o.cls = .type "StopIteration") → E (.ref e) { s with heap := h', toks := tk }) :
    wpAny (model prog w) A (Builtin.«zip.__next__» ⟨[.ref z], []⟩) Q E s := by
  show wpAny _ _ (field (.ref z) 2 >>= _) _ _ _
  refine wpAny_bind (wpAny_field hz rfl (x := .bool false) rfl ?_)
  show wpAny _ _ (field (.ref z) 3 >>= _) _ _ _
  refine wpAny_bind (wpAny_field hz rfl (x := .ref TI) rfl ?_)
  refine wpAny_bind (wpAny_seqItems hTI rfl ?_)
  show wpAny _ _ (Builtin.SmallTypes.ownedTupleIsFree (.ref z) >>= _) _ _ _
  refine wpAny_bind ?_
  unfold Builtin.SmallTypes.ownedTupleIsFree
  refine wpAny_bind (wpAny_field hz rfl (x := .none) rfl (wpAny_pure ?_))
  simp only [if_true]
  refine wpAny_bind (wpAny_rule ?_)
  refine wpAny_bind (wpAny_field hz rfl (x := .ref TO) rfl ?_)
  refine wpAny_bind (wpAny_setField_rec hz (by simp) fun h₁ hz₁ hs₁ => ?_)
  replace hz₁ : IsZip h₁ z TI TO .ellipsis := hz₁
  refine wpAny_bind ?_
  simp only [List.zipIdx_cons, List.zipIdx_nil, List.forIn_cons, List.forIn_nil]
  refine wpAny_bind (wpAny_bind (wpAny_onRaise ?_))
  show wpAny _ _ (Builtin.SmallTypes.nextOf (.ref i1) >>= _) _ _ _
  have h1₁ : St1 k h₁ := D1.frame _ _ _ h1 fun b hb o e => hs₁.extBut b o (ne_of_not_mem D.z1 hb) e
  rcases hend with rfl | ⟨hlt, rfl⟩
  · refine wpAny_bind (D1.done _ _ _ h1₁ fun h₂ e hs₂ he => ?_)
    obtain ⟨oe, hoe, hce⟩ := he
    have hz₂ : IsZip h₂ z TI TO .ellipsis := hs₂ _ _ D.i1z.symm hz₁
    have hez : e ≠ z := fun x => by subst x; rw [hz₂] at hoe; cases hoe; simp at hce
    refine wpAny_setField_rec hz₂ (by simp) fun h₃ _ hs₃ => hE h₃ e _ (fun c o c1 _ c3 _ x => hs₃.extBut _ _ c1 (hs₂ _ _ c3 (hs₁.extBut _ _ c1 x))) ⟨oe, hs₃.extBut _ _ hez hoe, hce⟩
  · refine wpAny_bind (D1.item k _ _ _ hlt h1₁ fun x h₂ tk₂ hPx h1₂ hs₂ => wpAny_pure ?_)
    replace hs₂ : Heap.SameBut i1 h₁ h₂ := hs₂
    have hTO₂ : IsPair h₂ TO a b := hs₂.extBut _ _ D.TOi1 (hs₁.extBut _ _ D.TOz hTO)
    have h2₂ : St2 k h₂ := D2.frame _ _ _ h2 fun b hb o e => hs₂.extBut b o (ne_of_not_mem D.i12 hb) (hs₁.extBut b o (ne_of_not_mem D.z2 hb) e)
    refine wpAny_bind (wpAny_seqItems hTO₂ rfl ?_)
    refine wpAny_bind (wpAny_updateSeq_pair hTO₂ fun h₃ hTO₃ hs₃ => ?_)
    replace hs₃ : Heap.SameBut TO h₂ h₃ := hs₃
    refine wpAny_bind (wpAny_letGo (wpAny_pure ?_))
    refine wpAny_bind (wpAny_bind (wpAny_onRaise ?_))
    show wpAny _ _ (Builtin.SmallTypes.nextOf (.ref i2) >>= _) _ _ _
    refine wpAny_bind (D2.done _ _ _ (D2.frame _ _ _ h2₂ fun b hb o e => hs₃.extBut b o (ne_of_not_mem D.T2 hb) e) fun h₄ e hs₄ he => ?_)
    obtain ⟨oe, hoe, hce⟩ := he
    have hz₄ : IsZip h₄ z TI TO .ellipsis := hs₄ _ _ D.i2z.symm (hs₃.extBut _ _ D.TOz.symm (hs₂.extBut _ _ D.i1z.symm hz₁))
    have hez : e ≠ z := fun x => by subst x; rw [hz₄] at hoe; cases hoe; simp at hce
    refine wpAny_setField_rec hz₄ (by simp) fun h₅ _ hs₅ => hE h₅ e _ (fun c o c1 c2 c3 c4 x => hs₅.extBut _ _ c1 (hs₄ _ _ c4 (hs₃.extBut _ _ c2 (hs₂.extBut _ _ c3 (hs₁.extBut _ _ c1 x))))) ⟨oe, hs₅.extBut _ _ hez hoe, hce⟩

theorem pyNext_zip_itemD {z TI TO i1 i2 : Addr} {fp1 fp2 : List Addr} {k n1 n2 : Nat} {P1 P2 : Nat → Value → Prop} {St1 St2 : Nat → Heap → Prop} {a b : Value} {Q : Option Value → Shared → Prop} (D : ZA z TI TO i1 i2 fp1 fp2)
    (D1 : Draws prog w A.in1 i1 fp1 n1 P1 St1) (D2 : Draws prog w A.in1 i2 fp2 n2 P2 St2)
    (hz : IsZip s.heap z TI TO .none) (hTI : IsPair s.heap TI (.ref i1) (.ref i2)) (hTO : IsPair s.heap TO a b)
    (h1 : St1 k s.heap) (h2 : St2 k s.heap) (hx : k < n1) (hy : k < n2)
    (hQ : ∀ x y h' tk, P1 k x → P2 k y → IsZip h' z TI TO (rawInt s.heap.objs.size) → IsPair h' TO x y → St1 (k + 1) h' → St2 (k + 1) h' → IsPair h' s.heap.objs.size x y → h'.objs.size = s.heap.objs.size + 1 →
      (∀ c o, c ≠ z → c ≠ TO → c ≠ i1 → c ≠ i2 → s.heap.get? c = some o → h'.get? c = some o) → Q (some (.ref s.heap.objs.size)) { s with heap := h', toks := tk }) :
    wpAny (model prog w) A (pyNext (.ref z)) Q E s := by
  have hT : s.TypeIs (.ref z) "zip" := ⟨_, hz, rfl⟩
  unfold pyNext
  exact wpAny_bind (wpAny_attempt (wpAny_callSpecial?_slot (name := Str.ofString "__next__") hT F.slot_zip_next
    (wpAny_call_entry F.slot_zip_next hT F.entry_zip_next
      (zip_next_itemD D D1 D2 hz hTI hTO h1 h2 hx hy fun x y h' tk a1 a2 a3 a4 a5 a6 a7 a8 a9 => wpAny_pure (hQ x y h' tk a1 a2 a3 a4 a5 a6 a7 a8 a9)) (F.args_zip_next_1 _))))
theorem pyNext_zip_endD {z TI TO i1 i2 : Addr} {fp1 fp2 : List Addr} {k n1 n2 : Nat} {P1 P2 : Nat → Value → Prop} {St1 St2 : Nat → Heap → Prop} {a b : Value} {Q : Option Value → Shared → Prop} (D : ZA z TI TO i1 i2 fp1 fp2)
    (D1 : Draws prog w A.in1 i1 fp1 n1 P1 St1) (D2 : Draws prog w A.in1 i2 fp2 n2 P2 St2)
    (hz : IsZip s.heap z TI TO .none) (hTI : IsPair s.heap TI (.ref i1) (.ref i2)) (hTO : IsPair s.heap TO a b)
    (h1 : St1 k s.heap) (h2 : St2 k s.heap) (hend : k = n1 ∨ (k < n1 ∧ k = n2))
    (hQ : ∀ h' tk, (∀ c o, c ≠ z → c ≠ TO → c ≠ i1 → c ≠ i2 → s.heap.get? c = some o → h'.get? c = some o) → Q none { s with heap := h', toks := tk }) : wpAny (model prog w) A (pyNext (.ref z)) Q E s := by
  have hT : s.TypeIs (.ref z) "zip" := ⟨_, hz, rfl⟩
  unfold pyNext
  refine wpAny_bind (wpAny_attempt (wpAny_callSpecial?_slot (name := Str.ofString "__next__") hT F.slot_zip_next
    (wpAny_call_entry F.slot_zip_next hT F.entry_zip_next (zip_next_endD D D1 D2 hz hTI hTO h1 h2 hend fun h' e tk hk he => ?_) (F.args_zip_next_1 _))))
  obtain ⟨o, ho, hc⟩ := he
  refine wpAny_bind (wpAny_isInstance (T := "StopIteration") (b := true) ⟨o, ho, hc⟩ isSubtype_stop ?_)
  exact wpAny_pure (hQ _ _ hk)
end
theorem WalksT.zipD {prog : Program} {w : World} {A : Around} (z TI TO i1 i2 : Addr) {fp1 fp2 : List Addr} {n1 n2 : Nat} {P1 P2 : Nat → Value → Prop} {St1 St2 : Nat → Heap → Prop} (D : ZA z TI TO i1 i2 fp1 fp2)
    (D1 : Draws prog w A.in1 i1 fp1 n1 P1 St1) (D2 : Draws prog w A.in1 i2 fp2 n2 P2 St2) (f1 : i1 ∈ fp1) (f2 : i2 ∈ fp2) :
    WalksT prog w A z (z :: TI :: TO :: (fp1 ++ fp2)) [z, TO, i1, i2] (min n1 n2)
      (fun i vals => ∃ x y, P1 i x ∧ P2 i y ∧ vals = #[x, y])
      (fun i h => IsZip h z TI TO .none ∧ IsPair h TI (.ref i1) (.ref i2) ∧ (∃ a b, IsPair h TO a b) ∧ St1 i h ∧ St2 i h)
      (fun i T h => IsZip h z TI TO (rawInt T) ∧ IsPair h TI (.ref i1) (.ref i2) ∧ (∃ a b, IsPair h TO a b) ∧ St1 (i + 1) h ∧ St2 (i + 1) h ∧ T ≠ z ∧ T ≠ TO ∧ T ≠ i1 ∧ T ≠ i2) where
  sub := fun c hc => by
    simp at hc ⊢
    rcases hc with rfl | rfl | rfl | rfl
    · simp
    · simp
    · simp [f1]
    · simp [f2]
  frame := fun i h h' hst hk => by
    obtain ⟨hz, hTI, ⟨a, b, hTO⟩, h1, h2⟩ := hst
    exact ⟨hk z (by simp) _ hz, hk TI (by simp) _ hTI, ⟨a, b, hk TO (by simp) _ hTO⟩, D1.frame _ _ _ h1 fun b hb o e => hk b (by simp [hb]) o e, D2.frame _ _ _ h2 fun b hb o e => hk b (by simp [hb]) o e⟩
  item := fun i s Q E hi hst hQ => by
    obtain ⟨hz, hTI, ⟨a, b, hTO⟩, h1, h2⟩ := hst
    refine pyNext_zip_itemD D D1 D2 hz hTI hTO h1 h2 (by omega) (by omega) fun x y h' tk p1 p2 a1 a2 a3 a4 a5 a6 hk => ?_
    have lt : ∀ {c o}, s.heap.get? c = some o → s.heap.objs.size ≠ c := fun e => Nat.ne_of_gt (Heap.lt_size e)
    exact hQ s.heap.objs.size #[x, y] h' tk ⟨_, _, p1, p2, rfl⟩ (Nat.le_refl _) ⟨_, a5, rfl, _, rfl⟩
      ⟨a1, hk _ _ D.TIz D.TITO D.TIi1 D.TIi2 hTI, ⟨_, _, a2⟩, a3, a4,
        lt hz, lt hTO, (by obtain ⟨_, e⟩ := D1.live _ _ h1; exact lt e), (by obtain ⟨_, e⟩ := D2.live _ _ h2; exact lt e)⟩
      fun c o hc e => hk c o (fun x => hc (by simp [x])) (fun x => hc (by simp [x])) (fun x => hc (by simp [x])) (fun x => hc (by simp [x])) e
  go := fun elts k pos i T s Q E hm hQ => by
    obtain ⟨hz, hTI, ⟨a, b, hTO⟩, h1, h2, _⟩ := hm
    refine wpAny_letOwnedTupleGo_zip hz fun h' hz' hs' => hQ h' ⟨hz', hs'.extBut _ _ D.TIz hTI, ⟨a, b, hs'.extBut _ _ D.TOz hTO⟩, D1.frame _ _ _ h1 fun b hb o e => hs'.extBut b o (ne_of_not_mem D.z1 hb) e,
      D2.frame _ _ _ h2 fun b hb o e => hs'.extBut b o (ne_of_not_mem D.z2 hb) e⟩ fun c o hc e => hs'.extBut _ _ (fun x => hc (by simp [x])) e
  apart := fun i T h hm hT => by
    obtain ⟨_, _, _, _, _, t1, t2, t3, t4⟩ := hm
    simp at hT
    rcases hT with rfl | rfl | rfl | rfl
    · exact t1 rfl
    · exact t2 rfl
    · exact t3 rfl
    · exact t4 rfl
  done := fun s Q E hst hQ => by
    obtain ⟨hz, hTI, ⟨a, b, hTO⟩, h1, h2⟩ := hst
    have hend : min n1 n2 = n1 ∨ (min n1 n2 < n1 ∧ min n1 n2 = n2) := by omega
    exact pyNext_zip_endD D D1 D2 hz hTI hTO h1 h2 hend fun h' tk hk => hQ h' tk fun c o hc e =>
      hk c o (fun x => hc (by simp [x])) (fun x => hc (by simp [x])) (fun x => hc (by simp [x])) (fun x => hc (by simp [x])) e
  self := fun i s Q E hst hQ => wpAny_pyIter_zip hst.1 hQ
theorem Draws.str {prog : Program} {w : World} {A : Around} (hh : A.handled = none) (it : Addr) (x : Str) (t : Tok) :
    Draws prog w A it [it] x.cps.size (fun i v => ∃ c u, x.cps[i]? = some c ∧ v = .str ⟨#[c]⟩ u) (fun i h => h.IsStrIter it (strIterType x) x t i) := by
  unfold strIterType
  split
  · exact Draws.strAscii hh it x t
  · exact Draws.strWide hh it x t
end Mine
end
section
set_option maxRecDepth 100000
open PySem PySem.W PyProof.Rows PySem.Calls PyProof.Rows.LCg
namespace Mine
theorem notmem_ne {b c : Addr} {l : List Addr} (hc : c ∉ l) (hb : b ∈ l) (q : b = c) : False := hc (q ▸ hb)
/-- the tests of a comprehension's clause -/
abbrev testsOf (ifs : List PySem.Expr) (env : Env) : Sem Bool := forIn ifs true fun c r => if r = true then do let ok ← isTrue c env (eval c env); pure (ForInStep.yield ok) else pure (ForInStep.yield r)
section
variable {prog : Program} {w : World} {A : Around} {E : Value → Shared → Prop} {s : Shared}
theorem zc_loop {elt target iter : PySem.Expr} {ifs : List PySem.Expr} {scope : Scope} {pos : Pos} {it acc : Value} {env : Env} {R : Result → Shared → Prop} (I : Nat → Shared → Prop)
    (turn : ∀ n s, I n s → wpAny (model prog w) A (pyNext it) (fun r s₁ => match r with
      | none => R (.ok .next) s₁
      | some v => wpAny (model prog w) A (letOwnedTupleGo target it v) (fun _ s₀ => wpAny (model prog w) A (assign target env v) (fun _ s₂ =>
          wpAny (model prog w) A (testsOf ifs env) (fun ok s₃ => if ok = true then wpAny (model prog w) A (eval elt env) (fun x s₄ =>
            wpAny (model prog w) A (call (.builtin "list.append") [acc, x]) (fun _ s₅ => ∃ m, m < n ∧ I m s₅) (notedBy (model prog w) A env fun e s' => R (.error e) s') s₄) (notedBy (model prog w) A env fun e s' => R (.error e) s') s₃
            else ∃ m, m < n ∧ I m s₃) (notedBy (model prog w) A env fun e s' => R (.error e) s') s₂)
          (notedBy (model prog w) A env fun e s' => R (.error e) s') s₀) (notedBy (model prog w) A env fun e s' => R (.error e) s') s₁) (notedBy (model prog w) A env fun e s' => R (.error e) s') s)
    (n : Nat) (h : I n s) : codeAny (model prog w) A (.compLoop (.ListComp elt [⟨target, iter, ifs, 0⟩] scope pos) 0 it acc env) R s := by
  refine codeAny_loop rfl I (fun n s hI => ?_) n h
  show wpAny _ A ((compTurn (.ListComp elt [⟨target, iter, ifs, 0⟩] scope pos) 0 it acc env).onRaise (fun x => do noteFrame x env; theTreesLotGoes x)) _ _ s
  refine wpAny_noted ?_
  rw [compTurn_list]
  refine wpAny_bind (wpAny_standAt (wpAny_bind (wpAny_mono (turn n s hI) (fun r s₁ h₁ => ?_) fun _ _ h' => h')))
  cases r with
  | none => exact wpAny_pure h₁
  | some v =>
    refine wpAny_bind (wpAny_mono h₁ (fun _ s₀ h₀' => ?_) fun _ _ h' => h')
    refine wpAny_bind (wpAny_mono h₀' (fun _ s₂ h₂ => ?_) fun _ _ h' => h')
    refine wpAny_bind (wpAny_mono h₂ (fun okb s₃ h₃ => ?_) fun _ _ h' => h')
    cases okb with
    | false => exact wpAny_pure ⟨rfl, h₃⟩
    | true => exact wpAny_bind (wpAny_bind (wpAny_mono h₃ (fun x s₄ h₄ => wpAny_bind (wpAny_mono h₄ (fun _ s₅ h₅ => wpAny_pure (wpAny_pure ⟨rfl, h₅⟩)) fun _ _ h' => h')) fun _ _ h' => h'))
end
def ZStep (prog : Program) (w : World) (A : Around) (h₀ : Heap) (L : Addr) (m : Str → Option Value) (env : Env) (ifs : List PySem.Expr) (elt : PySem.Expr) (a b : Str) (scope : Scope) (cl : List (Str × Addr)) (s : Shared) (n : Nat) (P : Nat → Value → Value → Prop) (J : Nat → List Value → Prop) (news : List (Addr × Obj)) : Prop :=
  ∀ i x y ys own C oC D m₂ h tk (E' : Value → Shared → Prop), i < n → P i x y → J i ys → NsObj oC m₂ → m₂ a = some x → m₂ b = some y → Fr h₀ L h m → News h₀ L h ((C, oC) :: (D, lst ys) :: (own ++ news)) →
    (@Ne Nat C D) → (∀ p ∈ own ++ news, p.1 < D) → (@LT.lt Nat _ D C) →
    wpAny (model prog w) A (testsOf ifs (compEnvC scope cl C env)) (fun ok s₃ => if ok = true then wpAny (model prog w) A (eval elt (compEnvC scope cl C env)) (fun v s₄ => ∃ h' tk', s₄ = { s with heap := h', toks := tk' } ∧ Fr h₀ L h' m ∧ News h₀ L h' ((C, oC) :: (D, lst ys) :: (own ++ news)) ∧ J (i + 1) (ys ++ [v])) E' s₃
      else ∃ h' tk', s₃ = { s with heap := h', toks := tk' } ∧ Fr h₀ L h' m ∧ News h₀ L h' ((C, oC) :: (D, lst ys) :: (own ++ news)) ∧ J (i + 1) ys) E' { s with heap := h, toks := tk }
section
variable {prog : Program} {w : World} {A : Around} {E : Value → Shared → Prop} {s : Shared} {h₀ : Heap} {L : Addr} {m : Str → Option Value} {env : Env}
theorem zc_block {elt iter : PySem.Expr} {ifs : List PySem.Expr} {a b : Str} {pa pb tp : Pos} {kk : Nat} {scope : Scope} {cl : List (Str × Addr)} {pos : Pos} {s₂ : Shared} {I : Addr} {fp wr : List Addr} {n : Nat} {Pt : Nat → Array Value → Prop} {P : Nat → Value → Value → Prop} {St : Nat → Heap → Prop} {Mid : Nat → Addr → Heap → Prop}
    {news : List (Addr × Obj)} {J : Nat → List Value → Prop} {RR : Value → Addr → Result → Shared → Prop}
    (hh : A.handled = none) (W : WalksT prog w A I fp wr n Pt St Mid) (hPt : ∀ i vals, Pt i vals → ∃ x y, vals = #[x, y] ∧ P i x y) (hst : St 0 s₂.heap) (hfp : ∀ b ∈ fp, b < s₂.heap.objs.size) (hsz : n ≤ sizeLine) (hJl : ∀ i ys, J i ys → ys.length ≤ i)
    (hcell : ∀ y ∈ scope.names, y.2 ≠ .cell) (hkind : scope.kind = .function) (hxa : scope.names.lookup a = some .local) (hxb : scope.names.lookup b = some .local) (hab : ¬ a = b)
    (F : Fr h₀ L s₂.heap m) (N : News h₀ L s₂.heap news) (hLf : L ∉ fp) (hwr : ∀ b ∈ wr, h₀.get? b = none) (hnw : ∀ p ∈ news, p.1 ∉ wr) (h0 : J 0 [])
    (step : ZStep prog w A h₀ L m env ifs elt a b scope cl s₂ n P J news)
    (hRR : ∀ D C h tk m' ys, Fr h₀ L h m → News h₀ L h ((D, lst ys) :: news) → (∀ p ∈ news, p.1 < D) → h.Ns C m' → h₀.get? C = none → C ≠ L → C ≠ D → (∀ p ∈ news, p.1 ≠ C) → J n ys → RR (.ref D) C (.ok .next) { s₂ with heap := h, toks := tk }) :
    wpAny (model prog w) A (newList []) (fun acc s₃ => wpAny (model prog w) A (newFunctionEnv scope env.globals cl [] env.qual none .none (some env)) (fun cenv s₄ =>
      codeAny (model prog w) A (.compStart (.ListComp elt [⟨.Tuple [.Name a pa, .Name b pb] kk tp, iter, ifs, 0⟩] scope pos) 0 (.ref I) acc { cenv with scope := relabel scope env }) (RR acc cenv.locals) s₄) E s₃) E s₂ := by
  refine wpAny_newObj_type (wpAny_newFunctionEnv hcell (by intro y hy; simp at hy) (fun h₁ hns₁ hsb₁ => ?_) hkind)
  dsimp only at hns₁ hsb₁ ⊢
  generalize hH2 : s₂.heap.push { cls := .type "list", dict := none, data := .seq ([] : List Value).toArray } = H2 at hns₁ hsb₁ ⊢
  have hC : H2.objs.size = s₂.heap.objs.size + 1 := by rw [← hH2, Heap.size_push]
  have hDC : s₂.heap.objs.size ≠ H2.objs.size := by rw [hC]; exact Nat.ne_of_lt (Nat.lt_succ_self _)
  have below : ∀ b, b < s₂.heap.objs.size → b ≠ H2.objs.size ∧ b ≠ s₂.heap.objs.size := fun b hb => ⟨by rw [hC]; exact Nat.ne_of_lt (Nat.lt_succ_of_lt hb), Nat.ne_of_lt hb⟩
  have old : ∀ b o, s₂.heap.get? b = some o → h₁.get? b = some o := fun b o e => hsb₁.extBut b o (below b (Heap.lt_size e)).1 (Heap.get?_push_of_some _ (hH2 ▸ Heap.get?_push_of_some _ e))
  have hacc : h₁.get? s₂.heap.objs.size = some (lst []) := hsb₁.extBut _ _ hDC (Heap.get?_push_of_some _ (hH2 ▸ Heap.get?_push_size _ rfl))
  have hst₁ : St 0 h₁ := W.frame _ _ _ hst fun b _ o e => old b o e
  have fresh : ∀ a, s₂.heap.objs.size ≤ a → s₂.heap.get? a = none := fun a ha => by
    cases e : s₂.heap.get? a with
    | none => rfl
    | some o' => exact absurd (Heap.lt_size e) (Nat.not_lt.mpr ha)
  have fresh₀ : ∀ a, s₂.heap.objs.size ≤ a → h₀.get? a = none := fun a ha => by
    cases e : h₀.get? a with
    | none => rfl
    | some o' => have := F.keep a o' e; rw [fresh a ha] at this; cases this
  have hD₀ : h₀.get? s₂.heap.objs.size = none := fresh₀ _ (Nat.le_refl _)
  have hC₀ : h₀.get? H2.objs.size = none := fresh₀ _ (by rw [hC]; exact Nat.le_succ _)
  have hLlt : L < s₂.heap.objs.size := F.ns.lt
  have hDL : s₂.heap.objs.size ≠ L := Ne.symm (below L hLlt).2
  have hCL : H2.objs.size ≠ L := Ne.symm (below L hLlt).1
  have hDf : s₂.heap.objs.size ∉ fp := fun hm => Nat.lt_irrefl _ (hfp _ hm)
  have hCf : H2.objs.size ∉ fp := fun hm => by have := hfp _ hm; rw [hC] at this; exact Nat.lt_irrefl _ (Nat.lt_of_succ_lt this)
  have hDw : s₂.heap.objs.size ∉ wr := fun hm => hDf (W.sub _ hm)
  have hCw : H2.objs.size ∉ wr := fun hm => hCf (W.sub _ hm)
  have hLw : L ∉ wr := fun hm => hLf (W.sub _ hm)
  have offn : ∀ p ∈ news, p.1 < s₂.heap.objs.size := fun p hp => Heap.lt_size (N p hp).1
  have next : ∀ {h h' : Heap}, Fr h₀ L h m → (∀ b o, b ∉ wr → h.get? b = some o → h'.get? b = some o) → Fr h₀ L h' m := fun {h h'} F' hk =>
    ⟨F'.ns.at' fun o e => hk L o hLw e, fun b o e => hk b o (fun hm => by rw [hwr b hm] at e; cases e) (F'.keep b o e), F'.above⟩
  have nextN : ∀ {h h' : Heap} {ys : List Value}, News h₀ L h ((s₂.heap.objs.size, lst ys) :: news) → (∀ b o, b ∉ wr → h.get? b = some o → h'.get? b = some o) → News h₀ L h' ((s₂.heap.objs.size, lst ys) :: news) := fun {h h' ys} N' hk p hp => by
    refine ⟨hk _ _ ?_ (N' p hp).1, (N' p hp).2⟩
    rcases List.mem_cons.mp hp with rfl | hp
    · exact hDw
    · exact hnw p hp
  have loop : ∀ s₃ : Shared, s₃ = { s₂ with heap := h₁, toks := s₂.toks + ([] : List (Str × Value)).length } →
      codeAny (model prog w) A (.compLoop (.ListComp elt [⟨.Tuple [.Name a pa, .Name b pb] kk tp, iter, ifs, 0⟩] scope pos) 0 (.ref I) (.ref s₂.heap.objs.size) (compEnvC scope cl H2.objs.size env))
        (RR (.ref s₂.heap.objs.size) H2.objs.size) s₃ := by
    rintro s₃ rfl
    refine zc_loop
      (fun k s' => ∃ h' tk i ys m', s' = { s₂ with heap := h', toks := tk } ∧ i ≤ n ∧ k = n + 1 - i ∧ J i ys ∧ St i h' ∧ Fr h₀ L h' m ∧ h'.Ns H2.objs.size m' ∧ News h₀ L h' ((s₂.heap.objs.size, lst ys) :: news)) ?_ (n + 1)
      ⟨h₁, _, 0, [], _, rfl, Nat.zero_le _, rfl, h0, hst₁, F.keeps old, hns₁, fun p hp => ?_⟩
    · rintro k s' ⟨h', tk, i, ys, m', rfl, hi, rfl, hJ, hst', F', hn', N'⟩
      by_cases hlt : i < n
      · refine W.item i _ _ _ hlt hst' fun T vals h₂ tk₂ hPv _ hT hMd hk₂ => ?_
        refine W.go _ _ _ i T _ _ _ hMd fun h₃ hst₃ hk₃ => ?_
        have hT₃ : h₃.IsTuple T vals := hT.at fun o e => hk₃ T o (W.apart i T _ hMd) e
        obtain ⟨x, y, rfl, hP⟩ := hPt i vals hPv
        have k23 : ∀ b o, b ∉ wr → h'.get? b = some o → h₃.get? b = some o := fun b o hb e => hk₃ b o hb (hk₂ b o hb e)
        refine kcp_assign (env := compEnvC scope cl H2.objs.size env) hh hT₃ (lookup_relabel_local hxa) (lookup_relabel_local hxb) (by simp [compEnvC, relabel, hkind]) (hn'.at' fun o e => k23 _ o hCw e) fun h₄ tk₄ hn₄ hs₄ => ?_
        have F₃ := next F' k23
        have N₃ := nextN N' k23
        have F₄ : Fr h₀ L h₄ m := ⟨F₃.ns.at' fun o e => hs₄ _ o (Ne.symm hCL) e, fun b o e => hs₄ b o (fun q => by rw [q] at e; exact absurd (hC₀.symm.trans e) (fun z => nomatch z)) (F₃.keep b o e), F₃.above⟩
        have hst₄ : St (i + 1) h₄ := W.frame _ _ _ hst₃ fun b hb o e => hs₄ b o (fun q => notmem_ne hCf hb q) e
        obtain ⟨oC, heC, hoC⟩ := ns_obj hn₄
        have heC' : h₄.get? H2.objs.size = some oC := heC
        have own_lt : ∀ p ∈ PyProof.Rows.ownOf h₀ fp h₄ ++ news, p.1 < s₂.heap.objs.size := fun p hp => by
          rcases List.mem_append.mp hp with hp | hp
          · exact hfp _ (ownOf_sub p hp)
          · exact offn p hp
        have N₄ : News h₀ L h₄ ((H2.objs.size, oC) :: (s₂.heap.objs.size, lst ys) :: (PyProof.Rows.ownOf h₀ fp h₄ ++ news)) := fun p hp => by
          rcases List.mem_cons.mp hp with rfl | hp
          · exact ⟨heC', hCL, hC₀⟩
          rcases List.mem_cons.mp hp with rfl | hp
          · exact ⟨hs₄ _ _ hDC (N₃ _ List.mem_cons_self).1, (N₃ _ List.mem_cons_self).2⟩
          rcases List.mem_append.mp hp with hp | hp
          · exact news_ownOf hLf p hp
          · exact ⟨hs₄ _ _ (below _ (offn p hp)).1 (N₃ _ (List.mem_cons_of_mem _ hp)).1, (N₃ _ (List.mem_cons_of_mem _ hp)).2⟩
        have keepSt : ∀ {h₅ : Heap} {ys' : List Value}, Fr h₀ L h₅ m → News h₀ L h₅ ((H2.objs.size, oC) :: (s₂.heap.objs.size, lst ys') :: (PyProof.Rows.ownOf h₀ fp h₄ ++ news)) → St (i + 1) h₅ := fun {h₅ ys'} F₅ N₅ =>
          W.frame _ _ _ hst₄ fun b hb o e => by
            cases hn : h₀.get? b with
            | some o₀ =>
              have : o₀ = o := by have q := F₄.keep b o₀ hn; rw [e] at q; exact (Option.some.inj q).symm
              exact this ▸ F₅.keep b o₀ hn
            | none => exact (N₅ _ (List.mem_cons_of_mem _ (List.mem_cons_of_mem _ (List.mem_append_left _ (mem_ownOf hb hn e))))).1
        refine wpAny_mono (step i x y ys _ H2.objs.size oC s₂.heap.objs.size _ h₄ tk₄ _ hlt hP hJ hoC (by simp [hab]) (by simp) F₄ N₄ (Ne.symm hDC) own_lt (by rw [hC]; exact Nat.lt_succ_self _)) (fun okb s₅ h₅ => ?_) fun _ _ e => e
        cases okb with
        | false =>
          simp only [Bool.false_eq_true, if_false] at h₅ ⊢
          obtain ⟨h₅, tk₅, rfl, F₅, N₅, J₅⟩ := h₅
          refine ⟨n + 1 - (i + 1), by omega, h₅, tk₅, i + 1, ys, _, rfl, hlt, rfl, J₅, keepSt F₅ N₅, F₅, hoC.ns (N₅ _ List.mem_cons_self).1, fun p hp => ?_⟩
          rcases List.mem_cons.mp hp with rfl | hp
          · exact N₅ _ (List.mem_cons_of_mem _ List.mem_cons_self)
          · exact N₅ _ (List.mem_cons_of_mem _ (List.mem_cons_of_mem _ (List.mem_append_right _ hp)))
        | true =>
          simp only [if_true] at h₅ ⊢
          refine wpAny_mono h₅ (fun v s₆ h₆ => ?_) fun _ _ e => e
          obtain ⟨h₅, tk₅, rfl, F₅, N₅, J₅⟩ := h₆
          have zC := (N₅ _ List.mem_cons_self).1
          have zD := (N₅ _ (List.mem_cons_of_mem _ List.mem_cons_self)).1
          refine append_at (hsz := by show ys.toArray.size ≤ sizeLine; rw [List.size_toArray]; exact Nat.le_trans (hJl i ys hJ) (Nat.le_trans hi hsz)) zD fun h₆ hs₆ hD₆ => ?_
          have st₆ : St (i + 1) h₆ := W.frame _ _ _ (keepSt F₅ N₅) fun b hb o e => hs₆.extBut b o (fun q => notmem_ne hDf hb q) e
          refine ⟨n + 1 - (i + 1), by omega, h₆, tk₅, i + 1, ys ++ [v], _, rfl, hlt, rfl, J₅, st₆, F₅.change hs₆ hDL hD₀, (hoC.ns zC).sameBut hs₆ (Ne.symm hDC), fun p hp => ?_⟩
          rcases List.mem_cons.mp hp with rfl | hp
          · exact ⟨hD₆.trans (congrArg some (lst_snoc ys v)), hDL, hD₀⟩
          · have z := N₅ p (List.mem_cons_of_mem _ (List.mem_cons_of_mem _ (List.mem_append_right _ hp)))
            exact ⟨hs₆.extBut _ _ (below _ (offn p hp)).2 z.1, z.2⟩
      · obtain rfl : i = n := Nat.le_antisymm hi (Nat.not_lt.mp hlt)
        refine W.done _ _ _ hst' fun h₂ tk₂ hk₂ => ?_
        exact hRR _ _ h₂ tk₂ _ ys (next F' hk₂) (nextN N' hk₂) offn (hn'.at' fun o e => hk₂ _ o hCw e) hC₀ hCL (Ne.symm hDC) (fun p hp => (below _ (offn p hp)).1) hJ
    · rcases List.mem_cons.mp hp with rfl | hp
      · exact ⟨hacc, hDL, hD₀⟩
      · exact ⟨old _ _ (N p hp).1, (N p hp).2⟩
  exact codeAny_compStart_list (loop _ rfl) (W.self 0 _ _ _ hst₁ (loop _ rfl))
/-- what the iterable of such a comprehension must bring -/
def ZSrc (prog : Program) (w : World) (A : Around) (h₀ : Heap) (L : Addr) (m : Str → Option Value) (env : Env) (ifs : List PySem.Expr) (elt : PySem.Expr) (a b : Str) (scope : Scope) (cl : List (Str × Addr)) (Q : Value → Shared → Prop) (xv : Value) (s₁ : Shared) : Prop :=
  ∃ (I : Addr) (fp wr : List Addr) (n : Nat) (Pt : Nat → Array Value → Prop) (P : Nat → Value → Value → Prop) (St : Nat → Heap → Prop) (Mid : Nat → Addr → Heap → Prop) (news : List (Addr × Obj)) (J : Nat → List Value → Prop),
    xv = .ref I ∧ A.handled = none ∧ WalksT prog w A I fp wr n Pt St Mid ∧ (∀ i vals, Pt i vals → ∃ x y, vals = #[x, y] ∧ P i x y) ∧ St 0 s₁.heap ∧ (∀ b ∈ fp, b < s₁.heap.objs.size) ∧ n ≤ sizeLine ∧ (∀ i ys, J i ys → ys.length ≤ i) ∧
    Fr h₀ L s₁.heap m ∧ News h₀ L s₁.heap news ∧ L ∉ fp ∧ (∀ b ∈ wr, h₀.get? b = none) ∧ (∀ p ∈ news, p.1 ∉ wr) ∧ J 0 [] ∧ ZStep prog w A h₀ L m env ifs elt a b scope cl s₁ n P J news ∧
    ∀ D h tk ys, Fr h₀ L h m → News h₀ L h ((D, lst ys) :: news) → (∀ p ∈ news, p.1 < D) → J n ys → Q (.ref D) { s₁ with heap := h, toks := tk }
theorem zc_ListComp {elt iter : PySem.Expr} {ifs : List PySem.Expr} {a b : Str} {pa pb tp : Pos} {kk : Nat} {scope : Scope} {cl : List (Str × Addr)} {pos : Pos} {Q : Value → Shared → Prop} (_F₀ : Fr h₀ L s.heap m)
    (hclos : closureFor scope env = pure cl) (hcell : ∀ y ∈ scope.names, y.2 ≠ .cell) (hkind : scope.kind = .function)
    (hnames : ∀ y ∈ scope.names, y.2 = .local → scope.names.lookup y.1 = some .local) (hxa : scope.names.lookup a = some .local) (hxb : scope.names.lookup b = some .local) (hab : ¬ a = b)
    (h : wpAny (model prog w) A (eval iter env) (ZSrc prog w A h₀ L m env ifs elt a b scope cl Q) E s)
    (hs : ∀ x, foldedSetIterable iter env x = pure x := by intro _; rfl) :
    wpAny (model prog w) A (eval (.ListComp elt [⟨.Tuple [.Name a pa, .Name b pb] kk tp, iter, ifs, 0⟩] scope pos) env) Q E s := by
  rw [eval_ListComp]
  refine wpAny_comprehension_free (use := none) rfl hs hclos hkind hnames (wpAny_mono h (fun xv s₁ h₁ => ?_) fun _ _ e => e)
  obtain ⟨I, fp, wr, n, Pt, P, St, Mid, news, J, rfl, hh, W, hPt, hst, hfp, hsz, hJl, F, N, hLf, hwr, hnw, h0, step, fin⟩ := h₁
  refine W.self 0 _ _ _ hst (zc_block hh W hPt hst hfp hsz hJl hcell hkind hxa hxb hab F N hLf hwr hnw h0 step ?_)
  intro D C h tk m' ys F' N' o1 hn hC₀ hCL hCD offC hJ
  refine ⟨m', hn, fun h'' hs'' => fin D h'' tk ys (F'.change hs'' hCL hC₀) (fun p hp => ?_) o1 hJ⟩
  refine ⟨hs''.extBut _ _ ?_ (N' p hp).1, (N' p hp).2⟩
  rcases List.mem_cons.mp hp with rfl | hp
  · exact Ne.symm hCD
  · exact offC p hp
end
end Mine
end
section
set_option maxRecDepth 100000
open PySem PySem.W PyProof.Rows PySem.Calls PyProof.Rows.LCg
namespace Mine
theorem pick_eq {α : Type} (l : List α) (a : Nat) : ∀ c, a + c ≤ l.length → ((List.range c).map (fun k => a + k)).filterMap (fun i => l[i]?) = (l.drop a).take c
  | 0, _ => by simp
  | c + 1, h => by
    rw [List.range_succ, List.map_append, List.filterMap_append, pick_eq l a c (by omega)]
    have hlt : a + c < l.length := by omega
    have e : (l.drop a)[c]? = some l[a + c] := by rw [List.getElem?_drop]; simp [hlt]
    rw [List.take_succ, e]
    simp [hlt]
theorem slice_codes (x : Str) {i j : Int} (h0 : 0 ≤ i) (hij : i ≤ j) : (Txt.slice x (some i) (some j)).cps.toList = (x.cps.toList.drop i.toNat).take (j - i).toNat := by
  have hn : x.length = x.cps.toList.length := by simp [Str.length]
  have key : Builtin.Str.strSliceIndices (some i) (some j) 1 x.length = (List.range (min j.toNat x.length - min i.toNat x.length)).map (fun k => min i.toNat x.length + k) := by
    have hi0 : ¬ i < 0 := by omega
    have hj0 : ¬ j < 0 := by omega
    unfold Builtin.Str.strSliceIndices sliceRange
    simp only [show (1 : Int) > 0 by decide, if_true, hi0, hj0, if_false]
    have e1 : (max 0 (min i (x.length : Int))) = ((min i.toNat x.length : Nat) : Int) := by omega
    have e2 : (max 0 (min j (x.length : Int))) = ((min j.toNat x.length : Nat) : Int) := by omega
    rw [e1, e2]
    have e3 : (if ((min i.toNat x.length : Nat) : Int) < ((min j.toNat x.length : Nat) : Int) then (((min j.toNat x.length : Nat) : Int) - ((min i.toNat x.length : Nat) : Int) + 1 - 1) / 1 else 0).toNat = min j.toNat x.length - min i.toNat x.length := by
      split <;> omega
    rw [e3]
    refine List.map_congr_left fun k _ => ?_
    omega
  unfold Txt.slice
  rw [key]
  have hl : ((List.range (min j.toNat x.length - min i.toNat x.length)).map (fun k => min i.toNat x.length + k)).length = min j.toNat x.length - min i.toNat x.length := by simp
  have e : (j - i).toNat = j.toNat - i.toNat := by omega
  split
  · rename_i h
    rw [hl] at h
    have h' : min j.toNat x.length - min i.toNat x.length = x.length := by simpa using h
    by_cases hz : x.length = 0
    · have : x.cps.toList = [] := List.eq_nil_of_length_eq_zero (by omega)
      simp [this]
    · have hi : i.toNat = 0 := by omega
      rw [hi, List.drop_zero, List.take_of_length_le (by omega)]
  · show (List.filterMap (fun k => x.cps[k]?) _).toArray.toList = _
    have e4 : (fun k : Nat => x.cps[k]?) = (fun k : Nat => x.cps.toList[k]?) := by funext k; simp
    rw [e4]
    show List.filterMap _ _ = _
    rw [pick_eq _ _ _ (by omega), e]
    rcases Nat.lt_or_ge x.length i.toNat with q | q
    · rw [List.drop_of_length_le (by omega), List.drop_of_length_le (by omega)]; simp
    · have e5 : min i.toNat x.length = i.toNat := by omega
      rw [e5]
      rcases Nat.lt_or_ge x.length j.toNat with q' | q'
      · have e6 : min j.toNat x.length = x.length := by omega
        rw [e6, List.take_of_length_le (by rw [List.length_drop, ← hn]; omega), List.take_of_length_le (by rw [List.length_drop, ← hn]; omega)]
      · have e6 : min j.toNat x.length = j.toNat := by omega
        rw [e6]
/-- a run lies on the signs: each of its texts is empty or is the sign -/
def liesF : List Str → List Nat → Bool
  | [], _ => true
  | _ :: _, [] => false
  | p :: r, c :: cs => (p == Str.ofString "" || p == ⟨#[c]⟩) && liesF r cs

section
variable {prog : Program} {w : World} {A : Around} {E : Value → Shared → Prop} {s : Shared} {h₀ : Heap} {L : Addr} {m : Str → Option Value} {env : Env}
abbrev zsH1 (h : Heap) (l1 : Addr) : Heap := h.push { cls := .type "list_iterator", data := .fields #[.ref l1, .int 0 0] }
abbrev zsH2 (h : Heap) (l1 : Addr) (y : Str) (t : Tok) : Heap := (zsH1 h l1).push { cls := .type (strIterType y), data := .fields #[.str y t, .int 0 0] }
abbrev zsH3 (h : Heap) (l1 : Addr) (y : Str) (t : Tok) : Heap := (zsH2 h l1 y t).push { cls := .type "tuple", data := .seq #[.ref h.objs.size, .ref (zsH1 h l1).objs.size] }
abbrev zsH4 (h : Heap) (l1 : Addr) (y : Str) (t : Tok) : Heap := (zsH3 h l1 y t).push { cls := .type "tuple", data := .seq #[.none, .none] }
abbrev zsH5 (h : Heap) (l1 : Addr) (y : Str) (t : Tok) : Heap := (zsH4 h l1 y t).push { cls := .type "zip", data := .fields #[.none, .bool false, .bool false, .ref (zsH2 h l1 y t).objs.size, .ref (zsH3 h l1 y t).objs.size] }
set_option maxHeartbeats 4000000 in
theorem meets_zip_newS (l1 : Addr) (y : Str) (t : Tok) (xs : Array Value) :
    Meets (Builtin.«zip.__new__» ⟨[.type "zip", .ref l1, .str y t], []⟩) (fun _ R s => s.heap.IsList l1 xs ∧
      R (.ok (.ret (.ref (zsH4 s.heap l1 y t).objs.size))) { s with heap := zsH5 s.heap l1 y t }) :=
  .of_wp fun prog w A R s h => by
    obtain ⟨hp, g, d, tk, os⟩ := s; obtain ⟨hl1, h⟩ := h
    have hsub := sub_zip
    have hL1 : Heap.IsList (Shared.heap ⟨hp, g, d, tk, os⟩) l1 xs := hl1
    wp_walk using wpAny_pyIter_list hL1, wpAny_pyIter_strU
    exact ⟨_, rfl, h⟩
theorem call_zipS {l1 : Addr} {y : Str} {t : Tok} {xs : Array Value} {Q : Value → Shared → Prop} (hl1 : s.heap.IsList l1 xs)
    (h : ∀ h', IsZip h' (s.heap.objs.size + 4) (s.heap.objs.size + 2) (s.heap.objs.size + 3) .none → IsPair h' (s.heap.objs.size + 2) (.ref s.heap.objs.size) (.ref (s.heap.objs.size + 1)) →
      IsPair h' (s.heap.objs.size + 3) .none .none → h'.IsListIter s.heap.objs.size l1 0 → h'.IsStrIter (s.heap.objs.size + 1) (strIterType y) y t 0 → h'.objs.size = s.heap.objs.size + 5 →
      (∀ c o, s.heap.get? c = some o → h'.get? c = some o) → Q (.ref (s.heap.objs.size + 4)) { s with heap := h' }) :
    wpAny (model prog w) A (call (.type "zip") [.ref l1, .str y t]) Q E s := by
  refine callType_new F.called_zip (by decide) (F.typeCall_zip_2 _ _) (F.newCall_zip_2 _ _) (fun obj => F.args_object_init_3 obj _ _) F.entry_zip_new
    (meets_zip_newS l1 y t xs) ⟨hl1, ?_⟩
  have z1 : (zsH1 s.heap l1).objs.size = s.heap.objs.size + 1 := Heap.size_push ..
  have z2 : (zsH2 s.heap l1 y t).objs.size = s.heap.objs.size + 2 := by rw [Heap.size_push, z1]
  have z3 : (zsH3 s.heap l1 y t).objs.size = s.heap.objs.size + 3 := by rw [Heap.size_push, z2]
  have z4 : (zsH4 s.heap l1 y t).objs.size = s.heap.objs.size + 4 := by rw [Heap.size_push, z3]
  have z5 : (zsH5 s.heap l1 y t).objs.size = s.heap.objs.size + 5 := by rw [Heap.size_push, z4]
  have g5 : (zsH5 s.heap l1 y t).get? (zsH4 s.heap l1 y t).objs.size = some _ := Heap.get?_push_size _ rfl
  have g4 : (zsH5 s.heap l1 y t).get? (zsH3 s.heap l1 y t).objs.size = some _ := Heap.get?_push_of_some _ (Heap.get?_push_size _ rfl)
  have g3 : (zsH5 s.heap l1 y t).get? (zsH2 s.heap l1 y t).objs.size = some _ := Heap.get?_push_of_some _ (Heap.get?_push_of_some _ (Heap.get?_push_size _ rfl))
  have g2 : (zsH5 s.heap l1 y t).get? (zsH1 s.heap l1).objs.size = some _ := Heap.get?_push_of_some _ (Heap.get?_push_of_some _ (Heap.get?_push_of_some _ (Heap.get?_push_size _ rfl)))
  have g1 : (zsH5 s.heap l1 y t).get? s.heap.objs.size = some _ := Heap.get?_push_of_some _ (Heap.get?_push_of_some _ (Heap.get?_push_of_some _ (Heap.get?_push_of_some _ (Heap.get?_push_size _ rfl))))
  show _ ∧ _
  rw [z2, z3, z4] at g5
  rw [z1, z2] at g3
  rw [z3] at g4
  rw [z1] at g2
  rw [z4]
  exact ⟨⟨_, g5, rfl⟩, h _ g5 g3 g4 ⟨_, g1, rfl, rfl⟩ ⟨_, g2, rfl, rfl⟩ z5 fun c o x =>
    Heap.get?_push_of_some _ (Heap.get?_push_of_some _ (Heap.get?_push_of_some _ (Heap.get?_push_of_some _ (Heap.get?_push_of_some _ x))))⟩
theorem zs_za {n l : Nat} (hl : l < n) : ZA (n + 4) (n + 2) (n + 3) n (n + 1) [n, l] [n + 1] where
  TIz := show @Ne Nat (n + 2) (n + 4) by omega
  TOz := show @Ne Nat (n + 3) (n + 4) by omega
  TITO := show @Ne Nat (n + 2) (n + 3) by omega
  TIi1 := show @Ne Nat (n + 2) n by omega
  TIi2 := show @Ne Nat (n + 2) (n + 1) by omega
  TOi1 := show @Ne Nat (n + 3) n by omega
  TOi2 := show @Ne Nat (n + 3) (n + 1) by omega
  i1z := show @Ne Nat n (n + 4) by omega
  i2z := show @Ne Nat (n + 1) (n + 4) by omega
  z1 := fun h => by have h' : @Eq Nat (n + 4) n ∨ @Eq Nat (n + 4) l := by simpa using h
                    omega
  z2 := fun h => by have h' : @Eq Nat (n + 4) (n + 1) := by simpa using h
                    omega
  T1 := fun h => by have h' : @Eq Nat (n + 3) n ∨ @Eq Nat (n + 3) l := by simpa using h
                    omega
  T2 := fun h => by have h' : @Eq Nat (n + 3) (n + 1) := by simpa using h
                    omega
  i12 := fun h => by have h' : @Eq Nat n (n + 1) := by simpa using h
                     omega
  i21 := fun h => by have h' : @Eq Nat (n + 1) n ∨ @Eq Nat (n + 1) l := by simpa using h
                     omega
theorem zs_mem {n l b : Nat} (hl : l < n) (hb : b ∈ (n + 4) :: (n + 2) :: (n + 3) :: ([n, l] ++ [n + 1])) : b < n + 5 := by
  have h' : b = n + 4 ∨ b = n + 2 ∨ b = n + 3 ∨ b = n ∨ b = l ∨ b = n + 1 := by simpa using hb
  omega
theorem zs_off {n l c : Nat} (hl : l ≠ c) (hc : c < n) : c ∉ (n + 4) :: (n + 2) :: (n + 3) :: ([n, l] ++ [n + 1]) := fun hb => by
  have h' : c = n + 4 ∨ c = n + 2 ∨ c = n + 3 ∨ c = n ∨ c = l ∨ c = n + 1 := by simpa using hb
  omega
theorem zs_wr {n b : Nat} (hb : b ∈ [n + 4, n + 3, n, n + 1]) : n ≤ b := by
  have h' : b = n + 4 ∨ b = n + 3 ∨ b = n ∨ b = n + 1 := by simpa using hb
  omega
theorem zs_news {n b : Nat} (hb : b < n) : b ∉ [n + 4, n + 3, n, n + 1] := fun h => by
  have := zs_wr h
  omega
theorem zip_src {ifs : List PySem.Expr} {elt : PySem.Expr} {a b : Str} {scope : Scope} {cl : List (Str × Addr)} {l : Addr} {us : List Value} {cnt : Nat} {y : Str} {t : Tok} {news : List (Addr × Obj)} {Q : Value → Shared → Prop} (J : Nat → List Value → Prop)
    (hh : A.handled = none) (F : Fr h₀ L s.heap m) (N : News h₀ L s.heap news) (hm : (l, W.listOf us.toArray cnt) ∈ news) (hsz : us.length ≤ 100000) (h0 : J 0 []) (hJl : ∀ i ys, J i ys → ys.length ≤ i)
    (step : ∀ g, ZStep prog w A h₀ L m env ifs elt a b scope cl { s with heap := g } (min us.length y.cps.size) (fun i vx vy => us[i]? = some vx ∧ ∃ c u, y.cps[i]? = some c ∧ vy = .str ⟨#[c]⟩ u) J news)
    (fin : ∀ D h tk ys, Fr h₀ L h m → News h₀ L h ((D, lst ys) :: news) → (∀ p ∈ news, p.1 < D) → J (min us.length y.cps.size) ys → Q (.ref D) { s with heap := h, toks := tk }) :
    wpAny (model prog w) A (call (.type "zip") [.ref l, .str y t]) (ZSrc prog w A h₀ L m env ifs elt a b scope cl Q) E s := by
  have hl : s.heap.IsList l us.toArray := ⟨_, (N _ hm).1, rfl, cnt, rfl⟩
  have hlt : l < s.heap.objs.size := Heap.lt_size (N _ hm).1
  have hLlt : L < s.heap.objs.size := F.ns.lt
  have hlL : l ≠ L := (N _ hm).2.1
  have fresh₀ : ∀ a, s.heap.objs.size ≤ a → h₀.get? a = none := fun a ha => Heap.get?_none_of_le (Nat.le_of_lt (Nat.lt_of_le_of_lt F.above (Nat.lt_of_lt_of_le hLlt ha)))
  refine call_zipS hl fun h' hz hTI hTO hi1 hi2 hsz' hk => ?_
  have D := zs_za hlt
  refine ⟨_, _, _, _, _, fun i vx vy => us[i]? = some vx ∧ ∃ c u, y.cps[i]? = some c ∧ vy = .str ⟨#[c]⟩ u, _, _, news, J, rfl, hh, WalksT.zipD _ _ _ _ _ D (Draws.list (A := A.in1) hh s.heap.objs.size l (Nat.ne_of_lt hlt) us.toArray) (Draws.str (A := A.in1) hh (s.heap.objs.size + 1) y t) (by simp) (by simp), ?_, ⟨hz, hTI, ⟨_, _, hTO⟩, ⟨hi1, hl.at fun o e => hk l o e⟩, hi2⟩, ?_, ?_, hJl,
    F.keeps hk, N.grown hk, ?_, ?_, ?_, h0, ?_, fin⟩
  · rintro i vals ⟨vx, vy, h1, h2, rfl⟩
    exact ⟨vx, vy, rfl, by simpa using h1, h2⟩
  · intro b hb
    show b < h'.objs.size
    rw [hsz']
    exact zs_mem hlt hb
  · exact Nat.le_trans (Nat.min_le_left _ _) (Nat.le_trans (by simpa using hsz) (by decide))
  · exact zs_off hlL hLlt
  · exact fun b hb => fresh₀ _ (zs_wr hb)
  · exact fun p hp => zs_news (Heap.lt_size (N p hp).1)
  · have e : min us.toArray.size y.cps.size = min us.length y.cps.size := by simp
    rw [e]
    exact step h'
end
end Mine
end
section
set_option maxRecDepth 100000
open PySem PySem.W PyProof.Rows PySem.Calls PyProof.Rows.LCg
namespace Mine
theorem strs_at : ∀ {us : List Value} {xs : List Str} {i : Nat} {v : Value}, StrsAre us xs → us[i]? = some v → ∃ p t, xs[i]? = some p ∧ v = .str p t
  | _, _, 0, _, .cons x t _, h => ⟨x, t, by simp, by simpa using h.symm⟩
  | _, _, i + 1, _, .cons x t h', h => strs_at (i := i) h' (by simpa using h)
/-- what the comprehension of _law_lies has in its list after i turns -/
def LiesJ (xs : List Str) (cs : List Nat) (i : Nat) (vs : List Value) : Prop :=
  vs.length ≤ i ∧ (vs = [] ↔ ∀ k, k < i → ∀ p c, xs[k]? = some p → cs[k]? = some c → p = Str.ofString "" ∨ p = ⟨#[c]⟩)
theorem liesJ_skip {xs : List Str} {cs : List Nat} {i : Nat} {vs : List Value} {p : Str} {c : Nat} (h : LiesJ xs cs i vs) (hp : xs[i]? = some p) (hc : cs[i]? = some c) (ha : ([Str.ofString "", ⟨#[c]⟩].any fun x => x == p) = true) : LiesJ xs cs (i + 1) vs := by
  refine ⟨Nat.le_succ_of_le h.1, h.2.trans ⟨fun f k hk p' c' hp' hc' => ?_, fun f k hk => f k (Nat.lt_succ_of_lt hk)⟩⟩
  rcases Nat.lt_or_ge k i with q | q
  · exact f k q p' c' hp' hc'
  · have : k = i := by omega
    subst this
    rw [hp] at hp'; rw [hc] at hc'
    cases hp'; cases hc'
    simp only [List.any_cons, List.any_nil, Bool.or_false, Bool.or_eq_true, beq_iff_eq] at ha
    rcases ha with ha | ha
    · exact .inl ha.symm
    · exact .inr ha.symm
theorem liesJ_add {xs : List Str} {cs : List Nat} {i : Nat} {vs : List Value} {v : Value} {p : Str} {c : Nat} (h : LiesJ xs cs i vs) (hp : xs[i]? = some p) (hc : cs[i]? = some c) (ha : ([Str.ofString "", ⟨#[c]⟩].any fun x => x == p) = false) : LiesJ xs cs (i + 1) (vs ++ [v]) := by
  refine ⟨by simpa using h.1, ⟨fun e => by simp at e, fun f => ?_⟩⟩
  simp only [List.any_cons, List.any_nil, Bool.or_false, Bool.or_eq_false_iff, beq_eq_false_iff_ne] at ha
  rcases f i (Nat.lt_succ_self _) p c hp hc with e | e
  · exact absurd e.symm ha.1
  · exact absurd e.symm ha.2
theorem liesF_take : ∀ (xs : List Str) (cs : List Nat), liesF xs (cs.take xs.length) = liesF xs cs
  | [], _ => by simp [liesF]
  | p :: r, [] => by simp [liesF]
  | p :: r, c :: cs => by simp [liesF, liesF_take r cs]
theorem liesF_short : ∀ {xs : List Str} {cs : List Nat}, cs.length < xs.length → liesF xs cs = false
  | [], _, h => by simp at h
  | p :: r, [], _ => rfl
  | p :: r, c :: cs, h => by
    have : cs.length < r.length := by simpa using h
    simp [liesF, liesF_short this]
theorem liesF_iff : ∀ {xs : List Str} {cs : List Nat}, cs.length = xs.length → (liesF xs cs = true ↔ ∀ k, k < xs.length → ∀ p c, xs[k]? = some p → cs[k]? = some c → p = Str.ofString "" ∨ p = ⟨#[c]⟩)
  | [], _, _ => by simp [liesF]
  | p :: r, [], h => by simp at h
  | p :: r, c :: cs, h => by
    have hl : cs.length = r.length := by simpa using h
    simp only [liesF, Bool.and_eq_true, Bool.or_eq_true, beq_iff_eq]
    rw [liesF_iff hl]
    constructor
    · rintro ⟨h1, h2⟩ k hk p' c' hp hc
      cases k with
      | zero => simp at hp hc; subst hp; subst hc; exact h1
      | succ k => exact h2 k (by simpa using hk) p' c' (by simpa using hp) (by simpa using hc)
    · intro f
      refine ⟨f 0 (by simp) p c (by simp) (by simp), fun k hk p' c' hp hc => f (k + 1) (by simpa using hk) p' c' (by simpa using hp) (by simpa using hc)⟩
theorem lies_end {xs : List Str} {y : Str} {us : List Value} {i : Int} {vs : List Value} (hs : StrsAre us xs) (h0 : 0 ≤ i) (hl : ((Txt.slice y (some i) (some (i + us.length))).length : Int) = us.length)
    (hJ : LiesJ xs (Txt.slice y (some i) (some (i + us.length))).cps.toList (min us.length (Txt.slice y (some i) (some (i + us.length))).cps.size) vs) : (liesF xs (y.cps.toList.drop i.toNat) = true ↔ vs = []) := by
  have hx := strs_length hs
  have hlen : (Txt.slice y (some i) (some (i + us.length))).cps.size = us.length := by
    have : (Txt.slice y (some i) (some (i + us.length))).length = (Txt.slice y (some i) (some (i + us.length))).cps.size := rfl
    omega
  rw [hlen, Nat.min_self] at hJ
  have e := slice_codes y (i := i) (j := i + us.length) h0 (by omega)
  have e2 : (i + (us.length : Int) - i).toNat = xs.length := by omega
  rw [e2] at e
  have h := liesF_iff (xs := xs) (cs := (Txt.slice y (some i) (some (i + us.length))).cps.toList) (by rw [hx]; exact hlen)
  rw [hJ.2, ← liesF_take, ← e, h, hx]
theorem lies_no {xs : List Str} {y : Str} {us : List Value} {i : Int} (hs : StrsAre us xs) (h0 : 0 ≤ i) (hl : ((Txt.slice y (some i) (some (i + us.length))).length : Int) ≠ us.length) : liesF xs (y.cps.toList.drop i.toNat) = false := by
  have hx := strs_length hs
  have e := slice_codes y (i := i) (j := i + us.length) h0 (by omega)
  have e2 : (i + (us.length : Int) - i).toNat = xs.length := by omega
  rw [e2] at e
  have e3 : (Txt.slice y (some i) (some (i + us.length))).length = ((y.cps.toList.drop i.toNat).take xs.length).length := by rw [← e]; simp [Str.length]
  rw [← liesF_take]
  refine liesF_short ?_
  have : ((y.cps.toList.drop i.toNat).take xs.length).length ≤ xs.length := by simp; omega
  omega
section
variable {prog : Program} {w : World} {A : Around} {E : Value → Shared → Prop} {s : Shared} {h₀ : Heap} {L : Addr}
theorem eqL_nil {D D2 : Addr} {k k2 : Nat} {news : List (Addr × Obj)} {Q : Value → Shared → Prop} (N : News h₀ L s.heap news) (h1 : (D, ({ cls := .type "list", data := .seq ([] : List Value).toArray k } : Obj)) ∈ news) (h2 : (D2, ({ cls := .type "list", data := .seq ([] : List Value).toArray k2 } : Obj)) ∈ news) (hu : A.units < cLine)
    (h : Q (.bool true) s) : wpAny (model prog w) A (compareOp .Eq (.ref D) (.ref D2)) Q E s :=
  PySem.SeqAt.eq_listAt (e := fun _ => true) ⟨_, (N _ h1).1, rfl, k, rfl⟩ ⟨_, (N _ h2).1, rfl, k2, rfl⟩ rfl hu (fun j q => by simp at q) h
theorem eqL_cons {D D2 : Addr} {k k2 : Nat} {v : Value} {r : List Value} {news : List (Addr × Obj)} {Q : Value → Shared → Prop} (N : News h₀ L s.heap news) (h1 : (D, ({ cls := .type "list", data := .seq (v :: r).toArray k } : Obj)) ∈ news) (h2 : (D2, ({ cls := .type "list", data := .seq ([] : List Value).toArray k2 } : Obj)) ∈ news) (hu : A.units < cLine)
    (h : Q (.bool false) s) : wpAny (model prog w) A (compareOp .Eq (.ref D) (.ref D2)) Q E s :=
  PySem.SeqAt.eq_list_lengthsAt ⟨_, (N _ h1).1, rfl, k, rfl⟩ ⟨_, (N _ h2).1, rfl, k2, rfl⟩ (by simp) hu h
end
end Mine
end
section
set_option maxRecDepth 100000
set_option pp.deepTerms false
set_option pp.deepTerms.threshold 6
set_option pp.maxSteps 20000
set_option Elab.async false
open PySem PySem.W PyProof.Rows PySem.Calls PyProof.Rows.LCg
namespace Mine
local macro_rules | `(tactic| k_mem) => `(tactic| assumption)
local macro_rules | `(tactic| walk_at "call ref") => `(tactic| (k_here; (refine wpAny_call ?_); k_dflt (refine' code_def ?k1 ?k2 ?k3 ?k4 ?k5 ?kA ?kF ?kK ?k6 ?k7 ?k8 ?k9 ?kB ?_ ?c2 ?c3 ?c4 ?c5; (case kA => exact rfl); (case kF => exact rfl); (case kK => first | exact rfl | assumption); (case k1 => k_asm); (case k2 => k_asm); (case k3 => k_asm); (case k4 => k_asm); (case k5 => k_asm); (case k6 => k_is); (case k7 => k_is); (case k8 => ktr_room); (case k9 => exact BindsTo.of_eq rfl); (case c5 => decide); (case kB => exact locs rfl); (case c2 => exact rfl); (case c3 => exact rfl); (case c4 => exact rfl); k_whole; intro g' L' h' FG' F' N' B' X' T'; (try dsimp only); (try k_fold))))
local macro_rules | `(tactic| walk_at "getAttr ref") => `(tactic| (k_here; (with_reducible show wpAny _ _ (getAttr (Value.ref _) (Str.ofString "append") _) _ _ _); k_dflt (refine' getAttr_append ?k1 ?k2 ?k3 ?_; (case k1 => k_asm); (case k2 => k_asm); (case k3 => k_mem); k_whole); intro q' h' F' N' l1; (try k_lt l1); (try k_sweep)))
local macro_rules | `(tactic| walk_at "callWith ref") => `(tactic| (k_here; k_dflt (refine' callWith_appN ?k1 ?k2 ?_; (case k1 => k_asm); (case k2 => k_mem); k_whole)))
local macro_rules | `(tactic| walk_at "And") => `(tactic| ((with_reducible show AppP _ _ _ ∧ _); refine ⟨appP (by k_asm) (by k_mem), ?_⟩; try dsimp only [List.nil_append, List.cons_append]))
local macro_rules | `(tactic| walk_at "call ref") => `(tactic| (k_here; (with_reducible show wpAny _ _ (call (Value.ref _) [_]) _ _ _); k_dflt (refine' call_app ?k1 ?k2 ?k3 ?k4 ?_ ?z; (case k1 => k_asm); (case k2 => k_asm); (case k3 => k_mem); (case k4 => k_upd); (case z => size_fits); k_whole); intro h' F' N'; (try k_sweep)))
local macro_rules | `(tactic| walk_at "subscriptTail Name Name str int") => `(tactic| (k_here; k_dflt (refine' item_str_at ?k1 ?k2 ?k3 ?_ ?k4; (case k1 => assumption); (case k2 => omega); (case k3 => omega); (case k4 => with_unfolding_all rfl); k_whole)))
local macro_rules | `(tactic| walk_at "subscriptTail") => `(tactic| (k_here; (with_reducible show wpAny _ _ (subscriptTail _ _ (Value.ref _) (Value.int (-1) _)) _ _ _); k_dflt (refine' item_last ?k1 ?k2 ?_ ?k4; (case k1 => k_asm); (case k2 => k_mem); (case k4 => with_unfolding_all rfl); k_whole)))
local macro_rules | `(tactic| walk_at "truthy ref") => `(tactic| (k_here; k_dflt (first
  | (refine' truthy_some ?k1 ?k2 ?k3 ?_; (case k1 => k_asm); (case k2 => k_mem); (case k3 => first | omega | ((simp only [List.length_append, List.length_singleton] at *); omega)); k_whole; intro _)
  | (refine' truthy_nil ?k1 ?k2 ?_; (case k1 => k_asm); (case k2 => k_mem); k_whole; intro _))))
local macro_rules | `(tactic| walk_at "getMethod str") => `(tactic| (k_here; with_reducible refine gm_translate ?_))
local macro_rules | `(tactic| walk_at "call builtin:str.translate") => `(tactic| (k_here; kt_k; (with_reducible rename KTD.Keyed _ _ _ => kyX); k_dflt (first
  | (refine' call_translate_miss kyX ?k1 ?k2 ?k3 ?k4 ?k5 ?_; (case k1 => rfl); (case k2 => k_asm); (case k3 => k_asm); (case k4 => decide); (case k5 => rfl); k_whole; intro h' tk' tk2' F' N'; (try k_sweep))
  | (refine' call_translate_hit kyX ?k1 ?k2 ?k3 ?_; (case k1 => k_asm); (case k2 => decide); (case k3 => rfl); k_whole; intro tk' tk2'))))
local macro_rules | `(tactic| walk_at "AppP") => `(tactic| exact appP (by k_asm) (by k_mem))
local macro_rules | `(tactic| walk_at "compareOp IsNot") => `(tactic| (k_here; first | refine isNot_str_ref ?_ | refine wpAny_isNot_ref_self ?_))
local macro_rules | `(tactic| walk_at "exec While Compare cons nil") => `(tactic| (k_here; refine unhold ?_))
local macro_rules | `(tactic| walk_at "exec While BoolOp") => `(tactic| (k_here; refine unhold ?_))
local macro_rules | `(tactic| walk_at "call builtin:len") => `(tactic| (k_here; (with_reducible show wpAny _ _ (call (Value.builtin "len") [Value.ref _]) _ _ _); k_dflt (refine' len_at ?k1 ?k2 ?k3 ?_; (case k1 => k_asm); (case k2 => k_mem); (case k3 => omega); k_whole); intro _ _))
local macro_rules | `(tactic| walk_at "subscriptTail") => `(tactic| (k_here; (with_reducible show wpAny _ _ (subscriptTail _ _ (Value.ref _) (Value.int _ _)) _ _ _); k_dflt (refine' item_at ?k1 ?k2 ?k3 ?k4 ?k5 ?_ ?k6; (case k1 => k_asm); (case k2 => k_mem); (case k3 => assumption); (case k4 => omega); (case k5 => omega); (case k6 => with_unfolding_all rfl); k_whole)))
local macro_rules | `(tactic| walk_at "compareOp Is ref") => `(tactic| (k_here; refine wpAny_is_ref_self ?_))
local macro_rules | `(tactic| walk_at "call builtin:str.join") => `(tactic| (k_here; k_dflt (refine' join_at ?k1 ?k2 ?k3 ?k4 ?_; (case k1 => k_asm); (case k2 => k_mem); (case k3 => assumption); (case k4 => first | assumption | omega); k_whole); intro _ _))
local macro_rules | `(tactic| walk_at "XQ") => `(tactic| (dsimp only [XQ]))
local macro_rules | `(tactic| walk_at "XPost") => `(tactic| first | refine xp_next ?_ | refine xp_cont ?_ | refine xp_brk ?_ | refine xp_ret ?_)
local macro_rules | `(tactic| ktr_rel) => `(tactic| (first | (with_reducible exact so_base) | ((with_reducible refine so_st ?_ ?_); (focus (first | (simp; done) | decide +kernel)); ktr_rel) | ((with_reducible refine so_x ?_); ktr_rel) | ((with_reducible refine so_kst ?_ ?_); (focus (intro z _; rfl)); ktr_rel)))
local macro_rules | `(tactic| walk_at "call type:object") => `(tactic| (k_here; k_dflt (refine' call_object ?k1 ?k2 ?_; (case k1 => k_asm); (case k2 => k_asm); k_whole); intro o' h' F' N' l1; (try k_lt l1); (try k_sweep)))
local macro_rules | `(tactic| walk_at "YQ") => `(tactic| (dsimp only [YQ]))
local macro_rules | `(tactic| walk_at "YPost") => `(tactic| first | refine yp_next ?_ | refine yp_cont ?_ | refine yp_brk ?_ | refine yp_ret ?_)
local macro_rules | `(tactic| ktr_rel) => `(tactic| (first | (with_reducible exact sp_base) | ((with_reducible refine sp_st ?_ ?_); (focus (first | (simp; done) | decide +kernel)); ktr_rel) | ((with_reducible refine sp_x ?_); ktr_rel) | ((with_reducible refine sp_y ?_); ktr_rel)))
local macro_rules | `(tactic| walk_at "compareOp Eq str str") => `(tactic| (k_here; first | (refine eq_yes (by assumption) ?_) | (refine eq_no (by assumption) ?_) | (refine eq_yes (by decide +kernel) ?_) | (refine eq_no (by decide +kernel) ?_)))
local macro_rules | `(tactic| walk_at "compareOp In str str") => `(tactic| (k_here; first | (refine in_no (by decide +kernel) ?_) | (refine in_yes (by decide +kernel) ?_)))
local macro_rules | `(tactic| k_all) => `(tactic| assumption)
local macro_rules | `(tactic| walk_at "subscriptTail Name BinOp str int") => `(tactic| (k_here; k_dflt (refine' item_str_at ?k1 ?k2 ?k3 ?_ ?k4; (case k1 => assumption); (case k2 => omega); (case k3 => omega); (case k4 => with_unfolding_all rfl); k_whole)))
local macro_rules | `(tactic| walk_at "eval ListComp") => `(tactic| (k_here; (with_reducible show wpAny _ _ (eval (PySem.Expr.ListComp _ [PySem.Comprehension.mk (PySem.Expr.Tuple _ _ _) _ _ _] _ _) _) _ _ _); lcg_calm; k_dflt (refine zc_ListComp (by k_asm) (by with_unfolding_all rfl) (by decide) (by rfl) (by decide) (by rfl) (by rfl) (by decide) ?_)))
local macro_rules | `(tactic| walk_at "compareOp Eq ref ref") => `(tactic| (k_here; k_dflt (first
  | (refine' eqL_nil ?k1 ?k2 ?k3 ?k4 ?_; (case k1 => k_asm); (case k2 => k_mem); (case k3 => k_mem); (case k4 => ktr_units); k_whole)
  | (refine' eqL_cons ?k1 ?k2 ?k3 ?k4 ?_; (case k1 => k_asm); (case k2 => k_mem); (case k3 => k_mem); (case k4 => ktr_units); k_whole))))
set_option maxHeartbeats 4000000 in
theorem lies_con (w : World) (news : List (Addr × Obj)) (l : Addr) (us : List Value) (cnt : Nat) (xs : List Str) (y : Str) (ty ti : Tok) (i : Int) (hm : (l, W.listOf us.toArray cnt) ∈ news) (hs : StrsAre us xs) (hu : us.length ≤ 1000) (hi0 : 0 ≤ i) (hi : i ≤ (y.length : Int)) (hy : y.length ≤ 1000) :
    Con w 116 3 news [.ref l, .str y ty, .int i ti] (fun v tl => tl = [] ∧ v = .bool (liesF xs (y.cps.toList.drop i.toNat))) := by
  unfold Con; k_fill
  intro dp un gd cn cs a ccd cl outer A₀ base h₀ L m s Q E p loose mean mg mb B F X N T hk hd hu hret
  refine wpAny_call ?_
  k_dflt cell_enter
  k_steps
  · rename_i hlen
    (with_reducible rename Fr _ _ _ _ => lF); (with_reducible rename News _ _ _ _ => lN)
    refine zip_src (LiesJ xs (Txt.slice y (some i) (some (i + us.length))).cps.toList) rfl lF lN (by k_mem) (by omega) ⟨Nat.le_refl _, by simp⟩ (fun _ _ h => h.1) ?_ ?_
    · intro g j vx vy ys own C oC D m₂ h tk E' hj hP hJ hoC hma hmb F9 N9 hne hown hDC
      refine wpAny_tests_one ?_
      obtain ⟨hvx, c, tc, hc, rfl⟩ := hP
      obtain ⟨p, tp, hp, rfl⟩ := strs_at hs hvx
      have hc' : (Txt.slice y (some i) (some (i + us.length))).cps.toList[j]? = some c := by simpa using hc
      k_steps
      all_goals first
        | assumption
        | ((with_reducible rename News _ _ _ _ => lN); exact fun p hp => lN p (.tail _ hp))
        | (refine liesJ_skip hJ hp hc' ?_; assumption)
        | (refine liesJ_add hJ hp hc' ?_; assumption)
    · intro D h tk ys F9 N9 hlt hJ
      have hfin := lies_end hs hi0 hlen hJ
      rcases ys with _ | ⟨v0, vr⟩
      · k_steps
        (with_reducible rename Fr h₀ _ _ _ => lF); (with_reducible rename News h₀ _ _ _ => lN)
        exact hret _ [] _ _ lF (fun p hp => lN p (by simp at hp ⊢; exact .inr (.inr hp))) (fun q hq => nomatch hq) ⟨rfl, by rw [hfin.mpr rfl]⟩
      · k_steps
        (with_reducible rename Fr h₀ _ _ _ => lF); (with_reducible rename News h₀ _ _ _ => lN)
        exact hret _ [] _ _ lF (fun p hp => lN p (by simp at hp ⊢; exact .inr (.inr hp))) (fun q hq => nomatch hq) ⟨rfl, by rw [Bool.eq_false_iff.mpr (fun e => List.cons_ne_nil _ _ (hfin.mp e))]⟩
  · have hlen : ((Txt.slice y (some i) (some (i + us.length))).length : Int) ≠ us.length := by omega
    (with_reducible rename Fr h₀ _ _ _ => lF); (with_reducible rename News h₀ _ _ _ => lN)
    exact hret _ [] _ _ lF lN (fun q hq => nomatch hq) ⟨rfl, by rw [lies_no hs hi0 hlen, beq_eq_false_iff_ne.mpr hlen]⟩
end Mine
end
section
set_option maxRecDepth 100000
open PySem PySem.W PyProof.Rows PySem.Calls PyProof.Rows.LCg
namespace Mine
theorem RunsIn.at {led : List (Addr × Obj)} {vs : List Value} {rs : List (List Str)} (h : RunsIn led vs rs) : ∀ {k : Nat} {v : Value}, vs[k]? = some v → ∃ a us n xs, v = .ref a ∧ (a, W.listOf us.toArray n) ∈ led ∧ StrsAre us xs ∧ rs[k]? = some xs ∧ us.length ≤ 1000 := by
  induction h with
  | nil => intro k v e; simp at e
  | cons h1 h2 h3 _ ih =>
    intro k v e
    cases k with
    | zero => exact ⟨_, _, _, _, by simpa using e.symm, h1, h2, by simp, h3⟩
    | succ k =>
      obtain ⟨a, us, n, xs, e1, e2, e3, e4, e5⟩ := ih (k := k) (by simpa using e)
      exact ⟨a, us, n, xs, e1, e2, e3, by simpa using e4, e5⟩
theorem RunsIn.split {led : List (Addr × Obj)} {vl : Value} : ∀ {mid : List Value} {rs : List (List Str)}, RunsIn led (mid ++ [vl]) rs → ∃ rm rl a us n, rs = rm ++ [rl] ∧ vl = .ref a ∧ (a, W.listOf us.toArray n) ∈ led ∧ StrsAre us rl ∧ us.length ≤ 1000 ∧ RunsIn led mid rm := by
  intro mid
  induction mid with
  | nil =>
    intro rs h
    have h' : RunsIn led [vl] rs := h
    cases h' with
    | cons h1 h2 h3 h4 =>
      cases h4
      exact ⟨[], _, _, _, _, rfl, rfl, h1, h2, h3, .nil⟩
  | cons v mid ih =>
    intro rs h
    have h' : RunsIn led (v :: (mid ++ [vl])) rs := h
    cases h' with
    | cons h1 h2 h3 h4 =>
      obtain ⟨rm, rl, a, us, n, e1, e2, e3, e4, e5, e6⟩ := ih h4
      exact ⟨_ :: rm, rl, a, us, n, by rw [e1]; rfl, e2, e3, e4, e5, .cons h1 h2 h3 e6⟩
theorem in_own {h₀ h : Heap} {L : Addr} {p d e : Addr × Obj} {own news : List (Addr × Obj)} (_ : News h₀ L h (own ++ d :: e :: news)) (hp : p ∈ news) : p ∈ own ++ d :: e :: news := List.mem_append_right _ (.tail _ (.tail _ hp))
theorem drop_at {α : Type} {l : List α} {k : Nat} {x : α} (h : l[k]? = some x) : l.drop k = x :: l.drop (k + 1) := by
  have hlt : k < l.length := by
    rcases Nat.lt_or_ge k l.length with q | q
    · exact q
    · rw [List.getElem?_eq_none q] at h; cases h
  rw [List.drop_eq_getElem_cons hlt]
  congr 1
  exact Option.some.inj ((List.getElem?_eq_getElem hlt).symm.trans h)
theorem mid_slice (v0 vl : Value) (mid : List Value) : (slicePick (v0 :: (mid ++ [vl])).toArray (some 1) (some (-1)) none).toList = mid := by
  have e : sliceBounds (some 1) (some (-1)) none (v0 :: (mid ++ [vl])).toArray.size = (((1 : Nat) : Int), ((mid.length + 1 : Nat) : Int), 1) := by
    have hz : (v0 :: (mid ++ [vl])).toArray.size = mid.length + 2 := by simp
    rw [hz]
    simp only [sliceBounds, Option.getD_none, show (1 : Int) > 0 by decide, if_true, if_neg (show ¬ ((1 : Int) < 0) by decide), if_pos (show (-1 : Int) < 0 by decide)]
    congr 1
    · omega
    · congr 1
      omega
  rw [kmk_pick_nat _ e]
  simp
def findF (cs : List Nat) (run : List Str) : Nat → Nat → Nat
  | 0, p => p
  | f + 1, p => if liesF run (cs.drop p) = true then p else findF cs run f (p + 1)
/-- the first place from p on where the run lies, else behind the end -/
def find (cs : List Nat) (run : List Str) (p : Nat) : Nat := findF cs run (cs.length + 1 - p) p
theorem find_go {cs : List Nat} {run : List Str} {p : Nat} (hp : p ≤ cs.length) (hl : liesF run (cs.drop p) = false) : find cs run p = find cs run (p + 1) := by
  unfold find
  obtain ⟨k, e⟩ : ∃ k, cs.length + 1 - p = k + 1 := ⟨cs.length - p, by omega⟩
  rw [e, show cs.length + 1 - (p + 1) = k by omega]
  simp [findF, hl]
theorem find_yes {cs : List Nat} {run : List Str} {p : Nat} (hp : p ≤ cs.length) (hl : liesF run (cs.drop p) = true) : find cs run p = p := by
  unfold find
  obtain ⟨k, e⟩ : ∃ k, cs.length + 1 - p = k + 1 := ⟨cs.length - p, by omega⟩
  rw [e]
  simp [findF, hl]
theorem find_end {cs : List Nat} {run : List Str} {p : Nat} (hp : cs.length < p) : find cs run p = p := by
  unfold find
  rw [show cs.length + 1 - p = 0 by omega]
  rfl
theorem find_le (cs : List Nat) (run : List Str) (p : Nat) : find cs run p ≤ max p (cs.length + 1) := by
  have key : ∀ f p, findF cs run f p ≤ p + f := by
    intro f
    induction f with
    | zero => intro p; exact Nat.le_refl _
    | succ f ih =>
      intro p
      unfold findF
      split
      · omega
      · have := ih (p + 1); omega
  have := key (cs.length + 1 - p) p
  unfold find
  omega
def midF (cs : List Nat) : List (List Str) → Nat → Nat
  | [], p => p
  | r :: rs, p => midF cs rs (find cs r p + r.length)
/-- what _law_takes answers -/
def takesF : List (List Str) → List Nat → Bool
  | [], _ => false
  | r0 :: rest, cs => match rest.reverse with
    | [] => liesF r0 cs && decide (r0.length = cs.length)
    | rl :: m => liesF r0 cs && (decide (midF cs m.reverse r0.length + rl.length ≤ cs.length) && liesF rl (cs.drop (cs.length - rl.length)))
theorem takesF_one (r0 : List Str) (cs : List Nat) : takesF [r0] cs = (liesF r0 cs && decide (r0.length = cs.length)) := rfl
theorem takesF_two (r0 rl : List Str) (mid : List (List Str)) (cs : List Nat) : takesF (r0 :: (mid ++ [rl])) cs = (liesF r0 cs && (decide (midF cs mid r0.length + rl.length ≤ cs.length) && liesF rl (cs.drop (cs.length - rl.length)))) := by
  unfold takesF
  dsimp only
  rw [show (mid ++ [rl]).reverse = rl :: mid.reverse by simp]
  dsimp only
  rw [List.reverse_reverse]
section
variable {prog : Program} {w : World} {A : Around} {E : Value → Shared → Prop} {Q : Flow → Shared → Prop} {s : Shared} {env : Env} {h₀ : Heap}
def FxEnd (h₀ : Heap) (L : Addr) (s : Shared) (led : List (Addr × Obj)) (x : Str) (stored : List Str) (m₀ : Str → Option Value) (P : Int → Prop) (s₂ : Shared) : Prop :=
  ∃ h' tk m' i t news', s₂ = { s with heap := h', toks := tk } ∧ Fr h₀ L h' m' ∧ News h₀ L h' news' ∧ (∀ p ∈ led, p ∈ news') ∧ m' x = some (.int i t) ∧ SameOff m' m₀ x stored ∧ P i
def FxPost (h₀ : Heap) (L : Addr) (s : Shared) (led : List (Addr × Obj)) (x : Str) (stored : List Str) (m₀ : Str → Option Value) (P : Int → Prop) (Q : Flow → Shared → Prop) (f : Flow) (s₂ : Shared) : Prop :=
  match f with
  | .ret v => Q (.ret v) s₂
  | .brk => Q .next s₂
  | _ => FxEnd h₀ L s led x stored m₀ P s₂
theorem fx_next {L : Addr} {led : List (Addr × Obj)} {x : Str} {stored : List Str} {m₀ : Str → Option Value} {P : Int → Prop} {s₂ : Shared} (h : FxEnd h₀ L s led x stored m₀ P s₂) : FxPost h₀ L s led x stored m₀ P Q .next s₂ := h
theorem fx_end {L : Addr} {led : List (Addr × Obj)} {x : Str} {stored : List Str} {m₀ m' : Str → Option Value} {P : Int → Prop} {h' : Heap} {tk : Nat} {news' : List (Addr × Obj)} {i : Int} {t : Tok} (F : Fr h₀ L h' m') (N : News h₀ L h' news') (hn : ∀ p ∈ led, p ∈ news') (hi : m' x = some (.int i t)) (hm : SameOff m' m₀ x stored) (hp : P i) :
    FxEnd h₀ L s led x stored m₀ P { s with heap := h', toks := tk } := ⟨h', tk, m', i, t, news', rfl, F, N, hn, hi, hm, hp⟩
theorem for_x {target : PySem.Expr} {body : List Stmt} {l : Addr} {vs : List Value} {cnt : Nat} {m₀ : Str → Option Value} {news : List (Addr × Obj)} (x : Str) (stored : List Str) (P : Nat → Int → Prop) {i₀ : Int} {t₀ : Tok}
    (hh : A.handled = none) (F : Fr h₀ env.locals s.heap m₀) (N : News h₀ env.locals s.heap news) (hm : (l, W.listOf vs.toArray cnt) ∈ news) (hi : m₀ x = some (.int i₀ t₀)) (hp : P 0 i₀)
    (turn : ∀ (k : Nat) (v : Value) (i : Int) (t : Tok) (u : Str → Option Value) h tk own, vs[k]? = some v → P k i → Fr h₀ env.locals h (kstB (fun z => if stored.contains z then u z else m₀ z) [(x, .int i t)]) → News h₀ env.locals h (own ++ news) →
      wpAny (model prog w) A (assign target env v) (fun _ s₃ => wpAny (model prog w) A (execs body env) (FxPost h₀ env.locals s (own ++ news) x stored m₀ (P (k + 1)) Q) E s₃) E { s with heap := h, toks := tk })
    (done : ∀ (i : Int) (t : Tok) (u : Str → Option Value) h tk, P vs.length i → Fr h₀ env.locals h (kstB (fun z => if stored.contains z then u z else m₀ z) [(x, .int i t)]) → News h₀ env.locals h news → Q .next { s with heap := h, toks := tk }) :
    wpAny (model prog w) A (pyIter (.ref l)) (fun it s₂ => TurnsAt prog w A h₀ env target body Q E it s₂) E s := by
  have hl : s.heap.IsList l vs.toArray := ⟨_, (N _ hm).1, rfl, cnt, rfl⟩
  have hlt : l < s.heap.objs.size := Heap.lt_size (N _ hm).1
  have hne : l ≠ s.heap.objs.size := Nat.ne_of_lt hlt
  refine wpAny_pyIter_list hl ?_
  have up : ∀ b o, s.heap.get? b = some o → (s.heap.push { cls := .type "list_iterator", data := .fields #[.ref l, .int 0 0] }).get? b = some o := fun b o e => Heap.get?_push_of_some _ e
  have conv : ∀ {m : Str → Option Value} {i : Int} {t : Tok} {h : Heap}, m x = some (.int i t) → SameOff m m₀ x stored → Fr h₀ env.locals h m → Fr h₀ env.locals h (kstB (fun z => if stored.contains z then m z else m₀ z) [(x, .int i t)]) :=
    fun hi hs F => ksw_fr (fun p hp => by rcases List.mem_cons.mp hp with rfl | hp; exact hi; cases hp) (fun z h2 h3 => hs z (h2 _ (.head _)) h3) F
  refine ⟨s.heap.objs.size, [s.heap.objs.size, l], [s.heap.objs.size], vs.toArray.size, _, _, _, m₀, news, fun k m nw => nw = news ∧ ∃ i t, m x = some (.int i t) ∧ SameOff m m₀ x stored ∧ P k i, rfl,
    KTurns.ofWalks (Walks.list hh s.heap.objs.size l hne vs.toArray) (fun i v s Q E st q => letGo_listiter st.1 q), ?_, ?_, ?_, ⟨⟨_, Heap.get?_push_size _ rfl, rfl, rfl⟩, hl.push _⟩, F.keeps up, N.grown up, ⟨rfl, i₀, t₀, hi, fun _ _ _ => rfl, hp⟩, ?_, ?_⟩
  · intro hb
    rcases List.mem_cons.mp hb with e | e
    · exact absurd e (Nat.ne_of_lt F.ns.lt)
    · exact (N _ hm).2.1 (List.mem_singleton.mp e).symm
  · intro b hb
    rw [List.mem_singleton.mp hb]; exact next_is_new F
  · intro p hp hb
    exact absurd (List.mem_singleton.mp hb) (Nat.ne_of_lt (Heap.lt_size (N p hp).1))
  · rintro k v m₁ news₁ h₁ tk₁ own hk hv ⟨rfl, i, t, hi', hs', hP⟩ hnw _ _ _ _ F₁ N₁
    have hv' : vs[k]? = some v := by simpa using hv
    refine wpAny_mono (turn k v i t m₁ h₁ tk₁ own hv' hP (conv hi' hs' F₁) N₁) (fun _ s₃ h₃ => wpAny_mono h₃ (fun f s₄ h₄ => ?_) fun _ _ e => e) fun _ _ e => e
    cases f with
    | ret v => exact h₄
    | brk => exact h₄
    | next =>
      obtain ⟨h', tk, m', i', t', news', rfl, F', N', hn, hi₂, hs₂, hp₂⟩ := h₄
      exact LoopStepU.intro F' (fun p hp => N' p (hn p hp)) hnw ⟨rfl, i', t', hi₂, hs₂, hp₂⟩
    | cont =>
      obtain ⟨h', tk, m', i', t', news', rfl, F', N', hn, hi₂, hs₂, hp₂⟩ := h₄
      exact LoopStepU.intro F' (fun p hp => N' p (hn p hp)) hnw ⟨rfl, i', t', hi₂, hs₂, hp₂⟩
  · rintro h' tk m' news' F' N' _ ⟨rfl, i, t, hi', hs', hP⟩
    exact done i t m' h' tk (by simpa using hP) (conv hi' hs' F') N'
end
end Mine
end
section
set_option maxRecDepth 100000
set_option pp.deepTerms false
set_option pp.deepTerms.threshold 6
set_option pp.maxSteps 20000
set_option Elab.async false
open PySem PySem.W PyProof.Rows PySem.Calls PyProof.Rows.LCg
namespace Mine
local macro_rules | `(tactic| k_mem) => `(tactic| assumption)
local macro_rules | `(tactic| walk_at "call ref") => `(tactic| (k_here; (refine wpAny_call ?_); k_dflt (refine' code_def ?k1 ?k2 ?k3 ?k4 ?k5 ?kA ?kF ?kK ?k6 ?k7 ?k8 ?k9 ?kB ?_ ?c2 ?c3 ?c4 ?c5; (case kA => exact rfl); (case kF => exact rfl); (case kK => first | exact rfl | assumption); (case k1 => k_asm); (case k2 => k_asm); (case k3 => k_asm); (case k4 => k_asm); (case k5 => k_asm); (case k6 => k_is); (case k7 => k_is); (case k8 => ktr_room); (case k9 => exact BindsTo.of_eq rfl); (case c5 => decide); (case kB => exact locs rfl); (case c2 => exact rfl); (case c3 => exact rfl); (case c4 => exact rfl); k_whole; intro g' L' h' FG' F' N' B' X' T'; (try dsimp only); (try k_fold))))
local macro_rules | `(tactic| walk_at "getAttr ref") => `(tactic| (k_here; (with_reducible show wpAny _ _ (getAttr (Value.ref _) (Str.ofString "append") _) _ _ _); k_dflt (refine' getAttr_append ?k1 ?k2 ?k3 ?_; (case k1 => k_asm); (case k2 => k_asm); (case k3 => k_mem); k_whole); intro q' h' F' N' l1; (try k_lt l1); (try k_sweep)))
local macro_rules | `(tactic| walk_at "callWith ref") => `(tactic| (k_here; k_dflt (refine' callWith_appN ?k1 ?k2 ?_; (case k1 => k_asm); (case k2 => k_mem); k_whole)))
local macro_rules | `(tactic| walk_at "And") => `(tactic| ((with_reducible show AppP _ _ _ ∧ _); refine ⟨appP (by k_asm) (by k_mem), ?_⟩; try dsimp only [List.nil_append, List.cons_append]))
local macro_rules | `(tactic| walk_at "call ref") => `(tactic| (k_here; (with_reducible show wpAny _ _ (call (Value.ref _) [_]) _ _ _); k_dflt (refine' call_app ?k1 ?k2 ?k3 ?k4 ?_ ?z; (case k1 => k_asm); (case k2 => k_asm); (case k3 => k_mem); (case k4 => k_upd); (case z => size_fits); k_whole); intro h' F' N'; (try k_sweep)))
local macro_rules | `(tactic| walk_at "subscriptTail Name Name str int") => `(tactic| (k_here; k_dflt (refine' item_str_at ?k1 ?k2 ?k3 ?_ ?k4; (case k1 => assumption); (case k2 => omega); (case k3 => omega); (case k4 => with_unfolding_all rfl); k_whole)))
local macro_rules | `(tactic| walk_at "subscriptTail") => `(tactic| (k_here; (with_reducible show wpAny _ _ (subscriptTail _ _ (Value.ref _) (Value.int (-1) _)) _ _ _); k_dflt (refine' item_last ?k1 ?k2 ?_ ?k4; (case k1 => k_asm); (case k2 => k_mem); (case k4 => with_unfolding_all rfl); k_whole)))
local macro_rules | `(tactic| walk_at "truthy ref") => `(tactic| (k_here; k_dflt (first
  | (refine' truthy_some ?k1 ?k2 ?k3 ?_; (case k1 => k_asm); (case k2 => k_mem); (case k3 => first | omega | ((simp only [List.length_append, List.length_singleton] at *); omega)); k_whole; intro _)
  | (refine' truthy_nil ?k1 ?k2 ?_; (case k1 => k_asm); (case k2 => k_mem); k_whole; intro _))))
local macro_rules | `(tactic| walk_at "getMethod str") => `(tactic| (k_here; with_reducible refine gm_translate ?_))
local macro_rules | `(tactic| walk_at "call builtin:str.translate") => `(tactic| (k_here; kt_k; (with_reducible rename KTD.Keyed _ _ _ => kyX); k_dflt (first
  | (refine' call_translate_miss kyX ?k1 ?k2 ?k3 ?k4 ?k5 ?_; (case k1 => rfl); (case k2 => k_asm); (case k3 => k_asm); (case k4 => decide); (case k5 => rfl); k_whole; intro h' tk' tk2' F' N'; (try k_sweep))
  | (refine' call_translate_hit kyX ?k1 ?k2 ?k3 ?_; (case k1 => k_asm); (case k2 => decide); (case k3 => rfl); k_whole; intro tk' tk2'))))
local macro_rules | `(tactic| walk_at "AppP") => `(tactic| exact appP (by k_asm) (by k_mem))
local macro_rules | `(tactic| walk_at "compareOp IsNot") => `(tactic| (k_here; first | refine isNot_str_ref ?_ | refine wpAny_isNot_ref_self ?_))
local macro_rules | `(tactic| walk_at "exec While Compare cons nil") => `(tactic| (k_here; refine unhold ?_))
local macro_rules | `(tactic| walk_at "exec While BoolOp") => `(tactic| (k_here; refine unhold ?_))
local macro_rules | `(tactic| walk_at "call builtin:len") => `(tactic| (k_here; (with_reducible show wpAny _ _ (call (Value.builtin "len") [Value.ref _]) _ _ _); k_dflt (refine' len_at ?k1 ?k2 ?k3 ?_; (case k1 => k_asm); (case k2 => k_mem); (case k3 => omega); k_whole); intro _ _))
local macro_rules | `(tactic| walk_at "subscriptTail") => `(tactic| (k_here; (with_reducible show wpAny _ _ (subscriptTail _ _ (Value.ref _) (Value.int _ _)) _ _ _); k_dflt (refine' item_at ?k1 ?k2 ?k3 ?k4 ?k5 ?_ ?k6; (case k1 => k_asm); (case k2 => k_mem); (case k3 => assumption); (case k4 => omega); (case k5 => omega); (case k6 => with_unfolding_all rfl); k_whole)))
local macro_rules | `(tactic| walk_at "compareOp Is ref") => `(tactic| (k_here; refine wpAny_is_ref_self ?_))
local macro_rules | `(tactic| walk_at "call builtin:str.join") => `(tactic| (k_here; k_dflt (refine' join_at ?k1 ?k2 ?k3 ?k4 ?_; (case k1 => k_asm); (case k2 => k_mem); (case k3 => assumption); (case k4 => first | assumption | omega); k_whole); intro _ _))
local macro_rules | `(tactic| walk_at "XQ") => `(tactic| (dsimp only [XQ]))
local macro_rules | `(tactic| walk_at "XPost") => `(tactic| first | refine xp_next ?_ | refine xp_cont ?_ | refine xp_brk ?_ | refine xp_ret ?_)
local macro_rules | `(tactic| ktr_rel) => `(tactic| (first | (with_reducible exact so_base) | ((with_reducible refine so_st ?_ ?_); (focus (first | (simp; done) | decide +kernel)); ktr_rel) | ((with_reducible refine so_x ?_); ktr_rel) | ((with_reducible refine so_kst ?_ ?_); (focus (intro z _; rfl)); ktr_rel)))
local macro_rules | `(tactic| walk_at "call type:object") => `(tactic| (k_here; k_dflt (refine' call_object ?k1 ?k2 ?_; (case k1 => k_asm); (case k2 => k_asm); k_whole); intro o' h' F' N' l1; (try k_lt l1); (try k_sweep)))
local macro_rules | `(tactic| walk_at "YQ") => `(tactic| (dsimp only [YQ]))
local macro_rules | `(tactic| walk_at "YPost") => `(tactic| first | refine yp_next ?_ | refine yp_cont ?_ | refine yp_brk ?_ | refine yp_ret ?_)
local macro_rules | `(tactic| ktr_rel) => `(tactic| (first | (with_reducible exact sp_base) | ((with_reducible refine sp_st ?_ ?_); (focus (first | (simp; done) | decide +kernel)); ktr_rel) | ((with_reducible refine sp_x ?_); ktr_rel) | ((with_reducible refine sp_y ?_); ktr_rel)))
local macro_rules | `(tactic| walk_at "compareOp Eq str str") => `(tactic| (k_here; first | (refine eq_yes (by assumption) ?_) | (refine eq_no (by assumption) ?_) | (refine eq_yes (by decide +kernel) ?_) | (refine eq_no (by decide +kernel) ?_)))
local macro_rules | `(tactic| walk_at "compareOp In str str") => `(tactic| (k_here; first | (refine in_no (by decide +kernel) ?_) | (refine in_yes (by decide +kernel) ?_)))
local macro_rules | `(tactic| k_all) => `(tactic| assumption)
local macro_rules | `(tactic| walk_at "subscriptTail Name BinOp str int") => `(tactic| (k_here; k_dflt (refine' item_str_at ?k1 ?k2 ?k3 ?_ ?k4; (case k1 => assumption); (case k2 => omega); (case k3 => omega); (case k4 => with_unfolding_all rfl); k_whole)))
local macro_rules | `(tactic| walk_at "eval ListComp") => `(tactic| (k_here; (with_reducible show wpAny _ _ (eval (PySem.Expr.ListComp _ [PySem.Comprehension.mk (PySem.Expr.Tuple _ _ _) _ _ _] _ _) _) _ _ _); lcg_calm; k_dflt (refine zc_ListComp (by k_asm) (by with_unfolding_all rfl) (by decide) (by rfl) (by decide) (by rfl) (by rfl) (by decide) ?_)))
local macro_rules | `(tactic| walk_at "compareOp Eq ref ref") => `(tactic| (k_here; k_dflt (first
  | (refine' eqL_nil ?k1 ?k2 ?k3 ?k4 ?_; (case k1 => k_asm); (case k2 => k_mem); (case k3 => k_mem); (case k4 => ktr_units); k_whole)
  | (refine' eqL_cons ?k1 ?k2 ?k3 ?k4 ?_; (case k1 => k_asm); (case k2 => k_mem); (case k3 => k_mem); (case k4 => ktr_units); k_whole))))
local macro_rules | `(tactic| walk_at "FxPost") => `(tactic| refine fx_next ?_)
local macro_rules | `(tactic| walk_at "exec While BoolOp cons nil") => `(tactic| (k_here; refine unhold ?_))
local macro_rules | `(tactic| walk_at "subscriptTail Name Slice ref ref") => `(tactic| (k_here; (with_reducible show wpAny _ _ (subscriptTail _ (PySem.Expr.Slice _ _ none _) (Value.ref _) (Value.ref _)) _ _ _); k_dflt (refine' kmk_slice_lit ?F ?N ?l ?p ?q ?e ?_ ?s ?t ?z; (case F => k_asm); (case N => k_asm); (case l => exact News.isList (by k_asm) (by k_mem)); (case p => kmk_part); (case q => kmk_part); (case e => exact mid_slice _ _ _); (case s => with_unfolding_all rfl); (case t => kmk_pure); (case z => size_fits)); intro D' h' F' N' l1; (try k_lt l1); (try k_sweep)))
local macro_rules | `(tactic| walk_at "exec For Name Subscript cons nil") => `(tactic| (k_here; (rename Fr _ _ _ _ => lF'); (with_unfolding_all refine' For_turns lF' ?_; k_whole)))
local macro_rules | `(tactic| walk_at "call ref") => `(tactic| (k_here; (with_reducible show wpAny _ _ (call (Value.ref 116) _) _ _ _); k_dflt (refine' Con.use (lies_con _ _ _ _ _ _ _ _ _ _ ?hm ?hs ?hu ?hi0 ?hi ?hy) ?k1 ?k2 ?k3 ?k4 ?k5 ?kK ?kd ?kq ?_; (case k1 => k_asm); (case k2 => k_asm); (case k3 => k_asm); (case k4 => k_asm); (case k5 => k_asm); (case kK => first | exact rfl | assumption); (case hm => k_mem); (case hs => assumption); (case hu => assumption); (case hi0 => first | assumption | omega); (case hi => first | assumption | omega); (case hy => assumption); (case kd => ktr_room); (case kq => ktr_units)); intro v' tl' h' tk' F' N' l1 hR'; obtain ⟨e1', e2'⟩ := hR'; subst e1'; subst e2'; (simp only [List.nil_append] at N'); (try k_sweep)))
set_option maxHeartbeats 4000000 in
theorem takes_con (w : World) (news : List (Addr × Obj)) (R : Addr) (vs : List Value) (n : Nat) (RS : List (List Str)) (y : Str) (ty : Tok) (hR : (R, W.listOf vs.toArray n) ∈ news) (hI : RunsIn news vs RS) (hne : RS ≠ []) (hl : vs.length ≤ 300) (hy : y.length ≤ 1000) :
    Con w 123 5 news [.ref R, .str y ty] (fun v tl => tl = [] ∧ v = .bool (takesF RS y.cps.toList)) := by
  cases hI with
  | nil => exact absurd rfl hne
  | @cons a0 us0 n0 xs0 vr rr hm0 hs0 hu0 hI' =>
  have hv0 : (Value.ref a0 :: vr)[(0 : Int).toNat]? = some (.ref a0) := rfl
  have hlx0 : xs0.length = us0.length := strs_length hs0
  have hyl : y.length = y.cps.toList.length := by simp [Str.length]
  rcases List.eq_nil_or_concat vr with rfl | ⟨mid, vl, hvr⟩
  · cases hI'
    have hlen1 : (([Value.ref a0] : List Value).length : Int) = 1 := rfl
    unfold Con; k_fill
    intro dp un gd cn cs a ccd cl outer A₀ base h₀ L m s Q E p loose mean mg mb B F X N T hk hd hu hret
    refine wpAny_call ?_
    k_dflt cell_enter
    k_steps
    all_goals (try (exfalso; omega))
    · (with_reducible rename liesF _ _ = _ => hl)
      (with_reducible rename Fr h₀ _ _ _ => lF); (with_reducible rename News h₀ _ _ _ => lN)
      refine hret _ [] _ _ lF (fun p hp => lN p (by simp at hp ⊢; exact .inr hp)) (fun q hq => nomatch hq) ⟨rfl, ?_⟩
      have hl' : liesF xs0 y.cps.toList = true := hl
      rw [takesF_one, hl', Bool.true_and, ← hyl, hlx0]
      congr 1
      rw [Bool.eq_iff_iff]; simp; omega
    · (with_reducible rename liesF _ _ = _ => hl)
      (with_reducible rename Fr h₀ _ _ _ => lF); (with_reducible rename News h₀ _ _ _ => lN)
      refine hret _ [] _ _ lF (fun p hp => lN p (by simp at hp ⊢; exact .inr hp)) (fun q hq => nomatch hq) ⟨rfl, ?_⟩
      have hl' : liesF xs0 y.cps.toList = false := hl
      rw [takesF_one, hl', Bool.false_and]
  · rw [List.concat_eq_append] at hvr; subst hvr
    obtain ⟨rm, rl, al, usl, nl, rfl, rfl, hml, hsl, hul, hIm⟩ := hI'.split
    have hlen2 : ((Value.ref a0 :: (mid ++ [Value.ref al])).length : Int) = (mid.length : Int) + 2 := by simp; omega
    have hml' : mid.length ≤ 300 := by have : (Value.ref a0 :: (mid ++ [Value.ref al])).length ≤ 300 := hl
                                       omega
    have hlen3 : (((Value.ref a0 :: mid) ++ [Value.ref al]).length : Int) = (mid.length : Int) + 2 := hlen2
    have hl3 : ((Value.ref a0 :: mid) ++ [Value.ref al]).length ≤ 300 := hl
    have hR2 : (R, W.listOf ((Value.ref a0 :: mid) ++ [Value.ref al]).toArray n) ∈ news := hR
    unfold Con; k_fill
    intro dp un gd cn cs a ccd cl outer A₀ base h₀ L m s Q E p loose mean mg mb B F X N T hk hd hu hret
    refine wpAny_call ?_
    k_dflt cell_enter
    k_steps
    all_goals (try (exfalso; omega))
    · (with_reducible rename liesF _ _ = _ => hl0)
      have hl0' : liesF xs0 y.cps.toList = true := hl0
      (with_reducible rename Fr _ _ _ _ => lF); (with_reducible rename News _ _ _ _ => lN)
      refine' for_x (Str.ofString "place") [Str.ofString "run"] (fun k i => ∃ p : Nat, i = p ∧ p ≤ 2001 + 1000 * k ∧ midF y.cps.toList (rm.drop k) p = midF y.cps.toList rm xs0.length) ?hh lF lN ?hm ?hi ?hp ?_ ?_
      case hh => exact rfl
      case hm => exact .head _
      case hi => exact rfl
      case hp => exact ⟨us0.length, rfl, by omega, by rw [List.drop_zero, hlx0]⟩
      · clear lF lN
        rintro k v i t u h tk own hv ⟨p, rfl, hp, hmid⟩ F9 N9
        obtain ⟨ar, usr, nr, xr, rfl, hmr, hsr, hxr, hur⟩ := hIm.at hv
        have hmr' := in_own N9 hmr
        have hkl : k < mid.length := by
          rcases Nat.lt_or_ge k mid.length with q | q
          · exact q
          · rw [List.getElem?_eq_none q] at hv; cases hv
        have hlr : xr.length = usr.length := strs_length hsr
        k_steps
        refine hold ?_
        (with_reducible rename Fr _ _ _ _ => lF); (with_reducible rename News _ _ _ _ => lN)
        refine' x_while2 (β := Unit) (Str.ofString "place") (fun _ => _) [] (fun i _ => ∃ q : Nat, i = q ∧ q ≤ max p (y.length + 1) ∧ find y.cps.toList xr q = find y.cps.toList xr p) (fun i _ => ∃ q : Nat, i = q ∧ q ≤ max p (y.length + 1) ∧ q = find y.cps.toList xr p)
          (y.length + 1) () lF lN ?ki ?kp ?_ ?_
        case ki => exact rfl
        case kp => exact ⟨p, rfl, Nat.le_max_left _ _, rfl⟩
        · clear lF lN
          rintro i t ⟨⟩ u h tk ⟨q, rfl, hq, hf⟩ F9 N9
          rcases Nat.lt_or_ge y.length q with hlt | hge
          · k_steps
            all_goals (try (exfalso; omega))
            (with_reducible rename Fr _ _ _ _ => lF); (with_reducible rename News _ _ _ _ => lN)
            exact x_out () lF lN (fun p hp => hp) rfl (by ktr_rel) ⟨q, rfl, hq, by rw [← hf, find_end (by omega)]⟩
          · k_steps
            all_goals (try (exfalso; omega))
            · (with_reducible rename liesF _ _ = _ => hlq)
              have hlq' : liesF xr (y.cps.toList.drop q) = true := hlq
              (with_reducible rename Fr _ _ _ _ => lF); (with_reducible rename News _ _ _ _ => lN)
              exact x_out () lF lN (fun p hp => hp) rfl (by ktr_rel) ⟨q, rfl, hq, by rw [← hf, find_yes (by omega) hlq']⟩
            · (with_reducible rename liesF _ _ = _ => hlq)
              have hlq' : liesF xr (y.cps.toList.drop q) = false := hlq
              (with_reducible rename Fr _ _ _ _ => lF); (with_reducible rename News _ _ _ _ => lN)
              exact x_close () lF lN (fun p hp => hp) rfl (by ktr_rel) ⟨q + 1, by omega, by omega, by rw [← find_go (by omega) hlq', hf]⟩ (by omega) (by omega)
        · clear lF lN
          rintro i t ⟨⟩ u h tk ⟨q, rfl, hq, hf⟩ F9 N9
          k_steps
          (with_reducible rename Fr _ _ _ _ => lF); (with_reducible rename News _ _ _ _ => lN)
          refine fx_end (i := (q : Int) + usr.length) lF lN (fun p hp => hp) rfl (by ktr_rel) ⟨q + usr.length, by omega, by omega, ?_⟩
          have hdr : rm.drop k = xr :: rm.drop (k + 1) := drop_at hxr
          rw [hdr] at hmid
          rw [hf, ← hlr]
          exact hmid
      · clear lF lN
        rintro i t u h tk ⟨p, rfl, hp, hmid⟩ F9 N9
        have hrm : rm.drop mid.length = [] := List.drop_of_length_le (by rw [hIm.length]; exact Nat.le_refl _)
        rw [hrm] at hmid
        have hmid' : p = midF y.cps.toList rm xs0.length := hmid
        have hrl : rl.length = usl.length := strs_length hsl
        k_steps
        · (with_reducible rename Fr h₀ _ _ _ => lF); (with_reducible rename News h₀ _ _ _ => lN)
          refine hret _ [] _ _ lF (fun p hp => lN p (by simp at hp ⊢; exact .inr (.inr hp))) (fun q hq => nomatch hq) ⟨rfl, ?_⟩
          rw [takesF_two, hl0', Bool.true_and, ← hmid', decide_eq_true (by omega), Bool.true_and, hrl, ← hyl]
          congr 3
          omega
        · (with_reducible rename Fr h₀ _ _ _ => lF); (with_reducible rename News h₀ _ _ _ => lN)
          refine hret _ [] _ _ lF (fun p hp => lN p (by simp at hp ⊢; exact .inr (.inr hp))) (fun q hq => nomatch hq) ⟨rfl, ?_⟩
          rw [takesF_two, hl0', Bool.true_and, ← hmid', decide_eq_false (by omega), decide_eq_false (by omega), Bool.false_and]
    · (with_reducible rename liesF _ _ = _ => hl)
      (with_reducible rename Fr h₀ _ _ _ => lF); (with_reducible rename News h₀ _ _ _ => lN)
      refine hret _ [] _ _ lF (fun p hp => lN p (by simp at hp ⊢; exact .inr hp)) (fun q hq => nomatch hq) ⟨rfl, ?_⟩
      have hl' : liesF xs0 y.cps.toList = false := hl
      rw [takesF_two, hl', Bool.false_and]
end Mine
end
section
set_option maxRecDepth 100000
open PySem PySem.W PyProof.Rows PySem.Calls PyProof.Rows.LCg
namespace Mine
/-- what unctrl writes for a number -/
def repF (n : Int) : Str := if n = 127 then Str.ofString "^?" else if 32 ≤ Builtin.bitAnd n 127 ∧ Builtin.bitAnd n 127 ≤ 126 then ⟨#[(Builtin.bitAnd n 127).toNat]⟩ else Str.ofString "^" ++ ⟨#[(Builtin.bitOr (Builtin.bitAnd n 127) 32 + 32).toNat]⟩
def unctrlF (n : Int) : Str := if Builtin.bitAnd n 128 = 0 then repF n else Str.ofString "!" ++ repF n
def bitsOk (n : Int) : Bool := decide (0 ≤ Builtin.bitAnd n 127) && decide (0 ≤ Builtin.bitOr (Builtin.bitAnd n 127) 32 + 32) && decide (Builtin.bitOr (Builtin.bitAnd n 127) 32 + 32 ≤ 200) && decide (Builtin.bitAnd n 127 ≤ 127)
theorem all_bits : (List.range 4097).all (fun k => bitsOk ((k : Int) - 2048)) = true := by decide +kernel
theorem all_of {f : Int → Bool} (h : (List.range 4097).all (fun k => f ((k : Int) - 2048)) = true) {n : Int} (h1 : -2048 ≤ n) (h2 : n ≤ 2048) : f n = true := by
  have := List.all_eq_true.mp h (n + 2048).toNat (List.mem_range.mpr (by omega))
  have e : (((n + 2048).toNat : Nat) : Int) - 2048 = n := by omega
  rw [e] at this
  exact this
theorem bits_ok {n : Int} (h1 : -2048 ≤ n) (h2 : n ≤ 2048) : 0 ≤ Builtin.bitAnd n 127 ∧ 0 ≤ Builtin.bitOr (Builtin.bitAnd n 127) 32 + 32 ∧ Builtin.bitOr (Builtin.bitAnd n 127) 32 + 32 ≤ 200 ∧ Builtin.bitAnd n 127 ≤ 127 := by
  have := all_of all_bits h1 h2
  simp only [bitsOk, Bool.and_eq_true, decide_eq_true_eq] at this
  omega
end Mine
end
section
set_option maxRecDepth 100000
set_option pp.deepTerms false
set_option pp.deepTerms.threshold 8
set_option pp.maxSteps 20000
set_option Elab.async false
open PySem PySem.W PyProof.Rows PySem.Calls PyProof.Rows.LCg
namespace Mine
local macro_rules | `(tactic| k_mem) => `(tactic| assumption)
local macro_rules | `(tactic| walk_at "call ref") => `(tactic| (k_here; (refine wpAny_call ?_); k_dflt (refine' code_def ?k1 ?k2 ?k3 ?k4 ?k5 ?kA ?kF ?kK ?k6 ?k7 ?k8 ?k9 ?kB ?_ ?c2 ?c3 ?c4 ?c5; (case kA => exact rfl); (case kF => exact rfl); (case kK => first | exact rfl | assumption); (case k1 => k_asm); (case k2 => k_asm); (case k3 => k_asm); (case k4 => k_asm); (case k5 => k_asm); (case k6 => k_is); (case k7 => k_is); (case k8 => ktr_room); (case k9 => exact BindsTo.of_eq rfl); (case c5 => decide); (case kB => exact locs rfl); (case c2 => exact rfl); (case c3 => exact rfl); (case c4 => exact rfl); k_whole; intro g' L' h' FG' F' N' B' X' T'; (try dsimp only); (try k_fold))))
local macro_rules | `(tactic| walk_at "getAttr ref") => `(tactic| (k_here; (with_reducible show wpAny _ _ (getAttr (Value.ref _) (Str.ofString "append") _) _ _ _); k_dflt (refine' getAttr_append ?k1 ?k2 ?k3 ?_; (case k1 => k_asm); (case k2 => k_asm); (case k3 => k_mem); k_whole); intro q' h' F' N' l1; (try k_lt l1); (try k_sweep)))
local macro_rules | `(tactic| walk_at "callWith ref") => `(tactic| (k_here; k_dflt (refine' callWith_appN ?k1 ?k2 ?_; (case k1 => k_asm); (case k2 => k_mem); k_whole)))
local macro_rules | `(tactic| walk_at "And") => `(tactic| ((with_reducible show AppP _ _ _ ∧ _); refine ⟨appP (by k_asm) (by k_mem), ?_⟩; try dsimp only [List.nil_append, List.cons_append]))
local macro_rules | `(tactic| walk_at "call ref") => `(tactic| (k_here; (with_reducible show wpAny _ _ (call (Value.ref _) [_]) _ _ _); k_dflt (refine' call_app ?k1 ?k2 ?k3 ?k4 ?_ ?z; (case k1 => k_asm); (case k2 => k_asm); (case k3 => k_mem); (case k4 => k_upd); (case z => size_fits); k_whole); intro h' F' N'; (try k_sweep)))
local macro_rules | `(tactic| walk_at "subscriptTail Name Name str int") => `(tactic| (k_here; k_dflt (refine' item_str_at ?k1 ?k2 ?k3 ?_ ?k4; (case k1 => assumption); (case k2 => omega); (case k3 => omega); (case k4 => with_unfolding_all rfl); k_whole)))
local macro_rules | `(tactic| walk_at "subscriptTail") => `(tactic| (k_here; (with_reducible show wpAny _ _ (subscriptTail _ _ (Value.ref _) (Value.int (-1) _)) _ _ _); k_dflt (refine' item_last ?k1 ?k2 ?_ ?k4; (case k1 => k_asm); (case k2 => k_mem); (case k4 => with_unfolding_all rfl); k_whole)))
local macro_rules | `(tactic| walk_at "truthy ref") => `(tactic| (k_here; k_dflt (first
  | (refine' truthy_some ?k1 ?k2 ?k3 ?_; (case k1 => k_asm); (case k2 => k_mem); (case k3 => first | omega | ((simp only [List.length_append, List.length_singleton] at *); omega)); k_whole; intro _)
  | (refine' truthy_nil ?k1 ?k2 ?_; (case k1 => k_asm); (case k2 => k_mem); k_whole; intro _))))
local macro_rules | `(tactic| walk_at "getMethod str") => `(tactic| (k_here; with_reducible refine gm_translate ?_))
local macro_rules | `(tactic| walk_at "call builtin:str.translate") => `(tactic| (k_here; kt_k; (with_reducible rename KTD.Keyed _ _ _ => kyX); k_dflt (first
  | (refine' call_translate_miss kyX ?k1 ?k2 ?k3 ?k4 ?k5 ?_; (case k1 => rfl); (case k2 => k_asm); (case k3 => k_asm); (case k4 => decide); (case k5 => rfl); k_whole; intro h' tk' tk2' F' N'; (try k_sweep))
  | (refine' call_translate_hit kyX ?k1 ?k2 ?k3 ?_; (case k1 => k_asm); (case k2 => decide); (case k3 => rfl); k_whole; intro tk' tk2'))))
local macro_rules | `(tactic| walk_at "AppP") => `(tactic| exact appP (by k_asm) (by k_mem))
local macro_rules | `(tactic| walk_at "compareOp IsNot") => `(tactic| (k_here; first | refine isNot_str_ref ?_ | refine wpAny_isNot_ref_self ?_))
local macro_rules | `(tactic| walk_at "exec While Compare cons nil") => `(tactic| (k_here; refine unhold ?_))
local macro_rules | `(tactic| walk_at "exec While BoolOp") => `(tactic| (k_here; refine unhold ?_))
local macro_rules | `(tactic| walk_at "call builtin:len") => `(tactic| (k_here; (with_reducible show wpAny _ _ (call (Value.builtin "len") [Value.ref _]) _ _ _); k_dflt (refine' len_at ?k1 ?k2 ?k3 ?_; (case k1 => k_asm); (case k2 => k_mem); (case k3 => omega); k_whole); intro _ _))
local macro_rules | `(tactic| walk_at "subscriptTail") => `(tactic| (k_here; (with_reducible show wpAny _ _ (subscriptTail _ _ (Value.ref _) (Value.int _ _)) _ _ _); k_dflt (refine' item_at ?k1 ?k2 ?k3 ?k4 ?k5 ?_ ?k6; (case k1 => k_asm); (case k2 => k_mem); (case k3 => assumption); (case k4 => omega); (case k5 => omega); (case k6 => with_unfolding_all rfl); k_whole)))
local macro_rules | `(tactic| walk_at "compareOp Is ref") => `(tactic| (k_here; refine wpAny_is_ref_self ?_))
local macro_rules | `(tactic| walk_at "call builtin:str.join") => `(tactic| (k_here; k_dflt (refine' join_at ?k1 ?k2 ?k3 ?k4 ?_; (case k1 => k_asm); (case k2 => k_mem); (case k3 => assumption); (case k4 => first | assumption | omega); k_whole); intro _ _))
local macro_rules | `(tactic| walk_at "XQ") => `(tactic| (dsimp only [XQ]))
local macro_rules | `(tactic| walk_at "XPost") => `(tactic| first | refine xp_next ?_ | refine xp_cont ?_ | refine xp_brk ?_ | refine xp_ret ?_)
local macro_rules | `(tactic| ktr_rel) => `(tactic| (first | (with_reducible exact so_base) | ((with_reducible refine so_st ?_ ?_); (focus (first | (simp; done) | decide +kernel)); ktr_rel) | ((with_reducible refine so_x ?_); ktr_rel) | ((with_reducible refine so_kst ?_ ?_); (focus (intro z _; rfl)); ktr_rel)))
local macro_rules | `(tactic| walk_at "call type:object") => `(tactic| (k_here; k_dflt (refine' call_object ?k1 ?k2 ?_; (case k1 => k_asm); (case k2 => k_asm); k_whole); intro o' h' F' N' l1; (try k_lt l1); (try k_sweep)))
local macro_rules | `(tactic| walk_at "YQ") => `(tactic| (dsimp only [YQ]))
local macro_rules | `(tactic| walk_at "YPost") => `(tactic| first | refine yp_next ?_ | refine yp_cont ?_ | refine yp_brk ?_ | refine yp_ret ?_)
local macro_rules | `(tactic| ktr_rel) => `(tactic| (first | (with_reducible exact sp_base) | ((with_reducible refine sp_st ?_ ?_); (focus (first | (simp; done) | decide +kernel)); ktr_rel) | ((with_reducible refine sp_x ?_); ktr_rel) | ((with_reducible refine sp_y ?_); ktr_rel)))
local macro_rules | `(tactic| walk_at "compareOp Eq str str") => `(tactic| (k_here; first | (refine eq_yes (by assumption) ?_) | (refine eq_no (by assumption) ?_) | (refine eq_yes (by decide +kernel) ?_) | (refine eq_no (by decide +kernel) ?_)))
local macro_rules | `(tactic| walk_at "compareOp In str str") => `(tactic| (k_here; first | (refine in_no (by decide +kernel) ?_) | (refine in_yes (by decide +kernel) ?_)))
local macro_rules | `(tactic| k_all) => `(tactic| assumption)
local macro_rules | `(tactic| walk_at "subscriptTail Name BinOp str int") => `(tactic| (k_here; k_dflt (refine' item_str_at ?k1 ?k2 ?k3 ?_ ?k4; (case k1 => assumption); (case k2 => omega); (case k3 => omega); (case k4 => with_unfolding_all rfl); k_whole)))
theorem str_of_eq {x y : Str} {t : Tok} (h : x = y) : ∃ t', Value.str x t = .str y t' := ⟨t, by rw [h]⟩
set_option maxHeartbeats 4000000 in
theorem unctrl_con (w : World) (news : List (Addr × Obj)) (n : Int) (t : Tok) (h1 : -2048 ≤ n) (h2 : n ≤ 2048) :
    Con w 104 5 news [.int n t] (fun v tl => tl = [] ∧ ∃ t', v = .str (unctrlF n) t') := by
  unfold Con; k_fill
  intro dp un gd cn cs a ccd cl outer A₀ base h₀ L m s Q E p loose mean mg mb B F X N T hk hd hu hret
  refine wpAny_call ?_
  k_dflt cell_enter
  obtain ⟨b1, b2, b3, b4⟩ := bits_ok h1 h2
  k_steps
  all_goals (try (exfalso; omega))
  all_goals
    (with_reducible rename Fr h₀ _ _ _ => lF); (with_reducible rename News h₀ _ _ _ => lN)
    refine hret _ [] _ _ lF lN (fun q hq => nomatch hq) ⟨rfl, str_of_eq ?_⟩
    unfold unctrlF repF
    (repeat' split) <;> first | rfl | (exfalso; omega)
set_option maxHeartbeats 4000000 in
theorem unctrlS_con (w : World) (news : List (Addr × Obj)) (c : Nat) (t : Tok) (h2 : c ≤ 2048) :
    Con w 104 5 news [.str ⟨#[c]⟩ t] (fun v tl => tl = [] ∧ ∃ t', v = .str (unctrlF c) t') := by
  unfold Con; k_fill
  intro dp un gd cn cs a ccd cl outer A₀ base h₀ L m s Q E p loose mean mg mb B F X N T hk hd hu hret
  refine wpAny_call ?_
  k_dflt cell_enter
  obtain ⟨b1, b2, b3, b4⟩ := bits_ok (n := (c : Int)) (by omega) (by omega)
  k_steps
  all_goals (try (exfalso; omega))
  all_goals
    (with_reducible rename Fr h₀ _ _ _ => lF); (with_reducible rename News h₀ _ _ _ => lN)
    refine hret _ [] _ _ lF lN (fun q hq => nomatch hq) ⟨rfl, str_of_eq ?_⟩
    unfold unctrlF repF
    (repeat' split) <;> first | rfl | (exfalso; omega)
set_option maxHeartbeats 4000000 in
theorem iscntrl_con (w : World) (news : List (Addr × Obj)) (n : Int) (t : Tok) (h1 : -2048 ≤ n) (h2 : n ≤ 2048) :
    Con w 83 4 news [.int n t] (fun v tl => tl = [] ∧ v = .bool (decide (0 ≤ n ∧ n ≤ 31 ∨ n = 127))) := by
  unfold Con; k_fill
  intro dp un gd cn cs a ccd cl outer A₀ base h₀ L m s Q E p loose mean mg mb B F X N T hk hd hu hret
  refine wpAny_call ?_
  k_dflt cell_enter
  k_steps
  all_goals (try (exfalso; omega))
  all_goals
    (with_reducible rename Fr h₀ _ _ _ => lF); (with_reducible rename News h₀ _ _ _ => lN)
    refine hret _ [] _ _ lF lN (fun q hq => nomatch hq) ⟨rfl, ?_⟩
    first | rfl | (congr 1; rw [Bool.eq_iff_iff]; simp <;> omega)
set_option maxHeartbeats 4000000 in
theorem ismeta_con (w : World) (news : List (Addr × Obj)) (n : Int) (t : Tok) (h1 : -2048 ≤ n) (h2 : n ≤ 2048) :
    Con w 97 4 news [.int n t] (fun v tl => tl = [] ∧ v = .bool (decide (127 < n))) := by
  unfold Con; k_fill
  intro dp un gd cn cs a ccd cl outer A₀ base h₀ L m s Q E p loose mean mg mb B F X N T hk hd hu hret
  refine wpAny_call ?_
  k_dflt cell_enter
  k_steps
  all_goals (try (exfalso; omega))
  all_goals
    (with_reducible rename Fr h₀ _ _ _ => lF); (with_reducible rename News h₀ _ _ _ => lN)
    refine hret _ [] _ _ lF lN (fun q hq => nomatch hq) ⟨rfl, ?_⟩
    first | rfl | (congr 1; rw [Bool.eq_iff_iff]; simp <;> omega)
end Mine
end
section
set_option maxRecDepth 100000
open PySem PySem.W PyProof.Rows PySem.Calls PyProof.Rows.LCg
namespace Mine
/-- the marks in front of a shown sign -/
def preF (n : Int) : List Nat := (if 127 < n % 256 then [33] else []) ++ (if n % 128 ≤ 31 ∨ n % 128 = 127 then [94] else [])
def shapeOk (n : Int) : Bool := n % 128 == 30 || n % 128 == 33 || n % 128 == 94 ||
  (match (unctrlF n).cps.toList.reverse with
   | [] => false
   | c :: r => r.reverse == preF n && c != 33 && c != 94)
theorem all_shape : (List.range 4097).all (fun k => shapeOk ((k : Int) - 2048)) = true := by decide +kernel
theorem shape_of {n : Int} (h1 : -2048 ≤ n) (h2 : n ≤ 2048) (a : n % 128 ≠ 30) (b : n % 128 ≠ 33) (d : n % 128 ≠ 94) : ∃ c, c ≠ 33 ∧ c ≠ 94 ∧ (unctrlF n).cps.toList = preF n ++ [c] := by
  have := all_of all_shape h1 h2
  unfold shapeOk at this
  simp only [Bool.or_eq_true, beq_iff_eq, a, b, d, false_or] at this
  split at this
  · cases this
  · rename_i c r e
    simp only [Bool.and_eq_true, beq_iff_eq, bne_iff_ne] at this
    refine ⟨c, this.1.2, this.2, ?_⟩
    have := congrArg List.reverse e
    rw [List.reverse_reverse] at this
    rw [this, List.reverse_cons]
    simp_all
end Mine
end
section
set_option maxRecDepth 100000
namespace Mine
open PySem
/-- the run M can be laid k times, one behind the other, on what is left -/
def midL (M : List Str) : Nat → List Nat → Bool
  | 0, _ => true
  | _ + 1, [] => false
  | k + 1, c :: r => if liesF M (c :: r) = true then midL M k ((c :: r).drop M.length) else midL M (k + 1) r
termination_by k s => (k, s.length)
theorem midF_over {cs : List Nat} {M : List Str} : ∀ (k p : Nat), cs.length < p → cs.length < midF cs (List.replicate k M) p
  | 0, p, h => h
  | k + 1, p, h => by
    show cs.length < midF cs (List.replicate k M) (find cs M p + M.length)
    rw [find_end h]
    exact midF_over k _ (by omega)
theorem drop_cons {cs : List Nat} {p : Nat} (h : p < cs.length) : ∃ c, cs.drop p = c :: cs.drop (p + 1) := ⟨cs[p], by rw [List.drop_eq_getElem_cons h]⟩
theorem midF_midL {cs : List Nat} {M : List Str} (hM : M ≠ []) : ∀ (k p : Nat), p ≤ cs.length → (midF cs (List.replicate k M) p ≤ cs.length ↔ midL M k (cs.drop p) = true)
  | 0, p, h => by
    show p ≤ cs.length ↔ _
    unfold midL
    simp [h]
  | k + 1, p, h => by
    show midF cs (List.replicate k M) (find cs M p + M.length) ≤ cs.length ↔ _
    have hMl : 0 < M.length := List.length_pos_iff.mpr hM
    by_cases hl : liesF M (cs.drop p) = true
    · rw [find_yes h hl]
      have hp : p + M.length ≤ cs.length := by
        rcases Nat.lt_or_ge (cs.drop p).length M.length with q | q
        · rw [liesF_short q] at hl; cases hl
        · rw [List.length_drop] at q; omega
      have hlt : p < cs.length := by omega
      rw [midF_midL (cs := cs) hM k _ hp]
      obtain ⟨c, hc⟩ := drop_cons hlt
      rw [hc] at hl ⊢
      rw [midL, if_pos hl, ← hc, List.drop_drop]
    · have hl' : liesF M (cs.drop p) = false := by simpa using hl
      rw [find_go h hl']
      rcases Nat.lt_or_ge p cs.length with q | q
      · obtain ⟨c, hc⟩ := drop_cons q
        have ih := midF_midL (cs := cs) hM (k + 1) (p + 1) (by omega)
        have ih' : midF cs (List.replicate k M) (find cs M (p + 1) + M.length) ≤ cs.length ↔ midL M (k + 1) (cs.drop (p + 1)) = true := ih
        rw [ih', hc]
        rw [hc] at hl
        conv => rhs; rw [midL, if_neg hl]
      · rw [find_end (by omega)]
        have e : cs.drop p = [] := List.drop_of_length_le q
        rw [e, midL]
        have := midF_over (M := M) k (p + 1 + M.length) (cs := cs) (by omega)
        constructor
        · intro h; omega
        · intro h; cases h
termination_by k p => (k, cs.length + 1 - p)
end Mine
end
section
set_option maxRecDepth 100000
namespace Mine
open PySem
theorem empty_is : Str.ofString "" = (⟨#[]⟩ : Str) := by decide +kernel
theorem lies_one (a c : Nat) (r : List Nat) : liesF [⟨#[a]⟩] (c :: r) = decide (a = c) := by
  rw [liesF, empty_is]
  have e1 : ((⟨#[a]⟩ : Str) == ⟨#[]⟩) = false := beq_eq_false_iff_ne.mpr fun e => by cases e
  have e2 : ((⟨#[a]⟩ : Str) == ⟨#[c]⟩) = decide (a = c) := by
    rw [Bool.eq_iff_iff, beq_iff_eq, decide_eq_true_eq]
    constructor
    · intro e; injection e with e; simpa using e
    · rintro rfl; rfl
  rw [e1, e2]
  simp [liesF]
theorem midL_one (a : Nat) : ∀ (s : List Nat) (k : Nat), midL [⟨#[a]⟩] k s = decide (k ≤ s.count a)
  | _, 0 => by rw [midL]; simp
  | [], k + 1 => by rw [midL]; simp
  | c :: r, k + 1 => by
    rw [midL, lies_one]
    by_cases h : a = c
    · subst h
      simp only [decide_true, if_true, List.length_singleton, List.drop_succ_cons, List.drop_zero]
      rw [midL_one a r k, List.count_cons_self]
      simp
    · have h' : ¬ c = a := fun e => h e.symm
      simp only [h, decide_false, if_false, Bool.false_eq_true]
      rw [midL_one a r (k + 1), List.count_cons_of_ne (by simpa using h')]
/-- how often 33, 94 stand side by side -/
def pairs : List Nat → Nat
  | [] => 0
  | [_] => 0
  | c :: d :: r => if c = 33 ∧ d = 94 then pairs r + 1 else pairs (d :: r)
theorem lies_two (a b c d : Nat) (r : List Nat) : liesF [⟨#[a]⟩, ⟨#[b]⟩] (c :: d :: r) = (decide (a = c) && decide (b = d)) := by
  have e := lies_one a c (d :: r)
  have e' := lies_one b d r
  rw [liesF] at e ⊢
  rw [e']
  rw [show liesF [] (d :: r) = true from rfl, Bool.and_true] at e
  rw [e]
theorem midL_two : ∀ (s : List Nat) (k : Nat), midL [⟨#[33]⟩, ⟨#[94]⟩] k s = decide (k ≤ pairs s)
  | _, 0 => by rw [midL]; simp
  | [], k + 1 => by rw [midL]; simp [pairs]
  | [c], k + 1 => by
    rw [midL, if_neg (by rw [liesF_short (by simp)]; simp), midL]
    simp [pairs]
  | c :: d :: r, k + 1 => by
    rw [midL, lies_two, pairs]
    by_cases h : c = 33 ∧ d = 94
    · obtain ⟨rfl, rfl⟩ := h
      simp only [decide_true, Bool.and_self, if_true, and_self, List.length_cons, List.length_nil, List.drop_succ_cons, List.drop_zero]
      rw [midL_two r k]
      simp
    · rw [if_neg h, if_neg (by intro q; simp only [Bool.and_eq_true, decide_eq_true_eq] at q; exact h ⟨q.1.symm, q.2.symm⟩)]
      exact midL_two (d :: r) (k + 1)
end Mine
end
section
set_option maxRecDepth 100000
namespace Mine
open PySem
/-- a number that the law may show -/
def Fair (n : Int) : Prop := -2048 ≤ n ∧ n ≤ 2048 ∧ n % 128 ≠ 30 ∧ n % 128 ≠ 33 ∧ n % 128 ≠ 94
def lineF : List Int → List Nat
  | [] => []
  | n :: r => (unctrlF n).cps.toList ++ lineF r
def isM (n : Int) : Bool := decide (127 < n % 256)
def isC (n : Int) : Bool := decide (n % 128 ≤ 31 ∨ n % 128 = 127)
theorem pre_eq (n : Int) : preF n = (if isM n = true then [33] else []) ++ (if isC n = true then [94] else []) := by
  unfold preF isM isC
  simp only [decide_eq_true_eq]
theorem fair_shape {n : Int} (h : Fair n) : ∃ c, c ≠ 33 ∧ c ≠ 94 ∧ (unctrlF n).cps.toList = (if isM n = true then [33] else []) ++ (if isC n = true then [94] else []) ++ [c] := by
  obtain ⟨h1, h2, a, b, d⟩ := h
  rw [← pre_eq]
  exact shape_of h1 h2 a b d
theorem pairs_skip {c : Nat} (h : c ≠ 33) : ∀ r, pairs (c :: r) = pairs r
  | [] => rfl
  | d :: r => by rw [pairs, if_neg fun q => h q.1]
theorem count_bang : ∀ {ns : List Int}, (∀ n ∈ ns, Fair n) → (lineF ns).count 33 = ns.countP isM
  | [], _ => rfl
  | n :: r, h => by
    obtain ⟨c, h1, h2, e⟩ := fair_shape (h n (.head _))
    rw [lineF, e, List.count_append, count_bang fun m hm => h m (.tail _ hm), List.countP_cons]
    cases isM n <;> cases isC n <;> simp [List.count_cons, h1] <;> omega
theorem count_hat : ∀ {ns : List Int}, (∀ n ∈ ns, Fair n) → (lineF ns).count 94 = ns.countP isC
  | [], _ => rfl
  | n :: r, h => by
    obtain ⟨c, h1, h2, e⟩ := fair_shape (h n (.head _))
    rw [lineF, e, List.count_append, count_hat fun m hm => h m (.tail _ hm), List.countP_cons]
    cases isM n <;> cases isC n <;> simp [List.count_cons, h2] <;> omega
theorem count_both : ∀ {ns : List Int}, (∀ n ∈ ns, Fair n) → pairs (lineF ns) = ns.countP (fun n => isM n && isC n)
  | [], _ => rfl
  | n :: r, h => by
    obtain ⟨c, h1, h2, e⟩ := fair_shape (h n (.head _))
    rw [lineF, e, List.countP_cons, ← count_both fun m hm => h m (.tail _ hm)]
    cases isM n <;> cases isC n
    · simp [pairs_skip h1]
    · simp [pairs_skip h1, pairs_skip (show (94 : Nat) ≠ 33 by decide)]
    · simp only [if_true, Bool.false_eq_true, if_false, List.append_nil, List.cons_append, List.nil_append, pairs, Bool.and_false]
      rw [if_neg fun q => h2 q.2, pairs_skip h1]; rfl
    · simp only [if_true, List.cons_append, List.nil_append, pairs, Bool.and_self, and_self]
      rw [pairs_skip h1]
theorem line_length : ∀ {ns : List Int}, (∀ n ∈ ns, Fair n) → (lineF ns).length = ns.length + ns.countP isM + ns.countP isC
  | [], _ => rfl
  | n :: r, h => by
    obtain ⟨c, h1, h2, e⟩ := fair_shape (h n (.head _))
    rw [lineF, e, List.length_append, line_length fun m hm => h m (.tail _ hm), List.countP_cons, List.countP_cons]
    cases isM n <;> cases isC n <;> simp <;> omega
end Mine
end
section
set_option maxRecDepth 100000
namespace Mine
open PySem
theorem takes_mark {cs : List Nat} {M : List Str} {k : Nat} (hM : M ≠ []) : takesF ([] :: (List.replicate k M ++ [[]])) cs = midL M k cs := by
  rw [takesF_two]
  have h := midF_midL (cs := cs) hM k 0 (Nat.zero_le _)
  rw [List.drop_zero] at h
  have e1 : liesF [] cs = true := by cases cs <;> rfl
  have e2 : liesF [] (cs.drop (cs.length - ([] : List Str).length)) = true := by cases (cs.drop (cs.length - ([] : List Str).length)) <;> rfl
  rw [e1, e2, Bool.true_and, Bool.and_true, Bool.eq_iff_iff, decide_eq_true_eq]
  exact h
theorem lies_any : ∀ (s : Nat) (cs : List Nat), liesF (List.replicate s (Str.ofString "")) cs = decide (s ≤ cs.length)
  | 0, cs => by cases cs <;> simp [liesF]
  | s + 1, [] => by simp [liesF, List.replicate_succ]
  | s + 1, c :: cs => by simp [liesF, List.replicate_succ, lies_any s cs]
theorem takes_any (s : Nat) (cs : List Nat) : takesF [List.replicate s (Str.ofString "")] cs = decide (s = cs.length) := by
  rw [takesF_one, lies_any, List.length_replicate, Bool.eq_iff_iff]
  simp
  omega
theorem takes_anyStar (s : Nat) (cs : List Nat) : takesF [List.replicate s (Str.ofString ""), []] cs = decide (s ≤ cs.length) := by
  have h := takesF_two (List.replicate s (Str.ofString "")) [] [] cs
  rw [List.nil_append] at h
  rw [h, lies_any]
  have e2 : liesF [] (cs.drop (cs.length - ([] : List Str).length)) = true := by cases (cs.drop (cs.length - ([] : List Str).length)) <;> rfl
  rw [e2]
  simp [midF]
end Mine
end
section
set_option maxRecDepth 100000
namespace Mine
open PySem
/-- all that translate_con and runs_con ask of a pattern, with the runs -/
def patB (P : Str) (RS : List (List Str)) : Bool :=
  decide (P.length ≤ 100) && P.cps.toList.all (fun c => c == 42 || c == 63 || c == 33 || c == 94) && okP (trF P.cps.toList) && decide ((trF P.cps.toList).length ≤ 100) && decide (((jl (trF P.cps.toList) none []).map (·.length)).sum ≤ 100000) &&
  decide ((transF P).length ≤ 200) && ((Txt.slice (transF P) none (some 4)).cps.toList == (Str.ofString "(?s:").cps.toList) && ((Txt.slice (transF P) (some (-3)) none).cps.toList == (Str.ofString ")\\Z").cps.toList) &&
  (lr (transF P) 200 4 .z [] [] == some RS)
def patM (m : List Nat) (k : Nat) : Str := ⟨(42 :: (List.replicate k (m ++ [42])).flatten).toArray⟩
def patQ (s : Nat) (e : List Nat) : Str := ⟨(List.replicate s 63 ++ e).toArray⟩
theorem pat_bang : (List.range 7).all (fun k => patB (patM [33] k) ([] :: (List.replicate k [Str.ofString "!"] ++ [[]]))) = true := by decide +kernel
theorem pat_hat : (List.range 7).all (fun k => patB (patM [94] k) ([] :: (List.replicate k [Str.ofString "^"] ++ [[]]))) = true := by decide +kernel
theorem pat_both : (List.range 7).all (fun k => patB (patM [33, 94] k) ([] :: (List.replicate k [Str.ofString "!", Str.ofString "^"] ++ [[]]))) = true := by decide +kernel
theorem pat_any : (List.range 17).all (fun s => patB (patQ s []) [List.replicate s (Str.ofString "")]) = true := by decide +kernel
theorem pat_anyStar : (List.range 17).all (fun s => patB (patQ s [42]) [List.replicate s (Str.ofString ""), []]) = true := by decide +kernel
end Mine
end
section
set_option maxRecDepth 100000
open PySem PySem.W PyProof.Rows PySem.Calls PyProof.Rows.LCg
namespace Mine
/-- a statement's end, told -/
def Cut (P : Shared → Prop) (f : Flow) (s : Shared) : Prop := f = .next ∧ P s
theorem cut_next {P : Shared → Prop} {s : Shared} (h : P s) : Cut P .next s := ⟨rfl, h⟩
section
variable {prog : Program} {w : World} {A : Around} {E : Value → Shared → Prop} {s : Shared} {h₀ : Heap} {L : Addr} {m : Str → Option Value} {env : Env}
theorem execs_cut {st : Stmt} {rest : List Stmt} {Q : Flow → Shared → Prop} (P : Shared → Prop)
    (h1 : wpAny (model prog w) A (exec st env) (Cut P) E s) (h2 : ∀ s', P s' → wpAny (model prog w) A (execs rest env) Q E s') :
    wpAny (model prog w) A (execs (st :: rest) env) Q E s :=
  wpAny_execs_cons (wpAny_mono h1 (fun f s' h => by obtain ⟨rfl, h⟩ := h; exact h2 s' h) fun _ _ e => e)
/-- what an element leaves -/
def LEnd (h₀ : Heap) (L : Addr) (m : Str → Option Value) (s : Shared) (led : List (Addr × Obj)) (J : Value → Prop) (y : Value) (s₄ : Shared) : Prop :=
  ∃ h' tk', s₄ = { s with heap := h', toks := tk' } ∧ Fr h₀ L h' m ∧ News h₀ L h' led ∧ J y
theorem lend {h₀ : Heap} {L : Addr} {m : Str → Option Value} {s : Shared} {led led' : List (Addr × Obj)} {J : Value → Prop} {y : Value} {h' : Heap} {tk' : Nat} (F : Fr h₀ L h' m) (N : News h₀ L h' led') (hs : ∀ p ∈ led, p ∈ led') (hJ : J y) :
    LEnd h₀ L m s led J y { s with heap := h', toks := tk' } := ⟨h', tk', rfl, F, fun p hp => N p (hs p hp), hJ⟩
/-- one turn of a list comprehension over a list: the element -/
def LStep (prog : Program) (w : World) (A : Around) (h₀ : Heap) (L : Addr) (m : Str → Option Value) (env : Env) (elt : PySem.Expr) (x : Str) (scope : Scope) (cl : List (Str × Addr)) (s : Shared) (P : Nat → Value → Prop) (J : Nat → List Value → Prop) (news : List (Addr × Obj)) : Prop :=
  ∀ i v ys I oI C oC D m₂ h tk (E' : Value → Shared → Prop), P i v → J i ys → NsObj oC m₂ → m₂ x = some v → Fr h₀ L h m → News h₀ L h ((I, oI) :: (C, oC) :: (D, lst ys) :: news) → ((@Ne Nat I C) ∧ (@Ne Nat I D) ∧ (@Ne Nat C D)) →
    wpAny (model prog w) A (eval elt (compEnvC scope cl C env)) (LEnd h₀ L m s ((I, oI) :: (C, oC) :: (D, lst ys) :: news) (fun y => J (i + 1) (ys ++ [y]))) E' { s with heap := h, toks := tk }
theorem lrest {elt : PySem.Expr} {x : Str} {scope : Scope} {cl : List (Str × Addr)} {S : List (Addr × Obj) → Prop} {P : Nat → Value → Prop} {Fin : List Value → List (Addr × Obj) → Prop} {J : Nat → List Value → Prop} {news : List (Addr × Obj)} {n : Nat}
    (step : LStep prog w A h₀ L m env elt x scope cl s P J news) (hS : S news) (fin : ∀ ys, J n ys → Fin ys news) :
    ∀ (k i : Nat) (ys : List Value), i + k = n → J i ys → CompRest prog w A h₀ L m env elt x scope cl s S P Fin k i ys news
  | 0, i, ys, e, hJ => CompRest.zero (fin ys ((show i = n by omega) ▸ hJ))
  | k + 1, i, ys, e, hJ => CompRest.succ fun v I oI C oC D m₂ h tk E' hv hC hx F N off ne =>
      wpAny_mono (step i v ys I oI C oC D m₂ h tk E' hv hJ hC hx F N ne) (fun y s₄ q => by
        obtain ⟨h', tk', rfl, F', N', hJ'⟩ := q
        exact CompEnd.intro F' N' news (fun p hp => hp) off hS (lrest step hS fin k (i + 1) (ys ++ [y]) (by omega) hJ')) fun _ _ e => e
theorem lsrc {elt : PySem.Expr} {x : Str} {scope : Scope} {cl : List (Str × Addr)} {Fin : Shared → List Value → List (Addr × Obj) → Prop} {l : Addr} {us : List Value} {cnt : Nat} {news : List (Addr × Obj)} (J : Nat → List Value → Prop)
    (hh : A.handled = none) (F : Fr h₀ L s.heap m) (N : News h₀ L s.heap news) (hm : (l, W.listOf us.toArray cnt) ∈ news) (hsz : us.length ≤ 100000) (h0 : J 0 [])
    (step : ∀ g, LStep prog w A h₀ L m env elt x scope cl { s with heap := g } (fun i v => us[i]? = some v) J news)
    (fin : ∀ g ys, J us.length ys → Fin { s with heap := g } ys news) :
    CompSrc prog w A h₀ L m env elt x scope cl Fin (.ref l) s :=
  CompSrc.ledger hh F N hm (Nat.le_trans (by simpa using hsz) (by decide)) fun g => by
    have e : us.toArray.size = us.length := by simp
    rw [e]
    exact lrest (S := SrcAt h₀ l us.toArray) (fun i v ys I oI C oC D m₂ h tk E' hv => step g i v ys I oI C oC D m₂ h tk E' (by simpa using hv)) (.inr ⟨_, hm, rfl, _, rfl⟩) (fin g) _ 0 [] (by omega) h0
/-- the comprehension as a value -/
theorem lsrcE {elt : PySem.Expr} {x : Str} {scope : Scope} {cl : List (Str × Addr)} {l : Addr} {us : List Value} {cnt : Nat} {news : List (Addr × Obj)} {Q : Value → Shared → Prop} (J : Nat → List Value → Prop)
    (hh : A.handled = none) (F : Fr h₀ L s.heap m) (N : News h₀ L s.heap news) (hm : (l, W.listOf us.toArray cnt) ∈ news) (hsz : us.length ≤ 100000) (h0 : J 0 [])
    (step : ∀ g, LStep prog w A h₀ L m env elt x scope cl { s with heap := g } (fun i v => us[i]? = some v) J news)
    (fin : ∀ D h tk ys, Fr h₀ L h m → News h₀ L h ((D, lst ys) :: news) → Off1 D news → J us.length ys → Q (.ref D) { s with heap := h, toks := tk }) :
    CompSrc prog w A h₀ L m env elt x scope cl (fun s₂ => FinE h₀ L m s₂ Q) (.ref l) s :=
  lsrc J hh F N hm hsz h0 step fun _ ys hJ D h tk F' N' o => fin D h tk ys F' N' o hJ
/-- the comprehension stored under a name -/
theorem lsrcA {elt : PySem.Expr} {x y : Str} {scope : Scope} {cl : List (Str × Addr)} {l : Addr} {us : List Value} {cnt : Nat} {news : List (Addr × Obj)} {Q : Flow → Shared → Prop} (J : Nat → List Value → Prop)
    (hh : A.handled = none) (F : Fr h₀ L s.heap m) (N : News h₀ L s.heap news) (hm : (l, W.listOf us.toArray cnt) ∈ news) (hsz : us.length ≤ 100000) (h0 : J 0 [])
    (step : ∀ g, LStep prog w A h₀ L m env elt x scope cl { s with heap := g } (fun i v => us[i]? = some v) J news)
    (fin : ∀ D h tk ys, Fr h₀ L h (fun z => if z = y then some (.ref D) else m z) → News h₀ L h ((D, lst ys) :: news) → Off1 D news → J us.length ys → Q .next { s with heap := h, toks := tk }) :
    CompSrc prog w A h₀ L m env elt x scope cl (fun s₂ => FinA h₀ L m s₂ y Q) (.ref l) s :=
  lsrc J hh F N hm hsz h0 step fun _ ys hJ D h tk F' N' o => fin D h tk ys F' N' o hJ
/-- a list of truth values, and how often True stands in it -/
theorem count_true {l : Addr} {bs : List Bool} {Q : Value → Shared → Prop} (hl : s.heap.IsList l (bs.map Value.bool).toArray)
    (h : Q (.int (bs.count true : Nat) s.toks) { s with toks := s.toks + 1 }) : wpAny (model prog w) A (call (.builtin "list.count") [.ref l, .bool true]) Q E s := by
  obtain ⟨⟨cls, dd, data, sl⟩, ho, hc, n, hd⟩ := id hl
  simp only at hc hd
  subst hc hd
  refine call_meets PySem.F.slot_list_count ⟨_, ho, rfl⟩ PySem.F.entry_list_count (PySem.F.args_list_count_2 _ _) (PySem.SeqAt.list_countAt l _ n dd sl (.bool true) (isBoolOf true)) ⟨ho, fun y hy => ?_, ?_⟩
  · have hy' : y ∈ bs.map Value.bool := by simpa using hy
    obtain ⟨b, _, rfl⟩ := List.mem_map.mp hy'
    exact PySem.SeqAt.EqAt.bool_bool b true
  · have e : (bs.map Value.bool).countP (isBoolOf true) = bs.count true := by
      rw [List.countP_map]
      exact List.countP_congr fun b _ => by cases b <;> simp [isBoolOf]
    rw [show (bs.map Value.bool).toArray.toList = bs.map Value.bool from rfl, e]
    exact h
end
end Mine
end
section
set_option maxRecDepth 100000
open PySem PySem.W PyProof.Rows PySem.Calls PyProof.Rows.LCg
namespace Mine
section
variable {prog : Program} {w : World} {A : Around} {E : Value → Shared → Prop} {s : Shared} {h₀ : Heap} {L : Addr} {m : Str → Option Value} {env : Env}
theorem es_mem {n l b : Nat} (hl : l < n) (hb : b ∈ [n + 1, n, l]) : b < n + 2 := by
  have h' : b = n + 1 ∨ b = n ∨ b = l := by simpa using hb
  omega
theorem es_off {n l c : Nat} (hl : l ≠ c) (hc : c < n) : c ∉ [n + 1, n, l] := fun hb => by
  have h' : c = n + 1 ∨ c = n ∨ c = l := by simpa using hb
  omega
theorem es_wr {n b : Nat} (hb : b ∈ [n + 1, n]) : n ≤ b := by
  have h' : b = n + 1 ∨ b = n := by simpa using hb
  omega
theorem es_news {n b : Nat} (hb : b < n) : b ∉ [n + 1, n] := fun h => by
  have := es_wr h
  omega
theorem enum_src {ifs : List PySem.Expr} {elt : PySem.Expr} {a b : Str} {scope : Scope} {cl : List (Str × Addr)} {l : Addr} {us : List Value} {cnt : Nat} {news : List (Addr × Obj)} {Q : Value → Shared → Prop} (J : Nat → List Value → Prop)
    (hh : A.handled = none) (F : Fr h₀ L s.heap m) (N : News h₀ L s.heap news) (hm : (l, W.listOf us.toArray cnt) ∈ news) (hsz : us.length ≤ 100000) (h0 : J 0 []) (hJl : ∀ i ys, J i ys → ys.length ≤ i)
    (step : ∀ g, ZStep prog w A h₀ L m env ifs elt a b scope cl { s with heap := g } us.length (fun i vx vy => us[i]? = some vy ∧ ∃ t, vx = .int i t) J news)
    (fin : ∀ D h tk ys, Fr h₀ L h m → News h₀ L h ((D, lst ys) :: news) → (∀ p ∈ news, p.1 < D) → J us.length ys → Q (.ref D) { s with heap := h, toks := tk }) :
    wpAny (model prog w) A (call (.type "enumerate") [.ref l]) (ZSrc prog w A h₀ L m env ifs elt a b scope cl Q) E s := by
  have hl : s.heap.IsList l us.toArray := ⟨_, (N _ hm).1, rfl, cnt, rfl⟩
  have hlt : @LT.lt Nat _ l s.heap.objs.size := Heap.lt_size (N _ hm).1
  have hLlt : @LT.lt Nat _ L s.heap.objs.size := F.ns.lt
  have hlL : l ≠ L := (N _ hm).2.1
  have fresh₀ : ∀ a, s.heap.objs.size ≤ a → h₀.get? a = none := fun a ha => Heap.get?_none_of_le (Nat.le_of_lt (Nat.lt_of_le_of_lt F.above (Nat.lt_of_lt_of_le hLlt ha)))
  refine call_enumerate_list hl fun h' hz hit hsz' hk => ?_
  have d1 : s.heap.objs.size + 1 ≠ s.heap.objs.size := Nat.succ_ne_self _
  have d2 : l ≠ s.heap.objs.size + 1 := Nat.ne_of_lt (Nat.lt_succ_of_lt hlt)
  have d3 : l ≠ s.heap.objs.size := Nat.ne_of_lt hlt
  refine ⟨_, _, _, _, _, fun i vx vy => us[i]? = some vy ∧ ∃ t, vx = .int i t, _, _, news, J, rfl, hh, WalksT.enumerate hh (s.heap.objs.size + 1) s.heap.objs.size l d1 d2 d3 us.toArray, ?_, ⟨⟨_, hz⟩, hit, hl.at fun o e => hk l o e⟩, ?_, ?_, hJl,
    F.keeps hk, N.grown hk, ?_, ?_, ?_, h0, ?_, ?_⟩
  · rintro i vals ⟨t, x, h1, rfl⟩
    exact ⟨_, _, rfl, by simpa using h1, t, rfl⟩
  · intro b hb
    show b < h'.objs.size
    rw [hsz']
    exact es_mem hlt hb
  · exact Nat.le_trans (by simpa using hsz) (by decide)
  · exact es_off hlL hLlt
  · exact fun b hb => fresh₀ _ (es_wr hb)
  · exact fun p hp => es_news (Heap.lt_size (N p hp).1)
  · have e : us.toArray.size = us.length := by simp
    rw [e]
    exact step h'
  · have e : us.toArray.size = us.length := by simp
    rw [e]
    exact fin
end
end Mine
end
section
set_option maxRecDepth 100000
open PySem PySem.W PyProof.Rows PySem.Calls PyProof.Rows.LCg
namespace Mine
/-- a goal at which the walk stands still -/
def HoldP (p : Prop) : Prop := p
theorem holdP {p : Prop} (h : HoldP p) : p := h
theorem unholdP {p : Prop} (h : p) : HoldP p := h
/-- behind a statement that stores a list under the name y -/
def PL (y : Str) (R : List Value → Prop) (h₀ : Heap) (L : Addr) (m : Str → Option Value) (news : List (Addr × Obj)) (s s' : Shared) : Prop :=
  ∃ h tk D vs n, s' = { s with heap := h, toks := tk } ∧ Fr h₀ L h (fun z => if z = y then some (.ref D) else m z) ∧ News h₀ L h ((D, W.listOf vs.toArray n) :: news) ∧ R vs
/-- behind a statement that stores a plain value under the name y -/
def PV (y : Str) (R : Value → Prop) (h₀ : Heap) (L : Addr) (m : Str → Option Value) (news : List (Addr × Obj)) (s s' : Shared) : Prop :=
  ∃ h tk v, s' = { s with heap := h, toks := tk } ∧ Fr h₀ L h (fun z => if z = y then some v else m z) ∧ News h₀ L h news ∧ R v
section
variable {prog : Program} {w : World} {A : Around} {E : Value → Shared → Prop} {s : Shared} {h₀ : Heap} {L : Addr} {m : Str → Option Value} {news : List (Addr × Obj)} {env : Env}
theorem cutL {st : Stmt} {rest : List Stmt} {Q : Flow → Shared → Prop} (y : Str) (R : List Value → Prop) (_F : Fr h₀ L s.heap m) (_N : News h₀ L s.heap news)
    (h1 : wpAny (model prog w) A (exec st env) (Cut (PL y R h₀ L m news s)) E s) (h2 : ∀ s', PL y R h₀ L m news s s' → wpAny (model prog w) A (execs rest env) Q E s') :
    wpAny (model prog w) A (execs (st :: rest) env) Q E s := execs_cut _ h1 h2
theorem cutV {st : Stmt} {rest : List Stmt} {Q : Flow → Shared → Prop} (y : Str) (R : Value → Prop) (_F : Fr h₀ L s.heap m) (_N : News h₀ L s.heap news)
    (h1 : wpAny (model prog w) A (exec st env) (Cut (PV y R h₀ L m news s)) E s) (h2 : ∀ s', PV y R h₀ L m news s s' → wpAny (model prog w) A (execs rest env) Q E s') :
    wpAny (model prog w) A (execs (st :: rest) env) Q E s := execs_cut _ h1 h2
theorem pl_end {y : Str} {R : List Value → Prop} {h : Heap} {tk : Nat} {D : Addr} {vs : List Value} {n : Nat} {news' : List (Addr × Obj)} (F : Fr h₀ L h (fun z => if z = y then some (.ref D) else m z)) (N : News h₀ L h news')
    (hs : ∀ p ∈ (D, W.listOf vs.toArray n) :: news, p ∈ news') (hR : R vs) : Cut (PL y R h₀ L m news s) .next { s with heap := h, toks := tk } :=
  ⟨rfl, h, tk, D, vs, n, rfl, F, fun p hp => N p (hs p hp), hR⟩
theorem pv_end {y : Str} {R : Value → Prop} {h : Heap} {tk : Nat} {v : Value} {news' : List (Addr × Obj)} (F : Fr h₀ L h (fun z => if z = y then some v else m z)) (N : News h₀ L h news')
    (hs : ∀ p ∈ news, p ∈ news') (hR : R v) : Cut (PV y R h₀ L m news s) .next { s with heap := h, toks := tk } :=
  ⟨rfl, h, tk, v, rfl, F, fun p hp => N p (hs p hp), hR⟩
end
/-- 'drawn' -/
def R1 (vs : List Value) : Prop := ∃ ds, IntsAre vs ds ∧ 1 ≤ ds.length ∧ ds.length ≤ 5 ∧ ∀ d ∈ ds, -2048 < d ∧ d < 2048
def J1 (i : Nat) (ys : List Value) : Prop := ys.length = i ∧ ∃ ns, IntsAre ys ns ∧ ∀ d ∈ ns, -2048 < d ∧ d < 2048
theorem ints_len5 {vs : List Value} {ns : List Int} (h : IntsAre vs (ns.take 5)) : vs.length ≤ 5 := by
  rw [IntsAre.length h, List.length_take]; exact Nat.min_le_left _ _
theorem j1_zero : J1 0 [] := ⟨rfl, [], .nil, fun _ h => nomatch h⟩
theorem j1_snoc {i : Nat} {ys : List Value} {d : Int} {t : Tok} (h : J1 i ys) (hd : -2048 < d ∧ d < 2048) : J1 (i + 1) (ys ++ [.int d t]) := by
  obtain ⟨hl, ns, hI, hb⟩ := h
  refine ⟨by simp [hl], ns ++ [d], IntsAre.append hI (.cons _ _ .nil), fun x hx => ?_⟩
  rcases List.mem_append.mp hx with hx | hx
  · exact hb x hx
  · rw [List.mem_singleton.mp hx]; exact hd
theorem fmod_2048 (n : Int) : -2048 < n.fmod 2048 ∧ n.fmod 2048 < 2048 := by
  rw [Int.fmod_eq_emod_of_nonneg n (by decide)]; omega
theorem r1_lit (a b c : Tok) : R1 [.int 7 a, .int 200 b, .int 135 c] := ⟨[7, 200, 135], .cons _ _ (.cons _ _ (.cons _ _ .nil)), by decide, by decide, by decide⟩
theorem r1_of {i : Nat} {ys : List Value} (h : J1 i ys) (h1 : ys ≠ []) (h5 : i ≤ 5) : R1 ys := by
  obtain ⟨hl, ns, hI, hb⟩ := h
  have := IntsAre.length hI
  have h0 : 0 < ys.length := List.length_pos_iff.mpr h1
  exact ⟨ns, hI, by omega, by omega, hb⟩
/-- 'row' -/
def J2 (i : Nat) (ys : List Value) : Prop := ys.length = i ∧ ∃ ns, IntsAre ys ns ∧ ∀ d ∈ ns, Fair d
def R2 (vs : List Value) : Prop := ∃ ns, IntsAre vs ns ∧ 1 ≤ ns.length ∧ ns.length ≤ 5 ∧ ∀ d ∈ ns, Fair d
theorem j2_zero : J2 0 [] := ⟨rfl, [], .nil, fun _ h => nomatch h⟩
theorem j2_snoc {i : Nat} {ys : List Value} {d : Int} {t : Tok} (h : J2 i ys) (hd : Fair d) : J2 (i + 1) (ys ++ [.int d t]) := by
  obtain ⟨hl, ns, hI, hb⟩ := h
  refine ⟨by simp [hl], ns ++ [d], IntsAre.append hI (.cons _ _ .nil), fun x hx => ?_⟩
  rcases List.mem_append.mp hx with hx | hx
  · exact hb x hx
  · rw [List.mem_singleton.mp hx]; exact hd
theorem r2_of {i : Nat} {ys : List Value} (h : J2 i ys) (h1 : 1 ≤ i) (h5 : i ≤ 5) : R2 ys := by
  obtain ⟨hl, ns, hI, hb⟩ := h
  have := IntsAre.length hI
  exact ⟨ns, hI, by omega, by omega, hb⟩
end Mine
end
section
set_option maxRecDepth 100000
open PySem PySem.W PyProof.Rows PySem.Calls PyProof.Rows.LCg
namespace Mine
theorem fmod_128 (n : Int) : n.fmod 128 = n % 128 := Int.fmod_eq_emod_of_nonneg n (by decide)
theorem fmod_256 (n : Int) : n.fmod 256 = n % 256 := Int.fmod_eq_emod_of_nonneg n (by decide)
theorem fair_up {n : Int} (hb : -2048 < n ∧ n < 2048) (h : ([30, 33, 94].any fun x => x == n.fmod 128) = true) : Fair (n + 1) := by
  rw [fmod_128] at h
  simp only [List.any_cons, List.any_nil, Bool.or_false, Bool.or_eq_true, beq_iff_eq] at h
  refine ⟨?_, ?_, ?_, ?_, ?_⟩ <;> omega
theorem fair_same {n : Int} (hb : -2048 < n ∧ n < 2048) (h : ([30, 33, 94].any fun x => x == n.fmod 128) = false) : Fair n := by
  rw [fmod_128] at h
  simp only [List.any_cons, List.any_nil, Bool.or_false, Bool.or_eq_false_iff, beq_eq_false_iff_ne] at h
  refine ⟨?_, ?_, ?_, ?_, ?_⟩ <;> omega
/-- 'line' -/
def lineS (ns : List Int) : Str := cat (ns.map unctrlF)
theorem cat_codes : ∀ ns : List Int, (lineS ns).cps.toList = lineF ns
  | [] => rfl
  | n :: r => by
    show ((unctrlF n).cps ++ (cat (r.map unctrlF)).cps).toList = _
    rw [Array.toList_append, lineF, ← cat_codes r]
    rfl
theorem count_le {α : Type} (f : α → Bool) : ∀ l : List α, l.countP f ≤ l.length := fun l => List.countP_le_length
theorem lineS_length {ns : List Int} (h : ∀ n ∈ ns, Fair n) : (lineS ns).length = ns.length + ns.countP isM + ns.countP isC := by
  rw [← line_length h, ← cat_codes]; simp [Str.length]
theorem line_sum {ns : List Int} (h : ∀ n ∈ ns, Fair n) (h5 : ns.length ≤ 5) : ((ns.map unctrlF).map (·.length)).sum ≤ 16777216 := by
  rw [← cat_length]
  have e := lineS_length h
  have a := count_le isM ns
  have b := count_le isC ns
  show (lineS ns).length ≤ _
  omega
def J3 (ns : List Int) (i : Nat) (ys : List Value) : Prop := ys.length ≤ i ∧ StrsAre ys ((ns.take i).map unctrlF)
theorem j3_zero (ns : List Int) : J3 ns 0 [] := ⟨Nat.le_refl _, .nil⟩
theorem take_snoc {α : Type} {l : List α} {i : Nat} {x : α} (h : l[i]? = some x) : l.take (i + 1) = l.take i ++ [x] := by
  rw [List.take_succ, h]; rfl
theorem j3_snoc {ns : List Int} {i : Nat} {ys : List Value} {n : Int} {t : Tok} (h : J3 ns i ys) (hn : ns[i]? = some n) : J3 ns (i + 1) (ys ++ [.str (unctrlF n) t]) := by
  refine ⟨by have := h.1; simp; omega, ?_⟩
  rw [take_snoc hn, List.map_append]
  exact strs_snoc _ _ h.2
theorem j3_end {ns : List Int} {ys : List Value} {k : Nat} (h : J3 ns k ys) (e : k = ns.length) : StrsAre ys (ns.map unctrlF) := by
  have := h.2
  rwa [e, List.take_length] at this
theorem nat_chr {n : Int} (h : 0 ≤ n) : ((n.toNat : Nat) : Int) = n := Int.toNat_of_nonneg h
def R3 (ns : List Int) (v : Value) : Prop := ∃ t, v = .str (lineS ns) t
end Mine
end
section
set_option maxRecDepth 100000
open PySem PySem.W PyProof.Rows PySem.Calls PyProof.Rows.LCg
namespace Mine
/-- truth values of the numbers so far -/
def J4 (f : Int → Bool) (ns : List Int) (i : Nat) (ys : List Value) : Prop := ys = ((ns.take i).map f).map Value.bool
theorem j4_zero (f : Int → Bool) (ns : List Int) : J4 f ns 0 [] := rfl
theorem j4_snoc {f : Int → Bool} {ns : List Int} {i : Nat} {ys : List Value} {n : Int} {b : Bool} (h : J4 f ns i ys) (hn : ns[i]? = some n) (hb : b = f n) : J4 f ns (i + 1) (ys ++ [.bool b]) := by
  unfold J4 at h ⊢
  rw [take_snoc hn, h, hb]
  simp
theorem j4_end {f : Int → Bool} {ns : List Int} {ys : List Value} {k : Nat} (h : J4 f ns k ys) (e : k = ns.length) : ys = (ns.map f).map Value.bool := by
  unfold J4 at h
  rwa [e, List.take_length] at h
def R4 (f : Int → Bool) (ns : List Int) (v : Value) : Prop := ∃ t, v = .int ((ns.countP f : Nat) : Int) t
theorem count_map (f : Int → Bool) (ns : List Int) : (ns.map f).count true = ns.countP f := by
  rw [List.count_eq_countP, List.countP_map]
  exact List.countP_congr fun x _ => by simp
theorem meta_is (n : Int) : decide (127 < n.fmod 256) = isM n := by rw [fmod_256]; rfl
theorem cntrl_is (n : Int) : decide (0 ≤ n.fmod 128 ∧ n.fmod 128 ≤ 31 ∨ n.fmod 128 = 127) = isC n := by
  rw [fmod_128, Bool.eq_iff_iff, decide_eq_true_eq]
  unfold isC
  rw [decide_eq_true_eq]
  omega
theorem fmod_lo256 (n : Int) : -2048 ≤ n.fmod 256 := by rw [fmod_256]; omega
theorem fmod_hi256 (n : Int) : n.fmod 256 ≤ 2048 := by rw [fmod_256]; omega
theorem fmod_lo128 (n : Int) : -2048 ≤ n.fmod 128 := by rw [fmod_128]; omega
theorem fmod_hi128 (n : Int) : n.fmod 128 ≤ 2048 := by rw [fmod_128]; omega
section
variable {prog : Program} {w : World} {A : Around} {E : Value → Shared → Prop} {s : Shared} {h₀ : Heap} {L : Addr} {news : List (Addr × Obj)}
theorem count_trueN {D : Addr} {n : Nat} {bs : List Bool} {Q : Value → Shared → Prop} (N : News h₀ L s.heap news) (hm : (D, W.listOf (bs.map Value.bool).toArray n) ∈ news)
    (h : ∀ t tk, Q (.int (bs.count true : Nat) t) { s with toks := tk }) : wpAny (model prog w) A (call (.builtin "list.count") [.ref D, .bool true]) Q E s :=
  count_true ⟨_, (N _ hm).1, rfl, n, rfl⟩ (h _ _)
end
end Mine
namespace Mine
open PySem
def R7 (ns : List Int) (v : Value) : Prop := ∃ t, v = .int (((lineS ns).length : Nat) : Int) t
end Mine
end
section
set_option maxRecDepth 100000
set_option linter.unusedVariables false
open PySem PySem.W PyProof.Rows PySem.Calls
namespace Mine
/-- a frame of a def of the text, and what a call from it asks -/
structure Cx where
  w : World
  dp : Nat
  un : Nat
  gd : Option (List Code)
  cn : Str
  L : Addr
  a : Addr
  ccd : Value
  cl : List (Str × Addr)
  outer : List Env
  A₀ : Around
  base : Heap
  h₀ : Heap
  p : Program
  loose : List Str
  mean : ExcName → Option Value
  mg : Str → Option Value
  mb : Str → Option Value
  B : Below A₀ base outer h₀
  X : (Mine.hd.heap_39 w.params).In h₀
  T : Top p loose mean mg mb h₀
abbrev Cx.M (K : Cx) : Model := model PySem.Challenge.rw_ij0092_01.row.prog K.w
abbrev Cx.env (K : Cx) (cs : Scope) : Env := envX K.cn cs K.L K.a K.ccd K.cl
abbrev Cx.A (K : Cx) (cs : Scope) : Around := ktrTop K.dp K.un K.gd K.cn cs K.L K.a K.ccd K.cl K.outer
abbrev Mp := Str → Option Value
abbrev Lg := List (Addr × Obj)
/-- t leaves the frame m and the ledger N, and gives a value of R -/
def Sm (K : Cx) (cs : Scope) (m : Mp) (N : Lg) {α : Type} (t : Sem α) (R : α → Prop) : Prop :=
  ∀ (Q : α → Shared → Prop) (E : Value → Shared → Prop) (s : Shared), Fr K.h₀ K.L s.heap m → News K.h₀ K.L s.heap N →
    (∀ v h tk, Fr K.h₀ K.L h m → News K.h₀ K.L h N → R v → Q v { s with heap := h, toks := tk }) → wpAny K.M (K.A cs) t Q E s
abbrev Ev (K : Cx) (cs : Scope) (m : Mp) (N : Lg) (e : PySem.Expr) (R : Value → Prop) : Prop := Sm K cs m N (eval e (K.env cs)) R
abbrev Tst (K : Cx) (cs : Scope) (m : Mp) (N : Lg) (e : PySem.Expr) (b : Bool) : Prop := Sm K cs m N (isTrue e (K.env cs) (eval e (K.env cs))) (fun c => c = b)
def IsI (n : Int) (v : Value) : Prop := ∃ t, v = .int n t
def IsS (x : Str) (v : Value) : Prop := ∃ t, v = .str x t
section
variable {K : Cx} {cs : Scope} {m : Mp} {N : Lg}
theorem Sm.mono {α : Type} {t : Sem α} {R R' : α → Prop} (h : Sm K cs m N t R) (hr : ∀ v, R v → R' v) : Sm K cs m N t R' :=
  fun Q E s F Nw k => h Q E s F Nw fun v h' tk F' N' r => k v h' tk F' N' (hr v r)
/-- what holds of t by a rule of the library that leaves the heap as it is -/
theorem Sm.of {α : Type} {t : Sem α} {R : α → Prop} (h : ∀ (Q : α → Shared → Prop) (E : Value → Shared → Prop) (s : Shared), Fr K.h₀ K.L s.heap m → News K.h₀ K.L s.heap N → (∀ v tk, R v → Q v { s with toks := tk }) → wpAny K.M (K.A cs) t Q E s) : Sm K cs m N t R :=
  fun Q E s F Nw k => h Q E s F Nw fun v tk r => k v s.heap tk F Nw r
theorem Ev.name {x : Str} {pos : Pos} {v : Value} (hv : m x = some v) (hk : cs.kind = .function := by rfl) (hx : (K.env cs).kindOf x = some .local := by rfl) (hd : (x == ("__debug__" : Str)) = false := by decide) : Ev K cs m N (.Name x pos) (fun u => u = v) :=
  fun Q E s F Nw k => nameX_L F hv (k v s.heap s.toks F Nw rfl) hk hx hd
theorem Ev.nameI {x : Str} {pos : Pos} {n : Int} {t : Tok} (hv : m x = some (.int n t)) (hk : cs.kind = .function := by rfl) (hx : (K.env cs).kindOf x = some .local := by rfl) (hd : (x == ("__debug__" : Str)) = false := by decide) : Ev K cs m N (.Name x pos) (IsI n) :=
  (Ev.name hv hk hx hd).mono fun _ e => ⟨t, e⟩
theorem Ev.nameS {x : Str} {pos : Pos} {y : Str} {t : Tok} (hv : m x = some (.str y t)) (hk : cs.kind = .function := by rfl) (hx : (K.env cs).kindOf x = some .local := by rfl) (hd : (x == ("__debug__" : Str)) = false := by decide) : Ev K cs m N (.Name x pos) (IsS y) :=
  (Ev.name hv hk hx hd).mono fun _ e => ⟨t, e⟩
theorem Ev.glob {x : Str} {pos : Pos} {v : Value} (e : nsIn (Mine.hd.heap_39 K.w.params) mainGlobals x = some (some v)) (hk : cs.kind = .function := by rfl) (hx : (K.env cs).kindOf x = some .globalImplicit := by rfl) (hd : (x == ("__debug__" : Str)) = false := by decide) : Ev K cs m N (.Name x pos) (fun u => u = v) :=
  fun Q E s F Nw k => nameX_K F K.X (topRead_of K.T) e (k v s.heap s.toks F Nw rfl) hk hx hd
theorem Ev.built {x : Str} {pos : Pos} {v : Value} (e : nsIn (Mine.hd.heap_39 K.w.params) mainGlobals x = some none) (hv : bootBuiltins x = some v) (hn : x ≠ "__name__") (hk : cs.kind = .function := by rfl) (hx : (K.env cs).kindOf x = some .globalImplicit := by rfl) (hd : (x == ("__debug__" : Str)) = false := by decide) :
    Ev K cs m N (.Name x pos) (fun u => u = v) :=
  fun Q E s F Nw k => nameX_B F K.X (topRead_of K.T) e hv hn (k v s.heap s.toks F Nw rfl) hk hx hd
theorem Ev.int {i : Int} {k : Nat} {pos : Pos} : Ev K cs m N (.Constant (.int i) k pos) (IsI i) := fun Q E s F Nw c => wpAny_Constant_int (c _ s.heap _ F Nw ⟨_, rfl⟩)
theorem Ev.str {x : Str} {k : Nat} {pos : Pos} : Ev K cs m N (.Constant (.str x) k pos) (IsS x) := fun Q E s F Nw c => wpAny_Constant_str (c _ s.heap _ F Nw ⟨_, rfl⟩)
theorem Ev.bin {l r : PySem.Expr} {op : Operator} {pos : Pos} {Ra Rb R : Value → Prop} (ha : Ev K cs m N l Ra) (hb : Ev K cs m N r Rb) (ho : ∀ a b, Ra a → Rb b → Sm K cs m N (binaryOp op a b) R) : Ev K cs m N (.BinOp l op r pos) R :=
  fun Q E s F Nw k => wpAny_BinOp (ha _ E s F Nw fun a h1 t1 F1 N1 ra => hb _ E _ F1 N1 fun b h2 t2 F2 N2 rb => ho a b ra rb Q E _ F2 N2 k)
theorem Ev.addI {l r : PySem.Expr} {pos : Pos} {a b : Int} (ha : Ev K cs m N l (IsI a)) (hb : Ev K cs m N r (IsI b)) : Ev K cs m N (.BinOp l .Add r pos) (IsI (a + b)) :=
  Ev.bin ha hb fun _ _ ⟨_, e⟩ ⟨_, e'⟩ => by subst e; subst e'; exact fun Q E s F Nw k => add_int (k _ s.heap _ F Nw ⟨_, rfl⟩)
theorem Ev.subI {l r : PySem.Expr} {pos : Pos} {a b : Int} (ha : Ev K cs m N l (IsI a)) (hb : Ev K cs m N r (IsI b)) : Ev K cs m N (.BinOp l .Sub r pos) (IsI (a - b)) :=
  Ev.bin ha hb fun _ _ ⟨_, e⟩ ⟨_, e'⟩ => by subst e; subst e'; exact fun Q E s F Nw k => sub_int (k _ s.heap _ F Nw ⟨_, rfl⟩)
theorem Ev.modI {l r : PySem.Expr} {pos : Pos} {a b : Int} (ha : Ev K cs m N l (IsI a)) (hb : Ev K cs m N r (IsI b)) (h0 : b ≠ 0) : Ev K cs m N (.BinOp l .Mod r pos) (IsI (a.fmod b)) :=
  Ev.bin ha hb fun _ _ ⟨_, e⟩ ⟨_, e'⟩ => by subst e; subst e'; exact fun Q E s F Nw k => mod_int h0 (k _ s.heap _ F Nw ⟨_, rfl⟩)
/-- a comparison of two values -/
theorem Ev.cmp {l r : PySem.Expr} {op : CmpOp} {pos : Pos} {Ra Rb R : Value → Prop} (ha : Ev K cs m N l Ra) (hb : Ev K cs m N r Rb) (ho : ∀ a b, Ra a → Rb b → Sm K cs m N (compareOp op a b) R) (hm : behindInMarks op r = false := by with_unfolding_all rfl) : Ev K cs m N (.Compare l [op] [r] pos) R :=
  fun Q E s F Nw k => wpAny_Compare1 (ha _ E s F Nw fun a h1 t1 F1 N1 ra => hb _ E _ F1 N1 fun b h2 t2 F2 N2 rb => ho a b ra rb Q E _ F2 N2 k) hm
theorem Tst.cmp {l r : PySem.Expr} {op : CmpOp} {pos : Pos} {Ra Rb : Value → Prop} {c : Bool} (ha : Ev K cs m N l Ra) (hb : Ev K cs m N r Rb) (ho : ∀ a b, Ra a → Rb b → Sm K cs m N (compareOp op a b) (fun v => v = .bool c)) (hm : behindInMarks op r = false := by with_unfolding_all rfl) : Tst K cs m N (.Compare l [op] [r] pos) c :=
  fun Q E s F Nw k => wpAny_isTrue_Compare1 (ha _ E s F Nw fun a h1 t1 F1 N1 ra => hb _ E _ F1 N1 fun b h2 t2 F2 N2 rb => ho a b ra rb _ E _ F2 N2 fun v h3 t3 F3 N3 e => by
    subst e; exact wpAny_truthy_bool (k c h3 t3 F3 N3 rfl)) hm
theorem cLt {a b : Int} {v w : Value} (ha : IsI a v) (hb : IsI b w) : Sm K cs m N (compareOp .Lt v w) (fun v => v = .bool (decide (a < b))) := by
  obtain ⟨_, rfl⟩ := ha; obtain ⟨_, rfl⟩ := hb; exact fun Q E s F Nw k => lt_int (k _ s.heap _ F Nw rfl)
theorem cLe {a b : Int} {v w : Value} (ha : IsI a v) (hb : IsI b w) : Sm K cs m N (compareOp .LtE v w) (fun v => v = .bool (decide (a ≤ b))) := by
  obtain ⟨_, rfl⟩ := ha; obtain ⟨_, rfl⟩ := hb; exact fun Q E s F Nw k => le_int (k _ s.heap _ F Nw rfl)
theorem cGe {a b : Int} {v w : Value} (ha : IsI a v) (hb : IsI b w) : Sm K cs m N (compareOp .GtE v w) (fun v => v = .bool (decide (a ≥ b))) := by
  obtain ⟨_, rfl⟩ := ha; obtain ⟨_, rfl⟩ := hb; exact fun Q E s F Nw k => ge_int (k _ s.heap _ F Nw rfl)
theorem cGt {a b : Int} {v w : Value} (ha : IsI a v) (hb : IsI b w) : Sm K cs m N (compareOp .Gt v w) (fun v => v = .bool (decide (a > b))) := by
  obtain ⟨_, rfl⟩ := ha; obtain ⟨_, rfl⟩ := hb; exact fun Q E s F Nw k => gt_int (k _ s.heap _ F Nw rfl)
theorem cEqI {a b : Int} {v w : Value} (ha : IsI a v) (hb : IsI b w) : Sm K cs m N (compareOp .Eq v w) (fun v => v = .bool (a == b)) := by
  obtain ⟨_, rfl⟩ := ha; obtain ⟨_, rfl⟩ := hb; exact fun Q E s F Nw k => eq_int (k _ s.heap _ F Nw rfl)
theorem cEqS {x y : Str} {v w : Value} (ha : IsS x v) (hb : IsS y w) : Sm K cs m N (compareOp .Eq v w) (fun v => v = .bool (x.cps.toList == y.cps.toList)) := by
  obtain ⟨_, rfl⟩ := ha; obtain ⟨_, rfl⟩ := hb; exact fun Q E s F Nw k => PySem.P.eq_str (k _ s.heap _ F Nw rfl)
theorem cInS {x y : Str} {v w : Value} (ha : IsS y v) (hb : IsS x w) : Sm K cs m N (compareOp .In v w) (fun v => v = .bool (!(Builtin.Str.occurrences x y 0 x.length 1).isEmpty)) := by
  obtain ⟨_, rfl⟩ := ha; obtain ⟨_, rfl⟩ := hb; exact fun Q E s F Nw k => PySem.P.in_str (k _ s.heap _ F Nw rfl)
theorem Tst.val {e : PySem.Expr} {R : Value → Prop} {b : Bool} (h : Ev K cs m N e R) (ht : ∀ v, R v → Sm K cs m N (truthy v) (fun c => c = b)) (he : isTrue e (K.env cs) (eval e (K.env cs)) = (do let v ← eval e (K.env cs); standAt e.pos; holding [v] (truthy v)) := by rfl) : Tst K cs m N e b :=
  fun Q E s F Nw k => wpAny_isTrue_value (h _ E s F Nw fun v h1 t1 F1 N1 r => ht v r Q E _ F1 N1 k) he
theorem tB {c : Bool} {v : Value} (h : v = .bool c) : Sm K cs m N (truthy v) (fun b => b = c) := by
  subst h; exact fun Q E s F Nw k => wpAny_truthy_bool (k _ s.heap _ F Nw rfl)
theorem Ev.ife {test body orelse : PySem.Expr} {pos : Pos} {R : Value → Prop} {b : Bool} (ht : Tst K cs m N test b) (h1 : b = true → Ev K cs m N body R) (h2 : b = false → Ev K cs m N orelse R) : Ev K cs m N (.IfExp test body orelse pos) R :=
  fun Q E s F Nw k => wpAny_IfExp (ht _ E s F Nw fun c h t F1 N1 e => by
    subst e
    cases c with
    | true => exact h1 rfl Q E _ F1 N1 k
    | false => exact h2 rfl Q E _ F1 N1 k)
/-- a row of tests -/
abbrev Alls (K : Cx) (cs : Scope) (m : Mp) (N : Lg) (op : BoolOp) (es : List PySem.Expr) (b : Bool) : Prop := Sm K cs m N (allTrue op es (K.env cs)) (fun c => c = b)
theorem Tst.bool {op : BoolOp} {es : List PySem.Expr} {pos : Pos} {b : Bool} (h : Alls K cs m N op es b) : Tst K cs m N (.BoolOp op es pos) b := fun Q E s F Nw k => wpAny_isTrue_BoolOp (h Q E s F Nw k)
theorem Alls.andNil : Alls K cs m N .And [] true := fun Q E s F Nw k => wpAny_allTrue_And_nil (k _ s.heap s.toks F Nw rfl)
theorem Alls.orNil : Alls K cs m N .Or [] false := fun Q E s F Nw k => wpAny_allTrue_Or_nil (k _ s.heap s.toks F Nw rfl)
theorem Alls.and {x : PySem.Expr} {rest : List PySem.Expr} {b c : Bool} (h : Tst K cs m N x b) (hr : b = true → Alls K cs m N .And rest c) : Alls K cs m N .And (x :: rest) (b && c) :=
  fun Q E s F Nw k => wpAny_allTrue_And_cons (h _ E s F Nw fun d h1 t1 F1 N1 e => by
    subst e
    cases d with
    | true => exact hr rfl Q E _ F1 N1 k
    | false => exact k _ _ _ F1 N1 rfl)
theorem Alls.or {x : PySem.Expr} {rest : List PySem.Expr} {b c : Bool} (h : Tst K cs m N x b) (hr : b = false → Alls K cs m N .Or rest c) : Alls K cs m N .Or (x :: rest) (b || c) :=
  fun Q E s F Nw k => wpAny_allTrue_Or_cons (h _ E s F Nw fun d h1 t1 F1 N1 e => by
    subst e
    cases d with
    | true => exact k _ _ _ F1 N1 rfl
    | false => exact hr rfl Q E _ F1 N1 k)
theorem Tst.not {e : PySem.Expr} {pos : Pos} {b : Bool} (h : Tst K cs m N e b) : Tst K cs m N (.UnaryOp .Not e pos) (!b) :=
  fun Q E s F Nw k => isTrue_not (h _ E s F Nw fun d h1 t1 F1 N1 e => by subst e; exact k _ _ _ F1 N1 rfl)
end
end Mine
end
section
set_option maxRecDepth 100000
set_option linter.unusedVariables false
open PySem PySem.W PyProof.Rows PySem.Calls
namespace Mine
section
variable {K : Cx} {cs : Scope} {m : Mp} {N : Lg}
theorem fr_grown {h₀ h h' : Heap} {L : Addr} (up : ∀ b o, h.get? b = some o → h'.get? b = some o) (F : Fr h₀ L h m) : Fr h₀ L h' m := F.keeps up
/-- items -/
theorem Ev.sub {v i : PySem.Expr} {pos : Pos} {Ra Rb R : Value → Prop} (ha : Ev K cs m N v Ra) (hb : Ev K cs m N i Rb) (ho : ∀ a b, Ra a → Rb b → Sm K cs m N (subscriptTail v i a b) R) : Ev K cs m N (.Subscript v i pos) R :=
  fun Q E s F Nw k => Subscript_ (ha _ E s F Nw fun a h1 t1 F1 N1 ra => hb _ E _ F1 N1 fun b h2 t2 F2 N2 rb => ho a b ra rb Q E _ F2 N2 k)
theorem Ev.itemS {v i : PySem.Expr} {pos : Pos} {x : Str} {j : Int} {c : Nat} (ha : Ev K cs m N v (IsS x)) (hb : Ev K cs m N i (IsI j)) (hc : x.cps[j.toNat]? = some c) (h0 : 0 ≤ j) (hj : j < 2 ^ 63)
    (hs : ∀ t u, subscripted i false (.str x t) (.int j u) = operate [.str x t, .int j u] (getItem (.str x t) (.int j u)) := by intro _ _; with_unfolding_all rfl) : Ev K cs m N (.Subscript v i pos) (IsS ⟨#[c]⟩) :=
  Ev.sub ha hb fun _ _ ⟨_, e⟩ ⟨_, e'⟩ => by subst e; subst e'; exact fun Q E s F Nw k => item_str_at hc h0 hj (k _ s.heap _ F Nw ⟨_, rfl⟩) (hs _ _)
theorem Ev.itemL {v i : PySem.Expr} {pos : Pos} {l : Addr} {vs : List Value} {n : Nat} {j : Int} {a : Value} (ha : Ev K cs m N v (fun u => u = .ref l)) (hb : Ev K cs m N i (IsI j)) (hm : (l, W.listOf vs.toArray n) ∈ N) (hx : vs[j.toNat]? = some a) (h0 : 0 ≤ j) (hj : j < 2 ^ 63)
    (hs : ∀ u, subscripted i false (.ref l) (.int j u) = operate [.ref l, .int j u] (getItem (.ref l) (.int j u)) := by intro _; with_unfolding_all rfl) : Ev K cs m N (.Subscript v i pos) (fun u => u = a) :=
  Ev.sub ha hb fun _ _ e ⟨_, e'⟩ => by subst e; subst e'; exact fun Q E s F Nw k => item_at Nw hm hx h0 hj (k _ s.heap s.toks F Nw rfl) (hs _)
theorem Ev.itemLast {v i : PySem.Expr} {pos : Pos} {l : Addr} {us : List Value} {n : Nat} {a : Value} (ha : Ev K cs m N v (fun u => u = .ref l)) (hb : Ev K cs m N i (IsI (-1))) (hm : (l, W.listOf (us ++ [a]).toArray n) ∈ N)
    (hs : ∀ u, subscripted i false (.ref l) (.int (-1) u) = operate [.ref l, .int (-1) u] (getItem (.ref l) (.int (-1) u)) := by intro _; with_unfolding_all rfl) : Ev K cs m N (.Subscript v i pos) (fun u => u = a) :=
  Ev.sub ha hb fun _ _ e ⟨_, e'⟩ => by subst e; subst e'; exact fun Q E s F Nw k => item_last Nw hm (k _ s.heap s.toks F Nw rfl) (hs _)
theorem kept (K : Cx) (m : Mp) (N : Lg) : KeptH (fun h => Fr K.h₀ K.L h m ∧ News K.h₀ K.L h N) := fun h ob ⟨F, Nw⟩ => ⟨F.push ob, Nw.grown fun _ _ e => Heap.get?_push_of_some _ e⟩
theorem Ev.negI {e : PySem.Expr} {pos : Pos} {a : Int} (h : Ev K cs m N e (IsI a)) : Ev K cs m N (.UnaryOp .USub e pos) (IsI (-a)) :=
  fun Q E s F Nw k => wpAny_UnaryOp (h _ E s F Nw fun v h1 t1 F1 N1 ⟨_, e⟩ => by subst e; exact neg_int (k _ _ _ F1 N1 ⟨_, rfl⟩))
theorem Ev.sliceSS {v l u : PySem.Expr} {p pos : Pos} {x : Str} {i j : Int} (hv : Ev K cs m N v (IsS x)) (hl : Ev K cs m N l (IsI i)) (hu : Ev K cs m N u (IsI j)) (hz : x.length ≤ sizeLine) (ht : ∀ o r, letTemporaryGo v o r = pure () := by intro _ _; rfl) :
    Ev K cs m N (.Subscript v (.Slice (some l) (some u) none p) pos) (IsS (Txt.slice x (some i) (some j))) :=
  fun Q E s F Nw k => Subscript_Slice (hv _ E s F Nw fun a h1 t1 F1 N1 ⟨_, e⟩ => by
    subst e
    refine wpAny_Slice (evalPart_some_step (hl _ E _ F1 N1 fun b h2 t2 F2 N2 ⟨_, e⟩ => ?_))
    subst e
    refine evalPart_some_step (hu _ E _ F2 N2 fun c h3 t3 F3 N3 ⟨_, e⟩ => ?_)
    subst e
    exact evalPart_none_step (SBH.sliceItem_ss (s := { s with heap := h3, toks := t3 }) (kept K m N) ⟨F3, N3⟩ (fun h' t' k' ⟨F', N'⟩ => k _ h' k' F' N' ⟨_, rfl⟩) hz)) ht
theorem Ev.sliceNS {v u : PySem.Expr} {p pos : Pos} {x : Str} {j : Int} (hv : Ev K cs m N v (IsS x)) (hu : Ev K cs m N u (IsI j)) (hz : x.length ≤ sizeLine) (ht : ∀ o r, letTemporaryGo v o r = pure () := by intro _ _; rfl) :
    Ev K cs m N (.Subscript v (.Slice none (some u) none p) pos) (IsS (Txt.slice x none (some j))) :=
  fun Q E s F Nw k => Subscript_Slice (hv _ E s F Nw fun a h1 t1 F1 N1 ⟨_, e⟩ => by
    subst e
    refine wpAny_Slice (evalPart_none_step (evalPart_some_step (hu _ E _ F1 N1 fun c h3 t3 F3 N3 ⟨_, e⟩ => ?_)))
    subst e
    exact evalPart_none_step (SBH.sliceItem_ns (s := { s with heap := h3, toks := t3 }) (kept K m N) ⟨F3, N3⟩ (fun h' t' k' ⟨F', N'⟩ => k _ h' k' F' N' ⟨_, rfl⟩) hz)) ht
theorem Ev.sliceSN {v l : PySem.Expr} {p pos : Pos} {x : Str} {i : Int} (hv : Ev K cs m N v (IsS x)) (hl : Ev K cs m N l (IsI i)) (hz : x.length ≤ sizeLine) (ht : ∀ o r, letTemporaryGo v o r = pure () := by intro _ _; rfl) :
    Ev K cs m N (.Subscript v (.Slice (some l) none none p) pos) (IsS (Txt.slice x (some i) none)) :=
  fun Q E s F Nw k => Subscript_Slice (hv _ E s F Nw fun a h1 t1 F1 N1 ⟨_, e⟩ => by
    subst e
    refine wpAny_Slice (evalPart_some_step (hl _ E _ F1 N1 fun b h2 t2 F2 N2 ⟨_, e⟩ => ?_))
    subst e
    exact evalPart_none_step (evalPart_none_step (SBH.sliceItem_sn (s := { s with heap := h2, toks := t2 }) (kept K m N) ⟨F2, N2⟩ (fun h' t' k' ⟨F', N'⟩ => k _ h' k' F' N' ⟨_, rfl⟩) hz))) ht
/-- arguments -/
abbrev Args (K : Cx) (cs : Scope) (m : Mp) (N : Lg) (pos : Pos) (es : List PySem.Expr) (R : List Value → Prop) : Prop := Sm K cs m N (spliced (backTo pos (starEach es (K.env cs)))) R
theorem Args.nil {pos : Pos} : Args K cs m N pos [] (fun vs => vs = []) := fun Q E s F Nw k => args_nil (k _ s.heap s.toks F Nw rfl)
theorem Args.cons {pos : Pos} {e : PySem.Expr} {es : List PySem.Expr} {R : Value → Prop} {Rs : List Value → Prop} (h : Ev K cs m N e R) (hs : Args K cs m N pos es Rs) (he : starEach (e :: es) (K.env cs) = (false, eval e (K.env cs)) :: starEach es (K.env cs) := by rfl) : Args K cs m N pos (e :: es) (fun vs => ∃ v r, vs = v :: r ∧ R v ∧ Rs r) :=
  fun Q E s F Nw k => args_cons (h _ E s F Nw fun v h1 t1 F1 N1 r => hs _ E _ F1 N1 fun vs h2 t2 F2 N2 rs => k _ h2 t2 F2 N2 ⟨v, vs, rfl, r, rs⟩) he
theorem Args.one {pos : Pos} {e : PySem.Expr} {R : Value → Prop} (h : Ev K cs m N e R) (he : starEach [e] (K.env cs) = (false, eval e (K.env cs)) :: starEach [] (K.env cs) := by rfl) : Args K cs m N pos [e] (fun vs => ∃ v, vs = [v] ∧ R v) :=
  (Args.cons h .nil he).mono fun _ ⟨v, r, e, hr, e'⟩ => ⟨v, by rw [e, e'], hr⟩
/-- a call of a builtin by its name -/
theorem Ev.callB {id : String} {x : Str} {ps pos : Pos} {e : PySem.Expr} {es : List PySem.Expr} {Rs : List Value → Prop} {R : Value → Prop} (hf : Ev K cs m N (.Name x ps) (fun u => u = .builtin id)) (ha : Args K cs m N pos (e :: es) Rs) (hc : ∀ vs, Rs vs → Sm K cs m N (call (.builtin id) vs) R)
    (he : starEach (e :: es) (K.env cs) = (false, eval e (K.env cs)) :: starEach es (K.env cs) := by rfl) (hp : (backTo pos (starEach es (K.env cs))).any (·.1) = false := by rfl) : Ev K cs m N (.Call (.Name x ps) (e :: es) [] pos) R :=
  fun Q E s F Nw k => Call_ (hf _ E s F Nw fun v h1 t1 F1 N1 ev => by
    subst ev
    exact PyProof.Rows.callWith_builtin1 (ha _ E _ F1 N1 fun vs h2 t2 F2 N2 rs => hc vs rs Q E _ F2 N2 k) he hp)
theorem cLenL {l : Addr} {vs : List Value} {n : Nat} {v : Value} (hv : v = .ref l) (hm : (l, W.listOf vs.toArray n) ∈ N) (hz : vs.length < 1000000) : Sm K cs m N (call (.builtin "len") [v]) (IsI vs.length) := by
  subst hv; exact fun Q E s F Nw k => len_at Nw hm hz fun t tk => k _ s.heap tk F Nw ⟨_, rfl⟩
theorem cLenS {x : Str} {v : Value} (hv : IsS x v) (hz : x.length < 1000000) : Sm K cs m N (call (.builtin "len") [v]) (IsI x.length) := by
  obtain ⟨_, rfl⟩ := hv; exact fun Q E s F Nw k => len_str (by omega) (k _ s.heap _ F Nw ⟨_, rfl⟩)
/-- a call of a def of the text -/
theorem Ev.callD {f : Addr} {fn : PySem.Expr} {pos : Pos} {e : PySem.Expr} {es : List PySem.Expr} {Rs : List Value → Prop} {R : Value → Prop} (hf : Ev K cs m N fn (fun u => u = .ref f)) (hk : keepIn (Mine.hd.heap_39 K.w.params) (.ref f) = true) (ha : Args K cs m N pos (e :: es) Rs) (hc : ∀ vs, Rs vs → Sm K cs m N (call (.ref f) vs) R)
    (hcall : eval (.Call fn (e :: es) [] pos) (K.env cs) = (do callWith pos (← eval fn (K.env cs)) [] (backTo pos (starEach (e :: es) (K.env cs))) (backToKw pos (keywordEach [] (K.env cs)))) := by rfl)
    (he : starEach (e :: es) (K.env cs) = (false, eval e (K.env cs)) :: starEach es (K.env cs) := by rfl) (hp : (backTo pos (starEach es (K.env cs))).any (·.1) = false := by rfl) : Ev K cs m N (.Call fn (e :: es) [] pos) R :=
  fun Q E s F Nw k => Call_ (hf _ E s F Nw fun v h1 t1 F1 N1 ev => by
    subst ev
    exact callWith_K K.X hk (ha _ E _ F1 N1 fun vs h2 t2 F2 N2 rs => ⟨K.X.keeps F2.keep, by rw [List.nil_append]; exact hc vs rs Q E _ F2 N2 k⟩) he hp) hcall
end
end Mine
end
section
set_option maxRecDepth 100000
set_option linter.unusedVariables false
open PySem PySem.W PyProof.Rows PySem.Calls
namespace Mine
/-- the frame with x bound to v -/
def upd (m : Mp) (x : Str) (v : Value) : Mp := fun y => if y = x then some v else m y
abbrev Post := Flow → Mp → Lg → Prop
/-- statements: from the frame m and the ledger N they end, by the flow, frame and ledger that Φ says -/
def Ex (K : Cx) (cs : Scope) (m : Mp) (N : Lg) (sts : List Stmt) (Φ : Post) : Prop :=
  ∀ (Q : Flow → Shared → Prop) (s : Shared), Fr K.h₀ K.L s.heap m → News K.h₀ K.L s.heap N →
    (∀ f m' N' h tk, Fr K.h₀ K.L h m' → News K.h₀ K.L h N' → Φ f m' N' → Q f { s with heap := h, toks := tk }) → wpAny K.M (K.A cs) (execs sts (K.env cs)) Q (fun _ _ => False) s
/-- one statement -/
def Ex1 (K : Cx) (cs : Scope) (m : Mp) (N : Lg) (st : Stmt) (Φ : Post) : Prop :=
  ∀ (Q : Flow → Shared → Prop) (s : Shared), Fr K.h₀ K.L s.heap m → News K.h₀ K.L s.heap N →
    (∀ f m' N' h tk, Fr K.h₀ K.L h m' → News K.h₀ K.L h N' → Φ f m' N' → Q f { s with heap := h, toks := tk }) → wpAny K.M (K.A cs) (exec st (K.env cs)) Q (fun _ _ => False) s
/-- what allocates: the new part of the ledger is told -/
def SmA (K : Cx) (cs : Scope) (m : Mp) (N : Lg) {α : Type} (t : Sem α) (R : α → Lg → Prop) : Prop :=
  ∀ (Q : α → Shared → Prop) (E : Value → Shared → Prop) (s : Shared), Fr K.h₀ K.L s.heap m → News K.h₀ K.L s.heap N →
    (∀ v tl h tk, Fr K.h₀ K.L h m → News K.h₀ K.L h (tl ++ N) → (∀ q ∈ tl, ∀ p ∈ N, @LT.lt Nat _ p.1 q.1) → R v tl → Q v { s with heap := h, toks := tk }) → wpAny K.M (K.A cs) t Q E s
abbrev EvA (K : Cx) (cs : Scope) (m : Mp) (N : Lg) (e : PySem.Expr) (R : Value → Lg → Prop) : Prop := SmA K cs m N (eval e (K.env cs)) R
section
variable {K : Cx} {cs : Scope} {m : Mp} {N : Lg}
theorem Ex.sub {N' : Lg} {sts : List Stmt} {Φ : Post} (h : Ex K cs m N' sts Φ) (hs : ∀ p ∈ N', p ∈ N) : Ex K cs m N sts Φ := fun Q s F Nw k => h Q s F (fun p hp => Nw p (hs p hp)) k
theorem Ex.mono {sts : List Stmt} {Φ Ψ : Post} (h : Ex K cs m N sts Φ) (hs : ∀ f m' N', Φ f m' N' → Ψ f m' N') : Ex K cs m N sts Ψ := fun Q s F Nw k => h Q s F Nw fun f m' N' h' tk F' N'' p => k f m' N' h' tk F' N'' (hs _ _ _ p)
theorem Ex.nil {Φ : Post} (h : Φ .next m N) : Ex K cs m N [] Φ := fun Q s F Nw k => wpAny_execs_nil (k _ _ _ s.heap s.toks F Nw h)
/-- what is asked behind a statement, where the rest follows -/
def Then (K : Cx) (cs : Scope) (rest : List Stmt) (Φ : Post) : Post := fun f m N => match f with
  | .next => Ex K cs m N rest Φ
  | f => Φ f m N
theorem Ex.cons {st : Stmt} {rest : List Stmt} {Φ : Post} (h : Ex1 K cs m N st (Then K cs rest Φ)) : Ex K cs m N (st :: rest) Φ := fun Q s F Nw k =>
  wpAny_execs_cons (h _ s F Nw fun f m' N' h' tk F' N'' p => by
    cases f with
    | next => exact p Q _ F' N'' k
    | brk => exact k _ _ _ _ _ F' N'' p
    | cont => exact k _ _ _ _ _ F' N'' p
    | ret v => exact k _ _ _ _ _ F' N'' p)
theorem SmA.of {α : Type} {t : Sem α} {R : α → Prop} (h : Sm K cs m N t R) : SmA K cs m N t (fun v tl => tl = [] ∧ R v) := fun Q E s F Nw k => h Q E s F Nw fun v h' tk F' N' r => k v [] h' tk F' N' (fun _ h => nomatch h) ⟨rfl, r⟩
theorem SmA.drop {α : Type} {t : Sem α} {R : α → Lg → Prop} {R' : α → Prop} (h : SmA K cs m N t R) (hr : ∀ v tl, R v tl → R' v) : Sm K cs m N t R' := fun Q E s F Nw k => h Q E s F Nw fun v tl h' tk F' N' _ r => k v h' tk F' (fun p hp => N' p (List.mem_append_right _ hp)) (hr v tl r)
theorem store {x : Str} {v : Value} {Q : Unit → Shared → Prop} {E : Value → Shared → Prop} {s : Shared} (F : Fr K.h₀ K.L s.heap m) (Nw : News K.h₀ K.L s.heap N) (h : ∀ h', Fr K.h₀ K.L h' (upd m x v) → News K.h₀ K.L h' N → Q () { s with heap := h', toks := s.toks + 1 })
    (hk : cs.kind = .function) (hx : (K.env cs).kindOf x = some .local) : wpAny K.M (K.A cs) (storeName (K.env cs) x v) Q E s := storeX_L F Nw h hk hx
theorem Ex.assign {x : Str} {px : Pos} {e : PySem.Expr} {pos : Pos} {rest : List Stmt} {Φ : Post} {R : Value → Prop} (he : Ev K cs m N e R) (h : ∀ v, R v → Ex K cs (upd m x v) N rest Φ)
    (hs : swapsWith e (some (.Name x px)) pos.line (K.env cs) = pure false := by rfl) (hk : cs.kind = .function := by rfl) (hx : (K.env cs).kindOf x = some .local := by rfl) : Ex K cs m N (.Assign [.Name x px] e pos :: rest) Φ :=
  Ex.cons fun Q s F Nw k => wpAny_Assign_Name (he _ _ s F Nw fun v h1 t1 F1 N1 r => store F1 N1 (fun h' F' N' => k _ _ _ _ _ F' N' (show Ex _ _ _ _ _ _ from h v r)) hk hx) hs
theorem Ex.assignA {x : Str} {px : Pos} {e : PySem.Expr} {pos : Pos} {rest : List Stmt} {Φ : Post} {R : Value → Lg → Prop} (he : EvA K cs m N e R) (h : ∀ v tl, R v tl → (∀ q ∈ tl, ∀ p ∈ N, @LT.lt Nat _ p.1 q.1) → Ex K cs (upd m x v) (tl ++ N) rest Φ)
    (hs : swapsWith e (some (.Name x px)) pos.line (K.env cs) = pure false := by rfl) (hk : cs.kind = .function := by rfl) (hx : (K.env cs).kindOf x = some .local := by rfl) : Ex K cs m N (.Assign [.Name x px] e pos :: rest) Φ :=
  Ex.cons fun Q s F Nw k => wpAny_Assign_Name (he _ _ s F Nw fun v tl h1 t1 F1 N1 o r => store F1 N1 (fun h' F' N' => k _ _ _ _ _ F' N' (show Ex _ _ _ _ _ _ from h v tl r o)) hk hx) hs
theorem Ex.ite {test : PySem.Expr} {body orelse rest : List Stmt} {pos : Pos} {Φ : Post} {b : Bool} (ht : Tst K cs m N test b) (h1 : b = true → Ex K cs m N body (Then K cs rest Φ)) (h2 : b = false → Ex K cs m N orelse (Then K cs rest Φ)) : Ex K cs m N (.If test body orelse pos :: rest) Φ :=
  Ex.cons fun Q s F Nw k => wpAny_If (ht _ _ s F Nw fun c h t F1 N1 e => by
    subst e
    cases c with
    | true => exact h1 rfl Q _ F1 N1 k
    | false => exact h2 rfl Q _ F1 N1 k)
theorem Ex.ret {e : PySem.Expr} {pos : Pos} {rest : List Stmt} {Φ : Post} {R : Value → Prop} (he : Ev K cs m N e R) (h : ∀ v, R v → Φ (.ret v) m N) : Ex K cs m N (.Return (some e) pos :: rest) Φ :=
  Ex.cons fun Q s F Nw k => wpAny_Return_some (he _ _ s F Nw fun v h1 t1 F1 N1 r => k _ _ _ _ _ F1 N1 (h v r))
theorem Ex.retA {e : PySem.Expr} {pos : Pos} {rest : List Stmt} {Φ : Post} {R : Value → Lg → Prop} (he : EvA K cs m N e R) (h : ∀ v tl, R v tl → (∀ q ∈ tl, ∀ p ∈ N, @LT.lt Nat _ p.1 q.1) → Φ (.ret v) m (tl ++ N)) : Ex K cs m N (.Return (some e) pos :: rest) Φ :=
  Ex.cons fun Q s F Nw k => wpAny_Return_some (he _ _ s F Nw fun v tl h1 t1 F1 N1 o r => k _ _ _ _ _ F1 N1 (h v tl r o))
theorem Ex.brk {pos : Pos} {rest : List Stmt} {Φ : Post} (h : Φ .brk m N) : Ex K cs m N (.Break pos :: rest) Φ := Ex.cons fun Q s F Nw k => wpAny_Break (k _ _ _ s.heap s.toks F Nw h)
theorem Ex.assert {test : PySem.Expr} {pos : Pos} {rest : List Stmt} {Φ : Post} (ht : Tst K cs m N test true) (h : Ex K cs m N rest Φ) : Ex K cs m N (.Assert test none pos :: rest) Φ :=
  Ex.cons fun Q s F Nw k => wpAny_Assert rfl (ht _ _ s F Nw fun c h1 t F1 N1 e => by
    subst e; exact k _ _ _ _ _ F1 N1 (show Ex _ _ _ _ _ _ from h))
theorem Ex.augI {x : Str} {px : Pos} {e : PySem.Expr} {pos : Pos} {rest : List Stmt} {Φ : Post} {i j : Int} {t : Tok} (hv : m x = some (.int i t)) (he : Ev K cs m N e (IsI j)) (h : ∀ t', Ex K cs (upd m x (.int (i + j) t')) N rest Φ)
    (hk : cs.kind = .function := by rfl) (hx : (K.env cs).kindOf x = some .local := by rfl) : Ex K cs m N (.AugAssign (.Name x px) .Add e pos :: rest) Φ :=
  Ex.cons fun Q s F Nw k => wpAny_AugAssign_Name (wpAny_loadName_local hk hx F.ns hv (he _ _ s F Nw fun v h1 t1 F1 N1 ⟨_, e⟩ => by
    subst e; exact iadd_int (store F1 N1 (fun h' F' N' => k _ _ _ _ _ F' N' (show Ex _ _ _ _ _ _ from h _)) hk hx)))
/-- while, by an invariant and a measure -/
theorem Ex.while {test : PySem.Expr} {body rest : List Stmt} {pos : Pos} {Φ : Post} (J : Nat → Mp → Lg → Prop) (X : Mp → Lg → Prop) {n₀ : Nat} (hJ : J n₀ m N)
    (turn : ∀ n m₁ N₁, J n m₁ N₁ → ∃ b, Tst K cs m₁ N₁ test b ∧ (b = true → Ex K cs m₁ N₁ body (fun f m' N' => match f with
      | .next => ∃ n', n' < n ∧ ∃ N₂, (∀ p ∈ N₂, p ∈ N') ∧ J n' m' N₂
      | .cont => ∃ n', n' < n ∧ ∃ N₂, (∀ p ∈ N₂, p ∈ N') ∧ J n' m' N₂
      | .brk => X m' N'
      | .ret v => Φ (.ret v) m' N')) ∧ (b = false → X m₁ N₁))
    (done : ∀ m' N', X m' N' → Ex K cs m' N' rest Φ) : Ex K cs m N (.While test body [] pos :: rest) Φ :=
  Ex.cons fun Q s F Nw k => While_inv2 (L := K.L) J F Nw hJ (fun n m₁ N₁ h₁ tk₁ F₁ Nw₁ hJ₁ => by
    obtain ⟨b, ht, h1, h2⟩ := turn n m₁ N₁ hJ₁
    refine ht _ _ _ F₁ Nw₁ fun c h2' t2 F2 N2 e => ?_
    subst e
    cases c with
    | false =>
      simp only [Bool.false_eq_true, if_false]
      exact k .next m₁ N₁ _ _ F2 N2 (done _ _ (h2 rfl))
    | true =>
      simp only [if_true]
      refine h1 rfl _ _ F2 N2 fun f m' N' h' tk F' N'' p => ?_
      cases f with
      | next => obtain ⟨n', hn, N₂, hs, hj⟩ := p; exact ⟨h', tk, m', N₂, n', rfl, F', fun p hp => N'' p (hs p hp), hn, hj⟩
      | cont => obtain ⟨n', hn, N₂, hs, hj⟩ := p; exact ⟨h', tk, m', N₂, n', rfl, F', fun p hp => N'' p (hs p hp), hn, hj⟩
      | brk => exact k .next m' N' h' tk F' N'' (done _ _ p)
      | ret v => exact k (.ret v) m' N' h' tk F' N'' p) PassesOwn.never
end
end Mine
end
section
set_option maxRecDepth 100000
set_option linter.unusedVariables false
open PySem PySem.W PyProof.Rows PySem.Calls
namespace Mine
section
variable {K : Cx} {cs : Scope} {m : Mp} {N : Lg}
/-- arguments that may allocate -/
abbrev ArgsA (K : Cx) (cs : Scope) (m : Mp) (N : Lg) (pos : Pos) (es : List PySem.Expr) (R : List Value → Lg → Prop) : Prop := SmA K cs m N (spliced (backTo pos (starEach es (K.env cs)))) R
theorem ArgsA.nil {pos : Pos} : ArgsA K cs m N pos [] (fun vs tl => vs = [] ∧ tl = []) := fun Q E s F Nw k => args_nil (k _ [] s.heap s.toks F Nw (fun _ h => nomatch h) ⟨rfl, rfl⟩)
theorem ArgsA.cons {pos : Pos} {e : PySem.Expr} {es : List PySem.Expr} {R : Value → Lg → Prop} {Rs : Value → Lg → List Value → Lg → Prop} (h : EvA K cs m N e R) (hs : ∀ v tl, R v tl → (∀ q ∈ tl, ∀ p ∈ N, @LT.lt Nat _ p.1 q.1) → ArgsA K cs m (tl ++ N) pos es (Rs v tl)) (he : starEach (e :: es) (K.env cs) = (false, eval e (K.env cs)) :: starEach es (K.env cs) := by rfl) :
    ArgsA K cs m N pos (e :: es) (fun vs tl => ∃ v t1 r t2, vs = v :: r ∧ tl = t2 ++ t1 ∧ R v t1 ∧ Rs v t1 r t2 ∧ (∀ q ∈ t2, ∀ p ∈ t1, @LT.lt Nat _ p.1 q.1)) :=
  fun Q E s F Nw k => args_cons (h _ E s F Nw fun v t1 h1 k1 F1 N1 o r => hs v t1 r o _ E _ F1 N1 fun vs t2 h2 k2 F2 N2 o2 rs => k _ (t2 ++ t1) h2 k2 F2 (by rw [List.append_assoc]; exact N2)
    (fun q hq p hp => by
      rcases List.mem_append.mp hq with hq | hq
      · exact o2 q hq p (List.mem_append_right _ hp)
      · exact o q hq p hp) ⟨v, t1, vs, t2, rfl, rfl, r, rs, fun q hq p hp => o2 q hq p (List.mem_append_left _ hp)⟩) he
theorem EvA.list {es : List PySem.Expr} {pos : Pos} {Rs : List Value → Prop} (h : Args K cs m N pos es Rs) (hz : ∀ vs, Rs vs → vs.length ≤ sizeLine) : EvA K cs m N (.List es pos) (fun v tl => ∃ D vs, v = .ref D ∧ tl = [(D, W.listOf vs.toArray 0)] ∧ Rs vs) :=
  fun Q E s F Nw k => wpAny_List (h _ E s F Nw fun vs h1 t1 F1 N1 r => ⟨hz vs r, k _ [(h1.objs.size, W.listOf vs.toArray 0)] _ _ (F1.push _) (N1.push F1 _) (fun q hq p hp => by rw [List.mem_singleton.mp hq]; exact Heap.lt_size (N1 p hp).1) ⟨_, vs, rfl, rfl, r⟩⟩)
theorem EvA.list0 {pos : Pos} : EvA K cs m N (.List [] pos) (fun v tl => ∃ D, v = .ref D ∧ tl = [(D, W.listOf #[] 0)]) := fun Q E s F Nw k =>
  EvA.list (pos := pos) Args.nil (fun vs e => by subst e; decide) Q E s F Nw fun v tl h tk F' N' o ⟨D, vs, e, e', e''⟩ => k v tl h tk F' N' o ⟨D, e, by rw [e', e'']⟩
/-- the tuple of what is listed -/
def tupO (vs : List Value) : Obj := { cls := .type "tuple", data := .seq vs.toArray }
theorem EvA.tup {es : List PySem.Expr} {kk : Nat} {pos : Pos} {Rs : List Value → Lg → Prop} (h : ArgsA K cs m N pos es Rs) (hz : ∀ vs tl, Rs vs tl → vs.length ≤ sizeLine) : EvA K cs m N (.Tuple es kk pos) (fun v tl => ∃ D vs tl', v = .ref D ∧ tl = (D, tupO vs) :: tl' ∧ Rs vs tl' ∧ (∀ p ∈ tl', @LT.lt Nat _ p.1 D)) :=
  fun Q E s F Nw k => wpAny_Tuple (h _ E s F Nw fun vs tl h1 t1 F1 N1 o r => ⟨hz vs tl r, k _ ((h1.objs.size, tupO vs) :: tl) _ _ (F1.push _) (N1.push F1 _) (fun q hq p hp => by
    rcases List.mem_cons.mp hq with rfl | hq
    · exact Heap.lt_size (N1 p (List.mem_append_right _ hp)).1
    · exact o q hq p hp) ⟨_, vs, tl, rfl, rfl, r, fun p hp => Heap.lt_size (N1 p (List.mem_append_left _ hp)).1⟩⟩)
/-- a text in a written tuple of texts -/
theorem Tst.inTup {l : PySem.Expr} {es : List PySem.Expr} {kk : Nat} {pos tp : Pos} {x : Str} {ys : List Str} (ha : Ev K cs m N l (IsS x)) (hb : Args K cs m N tp es (fun vs => StrsAre vs ys)) (hz : ys.length ≤ 100) (hm : behindInMarks .In (.Tuple es kk tp) = false := by with_unfolding_all rfl) :
    Tst K cs m N (.Compare l [.In] [.Tuple es kk tp] pos) (ys.any (· == x)) :=
  fun Q E s F Nw k => wpAny_isTrue_Compare1 (ha _ E s F Nw fun a h1 t1 F1 N1 ⟨_, ea⟩ => wpAny_Tuple (hb _ E _ F1 N1 fun vs h2 t2 F2 N2 hs => ⟨by rw [hs.length, sizeLine_eq]; omega, by
    subst ea
    refine in_tuple_strs (items := vs.toArray) (ys := ys) ⟨_, Heap.get?_push_size _ rfl, rfl, 0, rfl⟩ hs ?_
    exact wpAny_truthy_bool (k _ _ _ (F2.push _) (N2.grown fun _ _ e => Heap.get?_push_of_some _ e) rfl)⟩)) hm
/-- res.append(e) -/
theorem Ex.append {ap cp pos : Pos} {e o : PySem.Expr} {rest : List Stmt} {Φ : Post} {l : Addr} {its : Array Value} {n : Nat} {R : Value → Prop} {N' : Lg} {pl : Sem Bool} (ho : Ev K cs m N o (fun u => u = .ref l)) (hl : (l, W.listOf its n) ∈ N) (he : Ev K cs m N e R) (hz : its.size ≤ sizeLine) (hN : ∀ p ∈ N', p.1 ≠ l ∧ p ∈ N)
    (h : ∀ v, R v → Ex K cs m ((l, W.listOf (its.push v) (n + 1)) :: N') rest Φ)
    (hc : eval (.Call (.Attribute o (Str.ofString "append") ap) [e] [] cp) (K.env cs) = (do
      let ov ← eval o (K.env cs)
      standAt ap.atName
      let (f, first) ← holding [ov] (getMethod ov (Str.ofString "append") pl)
      callWith cp f first (backTo cp (starEach [e] (K.env cs))) []) := by rfl)
    (hi : interactive (K.env cs) = false := by rfl) (hs : swapsWith (.Call (.Attribute o (Str.ofString "append") ap) [e] [] cp) none pos.line (K.env cs) = pure false := by rfl)
    (he' : starEach [e] (K.env cs) = (false, eval e (K.env cs)) :: starEach [] (K.env cs) := by rfl) : Ex K cs m N (.Expr (.Call (.Attribute o (Str.ofString "append") ap) [e] [] cp) pos :: rest) Φ := by
  refine Ex.cons fun Q s F Nw k => wpAny_Expr (MethodCall_ (pl := pl) (ho _ _ s F Nw fun ov h1 t1 F1 N1 eo => ?_) hc) hi hs
  subst eo
  refine listMethod_K N1 hl PySem.F.slot_list_append PySem.F.type_list_append ?_
  refine callWith_method1 ((Args.one he he') _ _ _ F1 N1 fun vs h2 t2 F2 N2 ⟨v, ev, r⟩ => ?_) he' rfl
  subst ev
  have z := N2 _ hl
  show wpAny _ _ (call (.builtin "list.append") [.ref l, v]) _ _ _
  refine append_at (hsz := hz) z.1 fun h' hs' ho' => ?_
  exact k .next m _ h' _ (F2.change hs' z.2.1 z.2.2) (fun p hp => by
    rcases List.mem_cons.mp hp with rfl | hp
    · exact ⟨ho', z.2⟩
    · exact ⟨hs'.extBut _ _ (hN p hp).1 (N2 p (hN p hp).2).1, (N2 p (hN p hp).2).2⟩) (show Ex _ _ _ _ _ _ from h v r)
/-- all names bound, the last first -/
def updAll (m : Mp) (xs : List Str) (vs : List Value) : Mp := (xs.reverse.zip vs.reverse).foldl (fun m p => upd m p.1 p.2) m
theorem stores : ∀ {xs : List Str} {vs : List Value} {m : Mp} {Q : Unit → Shared → Prop} {E : Value → Shared → Prop} {s : Shared}, xs.length = vs.length → (∀ x ∈ xs, (K.env cs).kindOf x = some .local) → cs.kind = .function → Fr K.h₀ K.L s.heap m → News K.h₀ K.L s.heap N →
    (∀ h tk, Fr K.h₀ K.L h ((xs.zip vs).foldl (fun m p => upd m p.1 p.2) m) → News K.h₀ K.L h N → Q () { s with heap := h, toks := tk }) → wpAny K.M (K.A cs) (assignInOrder (xs.map fun n => bindName (K.env cs) n) vs) Q E s
  | [], [], m, Q, E, s, _, _, _, F, Nw, k => assignInOrder_nil (k s.heap s.toks F Nw)
  | x :: xs, v :: vs, m, Q, E, s, e, hx, hk, F, Nw, k => assignInOrder_cons (PyProof.Rows.bindName_ (store F Nw (fun h' F' N' => stores (by simpa using e) (fun y hy => hx y (.tail _ hy)) hk F' N' fun h tk F2 N2 => k h tk F2 N2) hk (hx x (.head _))))
  | [], _ :: _, _, _, _, _, e, _, _, _, _, _ => by simp at e
  | _ :: _, [], _, _, _, _, e, _, _, _, _, _ => by simp at e
theorem Ex.assignT {elts es : List PySem.Expr} {kk k2 : Nat} {tpos vpos pos : Pos} {names : List Str} {rest : List Stmt} {Φ : Post} {R : List Value → Lg → Prop} (ha : ArgsA K cs m N vpos es R) (hlen : ∀ vs tl, R vs tl → names.length = vs.length ∧ vs.length ≤ 100)
    (h : ∀ vs tl, R vs tl → (∀ q ∈ tl, ∀ p ∈ N, @LT.lt Nat _ p.1 q.1) → Ex K cs (updAll m names vs) (tl ++ N) rest Φ)
    (hw : swappedStores [.Tuple elts kk tpos] (.Tuple es k2 vpos) (K.env cs) = pure (some names) := by rfl) (hs : swapsWithSole [.Tuple elts kk tpos] (.Tuple es k2 vpos) pos.line (K.env cs) = pure false := by rfl)
    (hx : ∀ x ∈ names.reverse, cs.names.lookup x = some .local := by decide) (hk : cs.kind = .function := by rfl) : Ex K cs m N (.Assign [.Tuple elts kk tpos] (.Tuple es k2 vpos) pos :: rest) Φ :=
  Ex.cons fun Q s F Nw k => Assign_Tuple_swapped ((EvA.tup ha fun vs tl r => Nat.le_trans (hlen vs tl r).2 (by decide)) _ _ s F Nw fun v tl h1 t1 F1 N1 o ⟨D, vs, tl', ev, et, r, o'⟩ => by
    subst ev; subst et
    refine unpackItemsN_ F1 N1 (items := vs.toArray) ⟨_, (N1 _ (.head _)).1, rfl, 0, rfl⟩ rfl (by simp [(hlen vs tl' r).1]) fun h2 F2 N2 => ?_
    refine stores (N := tl' ++ N) (by simp [(hlen vs tl' r).1]) hx hk F2 (fun p hp => N2 p (.tail _ hp)) fun h3 t3 F3 N3 => ?_
    exact k .next _ _ h3 t3 F3 N3 (show Ex _ _ _ _ _ _ from h vs tl' r fun q hq p hp => o q (.tail _ hq) p hp)) hs hw
end
/-- a body, met in a walk -/
theorem Ex.use {w : World} {dp un : Nat} {gd : Option (List Code)} {cn : Str} {cs : Scope} {L a : Addr} {ccd : Value} {cl : List (Str × Addr)} {outer : List Env} {A₀ : Around} {base h₀ : Heap} {p : Program} {loose : List Str} {mean : ExcName → Option Value} {mg mb : Str → Option Value}
    {m : Mp} {N : Lg} {sts : List Stmt} {Φ : Post} {Q : Flow → Shared → Prop} {E : Value → Shared → Prop} {s : Shared}
    (B : Below A₀ base outer h₀) (X : (Mine.hd.heap_39 w.params).In h₀) (T : Top p loose mean mg mb h₀) (F : Fr h₀ L s.heap m) (Nw : News h₀ L s.heap N)
    (h : ∀ K : Cx, K.w = w → K.dp = dp → K.un = un → Ex K cs m N sts Φ)
    (k : ∀ f m' N' h tk, Fr h₀ L h m' → News h₀ L h N' → Φ f m' N' → Q f { s with heap := h, toks := tk }) :
    wpAny (model PySem.Challenge.rw_ij0092_01.row.prog w) (ktrTop dp un gd cn cs L a ccd cl outer) (execs sts (envX cn cs L a ccd cl)) Q E s :=
  wpAny_mono (h ⟨w, dp, un, gd, cn, L, a, ccd, cl, outer, A₀, base, h₀, p, loose, mean, mg, mb, B, X, T⟩ rfl rfl rfl Q s F Nw k) (fun _ _ q => q) fun _ _ e => e.elim
end Mine
end
section
set_option maxRecDepth 100000
set_option linter.unusedVariables false
open PySem PySem.W PyProof.Rows PySem.Calls
namespace Mine
theorem Con.smA {K : Cx} {cs : Scope} {m : Mp} {N : Lg} {f : Addr} {need : Nat} {vs : List Value} {R : Value → Lg → Prop} (C : Con K.w f need N vs R) (hd : K.dp + need < recursionLimit) (hu : K.un + 8 * need < cLine) (hk : cs.kind = .function := by rfl) : SmA K cs m N (call (.ref f) vs) R :=
  fun Q E s F Nw k => Con.use C K.B F K.X Nw K.T hk hd hu fun v tl h' tk' F' N' o r => k v tl h' tk' F' N' o r
theorem Con.sm {K : Cx} {cs : Scope} {m : Mp} {N : Lg} {f : Addr} {need : Nat} {vs : List Value} {R : Value → Prop} (C : Con K.w f need N vs (fun v tl => tl = [] ∧ R v)) (hd : K.dp + need < recursionLimit) (hu : K.un + 8 * need < cLine) (hk : cs.kind = .function := by rfl) : Sm K cs m N (call (.ref f) vs) R :=
  fun Q E s F Nw k => Con.use C K.B F K.X Nw K.T hk hd hu fun v tl h' tk' F' N' o r => k v h' tk' F' (fun p hp => N' p (List.mem_append_right _ hp)) r.2
/-- what a body leaves for a contract -/
def Back (news : Lg) (R : Value → Lg → Prop) : Post := fun f _ N' => ∃ v tl, f = .ret v ∧ (∀ p ∈ tl ++ news, p ∈ N') ∧ (∀ q ∈ tl, ∀ p ∈ news, @LT.lt Nat _ p.1 q.1) ∧ R v tl
theorem back {m : Mp} {N' news tl : Lg} {R : Value → Lg → Prop} {v : Value} (hs : ∀ p ∈ tl ++ news, p ∈ N') (o : ∀ q ∈ tl, ∀ p ∈ news, @LT.lt Nat _ p.1 q.1) (r : R v tl) : Back news R (.ret v) m N' := ⟨v, tl, rfl, hs, o, r⟩
theorem back0 {m : Mp} {N' news : Lg} {R : Value → Prop} {v : Value} (hs : ∀ p ∈ news, p ∈ N') (r : R v) : Back news (fun v tl => tl = [] ∧ R v) (.ret v) m N' := ⟨v, [], rfl, hs, (fun _ h => nomatch h), rfl, r⟩
/-- a contract from its body -/
theorem con_of {w : World} {f : Addr} {need : Nat} {news : Lg} {vs : List Value} {R : Value → Lg → Prop} {name qual : Str} {params : Arguments} {body : List Stmt} {scope : Scope} {dV kV doc pm cdv ct oc : Value} {an od : Option Addr} {osl : Array (Option Value)} {binds : List (Str × Value)}
    (ho : (Mine.hd.heap_39 w.params).lookup f = some ⟨oc, od, .func (fnOf name qual params body scope dV kV doc pm an cdv ct), osl⟩) (hcd : codeIn (Mine.hd.heap_39 w.params) cdv qual = true) (hbind : bindArgs (fnOf name qual params body scope dV kV doc pm an cdv ct) ⟨vs, []⟩ = pure binds)
    (hloc : ∀ y ∈ binds, scope.names.lookup y.1 = some .local) (hco : scope.isCoroutine = false) (hgen : scope.isGenerator = false) (hk : scope.kind = .function) (hcell : ∀ x ∈ scope.names, x.2 ≠ .cell)
    (h : ∀ K : Cx, K.w = w → K.dp + need < recursionLimit → K.un + 8 * need < cLine → Ex K scope (fun y => binds.reverse.lookup y) news body (Back news R)) : Con w f (need + 1) news vs R := by
  intro dp un gd cn cs a ccd cl outer A₀ base h₀ L m s Q E p loose mean mg mb B F X N T hkf hd hu hret
  refine wpAny_call (code_def (env := envX cn cs L a ccd cl) (outer := outer) B F X N T rfl rfl hkf ho hcd (by show dp < recursionLimit; omega) (BindsTo.of_eq hbind) hloc (fun g L' h₁ FG F' N' B' X' T' => ?_) hco hgen hk hcell)
  refine wpAny_mono (h ⟨w, dp + 1, un + 3, gd, qual, L', f, cdv, [], envX cn cs L a ccd cl :: outer, _, _, g, p, loose, mean, mg, mb, B', X', T'⟩ rfl (by show dp + 1 + need < _; omega) (by show un + 3 + 8 * need < _; omega)
    (fun fl s' => LeaveK h₀ L m g _ (match fl with | .ret v => v | _ => .none) s') _ F' N' fun fl m' N' h' tk F2 N2 hp => ?_) (fun _ _ q => q) fun _ _ e => e.elim
  obtain ⟨v, tl, rfl, hs, o, r⟩ := hp
  exact leaveK_ F2 (fun p hp => N2 p (hs p hp)) fun kF kN => hret v tl h' tk kF kN o r
end Mine
end
section
set_option maxRecDepth 100000
set_option linter.unusedVariables false
open PySem PySem.W PyProof.Rows PySem.Calls
namespace Mine
section
variable {K : Cx} {cs : Scope} {m : Mp} {N : Lg}
theorem EvA.of {e : PySem.Expr} {R : Value → Prop} (h : Ev K cs m N e R) : EvA K cs m N e (fun v tl => tl = [] ∧ R v) := SmA.of h
theorem SmA.mono {α : Type} {t : Sem α} {R R' : α → Lg → Prop} (h : SmA K cs m N t R) (hr : ∀ v tl, R v tl → R' v tl) : SmA K cs m N t R' := fun Q E s F Nw k => h Q E s F Nw fun v tl h' tk F' N' o r => k v tl h' tk F' N' o (hr v tl r)
theorem EvA.listA {es : List PySem.Expr} {pos : Pos} {Rs : List Value → Lg → Prop} (h : ArgsA K cs m N pos es Rs) (hz : ∀ vs tl, Rs vs tl → vs.length ≤ sizeLine) : EvA K cs m N (.List es pos) (fun v tl => ∃ D vs tl', v = .ref D ∧ tl = (D, W.listOf vs.toArray 0) :: tl' ∧ Rs vs tl' ∧ (∀ p ∈ tl', @LT.lt Nat _ p.1 D)) :=
  fun Q E s F Nw k => wpAny_List (h _ E s F Nw fun vs tl h1 t1 F1 N1 o r => ⟨hz vs tl r, k _ ((h1.objs.size, W.listOf vs.toArray 0) :: tl) _ _ (F1.push _) (N1.push F1 _) (fun q hq p hp => by
    rcases List.mem_cons.mp hq with rfl | hq
    · exact Heap.lt_size (N1 p (List.mem_append_right _ hp)).1
    · exact o q hq p hp) ⟨_, vs, tl, rfl, rfl, r, fun p hp => Heap.lt_size (N1 p (List.mem_append_left _ hp)).1⟩⟩)
/-- one argument that may allocate, two -/
theorem ArgsA.one {pos : Pos} {e : PySem.Expr} {R : Value → Lg → Prop} (h : EvA K cs m N e R) (he : starEach [e] (K.env cs) = (false, eval e (K.env cs)) :: starEach [] (K.env cs) := by rfl) : ArgsA K cs m N pos [e] (fun vs tl => ∃ v, vs = [v] ∧ R v tl) :=
  (ArgsA.cons h (fun _ _ _ _ => ArgsA.nil) he).mono fun vs tl ⟨v, t1, r, t2, e1, e2, hr, ⟨e3, e4⟩, _⟩ => ⟨v, by rw [e1, e3], by rw [e2, e4]; exact hr⟩
theorem ArgsA.of {pos : Pos} {es : List PySem.Expr} {R : List Value → Prop} (h : Args K cs m N pos es R) : ArgsA K cs m N pos es (fun vs tl => tl = [] ∧ R vs) := SmA.of h
theorem Args.sNil {pos : Pos} : Args K cs m N pos [] (fun vs => StrsAre vs []) := Args.nil.mono fun _ e => e ▸ .nil
theorem Args.sCons {pos : Pos} {e : PySem.Expr} {es : List PySem.Expr} {y : Str} {ys : List Str} (h : Ev K cs m N e (IsS y)) (hs : Args K cs m N pos es (fun vs => StrsAre vs ys)) (he : starEach (e :: es) (K.env cs) = (false, eval e (K.env cs)) :: starEach es (K.env cs) := by rfl) : Args K cs m N pos (e :: es) (fun vs => StrsAre vs (y :: ys)) :=
  (Args.cons h hs he).mono fun _ ⟨v, r, e, ⟨t, ev⟩, hr⟩ => by subst e; subst ev; exact .cons _ _ hr
theorem Args.two {pos : Pos} {e f : PySem.Expr} {R S : Value → Prop} (h : Ev K cs m N e R) (hs : Ev K cs m N f S) (he : starEach [e, f] (K.env cs) = (false, eval e (K.env cs)) :: starEach [f] (K.env cs) := by rfl) (hf : starEach [f] (K.env cs) = (false, eval f (K.env cs)) :: starEach [] (K.env cs) := by rfl) : Args K cs m N pos [e, f] (fun vs => ∃ v u, vs = [v, u] ∧ R v ∧ S u) :=
  (Args.cons h (Args.one hs hf) he).mono fun _ ⟨v, r, e, hr, u, e', hu⟩ => ⟨v, u, by rw [e, e'], hr, hu⟩
theorem Ex.appendA {ap cp pos : Pos} {e o : PySem.Expr} {rest : List Stmt} {Φ : Post} {l : Addr} {its : Array Value} {n : Nat} {R : Value → Lg → Prop} {N' : Lg} {pl : Sem Bool} (ho : Ev K cs m N o (fun u => u = .ref l)) (hl : (l, W.listOf its n) ∈ N) (he : EvA K cs m N e R) (hz : its.size ≤ sizeLine) (hN : ∀ p ∈ N', p.1 ≠ l ∧ p ∈ N)
    (h : ∀ v tl, R v tl → (∀ q ∈ tl, ∀ p ∈ N, @LT.lt Nat _ p.1 q.1) → Ex K cs m ((l, W.listOf (its.push v) (n + 1)) :: (tl ++ N')) rest Φ)
    (hc : eval (.Call (.Attribute o (Str.ofString "append") ap) [e] [] cp) (K.env cs) = (do
      let ov ← eval o (K.env cs)
      standAt ap.atName
      let (f, first) ← holding [ov] (getMethod ov (Str.ofString "append") pl)
      callWith cp f first (backTo cp (starEach [e] (K.env cs))) []) := by rfl)
    (hi : interactive (K.env cs) = false := by rfl) (hs : swapsWith (.Call (.Attribute o (Str.ofString "append") ap) [e] [] cp) none pos.line (K.env cs) = pure false := by rfl)
    (he' : starEach [e] (K.env cs) = (false, eval e (K.env cs)) :: starEach [] (K.env cs) := by rfl) : Ex K cs m N (.Expr (.Call (.Attribute o (Str.ofString "append") ap) [e] [] cp) pos :: rest) Φ := by
  refine Ex.cons fun Q s F Nw k => wpAny_Expr (MethodCall_ (pl := pl) (ho _ _ s F Nw fun ov h1 t1 F1 N1 eo => ?_) hc) hi hs
  subst eo
  refine listMethod_K N1 hl PySem.F.slot_list_append PySem.F.type_list_append ?_
  refine callWith_method1 ((ArgsA.one he he') _ _ _ F1 N1 fun vs tl h2 t2 F2 N2 o2 ⟨v, ev, r⟩ => ?_) he' rfl
  subst ev
  have z := N2 _ (List.mem_append_right tl hl)
  show wpAny _ _ (call (.builtin "list.append") [.ref l, v]) _ _ _
  refine append_at (hsz := hz) z.1 fun h' hs' ho' => ?_
  exact k .next m _ h' _ (F2.change hs' z.2.1 z.2.2) (fun p hp => by
    rcases List.mem_cons.mp hp with rfl | hp
    · exact ⟨ho', z.2⟩
    rcases List.mem_append.mp hp with hp | hp
    · have zz := N2 p (List.mem_append_left _ hp)
      exact ⟨hs'.extBut _ _ (Nat.ne_of_gt (o2 p hp _ hl)) zz.1, zz.2⟩
    · have zz := N2 p (List.mem_append_right tl (hN p hp).2)
      exact ⟨hs'.extBut _ _ (hN p hp).1 zz.1, zz.2⟩) (show Ex _ _ _ _ _ _ from h v tl r o2)
theorem Ev.intEq {i n : Int} {k : Nat} {pos : Pos} (h : i = n) : Ev K cs m N (.Constant (.int i) k pos) (IsI n) := h ▸ Ev.int
theorem Ex.nil2 {Φ : Post} (h : Φ .next m N) : Ex K cs m N [] (Then K cs [] Φ) := Ex.nil (show Ex _ _ _ _ _ _ from Ex.nil h)
theorem Ex.nil3 {Φ : Post} (h : Φ .next m N) : Ex K cs m N [] (Then K cs [] (Then K cs [] Φ)) := Ex.nil (show Ex _ _ _ _ _ _ from Ex.nil2 h)
theorem Ex.nil4 {Φ : Post} (h : Φ .next m N) : Ex K cs m N [] (Then K cs [] (Then K cs [] (Then K cs [] Φ))) := Ex.nil (show Ex _ _ _ _ _ _ from Ex.nil3 h)
theorem Ex.nil5 {Φ : Post} (h : Φ .next m N) : Ex K cs m N [] (Then K cs [] (Then K cs [] (Then K cs [] (Then K cs [] Φ)))) := Ex.nil (show Ex _ _ _ _ _ _ from Ex.nil4 h)
end
end Mine
end
section
set_option maxRecDepth 100000
set_option linter.unusedVariables false
open PySem PySem.W PyProof.Rows PySem.Calls
namespace Mine
section
variable {K : Cx} {cs : Scope} {m : Mp} {N : Lg}
theorem Ex.assignI {x : Str} {px : Pos} {e : PySem.Expr} {pos : Pos} {rest : List Stmt} {Φ : Post} {n : Int} (he : Ev K cs m N e (IsI n)) (h : ∀ t, Ex K cs (upd m x (.int n t)) N rest Φ)
    (hs : swapsWith e (some (.Name x px)) pos.line (K.env cs) = pure false := by rfl) (hk : cs.kind = .function := by rfl) (hx : (K.env cs).kindOf x = some .local := by rfl) : Ex K cs m N (.Assign [.Name x px] e pos :: rest) Φ :=
  Ex.assign he (fun v r => r.elim fun t e => e ▸ h t) hs hk hx
theorem Ex.assignS {x : Str} {px : Pos} {e : PySem.Expr} {pos : Pos} {rest : List Stmt} {Φ : Post} {y : Str} (he : Ev K cs m N e (IsS y)) (h : ∀ t, Ex K cs (upd m x (.str y t)) N rest Φ)
    (hs : swapsWith e (some (.Name x px)) pos.line (K.env cs) = pure false := by rfl) (hk : cs.kind = .function := by rfl) (hx : (K.env cs).kindOf x = some .local := by rfl) : Ex K cs m N (.Assign [.Name x px] e pos :: rest) Φ :=
  Ex.assign he (fun v r => r.elim fun t e => e ▸ h t) hs hk hx
theorem Ex.assignE {x : Str} {px : Pos} {e : PySem.Expr} {pos : Pos} {rest : List Stmt} {Φ : Post} {a : Value} (he : Ev K cs m N e (fun u => u = a)) (h : Ex K cs (upd m x a) N rest Φ)
    (hs : swapsWith e (some (.Name x px)) pos.line (K.env cs) = pure false := by rfl) (hk : cs.kind = .function := by rfl) (hx : (K.env cs).kindOf x = some .local := by rfl) : Ex K cs m N (.Assign [.Name x px] e pos :: rest) Φ :=
  Ex.assign he (fun v r => r ▸ h) hs hk hx
theorem Ex.assignL {x : Str} {px : Pos} {pos lp : Pos} {rest : List Stmt} {Φ : Post} (h : ∀ D, (∀ p ∈ N, @LT.lt Nat _ p.1 D) → Ex K cs (upd m x (.ref D)) ((D, W.listOf #[] 0) :: N) rest Φ)
    (hs : swapsWith (.List [] lp) (some (.Name x px)) pos.line (K.env cs) = pure false := by rfl) (hk : cs.kind = .function := by rfl) (hx : (K.env cs).kindOf x = some .local := by rfl) : Ex K cs m N (.Assign [.Name x px] (.List [] lp) pos :: rest) Φ :=
  Ex.assignA EvA.list0 (fun v tl ⟨D, e, e'⟩ o => by subst e; subst e'; exact h D (o _ (.head _))) hs hk hx
/-- two names at once, plain values: y is stored first -/
theorem Ex.assign2 {elts : List PySem.Expr} {e f : PySem.Expr} {kk k2 : Nat} {tpos vpos pos : Pos} {x y : Str} {rest : List Stmt} {Φ : Post} {V W : Tok → Value} (ha : Ev K cs m N e (fun v => ∃ t, v = V t)) (hb : Ev K cs m N f (fun v => ∃ t, v = W t)) (h : ∀ t u, Ex K cs (upd (upd m y (W u)) x (V t)) N rest Φ)
    (hw : swappedStores [.Tuple elts kk tpos] (.Tuple [e, f] k2 vpos) (K.env cs) = pure (some [x, y]) := by rfl) (hs : swapsWithSole [.Tuple elts kk tpos] (.Tuple [e, f] k2 vpos) pos.line (K.env cs) = pure false := by rfl)
    (hx : cs.names.lookup x = some .local := by decide) (hy : cs.names.lookup y = some .local := by decide) (hk : cs.kind = .function := by rfl)
    (he : starEach [e, f] (K.env cs) = (false, eval e (K.env cs)) :: starEach [f] (K.env cs) := by rfl) (hf : starEach [f] (K.env cs) = (false, eval f (K.env cs)) :: starEach [] (K.env cs) := by rfl) : Ex K cs m N (.Assign [.Tuple elts kk tpos] (.Tuple [e, f] k2 vpos) pos :: rest) Φ :=
  Ex.assignT (names := [x, y]) (ArgsA.of (Args.two ha hb he hf)) (fun vs tl ⟨_, v1, v2, e, _⟩ => by subst e; exact ⟨rfl, show 2 ≤ 100 by decide⟩)
    (fun vs tl ⟨e1, v1, v2, e2, ⟨t, e3⟩, u, e4⟩ _ => by subst e1; subst e2; subst e3; subst e4; exact h t u) hw hs (fun z hz => by
      rcases List.mem_cons.mp hz with rfl | hz
      · exact hy
      · rw [List.mem_singleton.mp hz]; exact hx) hk
/-- an append of a plain value -/
theorem Ex.appendV {ap cp pos : Pos} {e o : PySem.Expr} {rest : List Stmt} {Φ : Post} {l : Addr} {its : Array Value} {n : Nat} {V : Tok → Value} {N' : Lg} {pl : Sem Bool} (ho : Ev K cs m N o (fun u => u = .ref l)) (hl : (l, W.listOf its n) ∈ N) (he : Ev K cs m N e (fun v => ∃ t, v = V t)) (hz : its.size ≤ sizeLine) (hN : ∀ p ∈ N', p.1 ≠ l ∧ p ∈ N)
    (h : ∀ t, Ex K cs m ((l, W.listOf (its.push (V t)) (n + 1)) :: N') rest Φ)
    (hc : eval (.Call (.Attribute o (Str.ofString "append") ap) [e] [] cp) (K.env cs) = (do
      let ov ← eval o (K.env cs)
      standAt ap.atName
      let (f, first) ← holding [ov] (getMethod ov (Str.ofString "append") pl)
      callWith cp f first (backTo cp (starEach [e] (K.env cs))) []) := by rfl)
    (hi : interactive (K.env cs) = false := by rfl) (hs : swapsWith (.Call (.Attribute o (Str.ofString "append") ap) [e] [] cp) none pos.line (K.env cs) = pure false := by rfl)
    (he' : starEach [e] (K.env cs) = (false, eval e (K.env cs)) :: starEach [] (K.env cs) := by rfl) : Ex K cs m N (.Expr (.Call (.Attribute o (Str.ofString "append") ap) [e] [] cp) pos :: rest) Φ :=
  Ex.append ho hl he hz hN (fun v ⟨t, e⟩ => e ▸ h t) hc hi hs he'
/-- behind a turn -/
def LPost {β : Type} (S : β → Mp → Prop) (Led : β → Lg) (P : β → Prop) (μ : β → Nat) (X : Mp → Lg → Prop) (Φ : Post) (b : β) : Post := fun f m' N' => match f with
  | .next => ∃ b', μ b' < μ b ∧ S b' m' ∧ (∀ p ∈ Led b', p ∈ N') ∧ P b'
  | .cont => ∃ b', μ b' < μ b ∧ S b' m' ∧ (∀ p ∈ Led b', p ∈ N') ∧ P b'
  | .brk => X m' N'
  | .ret v => Φ (.ret v) m' N'
theorem loop_next {β : Type} {S : β → Mp → Prop} {Led : β → Lg} {P : β → Prop} {μ : β → Nat} {X : Mp → Lg → Prop} {Φ : Post} {b : β} {m' : Mp} {N' : Lg} (b' : β) (hμ : μ b' < μ b) (hS : S b' m') (hN : ∀ p ∈ Led b', p ∈ N') (hP : P b') : LPost S Led P μ X Φ b .next m' N' := ⟨b', hμ, hS, hN, hP⟩
theorem Ex.whileB {β : Type} {test : PySem.Expr} {body rest : List Stmt} {pos : Pos} {Φ : Post} (S : β → Mp → Prop) (Led : β → Lg) (P : β → Prop) (μ : β → Nat) (X : Mp → Lg → Prop) (c : β → Bool) (b₀ : β) (h0 : S b₀ m) (hN : ∀ p ∈ Led b₀, p ∈ N) (hp : P b₀)
    (tst : ∀ b m₁, S b m₁ → P b → Tst K cs m₁ (Led b) test (c b)) (turn : ∀ b m₁, S b m₁ → P b → c b = true → Ex K cs m₁ (Led b) body (LPost S Led P μ X Φ b)) (out : ∀ b m₁, S b m₁ → P b → c b = false → X m₁ (Led b))
    (done : ∀ m' N', X m' N' → Ex K cs m' N' rest Φ) : Ex K cs m N (.While test body [] pos :: rest) Φ :=
  (Ex.while (fun n m N => ∃ b, μ b = n ∧ S b m ∧ N = Led b ∧ P b) X ⟨b₀, rfl, h0, rfl, hp⟩ (fun n m₁ N₁ ⟨b, e, hS, e', hP⟩ => by
    subst e; subst e'
    refine ⟨c b, tst b m₁ hS hP, fun hc => (turn b m₁ hS hP hc).mono fun f m' N' q => ?_, out b m₁ hS hP⟩
    cases f with
    | next => obtain ⟨b', h1, h2, h3, h4⟩ := q; exact ⟨_, h1, _, h3, b', rfl, h2, rfl, h4⟩
    | cont => obtain ⟨b', h1, h2, h3, h4⟩ := q; exact ⟨_, h1, _, h3, b', rfl, h2, rfl, h4⟩
    | brk => exact q
    | ret v => exact q) done).sub hN
end
end Mine
end
section
set_option maxRecDepth 100000
set_option linter.unusedVariables false
set_option Elab.async false
open PySem PySem.W PyProof.Rows PySem.Calls
namespace Mine
/-- the loop's state: k, what is begun, the lists that are shut and their runs, the last list and its items -/
structure RB where
  i : Int
  t : Tok
  bb : BB
  tb : Tok
  vs : List Value
  done : List (List Str)
  nR : Nat
  l : Addr
  us : List Value
  last : List Str
  nl : Nat
  rest : Lg
def RB.led (R : Addr) (b : RB) : Lg := (R, W.listOf (b.vs ++ [Value.ref b.l]).toArray b.nR) :: (b.l, W.listOf b.us.toArray b.nl) :: b.rest
structure RF (x : Str) (tx : Tok) (R : Addr) (b : RB) (m : Mp) : Prop where
  f1 : m (Str.ofString "text") = some (.str x tx)
  f2 : m (Str.ofString "runs") = some (.ref R)
  f3 : m (Str.ofString "begun") = some (.str (bv b.bb) b.tb)
  f4 : m (Str.ofString "k") = some (.int b.i b.t)
structure RP (x : Str) (RS : List (List Str)) (news : Lg) (R : Addr) (b : RB) : Prop where
  h0 : 0 ≤ b.i
  h1 : b.i ≤ 210
  hT : Turn x RS b.i b.bb b.done b.last
  hs : StrsAre b.us b.last
  hR : RunsIn b.rest b.vs b.done
  hul : (b.us.length : Int) ≤ b.i
  hvl : (b.vs.length : Int) ≤ b.i
  e1 : R ≠ b.l
  e2 : ∀ p ∈ b.rest, p.1 ≠ R
  e3 : ∀ p ∈ b.rest, p.1 ≠ b.l
  tl : ∃ tl, b.rest = tl ++ news ∧ (∀ q ∈ tl, ∀ p ∈ news, @LT.lt Nat _ p.1 q.1)
  o2 : ∀ p ∈ news, @LT.lt Nat _ p.1 R
  o3 : ∀ p ∈ news, @LT.lt Nat _ p.1 b.l
/-- behind the loop -/
def RX (x : Str) (tx : Tok) (RS : List (List Str)) (news : Lg) (R : Addr) (m : Mp) (N : Lg) : Prop := ∃ b, RF x tx R b m ∧ RP x RS news R b ∧ N = b.led R ∧ (b.bb = .z ∨ b.bb = .d) ∧ RS = b.done ++ [b.last]
theorem code_eq (c e : Nat) : ((⟨#[c]⟩ : Str).cps.toList == (⟨#[e]⟩ : Str).cps.toList) = decide (c = e) := by
  rw [Bool.eq_iff_iff, beq_iff_eq, decide_eq_true_eq]; simp
theorem paren_is : Str.ofString "(" = ⟨#[40]⟩ := by decide +kernel
theorem shut_is : Str.ofString ")" = ⟨#[41]⟩ := by decide +kernel
theorem dot_is : Str.ofString "." = ⟨#[46]⟩ := by decide +kernel
theorem back_is : Str.ofString "\\" = ⟨#[92]⟩ := by decide +kernel
theorem bangD_is : Str.ofString "!" = ⟨#[33]⟩ := by decide +kernel
theorem hatD_is : Str.ofString "^" = ⟨#[94]⟩ := by decide +kernel
/-- the first test of the turn -/
def b1 (x : Str) (i : Int) (b : BB) : Bool := [Str.ofString "", Str.ofString ")"].any (· == bv b) && ((s6 x i || (s2 x i || false)) && true)
theorem in_bv (b : BB) : [Str.ofString "", Str.ofString ")"].any (· == bv b) = (match b with | .z => true | .c => true | .o => false | .d => false) := by cases b <;> decide +kernel

theorem turn_new {x : Str} {RS : List (List Str)} {i : Int} {b : BB} {done : List (List Str)} {last : List Str} {G : Prop} (hT : Turn x RS i b done last) (g : i < (x.length : Int) - 3) (h : b1 x i b = true)
    (k : ∀ c d b', x.cps[i.toNat]? = some c → (((⟨#[c]⟩ : Str).cps.toList == (Str.ofString "(").cps.toList) = true → 6 = d) → (((⟨#[c]⟩ : Str).cps.toList == (Str.ofString "(").cps.toList) = false → 2 = d) → 1 ≤ d → d ≤ 6 → bv b' = (⟨#[c]⟩ : Str) → Turn x RS (i + d) b' (done ++ [last]) [] → G) : G := by
  unfold b1 at h; rw [in_bv] at h
  cases hT with
  | fin _ _ _ g1 => omega
  | grp _ _ _ f g1 g2 g3 g4 g5 => exact k 40 6 .o g3 (fun _ => rfl) (fun h => by rw [paren_is, code_eq] at h; simp at h) (by decide) (by decide) paren_is (lr_inv g5)
  | rst _ _ _ f g1 g2 g3 g4 g5 g6 => exact k 46 2 .d g3 (fun h => by rw [paren_is, code_eq] at h; simp at h) (fun _ => rfl) (by decide) (by decide) dot_is (lr_inv g6)
  | any _ _ f g1 g2 g3 g4 g5 => rw [g3, g4] at h; cases h
  | shut => cases h
  | bang => cases h
  | hat => cases h
/-- the tests behind the first -/
def b2 (b : BB) (c : Nat) : Bool := (bv b).cps.toList == (Str.ofString "(").cps.toList && ((⟨#[c]⟩ : Str).cps.toList == (Str.ofString ")").cps.toList && true)
def b3 (b : BB) (c : Nat) : Bool := (bv b).cps.toList == (Str.ofString ")").cps.toList || (!(Builtin.Str.occurrences (Str.ofString "()[]{}*+?|^$") ⟨#[c]⟩ 0 (Str.ofString "()[]{}*+?|^$").length 1).isEmpty || false)
def b4 (c : Nat) : Bool := (⟨#[c]⟩ : Str).cps.toList == (Str.ofString "\\").cps.toList
def b5 (c : Nat) : Bool := (⟨#[c]⟩ : Str).cps.toList == (Str.ofString ".").cps.toList
theorem turn_old {x : Str} {RS : List (List Str)} {i : Int} {b : BB} {done : List (List Str)} {last : List Str} {G : Prop} (hT : Turn x RS i b done last) (g : i < (x.length : Int) - 3) (h : b1 x i b = false)
    (k : ∀ c, x.cps[i.toNat]? = some c → (b2 b c = true → Turn x RS (i + 1) .c done last) → (b2 b c = false → b3 b c = false ∧ (b4 c = true → x.cps[(i + 1).toNat]? = some 94 ∧ Turn x RS (i + 2) b done (last ++ [⟨#[94]⟩])) ∧
      (b4 c = false → Turn x RS (i + 1) b done (last ++ [if b5 c = true then Str.ofString "" else ⟨#[c]⟩]))) → G) : G := by
  unfold b1 at h; rw [in_bv] at h
  have e2 : b2 .o 41 = true := by decide +kernel
  have e3 : b2 .o 92 = false := by decide +kernel
  have e4 : b2 .z 46 = false := by decide +kernel
  have e5 : b2 .o 33 = false := by decide +kernel
  cases hT with
  | fin _ _ _ g1 => omega
  | grp _ _ _ f g1 g2 g3 g4 g5 => rcases g2 with rfl | rfl <;> (rw [g4] at h; cases h)
  | rst _ _ _ f g1 g2 g3 g4 g5 g6 => rcases g2 with rfl | rfl <;> (rw [g5, Bool.true_or, Bool.or_true] at h; cases h)
  | shut _ _ f g1 g2 g3 => exact k 41 g2 (fun _ => lr_inv g3) (fun h => by rw [e2] at h; cases h)
  | hat _ _ f g1 g2 g3 g4 => exact k 92 g2 (fun h => by rw [e3] at h; cases h) (fun _ => ⟨by decide +kernel, fun _ => ⟨g3, lr_inv (by rw [← hatD_is]; exact g4)⟩, fun h => absurd h (by decide +kernel)⟩)
  | any _ _ f g1 g2 g3 g4 g5 => exact k 46 g2 (fun h => by rw [e4] at h; cases h) (fun _ => ⟨by decide +kernel, fun h => absurd h (by decide +kernel), fun _ => lr_inv (by rw [if_pos (by decide +kernel)]; exact g5)⟩)
  | bang _ _ f g1 g2 g3 => exact k 33 g2 (fun h => by rw [e5] at h; cases h) (fun _ => ⟨by decide +kernel, fun h => absurd h (by decide +kernel), fun _ => lr_inv (by rw [if_neg (by decide +kernel), ← bangD_is]; exact g3)⟩)
theorem turn_end {x : Str} {RS : List (List Str)} {i : Int} {b : BB} {done : List (List Str)} {last : List Str} (hT : Turn x RS i b done last) (g : ¬ i < (x.length : Int) - 3) : (b = .z ∨ b = .d) ∧ RS = done ++ [last] := by
  cases hT with
  | fin _ _ _ _ h h' => exact ⟨h, h'⟩
  | _ => omega
theorem le_size {n : Nat} (h : n ≤ 300) : n ≤ sizeLine := Nat.le_trans h (by decide)
section
variable {x : Str} {RS : List (List Str)} {news : Lg} {R : Addr} {b : RB}
theorem RP.size1 (P : RP x RS news R b) : (b.vs ++ [Value.ref b.l]).toArray.size ≤ sizeLine := by
  have h1 := P.hvl; have h2 := P.h1
  rw [List.size_toArray, List.length_append, List.length_singleton]; exact le_size (by omega)
theorem RP.size2 (P : RP x RS news R b) : b.us.toArray.size ≤ sizeLine := by
  have h1 := P.hul; have h2 := P.h1
  rw [List.size_toArray]; exact le_size (by omega)
theorem RP.off (P : RP x RS news R b) : ∀ p ∈ (R, W.listOf (b.vs ++ [Value.ref b.l]).toArray b.nR) :: b.rest, p.1 ≠ b.l ∧ p ∈ b.led R := fun p hp => by
  rcases List.mem_cons.mp hp with rfl | hp
  · exact ⟨P.e1, .head _⟩
  · exact ⟨P.e3 p hp, .tail _ (.tail _ hp)⟩
theorem RP.off1 (P : RP x RS news R b) : ∀ p ∈ (b.l, W.listOf b.us.toArray b.nl) :: b.rest, p.1 ≠ R ∧ p ∈ b.led R := fun p hp => by
  rcases List.mem_cons.mp hp with rfl | hp
  · exact ⟨Ne.symm P.e1, .tail _ (.head _)⟩
  · exact ⟨P.e2 p hp, .tail _ (.tail _ hp)⟩
/-- a run is shut, a new one begun -/
theorem RP.new (P : RP x RS news R b) (hx : x.length ≤ 200) (g : b.i < (x.length : Int) - 3) {d : Int} {b' : BB} {t t' : Tok} {D : Addr} (h1 : 1 ≤ d) (h6 : d ≤ 6) (hT : Turn x RS (b.i + d) b' (b.done ++ [b.last]) []) (o : ∀ p ∈ b.led R, @LT.lt Nat _ p.1 D) :
    RP x RS news R ⟨b.i + d, t, b', t', b.vs ++ [Value.ref b.l], b.done ++ [b.last], b.nR + 1, D, [], [], 0, (b.l, W.listOf b.us.toArray b.nl) :: b.rest⟩ := by
  obtain ⟨tl, ht, o1⟩ := P.tl
  have a0 := P.h0; have a1 := P.h1; have a2 := P.hul; have a3 := P.hvl
  have qR : @LT.lt Nat _ R D := o (R, _) (.head _)
  have ql : @LT.lt Nat _ b.l D := o (b.l, _) (.tail _ (.head _))
  refine ⟨by dsimp only; omega, by dsimp only; omega, hT, .nil, RunsIn.snoc (.head _) P.hs (by omega) (P.hR.mono fun p hp => .tail _ hp), by simp; omega, by simp; omega, Nat.ne_of_lt qR, ?_, ?_, ⟨(b.l, W.listOf b.us.toArray b.nl) :: tl, by rw [ht]; rfl, ?_⟩, P.o2, fun p hp => o p (.tail _ (.tail _ (by rw [ht]; exact List.mem_append_right _ hp)))⟩
  · intro p hp
    rcases List.mem_cons.mp hp with rfl | hp
    · exact fun e => P.e1 e.symm
    · exact P.e2 p hp
  · intro p hp
    rcases List.mem_cons.mp hp with rfl | hp
    · exact Nat.ne_of_lt ql
    · exact Nat.ne_of_lt (o p (.tail _ (.tail _ hp)))
  · intro q hq p hp
    rcases List.mem_cons.mp hq with rfl | hq
    · exact P.o3 p hp
    · exact o1 q hq p hp
/-- the group is shut -/
theorem RP.shut (P : RP x RS news R b) (hx : x.length ≤ 200) (g : b.i < (x.length : Int) - 3) {t t' : Tok} (hT : Turn x RS (b.i + 1) .c b.done b.last) : RP x RS news R ⟨b.i + 1, t, .c, t', b.vs, b.done, b.nR, b.l, b.us, b.last, b.nl, b.rest⟩ := by
  have a0 := P.h0; have a2 := P.hul; have a3 := P.hvl
  exact ⟨by dsimp only; omega, by dsimp only; omega, hT, P.hs, P.hR, by dsimp only; omega, by dsimp only; omega, P.e1, P.e2, P.e3, P.tl, P.o2, P.o3⟩
/-- a sign is added to the last run -/
theorem RP.add (P : RP x RS news R b) (hx : x.length ≤ 200) (g : b.i < (x.length : Int) - 3) {d : Int} {y : Str} {t t' : Tok} (h1 : 1 ≤ d) (h6 : d ≤ 2) (hT : Turn x RS (b.i + d) b.bb b.done (b.last ++ [y])) :
    RP x RS news R ⟨b.i + d, t, b.bb, b.tb, b.vs, b.done, b.nR, b.l, b.us ++ [.str y t'], b.last ++ [y], b.nl + 1, b.rest⟩ := by
  have a0 := P.h0; have a2 := P.hul; have a3 := P.hvl
  exact ⟨by dsimp only; omega, by dsimp only; omega, hT, strs_snoc _ _ P.hs, P.hR, by dsimp only; rw [List.length_append, List.length_singleton]; omega, by dsimp only; omega, P.e1, P.e2, P.e3, P.tl, P.o2, P.o3⟩
theorem led_add {y : Value} {t : Tok} {i : Int} {bb : BB} {tb : Tok} {done : List (List Str)} {last : List Str} : ∀ p ∈ RB.led R ⟨i, t, bb, tb, b.vs, done, b.nR, b.l, b.us ++ [y], last, b.nl + 1, b.rest⟩, p ∈ (b.l, W.listOf (b.us.toArray.push y) (b.nl + 1)) :: (R, W.listOf (b.vs ++ [Value.ref b.l]).toArray b.nR) :: b.rest := fun p hp => by
  rw [List.push_toArray]
  rcases List.mem_cons.mp hp with rfl | hp
  · exact .tail _ (.head _)
  rcases List.mem_cons.mp hp with rfl | hp
  · exact .head _
  · exact .tail _ (.tail _ hp)
theorem led_new {v : Value} {t : Tok} {i : Int} {bb : BB} {tb : Tok} {done : List (List Str)} {D : Addr} : ∀ p ∈ RB.led R ⟨i, t, bb, tb, b.vs ++ [Value.ref b.l], done, b.nR + 1, D, [], [], 0, (b.l, W.listOf b.us.toArray b.nl) :: b.rest⟩, p ∈ (R, W.listOf ((b.vs ++ [Value.ref b.l]).toArray.push (.ref D)) (b.nR + 1)) :: ([(D, W.listOf #[] 0)] ++ (b.l, W.listOf b.us.toArray b.nl) :: b.rest) := fun p hp => by
  rw [List.push_toArray]; exact hp
end
abbrev runsLoop (x : Str) (tx : Tok) (RS : List (List Str)) (news : Lg) (R : Addr) (Φ : Post) (b : RB) : Post := LPost (RF x tx R) (RB.led R) (RP x RS news R) (fun b => (300 - b.i).toNat) (RX x tx RS news R) Φ b
theorem runs_con (w : World) (news : Lg) (x : Str) (tx : Tok) (RS : List (List Str)) (hx : x.length ≤ 200) (h4 : ((Txt.slice x none (some 4)).cps.toList == (Str.ofString "(?s:").cps.toList) = true)
    (h3 : ((Txt.slice x (some (-3)) none).cps.toList == (Str.ofString ")\\Z").cps.toList) = true) (hr : lr x 200 4 .z [] [] = some RS) :
    Con w 111 3 news [.str x tx] (fun v tl => ∃ R vs n, v = .ref R ∧ (R, W.listOf vs.toArray n) ∈ tl ∧ RunsIn (tl ++ news) vs RS) := by
  unfold Con; k_fill; change Con w 111 (2 + 1) news _ _
  refine' con_of (binds := [(Str.ofString "text", .str x tx)]) ?ho ?hcd ?hbind ?hloc ?hco ?hgen ?hk ?hcell ?h
  case ho => k_is
  case hcd => k_is
  case hbind => exact rfl
  case hloc => exact locs rfl
  case hco => exact rfl
  case hgen => exact rfl
  case hk => exact rfl
  case hcell => decide
  intro K hw hd hu
  have hz : x.length ≤ sizeLine := Nat.le_trans hx (by decide)
  have hz1 : x.length < 1000000 := Nat.lt_of_le_of_lt hx (by decide)
  have hlen : nsIn (Mine.hd.heap_39 K.w.params) mainGlobals (Str.ofString "len") = some none := by subst hw; k_is
  refine Ex.assignT (names := [Str.ofString "runs", Str.ofString "begun", Str.ofString "k"]) (ArgsA.cons (EvA.listA (ArgsA.one EvA.list0) ?z1) fun _ _ _ _ => ArgsA.of (Args.two Ev.str Ev.int)) ?z2 ?_
  case z1 => rintro vs tl ⟨v, rfl, _⟩; exact show 1 ≤ sizeLine by decide
  case z2 => rintro vs tl ⟨v, t1, r, t2, rfl, rfl, _, ⟨_, a, b, rfl, _⟩, _⟩; exact ⟨rfl, show 3 ≤ 100 by decide⟩
  rintro vs tl ⟨v, t1, r, t2, rfl, rfl, ⟨R, vs', tl', rfl, rfl, ⟨_, rfl, l, rfl, rfl⟩, oR⟩, ⟨rfl, a, b, rfl, ⟨tb, rfl⟩, ⟨tk, rfl⟩⟩, _⟩ o
  have hlR : @LT.lt Nat _ l R := oR _ (.head _)
  refine Ex.whileB (RF x tx R) (RB.led R) (RP x RS news R) (fun b => (300 - b.i).toNat) (RX x tx RS news R) (fun b => decide (b.i < (x.length : Int) - 3)) ⟨4, tk, .z, tb, [], [], 0, l, [], [], 0, news⟩ ⟨rfl, rfl, rfl, rfl⟩ (fun p hp => hp) ?_ ?_ ?_ ?_ ?_
  · exact ⟨(by decide : (0:Int) ≤ 4), (by decide : (4:Int) ≤ 210), lr_inv hr, .nil, .nil, by simp, by simp, Ne.symm (Nat.ne_of_lt hlR), fun p hp e => absurd (o (R, _) (.head _) p hp) (by rw [e]; exact Nat.lt_irrefl _), fun p hp e => absurd (o (l, _) (.tail _ (.head _)) p hp) (by rw [e]; exact Nat.lt_irrefl _), ⟨[], rfl, fun _ h => nomatch h⟩, fun p hp => o (R, _) (.head _) p hp, fun p hp => o (l, _) (.tail _ (.head _)) p hp⟩
  · exact fun b m₁ S P => Tst.cmp (Ev.nameI S.f4) (Ev.subI (Ev.callB (Ev.built hlen (by boot_by_name) (by decide)) (Args.one (Ev.nameS S.f1)) fun vs ⟨v, e, hv⟩ => e ▸ cLenS hv hz1) Ev.int) fun _ _ => cLt
  · intro b m₁ S P hc
    have g : b.i < (x.length : Int) - 3 := of_decide_eq_true hc
    have hi63 : b.i < 2 ^ 63 := Int.lt_of_le_of_lt P.h1 (by decide)
    refine Ex.ite (b := b1 x b.i b.bb) (Tst.bool (Alls.and (Tst.inTup (Ev.nameS S.f3) (Args.sCons Ev.str (Args.sCons Ev.str Args.sNil)) (by decide)) fun _ => Alls.and (Tst.bool (Alls.or (Tst.cmp (Ev.sliceSS (Ev.nameS S.f1) (Ev.nameI S.f4) (Ev.addI (Ev.nameI S.f4) Ev.int) hz) Ev.str fun _ _ => cEqS) fun _ =>
      Alls.or (Tst.cmp (Ev.sliceSS (Ev.nameS S.f1) (Ev.nameI S.f4) (Ev.addI (Ev.nameI S.f4) Ev.int) hz) Ev.str fun _ _ => cEqS) fun _ => Alls.orNil)) fun _ => Alls.andNil)) (fun hb1 => ?_) (fun hb1 => ?_)
    · refine turn_new P.hT g hb1 fun c d b' hc h6 h2 hd1 hd6 hbv hT => ?_
      refine Ex.assign2 (Ev.itemS (Ev.nameS S.f1) (Ev.nameI S.f4) hc P.h0 hi63) (Ev.addI (Ev.nameI S.f4) (Ev.ife (Tst.cmp (Ev.itemS (Ev.nameS S.f1) (Ev.nameI S.f4) hc P.h0 hi63) Ev.str fun _ _ => cEqS) (fun h => Ev.intEq (h6 h)) fun h => Ev.intEq (h2 h))) fun t u => ?_
      refine Ex.appendA (l := R) (Ev.name S.f2) (.head _) EvA.list0 P.size1 P.off1 ?_
      rintro v tl ⟨D, rfl, rfl⟩ oD
      exact Ex.nil2 (loop_next ⟨b.i + d, u, b', t, _, _, _, D, [], [], 0, _⟩ (by have := P.h0; have := P.h1; dsimp only; omega) ⟨S.f1, S.f2, hbv.symm ▸ rfl, rfl⟩ (led_new (v := .ref D)) (P.new hx g hd1 hd6 hT (oD _ (.head _))))
    · refine turn_old P.hT g hb1 fun c hc k1 k2 => ?_
      refine Ex.ite (b := b2 b.bb c) (Tst.bool (Alls.and (Tst.cmp (Ev.nameS S.f3) Ev.str fun _ _ => cEqS) fun _ => Alls.and (Tst.cmp (Ev.itemS (Ev.nameS S.f1) (Ev.nameI S.f4) hc P.h0 hi63) Ev.str fun _ _ => cEqS) fun _ => Alls.andNil)) (fun hb2 => ?_) (fun hb2 => ?_)
      · refine Ex.assign2 Ev.str (Ev.addI (Ev.nameI S.f4) Ev.int) fun t u => ?_
        exact Ex.nil3 (loop_next ⟨b.i + 1, u, .c, t, _, _, _, _, _, _, _, _⟩ (by have := P.h0; have := P.h1; dsimp only; omega) ⟨S.f1, S.f2, rfl, rfl⟩ (fun p hp => hp) (P.shut hx g (k1 hb2)))
      · refine Ex.ite (b := b3 b.bb c) (Tst.bool (Alls.or (Tst.cmp (Ev.nameS S.f3) Ev.str fun _ _ => cEqS) fun _ => Alls.or (Tst.cmp (Ev.itemS (Ev.nameS S.f1) (Ev.nameI S.f4) hc P.h0 hi63) Ev.str fun _ _ => cInS) fun _ => Alls.orNil)) (fun h => absurd (h.symm.trans (k2 hb2).1) (by decide)) (fun _ => ?_)
        refine Ex.ite (b := b4 c) (Tst.cmp (Ev.itemS (Ev.nameS S.f1) (Ev.nameI S.f4) hc P.h0 hi63) Ev.str fun _ _ => cEqS) (fun hb4 => ?_) (fun hb4 => ?_)
        · have k3 := (k2 hb2).2.1 hb4
          refine Ex.appendV (l := b.l) (Ev.itemLast (Ev.name S.f2) (Ev.negI Ev.int) (.head _)) (.tail _ (.head _)) (Ev.itemS (Ev.nameS S.f1) (Ev.addI (Ev.nameI S.f4) Ev.int) k3.1 (by have := P.h0; omega) (by have := P.h1; omega)) P.size2 P.off fun t => ?_
          refine Ex.assignI (Ev.addI (Ev.nameI S.f4) Ev.int) fun u => ?_
          exact Ex.nil5 (loop_next ⟨b.i + 2, u, _, _, _, _, _, _, _, _, _, _⟩ (by have := P.h0; have := P.h1; dsimp only; omega) ⟨S.f1, S.f2, S.f3, rfl⟩ led_add (P.add hx g (by decide) (by decide) k3.2))
        · have k3 := (k2 hb2).2.2 hb4
          refine Ex.appendV (l := b.l) (Ev.itemLast (Ev.name S.f2) (Ev.negI Ev.int) (.head _)) (.tail _ (.head _)) (Ev.ife (b := b5 c) (R := IsS (if b5 c = true then Str.ofString "" else ⟨#[c]⟩)) (Tst.cmp (Ev.itemS (Ev.nameS S.f1) (Ev.nameI S.f4) hc P.h0 hi63) Ev.str fun _ _ => cEqS)
            (fun h => (if_pos h).symm ▸ Ev.str) fun h => (if_neg (Bool.eq_false_iff.mp h)).symm ▸ Ev.itemS (Ev.nameS S.f1) (Ev.nameI S.f4) hc P.h0 hi63) P.size2 P.off fun t => ?_
          refine Ex.assignI (Ev.addI (Ev.nameI S.f4) Ev.int) fun u => ?_
          exact Ex.nil5 (loop_next ⟨b.i + 1, u, _, _, _, _, _, _, _, _, _, _⟩ (by have := P.h0; have := P.h1; dsimp only; omega) ⟨S.f1, S.f2, S.f3, rfl⟩ led_add (P.add hx g (by decide) (by decide) k3))
  · exact fun b m₁ S P hc => ⟨b, S, P, rfl, turn_end P.hT (of_decide_eq_false hc)⟩
  · rintro m' N' ⟨b, S, P, rfl, hb, hRS⟩
    have hin : [Str.ofString "", Str.ofString "."].any (· == bv b.bb) = true := by rcases hb with h | h <;> (rw [h]; decide +kernel)
    refine Ex.ret (Ev.ife (Tst.bool (Alls.and (Tst.cmp (Ev.sliceNS (Ev.nameS S.f1) Ev.int hz) Ev.str fun _ _ => cEqS) fun _ => Alls.and (Tst.cmp (Ev.sliceSN (Ev.nameS S.f1) (Ev.negI Ev.int) hz) Ev.str fun _ _ => cEqS) fun _ => Alls.and (Tst.inTup (Ev.nameS S.f3) (Args.sCons Ev.str (Args.sCons Ev.str Args.sNil)) (by decide)) fun _ => Alls.andNil)) (fun _ => Ev.name S.f2) fun h => absurd h (by rw [h4, h3, hin]; decide)) ?_
    rintro v rfl
    obtain ⟨tl, ht, o1⟩ := P.tl
    refine back (tl := (R, W.listOf (b.vs ++ [Value.ref b.l]).toArray b.nR) :: (b.l, W.listOf b.us.toArray b.nl) :: tl) (fun p hp => by unfold RB.led; rw [ht]; exact hp) ?_ ⟨R, _, _, rfl, .head _, ?_⟩
    · intro q hq p hp
      rcases List.mem_cons.mp hq with rfl | hq
      · exact P.o2 p hp
      rcases List.mem_cons.mp hq with rfl | hq
      · exact P.o3 p hp
      · exact o1 q hq p hp
    · rw [hRS]
      refine RunsIn.snoc (.tail _ (.head _)) P.hs (by have := P.hul; have := P.h1; omega) (P.hR.mono fun p hp => ?_)
      rw [ht] at hp; exact .tail _ (.tail _ hp)
end Mine
end
section
set_option maxRecDepth 100000
open PySem PySem.W PyProof.Rows PySem.Calls PyProof.Rows.LCg
namespace Mine
/-- the pattern's runs, and all that the contracts ask of it -/
def Pat (P : Str) (RS : List (List Str)) : Prop := patB P RS = true ∧ RS ≠ [] ∧ RS.length ≤ 300
/-- what _law_takes says of the pattern P and the text y -/
def Ans (P y : Str) (b : Bool) : Prop := ∃ RS, Pat P RS ∧ takesF RS y.cps.toList = b
theorem cps_all {P : Str} (h : P.cps.toList.all (fun c => c == 42 || c == 63 || c == 33 || c == 94) = true) (i c : Nat) (e : P.cps[i]? = some c) : c = 42 ∨ c = 63 ∨ c = 33 ∨ c = 94 := by
  have hm : c ∈ P.cps.toList := List.mem_of_getElem? (i := i) (by simpa using e)
  have := List.all_eq_true.mp h c hm
  simp only [Bool.or_eq_true, beq_iff_eq] at this
  omega
theorem translate_conA (w : World) (news : List (Addr × Obj)) (P y : Str) (b : Bool) (tp : Tok) (h : Ans P y b) : Con w 43 7 news [.str P tp] (fun v tl => tl = [] ∧ ∃ t, v = .str (transF P) t) := by
  obtain ⟨RS, ⟨hB, _, _⟩, _⟩ := h
  unfold patB at hB
  simp only [Bool.and_eq_true, decide_eq_true_eq] at hB
  obtain ⟨⟨⟨⟨⟨⟨⟨⟨h1, h2⟩, h3⟩, h4⟩, h5⟩, _⟩, _⟩, _⟩, _⟩ := hB
  exact translate_con w news P tp h1 (cps_all h2) h3 h4 h5
theorem runs_conA (w : World) (news : List (Addr × Obj)) (P y : Str) (b : Bool) (tx : Tok) (h : Ans P y b) :
    Con w 111 3 news [.str (transF P) tx] (fun v tl => ∃ R vs n RS, v = .ref R ∧ (R, W.listOf vs.toArray n) ∈ tl ++ news ∧ RunsIn (tl ++ news) vs RS ∧ RS ≠ [] ∧ vs.length ≤ 300 ∧ takesF RS y.cps.toList = b) := by
  obtain ⟨RS, ⟨hB, hne, hl⟩, hb⟩ := h
  unfold patB at hB
  simp only [Bool.and_eq_true, decide_eq_true_eq] at hB
  obtain ⟨⟨⟨⟨_, h6⟩, h7⟩, h8⟩, h9⟩ := hB
  have C := runs_con w news (transF P) tx RS h6 h7 h8 (by simpa using h9)
  intro dp un gd cn cs a ccd cl outer A₀ base h₀ L m s Q E p loose mean mg mb B F X N T hk hd hu hret
  refine C dp un gd cn cs a ccd cl outer A₀ base h₀ L m s Q E p loose mean mg mb B F X N T hk hd hu fun v tl h' tk' F' N' o hR => hret v tl h' tk' F' N' o ?_
  obtain ⟨R, vs, n, e, hm, hI⟩ := hR
  exact ⟨R, vs, n, RS, e, List.mem_append_left _ hm, hI, hne, by rw [hI.length]; exact hl, hb⟩
theorem takes_conA (w : World) (news : List (Addr × Obj)) (R : Addr) (vs : List Value) (n : Nat) (RS : List (List Str)) (y : Str) (ty : Tok) (b : Bool) (hR : (R, W.listOf vs.toArray n) ∈ news) (hI : RunsIn news vs RS) (hne : RS ≠ []) (hl : vs.length ≤ 300) (hb : takesF RS y.cps.toList = b) (hy : y.length ≤ 1000) :
    Con w 123 5 news [.ref R, .str y ty] (fun v tl => tl = [] ∧ v = .bool b) := by
  subst hb
  exact takes_con w news R vs n RS y ty hR hI hne hl hy
end Mine
end
section
set_option maxRecDepth 100000
open PySem PySem.W PyProof.Rows PySem.Calls PyProof.Rows.LCg
namespace Mine
/-- the law's patterns, as it writes them -/
abbrev pS (m : Str) (k : Int) : Str := Str.ofString "*" ++ Txt.mul (m ++ Str.ofString "*") k
abbrev pQ (k : Int) : Str := Txt.mul (Str.ofString "?") k
abbrev pR (k : Int) : Str := Txt.mul (Str.ofString "?") k ++ Str.ofString "*"
theorem w_bang : (List.range 7).all (fun k => patB (pS (Str.ofString "!") ((k : Nat) : Int)) ([] :: (List.replicate k [Str.ofString "!"] ++ [[]]))) = true := by decide +kernel
theorem w_hat : (List.range 7).all (fun k => patB (pS (Str.ofString "^") ((k : Nat) : Int)) ([] :: (List.replicate k [Str.ofString "^"] ++ [[]]))) = true := by decide +kernel
theorem w_both : (List.range 7).all (fun k => patB (pS (Str.ofString "!^") ((k : Nat) : Int)) ([] :: (List.replicate k [Str.ofString "!", Str.ofString "^"] ++ [[]]))) = true := by decide +kernel
theorem w_any : (List.range 17).all (fun s => patB (pQ ((s : Nat) : Int)) [List.replicate s (Str.ofString "")]) = true := by decide +kernel
theorem w_anyStar : (List.range 17).all (fun s => patB (pR ((s : Nat) : Int)) [List.replicate s (Str.ofString ""), []]) = true := by decide +kernel
theorem all_range {n k : Nat} {f : Nat → Bool} (h : (List.range n).all f = true) (hk : k < n) : f k = true := List.all_eq_true.mp h k (List.mem_range.mpr hk)
theorem str_size (y : Str) : y.length = y.cps.toList.length := by simp [Str.length]
theorem bang_is : Str.ofString "!" = ⟨#[33]⟩ := by decide +kernel
theorem hat_is : Str.ofString "^" = ⟨#[94]⟩ := by decide +kernel
theorem ans_mark {P y : Str} {M : List Str} {k n : Nat} (hB : patB P ([] :: (List.replicate k M ++ [[]])) = true) (hk : k ≤ 6) (hM : M ≠ []) (hc : midL M k y.cps.toList = decide (k ≤ n)) : Ans P y (decide (k ≤ n)) :=
  ⟨_, ⟨hB, by simp, by simp; omega⟩, by rw [takes_mark hM, hc]⟩
section
variable {ns : List Int}
theorem ans_bang (hF : ∀ n ∈ ns, Fair n) {k : Nat} (hk : k ≤ 6) : Ans (pS (Str.ofString "!") ((k : Nat) : Int)) (lineS ns) (decide (k ≤ ns.countP isM)) := by
  have h := all_range w_bang (show k < 7 by omega)
  exact ans_mark h hk (by simp) (by rw [bang_is, midL_one, cat_codes, count_bang hF])
theorem ans_hat (hF : ∀ n ∈ ns, Fair n) {k : Nat} (hk : k ≤ 6) : Ans (pS (Str.ofString "^") ((k : Nat) : Int)) (lineS ns) (decide (k ≤ ns.countP isC)) := by
  have h := all_range w_hat (show k < 7 by omega)
  exact ans_mark h hk (by simp) (by rw [hat_is, midL_one, cat_codes, count_hat hF])
theorem ans_both (hF : ∀ n ∈ ns, Fair n) {k : Nat} (hk : k ≤ 6) : Ans (pS (Str.ofString "!^") ((k : Nat) : Int)) (lineS ns) (decide (k ≤ ns.countP (fun n => isM n && isC n))) := by
  have h := all_range w_both (show k < 7 by omega)
  exact ans_mark h hk (by simp) (by rw [bang_is, hat_is, midL_two, cat_codes, count_both hF])
theorem ans_any {s : Nat} (hs : s ≤ 16) : Ans (pQ ((s : Nat) : Int)) (lineS ns) (decide (s = (lineS ns).length)) := by
  have h := all_range w_any (show s < 17 by omega)
  refine ⟨_, ⟨h, by simp, by simp⟩, ?_⟩
  rw [takes_any, ← str_size]
theorem ans_anyStar {s : Nat} (hs : s ≤ 16) : Ans (pR ((s : Nat) : Int)) (lineS ns) (decide (s ≤ (lineS ns).length)) := by
  have h := all_range w_anyStar (show s < 17 by omega)
  refine ⟨_, ⟨h, by simp, by simp⟩, ?_⟩
  rw [takes_anyStar, ← str_size]
theorem ans_to {P y : Str} {b c : Bool} (h : Ans P y b) (e : b = c) : Ans P y c := e ▸ h
theorem asks (hF : ∀ n ∈ ns, Fair n) (h5 : ns.length ≤ 5) :
    Ans (pS (Str.ofString "!") ((ns.countP isM : Nat) : Int)) (lineS ns) true ∧ Ans (pS (Str.ofString "!") (((ns.countP isM : Nat) : Int) + 1)) (lineS ns) false ∧
    Ans (pS (Str.ofString "^") ((ns.countP isC : Nat) : Int)) (lineS ns) true ∧ Ans (pS (Str.ofString "^") (((ns.countP isC : Nat) : Int) + 1)) (lineS ns) false ∧
    Ans (pS (Str.ofString "!^") ((ns.countP (fun n => isM n && isC n) : Nat) : Int)) (lineS ns) true ∧ Ans (pS (Str.ofString "!^") (((ns.countP (fun n => isM n && isC n) : Nat) : Int) + 1)) (lineS ns) false ∧
    Ans (pQ (((lineS ns).length : Nat) : Int)) (lineS ns) true ∧ Ans (pQ ((((lineS ns).length : Nat) : Int) + 1)) (lineS ns) false ∧
    Ans (pR (((lineS ns).length : Nat) : Int)) (lineS ns) true ∧ Ans (pR ((((lineS ns).length : Nat) : Int) + 1)) (lineS ns) false := by
  have a1 := count_le isM ns
  have a2 := count_le isC ns
  have a3 := count_le (fun n => isM n && isC n) ns
  have a4 := lineS_length hF
  refine ⟨ans_to (ans_bang hF (by omega)) (by simp), ans_to (ans_bang hF (k := ns.countP isM + 1) (by omega)) (by simp), ans_to (ans_hat hF (by omega)) (by simp), ans_to (ans_hat hF (k := ns.countP isC + 1) (by omega)) (by simp),
    ans_to (ans_both hF (by omega)) (by simp), ans_to (ans_both hF (k := ns.countP (fun n => isM n && isC n) + 1) (by omega)) (by simp),
    ans_to (ans_any (by omega)) (by simp), ans_to (ans_any (s := (lineS ns).length + 1) (by omega)) (by simp), ans_to (ans_anyStar (by omega)) (by simp), ans_to (ans_anyStar (s := (lineS ns).length + 1) (by omega)) (by simp)⟩
end
end Mine
end
section
set_option maxRecDepth 100000
open PySem PySem.W PyProof.Rows PySem.Calls PyProof.Rows.LCg
namespace Mine
section
variable {prog : Program} {w : World} {A : Around} {E : Value → Shared → Prop} {s : Shared} {Q : Value → Shared → Prop}
theorem ans_len {P y : Str} {b : Bool} (h : Ans P y b) : P.length ≤ 100 := by
  obtain ⟨RS, ⟨hB, _, _⟩, _⟩ := h
  unfold patB at hB
  simp only [Bool.and_eq_true, decide_eq_true_eq] at hB
  exact hB.1.1.1.1.1.1.1.1
theorem add_len (x z : Str) : (x ++ z).length = x.length + z.length := by
  show (x.cps ++ z.cps).size = _
  rw [Array.size_append]; rfl
theorem add_ans {x z y : Str} {t u : Tok} {b : Bool} (h : Ans (x ++ z) y b) (hq : ∀ t tk, Q (.str (x ++ z) t) { s with toks := tk }) : wpAny (model prog w) A (binaryOp .Add (.str x t) (.str z u)) Q E s := by
  have hl := ans_len h
  rw [add_len] at hl
  refine SBL.add (hsz := ?hsz) ?_
  case hsz => rw [sizeLine_eq]; omega
  intro t' k _
  exact hq _ _
theorem le_yes {a b : Int} {t u : Tok} (h : a ≤ b) (hq : Q (.bool true) s) : wpAny (model prog w) A (compareOp .LtE (.int a t) (.int b u)) Q E s := le_int (by rw [decide_eq_true h]; exact hq)
theorem le_nope {a b : Int} {t u : Tok} (h : ¬ a ≤ b) (hq : Q (.bool false) s) : wpAny (model prog w) A (compareOp .LtE (.int a t) (.int b u)) Q E s := le_int (by rw [decide_eq_false h]; exact hq)
theorem mul_small {x : Str} {n : Int} {t u : Tok} (hx : x.length ≤ 16) (h0 : 0 ≤ n) (hn : n ≤ 1000) (hq : ∀ t tk, Q (.str (Txt.mul x n) t) { s with toks := tk }) : wpAny (model prog w) A (binaryOp .Mult (.str x t) (.int n u)) Q E s :=
  SB.mul (mulOk_of 16 1048576 hx (by omega) (by omega) (by decide) (by decide)) fun t' k => hq t' k
theorem news_drop2 {h₀ h : Heap} {L : Addr} {tl news : List (Addr × Obj)} (N : News h₀ L h ([] ++ (tl ++ news))) : News h₀ L h news := fun p hp => N p (show p ∈ tl ++ news from List.mem_append_right _ hp)
end
end Mine
end
section
set_option maxRecDepth 100000
open PySem PySem.W PyProof.Rows PySem.Calls PyProof.Rows.LCg
namespace Mine
section
variable {prog : Program} {w : World} {A : Around} {E : Value → Shared → Prop} {Q : Flow → Shared → Prop} {s : Shared} {env : Env} {h₀ : Heap} {β : Type}
/-- off the stored names the frame is as it was -/
def SameS (m' m₀ : Str → Option Value) (stored : List Str) : Prop := ∀ z, stored.contains z = false → m' z = m₀ z
theorem same_base {m₀ u : Str → Option Value} {stored : List Str} : SameS (fun z => if stored.contains z then u z else m₀ z) m₀ stored := fun z h => by
  show (if stored.contains z = true then u z else m₀ z) = _
  rw [h]; rfl
theorem same_st {m₀ m' : Str → Option Value} {c : Str} {stored : List Str} {a : Option Value} (hc : stored.contains c = true) (h : SameS m' m₀ stored) : SameS (fun z => if z = c then a else m' z) m₀ stored := fun z h3 => by
  show (if z = c then a else m' z) = _
  rw [if_neg (fun e => by rw [e, hc] at h3; cases h3)]; exact h z h3
/-- behind a turn of a loop over a written tuple -/
def UEnd (h₀ : Heap) (L : Addr) (s : Shared) (it : Addr × Obj) (stored : List Str) (m₀ : Str → Option Value) (Led : β → List (Addr × Obj)) (P : β → Prop) (s₂ : Shared) : Prop :=
  ∃ h' tk m' b, s₂ = { s with heap := h', toks := tk } ∧ Fr h₀ L h' m' ∧ News h₀ L h' (it :: Led b) ∧ SameS m' m₀ stored ∧ P b
def UPost (h₀ : Heap) (L : Addr) (s : Shared) (it : Addr × Obj) (stored : List Str) (m₀ : Str → Option Value) (Led : β → List (Addr × Obj)) (P : β → Prop) (Q : Flow → Shared → Prop) (f : Flow) (s₂ : Shared) : Prop :=
  match f with
  | .ret v => Q (.ret v) s₂
  | .brk => Q .next s₂
  | _ => UEnd h₀ L s it stored m₀ Led P s₂
theorem up_next {L : Addr} {it : Addr × Obj} {stored : List Str} {m₀ m' : Str → Option Value} {Led : β → List (Addr × Obj)} {P : β → Prop} {h' : Heap} {tk : Nat} {news' : List (Addr × Obj)} (b : β) (F : Fr h₀ L h' m') (N : News h₀ L h' news') (hs : ∀ p ∈ it :: Led b, p ∈ news')
    (hm : SameS m' m₀ stored) (hp : P b) : UPost h₀ L s it stored m₀ Led P Q .next { s with heap := h', toks := tk } := ⟨h', tk, m', b, rfl, F, fun p hp => N p (hs p hp), hm, hp⟩
theorem frS {L : Addr} {h : Heap} {m m₀ : Str → Option Value} {stored : List Str} (hs : SameS m m₀ stored) (F : Fr h₀ L h m) : Fr h₀ L h (fun z => if stored.contains z then m z else m₀ z) := by
  have e : (fun z => if stored.contains z then m z else m₀ z) = m := funext fun z => by
    show (if stored.contains z = true then m z else m₀ z) = m z
    by_cases h : stored.contains z = true
    · rw [if_pos h]
    · rw [if_neg h]; exact (hs z (by simpa using h)).symm
  rw [e]; exact F
theorem items_inv {target : PySem.Expr} {body : List Stmt} {I : Addr} {keep : List (Addr × Obj)} {m₀ : Str → Option Value} (stored : List Str) (Led : β → List (Addr × Obj)) (P : Nat → β → Prop) (hk : ∀ b, SubL keep (Led b)) (hI : ∀ b, ∀ p ∈ Led b, p.1 ≠ I) {vs : List Value}
    (turn : ∀ (k : Nat) (v : Value) (b : β) (u : Str → Option Value) (o : Obj) h tk, vs[k]? = some v → P k b → o.cls = .type "tuple_iterator" → Fr h₀ env.locals h (fun z => if stored.contains z then u z else m₀ z) → News h₀ env.locals h ((I, o) :: Led b) →
      wpAny (model prog w) A (assign target env v) (fun _ s₃ => wpAny (model prog w) A (execs body env) (UPost h₀ env.locals { s with heap := h, toks := tk } (I, o) stored m₀ Led (P (k + 1)) Q) E s₃) E { s with heap := h, toks := tk })
    (done : ∀ (b : β) (u : Str → Option Value) h tk, P vs.length b → Fr h₀ env.locals h (fun z => if stored.contains z then u z else m₀ z) → News h₀ env.locals h (Led b) → Q .next { s with heap := h, toks := tk }) :
    ∀ (n k : Nat) (m : Str → Option Value) (b : β), k + n = vs.length → SameS m m₀ stored → P k b → ItemsRest prog w A E h₀ env target body Q s [(I, "tuple_iterator")] keep ((vs.drop k).map .val) m (Led b)
  | 0, k, m, b, e, hs, hp => by
    have e' : k = vs.length := by omega
    subst e'
    rw [List.drop_length]
    exact ItemsRest.zero fun h tk F N => done b m h tk hp (frS hs F) N
  | n + 1, k, m, b, e, hs, hp => by
    have hlt : k < vs.length := by omega
    rw [List.drop_eq_getElem_cons hlt, List.map_cons]
    refine ItemsRest.val fun h tk F => AllObj.cons fun o ho => AllObj.nil fun N => ?_
    refine wpAny_mono (turn k _ b m o h tk (List.getElem?_eq_getElem hlt) hp ho (frS hs F) N) (fun _ s₃ h₃ => wpAny_mono h₃ (fun f s₄ h₄ => ?_) fun _ _ e => e) fun _ _ e => e
    have fin : UEnd h₀ env.locals { s with heap := h, toks := tk } (I, o) stored m₀ Led (P (k + 1)) s₄ → UnrEndW h₀ env.locals { s with heap := h, toks := tk } [(I, o)] (fun m' n' => SubL keep n' ∧ ItemsRest prog w A E h₀ env target body Q s [(I, "tuple_iterator")] keep ((vs.drop (k + 1)).map .val) m' n') s₄ := by
      rintro ⟨h', tk', m', b', rfl, F', N', hs', hp'⟩
      exact ⟨h', tk', m', Led b', rfl, F', N', fun p hp q hq => by rw [List.mem_singleton.mp hq]; exact hI b' p hp, hk b', items_inv stored Led P hk hI turn done n (k + 1) m' b' (by omega) hs' hp'⟩
    cases f with
    | ret v => exact h₄
    | brk => exact h₄
    | next => exact fin h₄
    | cont => exact fin h₄
theorem for_tup {target : PySem.Expr} {body : List Stmt} {ax : Addr} {n : Nat} {vs : List Value} {m₀ : Str → Option Value} (stored : List Str) (Led : β → List (Addr × Obj)) (P : Nat → β → Prop) (b₀ : β)
    (hh : A.handled = none) (F : Fr h₀ env.locals s.heap m₀) (N : News h₀ env.locals s.heap (Led b₀)) (hm : ∀ b, (ax, ({ cls := .type "tuple", data := .seq vs.toArray n } : Obj)) ∈ Led b) (hA : ∀ b, (Led b).map (·.1) = (Led b₀).map (·.1)) (hp : P 0 b₀)
    (turn : ∀ (I : Addr), (∀ p ∈ Led b₀, p.1 < I) → ∀ (k : Nat) (v : Value) (b : β) (u : Str → Option Value) (o : Obj) h tk, vs[k]? = some v → P k b → o.cls = .type "tuple_iterator" → Fr h₀ env.locals h (fun z => if stored.contains z then u z else m₀ z) → News h₀ env.locals h ((I, o) :: Led b) →
      wpAny (model prog w) A (assign target env v) (fun _ s₃ => wpAny (model prog w) A (execs body env) (UPost h₀ env.locals { s with heap := h, toks := tk } (I, o) stored m₀ Led (P (k + 1)) Q) E s₃) E { s with heap := h, toks := tk })
    (done : ∀ (b : β) (u : Str → Option Value) h tk, P vs.length b → Fr h₀ env.locals h (fun z => if stored.contains z then u z else m₀ z) → News h₀ env.locals h (Led b) → Q .next { s with heap := h, toks := tk }) :
    wpAny (model prog w) A (pyIter (.ref ax)) (fun it s₂ => TurnsAt prog w A h₀ env target body Q E it s₂) E s := by
  refine iter_tupTurns hh F N (hm b₀) rfl rfl fun I hI => ?_
  have hI' : ∀ b, ∀ p ∈ Led b, p.1 ≠ I := fun b p hp e => by
    have : p.1 ∈ (Led b₀).map (·.1) := by rw [← hA b]; exact List.mem_map.mpr ⟨p, hp, rfl⟩
    obtain ⟨q, hq, hqe⟩ := List.mem_map.mp this
    exact Nat.lt_irrefl _ ((hqe.trans e) ▸ hI q hq)
  exact items_inv (β := β) (keep := [(ax, { cls := .type "tuple", data := .seq vs.toArray n })]) stored Led P (fun b => And.intro (hm b) True.intro) hI' (turn I hI) done vs.length 0 m₀ b₀ (by simp) (fun _ _ => rfl) hp
theorem for_tupL {target : PySem.Expr} {body : List Stmt} {ax : Addr} {n : Nat} {vs : List Value} {m₀ : Str → Option Value} {tups : List (Addr × Obj)} (stored : List Str) (LL : β → List (Addr × Obj)) (P : Nat → β → Prop) (b₀ : β)
    (hh : A.handled = none) (F : Fr h₀ env.locals s.heap m₀) (N : News h₀ env.locals s.heap (tups ++ LL b₀)) (hm : (ax, ({ cls := .type "tuple", data := .seq vs.toArray n } : Obj)) ∈ tups) (hA : ∀ b, (LL b).map (·.1) = (LL b₀).map (·.1)) (hp : P 0 b₀)
    (turn : ∀ (I : Addr), (∀ a ∈ (tups ++ LL b₀).map (·.1), @LT.lt Nat _ a I) → ∀ (k : Nat) (v : Value) (b : β) (u : Str → Option Value) (o : Obj) h tk, vs[k]? = some v → P k b → o.cls = .type "tuple_iterator" → Fr h₀ env.locals h (fun z => if stored.contains z then u z else m₀ z) → News h₀ env.locals h ((I, o) :: (tups ++ LL b)) →
      wpAny (model prog w) A (assign target env v) (fun _ s₃ => wpAny (model prog w) A (execs body env) (UPost h₀ env.locals { s with heap := h, toks := tk } (I, o) stored m₀ (fun b => tups ++ LL b) (P (k + 1)) Q) E s₃) E { s with heap := h, toks := tk })
    (done : ∀ (b : β) (u : Str → Option Value) h tk, P vs.length b → Fr h₀ env.locals h (fun z => if stored.contains z then u z else m₀ z) → News h₀ env.locals h (tups ++ LL b) → Q .next { s with heap := h, toks := tk }) :
    wpAny (model prog w) A (pyIter (.ref ax)) (fun it s₂ => TurnsAt prog w A h₀ env target body Q E it s₂) E s :=
  for_tup stored (fun b => tups ++ LL b) P b₀ hh F N (fun b => List.mem_append_left _ hm) (fun b => by rw [List.map_append, List.map_append, hA b]) hp
    (fun I hI => turn I fun a ha => by
      obtain ⟨p, hp, e⟩ := List.mem_map.mp ha
      exact e ▸ hI p hp) done
theorem news_sub {h : Heap} {L : Addr} {l l' : List (Addr × Obj)} (N : News h₀ L h l) (hs : ∀ p ∈ l', p ∈ l) : News h₀ L h l' := fun p hp => N p (hs p hp)
end
/-- what the law's list holds behind k turns of the outer loop -/
def turnsO (k : Nat) : List Value := (List.replicate k [Value.bool true, Value.bool false]).flatten
def turnsI (k : Nat) : List Value := [Value.bool true, Value.bool false].take k
def turnsQ (k : Nat) : List Value := [Value.bool true, Value.bool false, Value.bool true, Value.bool false].take k
theorem turnsO_succ (k : Nat) : turnsO (k + 1) = turnsO k ++ turnsI 2 := by
  unfold turnsO
  rw [List.replicate_succ', List.flatten_append]; rfl
/-- the numbers that the inner loop asks of, with the answers due -/
theorem inner_at {mk y : Str} {ms : Int} {t1 t2 : Tok} {j : Nat} {v : Value} (h0 : 0 ≤ ms) (h5 : ms ≤ 5) (a1 : Ans (pS mk ms) y true) (a2 : Ans (pS mk (ms + 1)) y false) (hv : [Value.int ms t1, Value.int (ms + 1) t2][j]? = some v) :
    ∃ k t b, v = .int k t ∧ 0 ≤ k ∧ k ≤ 6 ∧ Ans (pS mk k) y b ∧ decide (k ≤ ms) = b ∧ turnsI (j + 1) = turnsI j ++ [.bool b] := by
  match j with
  | 0 => exact ⟨ms, t1, true, by simpa using hv.symm, h0, by omega, a1, by simp, rfl⟩
  | 1 => exact ⟨ms + 1, t2, false, by simpa using hv.symm, by omega, by omega, a2, by simp; omega, rfl⟩
  | j + 2 => simp at hv
theorem texts_at {y p1 p2 p3 p4 : Str} {t1 t2 t3 t4 : Tok} {j : Nat} {v : Value} (a1 : Ans p1 y true) (a2 : Ans p2 y false) (a3 : Ans p3 y true) (a4 : Ans p4 y false) (hv : [Value.str p1 t1, Value.str p2 t2, Value.str p3 t3, Value.str p4 t4][j]? = some v) :
    ∃ p t b, v = .str p t ∧ Ans p y b ∧ turnsQ (j + 1) = turnsQ j ++ [.bool b] := by
  match j with
  | 0 => exact ⟨p1, t1, true, by simpa using hv.symm, a1, rfl⟩
  | 1 => exact ⟨p2, t2, false, by simpa using hv.symm, a2, rfl⟩
  | 2 => exact ⟨p3, t3, true, by simpa using hv.symm, a3, rfl⟩
  | 3 => exact ⟨p4, t4, false, by simpa using hv.symm, a4, rfl⟩
  | j + 4 => simp at hv
end Mine
namespace Mine
section
variable {prog : Program} {w : World} {A : Around} {E : Value → Shared → Prop} {s : Shared} {Q : Value → Shared → Prop}
theorem le_b {a b : Int} {c : Bool} {t u : Tok} (h : decide (a ≤ b) = c) (hq : Q (.bool c) s) : wpAny (model prog w) A (compareOp .LtE (.int a t) (.int b u)) Q E s := le_int (by rw [h]; exact hq)
theorem add_small {x z : Str} {t u : Tok} (h : (x ++ z).length ≤ 16) (hq : ∀ t tk, Q (.str (x ++ z) t) { s with toks := tk }) : wpAny (model prog w) A (binaryOp .Add (.str x t) (.str z u)) Q E s := by
  rw [add_len] at h
  refine SBL.add (hsz := ?hsz) ?_
  case hsz => rw [sizeLine_eq]; omega
  intro t' k _
  exact hq _ _
end
theorem pick3 {T1 T2 T3 : Addr} {k : Nat} {v : Value} {R : Addr → Prop} (hv : [Value.ref T1, Value.ref T2, Value.ref T3][k]? = some v) (h1 : R T1) (h2 : R T2) (h3 : R T3) : ∃ T, v = .ref T ∧ R T := by
  match k with
  | 0 => exact ⟨T1, by simpa using hv.symm, h1⟩
  | 1 => exact ⟨T2, by simpa using hv.symm, h2⟩
  | 2 => exact ⟨T3, by simpa using hv.symm, h3⟩
  | k + 3 => simp at hv
/-- what a pair (mark, most) of the law bears -/
def PairAt (y : Str) (led : List (Addr × Obj)) (T : Addr) : Prop :=
  ∃ mk ms t t' n, (T, ({ cls := .type "tuple", data := .seq [Value.str mk t, Value.int ms t'].toArray n } : Obj)) ∈ led ∧ 0 ≤ ms ∧ ms ≤ 5 ∧ Ans (pS mk ms) y true ∧ Ans (pS mk (ms + 1)) y false ∧ (mk ++ Str.ofString "*").length ≤ 16
theorem pairAt {y : Str} {led : List (Addr × Obj)} {T : Addr} {mk : Str} {ms : Int} {t t' : Tok} {n : Nat} (h : (T, ({ cls := .type "tuple", data := .seq [Value.str mk t, Value.int ms t'].toArray n } : Obj)) ∈ led) (h0 : 0 ≤ ms) (h5 : ms ≤ 5) (a1 : Ans (pS mk ms) y true) (a2 : Ans (pS mk (ms + 1)) y false) (hl : (mk ++ Str.ofString "*").length ≤ 16) : PairAt y led T :=
  ⟨mk, ms, t, t', n, h, h0, h5, a1, a2, hl⟩
end Mine
namespace Mine
theorem same_in {m₀ m' u : Str → Option Value} {stored st2 : List Str} (hc : st2.all (fun c => stored.contains c) = true) (h : SameS m' m₀ stored) : SameS (fun z => if st2.contains z then u z else m' z) m₀ stored := fun z h3 => by
  have e : st2.contains z = false := by
    cases q : st2.contains z with
    | false => rfl
    | true =>
      have hm : z ∈ st2 := by simpa using q
      have := List.all_eq_true.mp hc z hm
      rw [this] at h3; cases h3
  show (if st2.contains z = true then u z else m' z) = _
  rw [e]; exact h z h3
end Mine
namespace Mine
open PySem
theorem get_lt {α : Type} {l : List α} {k : Nat} {v : α} (h : l[k]? = some v) : k < l.length := by
  rcases Nat.lt_or_ge k l.length with q | q
  · exact q
  · rw [List.getElem?_eq_none q] at h; cases h
theorem turnsO_len (k : Nat) : (turnsO k).length = 2 * k := by
  induction k with
  | zero => rfl
  | succ k ih => rw [turnsO_succ, List.length_append, ih]; show 2 * k + 2 = _; omega
theorem turnsI_len (j : Nat) : (turnsI j).length ≤ 2 := List.length_take_le' _ _
theorem turnsQ_len (j : Nat) : (turnsQ j).length ≤ 4 := List.length_take_le' _ _
theorem in_size {ws vs : List Value} {k j : Nat} (hk : k < 3) (h : vs = turnsO k) (h2 : ws = vs ++ turnsI j) : ws.toArray.size ≤ sizeLine := by
  have a := turnsO_len k
  have b := turnsI_len j
  rw [List.size_toArray, h2, h, List.length_append, sizeLine_eq]; omega
theorem q_size {ws : List Value} {j : Nat} (h2 : ws = turnsO 3 ++ turnsQ j) : ws.toArray.size ≤ sizeLine := by
  have a := turnsO_len 3
  have b := turnsQ_len j
  rw [List.size_toArray, h2, List.length_append, sizeLine_eq]; omega
end Mine
end
section
set_option maxRecDepth 100000
set_option pp.deepTerms false
set_option pp.deepTerms.threshold 8
set_option pp.maxSteps 20000
set_option Elab.async false
open PySem PySem.W PyProof.Rows PySem.Calls PyProof.Rows.LCg
namespace Mine
local macro_rules | `(tactic| k_mem) => `(tactic| assumption)
local macro_rules | `(tactic| walk_at "compareOp In int ref") => `(tactic| (k_here; k_dflt (refine in_tuple_ints (News.isTup (by k_asm) (by k_mem)) (by repeat constructor) ?_)))
local macro_rules | `(tactic| walk_at "truthy ref") => `(tactic| (k_here; k_dflt (first
  | (refine' truthy_some ?k1 ?k2 ?k3 ?_; (case k1 => k_asm); (case k2 => k_mem); (case k3 => first | omega | ((simp only [List.length_append, List.length_singleton] at *); omega)); k_whole; intro _)
  | (refine' truthy_nil ?k1 ?k2 ?_; (case k1 => k_asm); (case k2 => k_mem); k_whole; intro _))))
local macro_rules | `(tactic| walk_at "eval ListComp") => `(tactic| (k_here; lcg_look; lcg_calm; k_dflt (refine LCg.ListComp_U (F₀ := by k_asm) (by rfl) (by decide) (by rfl) (by decide) (by rfl) ?_); k_dflt lcg_toSrc))
local macro_rules | `(tactic| walk_at "exec Assign cons ListComp") => `(tactic| (k_here; lcg_look; lcg_calm; k_dflt (refine LCg.Assign_ListComp_U (F₀ := by k_asm) (by rfl) (by with_unfolding_all rfl) (by rfl) (by decide) (by rfl) (by decide) (by rfl) (by rfl) (by rfl) ?_); k_dflt lcg_toSrc))
local macro_rules | `(tactic| walk_at "CompSrc") => `(tactic| (k_here; refine holdP ?_))
local macro_rules | `(tactic| walk_at "eval ListComp") => `(tactic| (k_here; (with_reducible show wpAny _ _ (eval (PySem.Expr.ListComp _ [PySem.Comprehension.mk (PySem.Expr.Tuple _ _ _) _ _ _] _ _) _) _ _ _); lcg_calm; k_dflt (refine zc_ListComp (by k_asm) (by with_unfolding_all rfl) (by decide) (by rfl) (by decide) (by rfl) (by rfl) (by decide) ?_)))
local macro_rules | `(tactic| walk_at "call type:enumerate") => `(tactic| (k_here; refine holdP ?_))
local macro_rules | `(tactic| walk_at "call ref") => `(tactic| (k_here; (with_reducible show wpAny _ _ (call (Value.ref 104) [Value.int _ _]) _ _ _); k_dflt (refine' Con.use (unctrl_con _ _ _ _ ?h1 ?h2) ?k1 ?k2 ?k3 ?k4 ?k5 ?kK ?kd ?ku ?_; (case k1 => k_asm); (case k2 => k_asm); (case k3 => k_asm); (case k4 => k_asm); (case k5 => k_asm); (case kK => exact rfl); (case h1 => assumption); (case h2 => assumption); (case kd => decide); (case ku => decide)); intro v' tl' h' tk' F' N' l1 hR'; obtain ⟨e1', t', e2'⟩ := hR'; subst e1'; subst e2'; (simp only [List.nil_append] at N'); (try k_sweep)))
local macro_rules | `(tactic| walk_at "call ref") => `(tactic| (k_here; (with_reducible show wpAny _ _ (call (Value.ref 104) [Value.str _ _]) _ _ _); k_dflt (refine' Con.use (unctrlS_con _ _ _ _ ?h2) ?k1 ?k2 ?k3 ?k4 ?k5 ?kK ?kd ?ku ?_; (case k1 => k_asm); (case k2 => k_asm); (case k3 => k_asm); (case k4 => k_asm); (case k5 => k_asm); (case kK => exact rfl); (case h2 => omega); (case kd => decide); (case ku => decide)); intro v' tl' h' tk' F' N' l1 hR'; obtain ⟨e1', t', e2'⟩ := hR'; subst e1'; subst e2'; (simp only [List.nil_append] at N'); (try k_sweep)))
local macro_rules | `(tactic| walk_at "call builtin:str.join") => `(tactic| (k_here; k_dflt (refine' join_at ?k1 ?k2 ?k3 ?k4 ?_; (case k1 => k_asm); (case k2 => k_mem); (case k3 => assumption); (case k4 => assumption); k_whole); intro _ _))
local macro_rules | `(tactic| walk_at "call ref") => `(tactic| (k_here; (with_reducible show wpAny _ _ (call (Value.ref 97) [Value.int _ _]) _ _ _); k_dflt (refine' Con.use (ismeta_con _ _ _ _ ?h1 ?h2) ?k1 ?k2 ?k3 ?k4 ?k5 ?kK ?kd ?ku ?_; (case k1 => k_asm); (case k2 => k_asm); (case k3 => k_asm); (case k4 => k_asm); (case k5 => k_asm); (case kK => exact rfl); (case h1 => exact fmod_lo256 _); (case h2 => exact fmod_hi256 _); (case kd => decide); (case ku => decide)); intro v' tl' h' tk' F' N' l1 hR'; obtain ⟨e1', e2'⟩ := hR'; subst e1'; subst e2'; (simp only [List.nil_append] at N'); (rw [meta_is]); (try k_sweep)))
local macro_rules | `(tactic| walk_at "call ref") => `(tactic| (k_here; (with_reducible show wpAny _ _ (call (Value.ref 83) [Value.int _ _]) _ _ _); k_dflt (refine' Con.use (iscntrl_con _ _ _ _ ?h1 ?h2) ?k1 ?k2 ?k3 ?k4 ?k5 ?kK ?kd ?ku ?_; (case k1 => k_asm); (case k2 => k_asm); (case k3 => k_asm); (case k4 => k_asm); (case k5 => k_asm); (case kK => exact rfl); (case h1 => exact fmod_lo128 _); (case h2 => exact fmod_hi128 _); (case kd => decide); (case ku => decide)); intro v' tl' h' tk' F' N' l1 hR'; obtain ⟨e1', e2'⟩ := hR'; subst e1'; subst e2'; (simp only [List.nil_append] at N'); (rw [cntrl_is]); (try k_sweep)))
local macro_rules | `(tactic| walk_at "call builtin:list.count") => `(tactic| (k_here; (with_reducible show wpAny _ _ (call (Value.builtin _) [Value.ref _, Value.bool _]) _ _ _); k_dflt (refine' count_trueN ?k1 ?k2 ?_; (case k1 => k_asm); (case k2 => k_mem); k_whole); intro _ _))
local macro_rules | `(tactic| walk_at "binaryOp Mult str int") => `(tactic| (k_here; refine mul_small (by decide +kernel) (by omega) (by omega) ?_; intro _ _))
local macro_rules | `(tactic| walk_at "binaryOp Add str str") => `(tactic| (k_here; refine add_ans (by with_reducible assumption) ?_; intro _ _))
local macro_rules | `(tactic| walk_at "compareOp LtE int int") => `(tactic| (k_here; first | refine le_yes (by omega) ?_ | refine le_nope (by omega) ?_))
local macro_rules | `(tactic| walk_at "call ref") => `(tactic| (k_here; (with_reducible show wpAny _ _ (call (Value.ref 43) [Value.str _ _]) _ _ _); k_dflt (refine' Con.use (translate_conA _ _ _ _ _ _ ?ha) ?k1 ?k2 ?k3 ?k4 ?k5 ?kK ?kd ?ku ?_; (case ha => with_reducible assumption); (case k1 => k_asm); (case k2 => k_asm); (case k3 => k_asm); (case k4 => k_asm); (case k5 => k_asm); (case kK => exact rfl); (case kd => decide); (case ku => decide)); intro v' tl' h' tk' F' N' l1 hR'; obtain ⟨e1', t', e2'⟩ := hR'; subst e1'; subst e2'; (simp only [List.nil_append] at N'); (try k_sweep)))
local macro_rules | `(tactic| walk_at "call ref") => `(tactic| (k_here; (with_reducible show wpAny _ _ (call (Value.ref 111) [Value.str _ _]) _ _ _); k_dflt (refine' Con.use (runs_conA _ _ _ _ _ _ ?ha) ?k1 ?k2 ?k3 ?k4 ?k5 ?kK ?kd ?ku ?_; (case ha => with_reducible assumption); (case k1 => k_asm); (case k2 => k_asm); (case k3 => k_asm); (case k4 => k_asm); (case k5 => k_asm); (case kK => exact rfl); (case kd => decide); (case ku => decide)); intro v' tl' h' tk' F' N' l1 hR'; obtain ⟨R', vs', n', RS', e1', hm', hI', hne', hl', hb'⟩ := hR'; subst e1'; clear l1))
local macro_rules | `(tactic| walk_at "call ref") => `(tactic| (k_here; (with_reducible show wpAny _ _ (call (Value.ref 123) [Value.ref _, Value.str _ _]) _ _ _); k_dflt (refine' Con.use (takes_conA _ _ _ _ _ _ _ _ _ ?hR ?hI ?hne ?hl ?hb ?hy) ?k1 ?k2 ?k3 ?k4 ?k5 ?kK ?kd ?ku ?_; (case k4 => k_asm); (case hR => assumption); (case hI => assumption); (case hne => assumption); (case hl => assumption); (case hb => assumption); (case hy => assumption); (case k1 => k_asm); (case k2 => k_asm); (case k3 => k_asm); (case k5 => k_asm); (case kK => exact rfl); (case kd => decide); (case ku => decide)); intro v' tl' h' tk' F' N' l1 hR'; obtain ⟨e1', e2'⟩ := hR'; subst e1'; subst e2'; (have N2' := news_drop2 N'); clear N' l1; (try k_sweep)))
local macro_rules | `(tactic| walk_at "pyIter ref") => `(tactic| (k_here; refine holdP ?_))
local macro_rules | `(tactic| walk_at "binaryOp Mult str int") => `(tactic| (k_here; refine mul_small (by first | with_reducible assumption | decide +kernel) (by omega) (by omega) ?_; intro _ _))
local macro_rules | `(tactic| walk_at "binaryOp Add str str") => `(tactic| (k_here; (first | refine add_ans (by with_reducible assumption) ?_ | refine add_small (by with_reducible assumption) ?_); intro _ _))
local macro_rules | `(tactic| walk_at "compareOp LtE int int") => `(tactic| (k_here; refine le_b (by with_reducible assumption) ?_))
set_option maxHeartbeats 4000000 in
theorem law_walk : PySem.Challenge.rw_ij0092_01.Holds :=
  by
  w_on; o_law
  refine holds_open (q := Mine.hd.view_39) (loose := Mine.hd.loose) (Xt := fun s => xlAt Mine.hd.view_39 [] s && recOk (RowW.records PySem.Challenge.rw_ij0092_01.row.toRowW) s) (XP := XL Mine.hd.view_39 []) (Yf := (kmHook Mine.hd.heap_39 Mine.hd.asK Mine.hd.keys [57]).obs) (Ya := (kmHook Mine.hd.heap_39 Mine.hd.asK Mine.hd.keys [57]).val) (YP := (kmHook Mine.hd.heap_39 Mine.hd.asK Mine.hd.keys [57]).says) (N := 3682) Mine.hd.hl (kmHook Mine.hd.heap_39 Mine.hd.asK Mine.hd.keys [57]).of (kmHook Mine.hd.heap_39 Mine.hd.asK Mine.hd.keys [57]).keeps (fun s e => xl_of s (Bool.and_eq_true_iff.mp e).1) XL.keeps (by rfl) (by rfl) (by rfl) (fun s e => recFacts_of (Bool.and_eq_true_iff.mp e).2) (by rfl) (by first | assumption | decide +kernel) (by decide +kernel) ⟨rfl, rfl, rfl, rfl, rfl, by decide +kernel⟩ ?hw ?hc
  case hw => w_witness2
  case hc =>
    rename_i said
    clear said
    k_go0
    (with_reducible rename Fr _ _ _ _ => lF); (with_reducible rename News _ _ _ _ => lN)
    refine cutL (Str.ofString "drawn") R1 lF lN ?_ ?_
    · k_steps
      (with_reducible rename Fr _ _ _ _ => lF); (with_reducible rename News _ _ _ _ => lN)
      (with_reducible rename IntsAre _ (List.take 5 _) => hI5)
      have hw5 := ints_len5 hI5
      refine unholdP (lsrcE J1 rfl lF lN (.head _) ?hsz j1_zero ?_ ?_)
      case hsz => omega
      · clear lF lN
        intro g i v ys I oI C oC D m₂ h tk E' hv hJ hC hx F9 N9 ne
        obtain ⟨n, t, rfl, hn⟩ := hI5.at i v hv
        k_steps
        all_goals refine lend (by k_asm) (by k_asm) (fun p hp => hp) (j1_snoc hJ ?_)
        all_goals first | exact ⟨by assumption, by assumption⟩ | exact fmod_2048 _
      · clear lF lN
        intro D h tk ys F9 N9 o1 hJ
        rcases List.eq_nil_or_concat ys with rfl | ⟨yi, yl, e⟩
        · k_steps
          (with_reducible rename Fr _ _ _ _ => lF); (with_reducible rename News _ _ _ _ => lN)
          exact pl_end lF lN (by lcg_sub) (r1_lit _ _ _)
        · rw [List.concat_eq_append] at e; subst e
          have hyi : yi.length < 1000000 := by have := hJ.1; simp only [List.length_append, List.length_singleton] at this; omega
          k_steps
          (with_reducible rename Fr _ _ _ _ => lF); (with_reducible rename News _ _ _ _ => lN)
          exact pl_end lF lN (by lcg_sub) (r1_of hJ (by simp) hw5)
    clear lF lN
    rintro s' ⟨h, tk, D, vs, cnt, rfl, F9, N9, ds, hI, hl1, hl5, hb⟩
    have hvs := IntsAre.length hI
    refine cutL (Str.ofString "row") R2 F9 N9 ?_ ?_
    · k_steps
      (with_reducible rename Fr _ _ _ _ => lF); (with_reducible rename News _ _ _ _ => lN)
      refine unholdP (lsrcA J2 rfl lF lN (.head _) ?hsz j2_zero ?_ ?_)
      case hsz => omega
      · clear lF lN
        intro g i v ys I oI C oC D m₂ h tk E' hv hJ hC hx F9 N9 ne
        obtain ⟨n, t, rfl, hn⟩ := hI.at i v hv
        have hnb := hb n (List.mem_of_getElem? hn)
        k_steps
        · exact lend (by k_asm) (by k_asm) (fun p hp => .tail _ hp) (j2_snoc hJ (fair_up hnb (by assumption)))
        · exact lend (by k_asm) (by k_asm) (fun p hp => .tail _ hp) (j2_snoc hJ (fair_same hnb (by assumption)))
      · clear lF lN
        intro D h tk ys F9 N9 o1 hJ
        exact pl_end F9 N9 (by lcg_sub) (r2_of hJ (by omega) (by omega))
    clear F9 N9
    clear hb hI hvs hl1 hl5
    rintro s' ⟨h, tk, D2, vs2, cnt2, rfl, F9, N9, ns, hI, hl1, hl5, hFr⟩
    have hvs := IntsAre.length hI
    refine cutV (Str.ofString "line") (R3 ns) F9 N9 ?_ ?_
    · k_steps
      (with_reducible rename Fr _ _ _ _ => lF); (with_reducible rename News _ _ _ _ => lN)
      refine unholdP (enum_src (J3 ns) rfl lF lN (.head _) ?hsz (j3_zero ns) (fun _ _ h => h.1) ?_ ?_)
      case hsz => omega
      · clear lF lN
        rintro g i vx vy ys own C oC D m₂ h tk E' hi ⟨hv, tx, rfl⟩ hJ hoC hma hmb F9 N9 ne hown hDC
        obtain ⟨n, t, rfl, hn⟩ := hI.at i _ hv
        obtain ⟨hf1, hf2, _, _, _⟩ := hFr n (List.mem_of_getElem? hn)
        refine wpAny_tests_nil ?_
        simp only [if_true]
        k_steps
        all_goals first
          | k_asm
          | ((with_reducible rename News _ _ _ _ => lN); exact fun p hp => lN p (.tail _ hp))
          | exact j3_snoc hJ hn
          | (rw [nat_chr (by omega)]; exact j3_snoc hJ hn)
      · clear lF lN
        intro D h tk ys F9 N9 o1 hJ
        have hSs := j3_end hJ hvs
        have hsum := line_sum hFr hl5
        k_steps
        (with_reducible rename Fr _ _ _ _ => lF); (with_reducible rename News _ _ _ _ => lN)
        exact pv_end lF lN (by lcg_sub) ⟨_, rfl⟩
    clear F9 N9
    rintro s' ⟨h, tk, vL, rfl, F9, N9, tL, rfl⟩
    refine cutV (Str.ofString "high") (R4 isM ns) F9 N9 ?_ ?_
    · k_steps
      (with_reducible rename Fr _ _ _ _ => lF); (with_reducible rename News _ _ _ _ => lN)
      refine unholdP (lsrcE (J4 isM ns) rfl lF lN (.head _) ?hsz (j4_zero _ ns) ?_ ?_)
      case hsz => omega
      · clear lF lN
        intro g i v ys I oI C oC D m₂ h tk E' hv hJ hC hx F9 N9 ne
        obtain ⟨n, t, rfl, hn⟩ := hI.at i v hv
        k_steps
        exact lend (by k_asm) (by k_asm) (fun p hp => hp) (j4_snoc hJ hn rfl)
      · clear lF lN
        intro D h tk ys F9 N9 o1 hJ
        have e := j4_end hJ hvs
        subst e
        k_steps
        (with_reducible rename Fr _ _ _ _ => lF); (with_reducible rename News _ _ _ _ => lN)
        exact pv_end lF lN (by lcg_sub) ⟨_, by rw [count_map]⟩
    clear F9 N9
    rintro s' ⟨h, tk, v1, rfl, F9, N9, t1, rfl⟩
    refine cutV (Str.ofString "control") (R4 isC ns) F9 N9 ?_ ?_
    · k_steps
      (with_reducible rename Fr _ _ _ _ => lF); (with_reducible rename News _ _ _ _ => lN)
      refine unholdP (lsrcE (J4 isC ns) rfl lF lN (.head _) ?hsz (j4_zero _ ns) ?_ ?_)
      case hsz => omega
      · clear lF lN
        intro g i v ys I oI C oC D m₂ h tk E' hv hJ hC hx F9 N9 ne
        obtain ⟨n, t, rfl, hn⟩ := hI.at i v hv
        k_steps
        exact lend (by k_asm) (by k_asm) (fun p hp => hp) (j4_snoc hJ hn rfl)
      · clear lF lN
        intro D h tk ys F9 N9 o1 hJ
        have e := j4_end hJ hvs
        subst e
        k_steps
        (with_reducible rename Fr _ _ _ _ => lF); (with_reducible rename News _ _ _ _ => lN)
        exact pv_end lF lN (by lcg_sub) ⟨_, by rw [count_map]⟩
    clear F9 N9
    rintro s' ⟨h, tk, v2, rfl, F9, N9, t2, rfl⟩
    refine cutV (Str.ofString "both") (R4 (fun n => isM n && isC n) ns) F9 N9 ?_ ?_
    · k_steps
      (with_reducible rename Fr _ _ _ _ => lF); (with_reducible rename News _ _ _ _ => lN)
      refine unholdP (lsrcE (J4 (fun n => isM n && isC n) ns) rfl lF lN (.head _) ?hsz (j4_zero _ ns) ?_ ?_)
      case hsz => omega
      · clear lF lN
        intro g i v ys I oI C oC D m₂ h tk E' hv hJ hC hx F9 N9 ne
        obtain ⟨n, t, rfl, hn⟩ := hI.at i v hv
        k_steps
        all_goals
          (with_reducible rename isM _ = _ => hm)
          exact lend (by k_asm) (by k_asm) (fun p hp => hp) (j4_snoc hJ hn (by show _ = (isM n && isC n); rw [hm]; rfl))
      · clear lF lN
        intro D h tk ys F9 N9 o1 hJ
        have e := j4_end hJ hvs
        subst e
        k_steps
        (with_reducible rename Fr _ _ _ _ => lF); (with_reducible rename News _ _ _ _ => lN)
        exact pv_end lF lN (by lcg_sub) ⟨_, by rw [count_map]⟩
    clear F9 N9
    rintro s' ⟨h, tk, v3, rfl, F9, N9, t3, rfl⟩
    refine cutV (Str.ofString "signs") (R7 ns) F9 N9 ?_ ?_
    · k_steps
      (with_reducible rename Fr _ _ _ _ => lF); (with_reducible rename News _ _ _ _ => lN)
      exact pv_end lF lN (by lcg_sub) ⟨_, by rw [lineS_length hFr]; rfl⟩
    clear F9 N9
    rintro s' ⟨h, tk, v7, rfl, F9, N9, t7, rfl⟩
    obtain ⟨q1, q2, q3, q4, q5, q6, q7, q8, q9, q10⟩ := asks hFr hl5
    have c1 := count_le isM ns
    have c2 := count_le isC ns
    have c3 := count_le (fun n => isM n && isC n) ns
    have c4 := lineS_length hFr
    have hy : (lineS ns).length ≤ 1000 := by omega
    · k_steps
      (with_reducible rename Fr _ _ _ _ => lF); (with_reducible rename News _ _ _ _ => lN)
      rename_i A _ _ B _ _ T0 _ _ _ _ _ T1 _ _ T2 _ _ T3 _ _ T _ _
      have N1 : News _ _ _ ([(T, _), (T3, _), (T2, _), (T1, _), (57, _)] ++ [(B, _), (A, _)]) := news_sub lN (by lcg_sub)
      refine unholdP (for_tupL [Str.ofString "mark", Str.ofString "most", Str.ofString "k"] (fun b : List Value × Nat × Nat => [(B, W.listOf b.1.toArray b.2.1), (A, W.listOf b.1.toArray b.2.2)])
        (fun k b => b.1 = turnsO k) ([], _, _) rfl lF N1 (.head _) (fun _ => rfl) rfl ?_ ?_)
      · clear lF lN N1
        intro I hI k v b u o h tk hv hP ho F9 N9
        have hA1 := hI A (by simp)
        have hB1 := hI B (by simp)
        (simp only [List.cons_append, List.nil_append] at N9)
        obtain ⟨Tk, rfl, mk, ms, tm, ti, nk, hmem, hms0, hms5, ha1, ha2, hmk⟩ := pick3 (R := PairAt (lineS ns) _) hv
          (pairAt (led := [(I, o), (T, _), (T3, _), (T2, _), (T1, _), (57, _), (B, _), (A, _)]) (by k_mem) (by omega) (by omega) q1 q2 (by decide +kernel)) (pairAt (by k_mem) (by omega) (by omega) q3 q4 (by decide +kernel)) (pairAt (by k_mem) (by omega) (by omega) q5 q6 (by decide +kernel))
        have hTk := News.isTup N9 hmem
        k_steps
        (with_reducible rename Fr _ _ _ _ => lF); (with_reducible rename News _ _ _ _ => lN)
        rename_i Tin _ eTin
        have N2 : News _ _ _ ([(Tin, _), (I, _), (T, _), (T3, _), (T2, _), (T1, _), (57, _)] ++ [(B, _), (A, _)]) := news_sub lN (by lcg_sub)
        refine unholdP (for_tupL [Str.ofString "k"] (fun c : List Value × Nat × Nat => [(B, W.listOf c.1.toArray c.2.1), (A, W.listOf c.1.toArray c.2.2)])
          (fun j c => c.1 = b.1 ++ turnsI j) (b.1, b.2.1, b.2.2) rfl lF N2 (.head _) (fun _ => rfl) (by simp [turnsI]) ?_ ?_)
        · clear lF lN N2
          intro I2 hI2 j v c u2 o2 h tk hv2 hP2 ho2 F9 N9
          have hA2 := hI2 A (by simp)
          have hB2 := hI2 B (by simp)
          (simp only [List.cons_append, List.nil_append] at N9)
          obtain ⟨kk, tkk, bb, rfl, hk0, hk6, hans, hdec, hturn⟩ := inner_at hms0 hms5 ha1 ha2 hv2
          have hsz := in_size (get_lt hv) hP hP2
          k_steps
          (with_reducible rename Fr _ _ _ _ => lF); (with_reducible rename News _ _ _ _ => lN); (try simp only [List.push_toArray] at lN)
          refine' up_next (c.1 ++ [.bool bb], c.2.1 + 1, c.2.2 + 1) lF lN ?_ (same_st (by decide +kernel) same_base) ?_
          · lcg_sub
          show c.1 ++ [.bool bb] = b.1 ++ turnsI (j + 1)
          rw [hP2, hturn, List.append_assoc]
        · clear lF lN N2
          intro c u2 h tk hP2 F9 N9
          (simp only [List.cons_append, List.nil_append] at N9)
          k_steps
          (with_reducible rename Fr _ _ _ _ => lF); (with_reducible rename News _ _ _ _ => lN)
          refine' up_next c lF lN ?_ (same_in (by decide +kernel) (same_st (by decide +kernel) (same_st (by decide +kernel) same_base))) ?_
          · lcg_sub
          show c.1 = turnsO (k + 1)
          rw [hP2, hP, turnsO_succ]; rfl
      · clear lF lN N1
        intro b u h tk hP F9 N9
        (simp only [List.cons_append, List.nil_append] at N9)
        have hP3 : b.1 = turnsO 3 := hP
        k_steps
        (with_reducible rename Fr _ _ _ _ => lF); (with_reducible rename News _ _ _ _ => lN)
        rename_i Tq _ _
        have N2 : News _ _ _ ([(Tq, _), (B, _), (57, _)] ++ [(A, _)]) := news_sub lN (by lcg_sub)
        refine unholdP (for_tupL [Str.ofString "pattern"] (fun c : List Value × Nat => [(A, W.listOf c.1.toArray c.2)])
          (fun j c => c.1 = b.1 ++ turnsQ j) (b.1, b.2.2) rfl lF N2 (.head _) (fun _ => rfl) (by simp [turnsQ]) ?_ ?_)
        · clear lF lN N2
          intro I2 hI2 j v c u2 o2 h tk hv2 hP2 ho2 F9 N9
          have hA2 := hI2 A (by simp)
          have hB2 := hI2 B (by simp)
          (simp only [List.cons_append, List.nil_append] at N9)
          obtain ⟨pt, tp, bb, rfl, hans, hturn⟩ := texts_at q7 q8 q9 q10 hv2
          have hsz := q_size (ws := c.1) (j := j) (by rw [← hP3]; exact hP2)
          k_steps
          (with_reducible rename Fr _ _ _ _ => lF); (with_reducible rename News _ _ _ _ => lN); (try simp only [List.push_toArray] at lN)
          refine' up_next (c.1 ++ [.bool bb], c.2 + 1) lF lN ?_ (same_st (by decide +kernel) same_base) ?_
          · lcg_sub
          show c.1 ++ [.bool bb] = b.1 ++ turnsQ (j + 1)
          rw [hP2, hturn, List.append_assoc]
        · clear lF lN N2
          rintro ⟨c1, c2⟩ u2 h tk hP2 F9 N9
          obtain ⟨b1, b2, b3⟩ := b
          have hP4 : b1 = [.bool true, .bool false, .bool true, .bool false, .bool true, .bool false] := hP
          have hP5 : c1 = b1 ++ [.bool true, .bool false, .bool true, .bool false] := hP2
          subst hP4
          (simp only [List.cons_append, List.nil_append] at N9 hP5)
          subst hP5
          k_steps
    
end Mine
end
set_option maxRecDepth 100000 in
set_option maxHeartbeats 8000000 in
theorem PySem.Challenge.cw_ij0092_01_holds : PySem.Challenge.rw_ij0092_01.Holds := by
  exact Mine.law_walk
