import PyProof.Rows.All
import Wide.All
import OpenK.AllK
import Wide.FinOn
import PySem.Challenge.RW_sr0055_01

set_option Elab.async false
set_option genSizeOf false
set_option genSizeOfSpec false

section -- Hd
open PySem PySem.W PyProof.Rows
namespace Mine
set_option maxRecDepth 100000
noncomputable def nth : List Stmt → Nat → Stmt
  | s :: _, 0 => s
  | _ :: r, n + 1 => nth r n
  | [], _ => .Pass ⟨0, 0, 0, 0⟩
/-- a row of the text -/
noncomputable def cell (i : Nat) : Stmt := nth PySem.Challenge.pw_sr0055_01.main.body i
/-- the function that a def makes -/
noncomputable def fnOf (s : Stmt) (m : Str) (t : Tok) (c : Addr) : Obj := match s with
  | .FunctionDef name params body _ _ _ scope _ _ _ => { cls := .type "function", data := .func { name := name, qualname := name, params := params, body := .stmts body, scope := scope, globals := 3, closure := [], defaults := .none, kwdefaults := .none, pyModule := .str m t, code := .ref c } }
  | _ => { cls := .none, data := .dict #[] }
noncomputable def ob2 (P : Params) : Obj := { cls := .none, data := .dict #[] }
noncomputable def ob3 (P : Params) : Obj := { cls := .type "dict", data := .dict #[{ hash := PyData.keyHash P (Str.ofString "__name__"), key := .str (Str.ofString "__name__") 165, val := .str (Str.ofString "law_sr0055_01") 468 }, { hash := PyData.keyHash P (Str.ofString "__doc__"), key := .str (Str.ofString "__doc__") 166, val := .none }, { hash := PyData.keyHash P (Str.ofString "__package__"), key := .str (Str.ofString "__package__") 167, val := .none }, { hash := PyData.keyHash P (Str.ofString "__loader__"), key := .str (Str.ofString "__loader__") 168, val := .builtin "__main__.__loader__#opaque" }, { hash := PyData.keyHash P (Str.ofString "__spec__"), key := .str (Str.ofString "__spec__") 169, val := .none }, { hash := PyData.keyHash P (Str.ofString "__annotations__"), key := .str (Str.ofString "__annotations__") 170, val := .ref 6 }, { hash := PyData.keyHash P (Str.ofString "__builtins__"), key := .str (Str.ofString "__builtins__") 171, val := .ref 4 }, { hash := PyData.keyHash P (Str.ofString "__file__"), key := .str (Str.ofString "__file__") 173, val := .str (Str.ofString "/claim/cut.py") 172 }, { hash := PyData.keyHash P (Str.ofString "__cached__"), key := .str (Str.ofString "__cached__") 174, val := .none }, { hash := PyData.keyHash P (Str.ofString "ELLIPSIS_MARKER"), key := .str (Str.ofString "ELLIPSIS_MARKER") 190, val := .str (Str.ofString "...") 189 }, { hash := PyData.keyHash P (Str.ofString "_ellipsis_match"), key := .str (Str.ofString "_ellipsis_match") 202, val := .ref 21 }, { hash := PyData.keyHash P (Str.ofString "_parse_varint"), key := .str (Str.ofString "_parse_varint") 213, val := .ref 28 }, { hash := PyData.keyHash P (Str.ofString "_iter_escaped_chars"), key := .str (Str.ofString "_iter_escaped_chars") 225, val := .ref 35 }, { hash := PyData.keyHash P (Str.ofString "_strip_quoted_realnames"), key := .str (Str.ofString "_strip_quoted_realnames") 237, val := .ref 42 }, { hash := PyData.keyHash P (Str.ofString "_check_parenthesis"), key := .str (Str.ofString "_check_parenthesis") 247, val := .ref 49 }, { hash := PyData.keyHash P (Str.ofString "ENDMARKER"), key := .str (Str.ofString "ENDMARKER") 251, val := .int 0 250 }, { hash := PyData.keyHash P (Str.ofString "LPAR"), key := .str (Str.ofString "LPAR") 253, val := .int 7 252 }, { hash := PyData.keyHash P (Str.ofString "RPAR"), key := .str (Str.ofString "RPAR") 255, val := .int 8 254 }, { hash := PyData.keyHash P (Str.ofString "LSQB"), key := .str (Str.ofString "LSQB") 257, val := .int 9 256 }, { hash := PyData.keyHash P (Str.ofString "RSQB"), key := .str (Str.ofString "RSQB") 259, val := .int 10 258 }, { hash := PyData.keyHash P (Str.ofString "COLON"), key := .str (Str.ofString "COLON") 261, val := .int 11 260 }, { hash := PyData.keyHash P (Str.ofString "COMMA"), key := .str (Str.ofString "COMMA") 263, val := .int 12 262 }, { hash := PyData.keyHash P (Str.ofString "SEMI"), key := .str (Str.ofString "SEMI") 265, val := .int 13 264 }, { hash := PyData.keyHash P (Str.ofString "PLUS"), key := .str (Str.ofString "PLUS") 267, val := .int 14 266 }, { hash := PyData.keyHash P (Str.ofString "MINUS"), key := .str (Str.ofString "MINUS") 269, val := .int 15 268 }, { hash := PyData.keyHash P (Str.ofString "STAR"), key := .str (Str.ofString "STAR") 271, val := .int 16 270 }, { hash := PyData.keyHash P (Str.ofString "SLASH"), key := .str (Str.ofString "SLASH") 273, val := .int 17 272 }, { hash := PyData.keyHash P (Str.ofString "VBAR"), key := .str (Str.ofString "VBAR") 275, val := .int 18 274 }, { hash := PyData.keyHash P (Str.ofString "AMPER"), key := .str (Str.ofString "AMPER") 277, val := .int 19 276 }, { hash := PyData.keyHash P (Str.ofString "LESS"), key := .str (Str.ofString "LESS") 279, val := .int 20 278 }, { hash := PyData.keyHash P (Str.ofString "GREATER"), key := .str (Str.ofString "GREATER") 281, val := .int 21 280 }, { hash := PyData.keyHash P (Str.ofString "EQUAL"), key := .str (Str.ofString "EQUAL") 283, val := .int 22 282 }, { hash := PyData.keyHash P (Str.ofString "DOT"), key := .str (Str.ofString "DOT") 285, val := .int 23 284 }, { hash := PyData.keyHash P (Str.ofString "PERCENT"), key := .str (Str.ofString "PERCENT") 287, val := .int 24 286 }, { hash := PyData.keyHash P (Str.ofString "LBRACE"), key := .str (Str.ofString "LBRACE") 289, val := .int 25 288 }, { hash := PyData.keyHash P (Str.ofString "RBRACE"), key := .str (Str.ofString "RBRACE") 291, val := .int 26 290 }, { hash := PyData.keyHash P (Str.ofString "EQEQUAL"), key := .str (Str.ofString "EQEQUAL") 293, val := .int 27 292 }, { hash := PyData.keyHash P (Str.ofString "NOTEQUAL"), key := .str (Str.ofString "NOTEQUAL") 295, val := .int 28 294 }, { hash := PyData.keyHash P (Str.ofString "LESSEQUAL"), key := .str (Str.ofString "LESSEQUAL") 297, val := .int 29 296 }, { hash := PyData.keyHash P (Str.ofString "GREATEREQUAL"), key := .str (Str.ofString "GREATEREQUAL") 299, val := .int 30 298 }, { hash := PyData.keyHash P (Str.ofString "TILDE"), key := .str (Str.ofString "TILDE") 301, val := .int 31 300 }, { hash := PyData.keyHash P (Str.ofString "CIRCUMFLEX"), key := .str (Str.ofString "CIRCUMFLEX") 303, val := .int 32 302 }, { hash := PyData.keyHash P (Str.ofString "LEFTSHIFT"), key := .str (Str.ofString "LEFTSHIFT") 305, val := .int 33 304 }, { hash := PyData.keyHash P (Str.ofString "RIGHTSHIFT"), key := .str (Str.ofString "RIGHTSHIFT") 307, val := .int 34 306 }, { hash := PyData.keyHash P (Str.ofString "DOUBLESTAR"), key := .str (Str.ofString "DOUBLESTAR") 309, val := .int 35 308 }, { hash := PyData.keyHash P (Str.ofString "PLUSEQUAL"), key := .str (Str.ofString "PLUSEQUAL") 311, val := .int 36 310 }, { hash := PyData.keyHash P (Str.ofString "MINEQUAL"), key := .str (Str.ofString "MINEQUAL") 313, val := .int 37 312 }, { hash := PyData.keyHash P (Str.ofString "STAREQUAL"), key := .str (Str.ofString "STAREQUAL") 315, val := .int 38 314 }, { hash := PyData.keyHash P (Str.ofString "SLASHEQUAL"), key := .str (Str.ofString "SLASHEQUAL") 317, val := .int 39 316 }, { hash := PyData.keyHash P (Str.ofString "PERCENTEQUAL"), key := .str (Str.ofString "PERCENTEQUAL") 319, val := .int 40 318 }, { hash := PyData.keyHash P (Str.ofString "AMPEREQUAL"), key := .str (Str.ofString "AMPEREQUAL") 321, val := .int 41 320 }, { hash := PyData.keyHash P (Str.ofString "VBAREQUAL"), key := .str (Str.ofString "VBAREQUAL") 323, val := .int 42 322 }, { hash := PyData.keyHash P (Str.ofString "CIRCUMFLEXEQUAL"), key := .str (Str.ofString "CIRCUMFLEXEQUAL") 325, val := .int 43 324 }, { hash := PyData.keyHash P (Str.ofString "LEFTSHIFTEQUAL"), key := .str (Str.ofString "LEFTSHIFTEQUAL") 327, val := .int 44 326 }, { hash := PyData.keyHash P (Str.ofString "RIGHTSHIFTEQUAL"), key := .str (Str.ofString "RIGHTSHIFTEQUAL") 329, val := .int 45 328 }, { hash := PyData.keyHash P (Str.ofString "DOUBLESTAREQUAL"), key := .str (Str.ofString "DOUBLESTAREQUAL") 331, val := .int 46 330 }, { hash := PyData.keyHash P (Str.ofString "DOUBLESLASH"), key := .str (Str.ofString "DOUBLESLASH") 333, val := .int 47 332 }, { hash := PyData.keyHash P (Str.ofString "DOUBLESLASHEQUAL"), key := .str (Str.ofString "DOUBLESLASHEQUAL") 335, val := .int 48 334 }, { hash := PyData.keyHash P (Str.ofString "AT"), key := .str (Str.ofString "AT") 337, val := .int 49 336 }, { hash := PyData.keyHash P (Str.ofString "ATEQUAL"), key := .str (Str.ofString "ATEQUAL") 339, val := .int 50 338 }, { hash := PyData.keyHash P (Str.ofString "RARROW"), key := .str (Str.ofString "RARROW") 341, val := .int 51 340 }, { hash := PyData.keyHash P (Str.ofString "ELLIPSIS"), key := .str (Str.ofString "ELLIPSIS") 343, val := .int 52 342 }, { hash := PyData.keyHash P (Str.ofString "COLONEQUAL"), key := .str (Str.ofString "COLONEQUAL") 345, val := .int 53 344 }, { hash := PyData.keyHash P (Str.ofString "EXCLAMATION"), key := .str (Str.ofString "EXCLAMATION") 347, val := .int 54 346 }, { hash := PyData.keyHash P (Str.ofString "NT_OFFSET"), key := .str (Str.ofString "NT_OFFSET") 349, val := .int 256 348 }, { hash := PyData.keyHash P (Str.ofString "EXACT_TOKEN_TYPES"), key := .str (Str.ofString "EXACT_TOKEN_TYPES") 446, val := .ref 50 }, { hash := PyData.keyHash P (Str.ofString "ISTERMINAL"), key := .str (Str.ofString "ISTERMINAL") 453, val := .ref 59 }, { hash := PyData.keyHash P (Str.ofString "ISNONTERMINAL"), key := .str (Str.ofString "ISNONTERMINAL") 460, val := .ref 66 }, { hash := PyData.keyHash P (Str.ofString "ISEOF"), key := .str (Str.ofString "ISEOF") 467, val := .ref 73 }, { hash := PyData.keyHash P (Str.ofString "_law_numbers"), key := .str (Str.ofString "_law_numbers") 478, val := .ref 80 }, { hash := PyData.keyHash P (Str.ofString "_law_symbols"), key := .str (Str.ofString "_law_symbols") 490, val := .ref 87 }, { hash := PyData.keyHash P (Str.ofString "_law_octets"), key := .str (Str.ofString "_law_octets") 500, val := .ref 94 }, { hash := PyData.keyHash P (Str.ofString "_law_read"), key := .str (Str.ofString "_law_read") 509, val := .ref 101 }, { hash := PyData.keyHash P (Str.ofString "_law_rules"), key := .str (Str.ofString "_law_rules") 519, val := .ref 108 }, { hash := PyData.keyHash P (Str.ofString "_law_spelled"), key := .str (Str.ofString "_law_spelled") 527, val := .ref 115 }, { hash := PyData.keyHash P (Str.ofString "_law_steps"), key := .str (Str.ofString "_law_steps") 535, val := .ref 122 }, { hash := PyData.keyHash P (Str.ofString "_law_both"), key := .str (Str.ofString "_law_both") 551, val := .ref 129 }, { hash := PyData.keyHash P (Str.ofString "_law_one"), key := .str (Str.ofString "_law_one") 559, val := .ref 136 }, { hash := PyData.keyHash P (Str.ofString "_law_closes"), key := .str (Str.ofString "_law_closes") 567, val := .ref 143 }, { hash := PyData.keyHash P (Str.ofString "_law_items"), key := .str (Str.ofString "_law_items") 576, val := .ref 150 }, { hash := PyData.keyHash P (Str.ofString "_law_reach"), key := .str (Str.ofString "_law_reach") 586, val := .ref 157 }, { hash := PyData.keyHash P (Str.ofString "_law_moves"), key := .str (Str.ofString "_law_moves") 598, val := .ref 164 }, { hash := PyData.keyHash P (Str.ofString "_law_joined"), key := .str (Str.ofString "_law_joined") 604, val := .ref 169 }, { hash := PyData.keyHash P (Str.ofString "_law_stays"), key := .str (Str.ofString "_law_stays") 610, val := .ref 174 }, { hash := PyData.keyHash P (Str.ofString "_law_told"), key := .str (Str.ofString "_law_told") 622, val := .ref 181 }, { hash := PyData.keyHash P (Str.ofString "_law_holds"), key := .str (Str.ofString "_law_holds") 628, val := .ref 186 }, { hash := PyData.keyHash P (Str.ofString "law"), key := .str (Str.ofString "law") 637, val := .ref 193 }] 87 }
noncomputable def ob15 (P : Params) : Obj := { cls := .type "tuple", data := .seq #[] }
noncomputable def ob17 (P : Params) : Obj := { cls := .type "tuple", data := .seq #[.str (Str.ofString "want") 194, .str (Str.ofString "got") 195, .str (Str.ofString "ws") 196, .str (Str.ofString "startpos") 197, .str (Str.ofString "endpos") 198, .str (Str.ofString "w") 199] }
noncomputable def ob18 (P : Params) : Obj := { cls := .type "tuple", data := .seq #[] }
noncomputable def ob20 (P : Params) : Obj := { cls := .type "code", data := .fields #[.str (Str.ofString "_ellipsis_match") 191, .str (Str.ofString "_ellipsis_match") 192, .str (Str.ofString "/claim/cut.py") 193, .int 3 0, .int 2 0, .int 0 0, .int 0 0, .int 3 0, .ref 15, .bool true, .int 181 0, .ref 16, .none, .ref 17, .ref 18, .ref 19, .int 200 0, .int 3 0, .str (Str.ofString "/claim/cut.py") 201] }
noncomputable def ob21 (P : Params) : Obj := fnOf (cell 2) "cpy313.doctest" 187 20
noncomputable def ob22 (P : Params) : Obj := { cls := .type "tuple", data := .seq #[] }
noncomputable def ob24 (P : Params) : Obj := { cls := .type "tuple", data := .seq #[.str (Str.ofString "iterator") 208, .str (Str.ofString "b") 209, .str (Str.ofString "val") 210] }
noncomputable def ob25 (P : Params) : Obj := { cls := .type "tuple", data := .seq #[] }
noncomputable def ob27 (P : Params) : Obj := { cls := .type "code", data := .fields #[.str (Str.ofString "_parse_varint") 205, .str (Str.ofString "_parse_varint") 206, .str (Str.ofString "/claim/cut.py") 207, .int 32 0, .int 1 0, .int 0 0, .int 0 0, .int 3 0, .ref 22, .bool true, .int 181 0, .ref 23, .none, .ref 24, .ref 25, .ref 26, .int 211 0, .int 32 0, .str (Str.ofString "/claim/cut.py") 212] }
noncomputable def ob28 (P : Params) : Obj := fnOf (cell 4) "cpy313.dis" 203 27
noncomputable def ob29 (P : Params) : Obj := { cls := .type "tuple", data := .seq #[] }
noncomputable def ob31 (P : Params) : Obj := { cls := .type "tuple", data := .seq #[.str (Str.ofString "addr") 219, .str (Str.ofString "pos") 220, .str (Str.ofString "escape") 221, .str (Str.ofString "ch") 222] }
noncomputable def ob32 (P : Params) : Obj := { cls := .type "tuple", data := .seq #[] }
noncomputable def ob34 (P : Params) : Obj := { cls := .type "code", data := .fields #[.str (Str.ofString "_iter_escaped_chars") 216, .str (Str.ofString "_iter_escaped_chars") 217, .str (Str.ofString "/claim/cut.py") 218, .int 41 0, .int 1 0, .int 0 0, .int 0 0, .int 35 0, .ref 29, .bool true, .int 181 0, .ref 30, .none, .ref 31, .ref 32, .ref 33, .int 223 0, .int 41 0, .str (Str.ofString "/claim/cut.py") 224] }
noncomputable def ob35 (P : Params) : Obj := fnOf (cell 6) "cpy313.email.utils" 214 34
noncomputable def ob36 (P : Params) : Obj := { cls := .type "tuple", data := .seq #[] }
noncomputable def ob38 (P : Params) : Obj := { cls := .type "tuple", data := .seq #[.str (Str.ofString "addr") 229, .str (Str.ofString "start") 230, .str (Str.ofString "open_pos") 231, .str (Str.ofString "result") 232, .str (Str.ofString "pos") 233, .str (Str.ofString "ch") 234] }
noncomputable def ob39 (P : Params) : Obj := { cls := .type "tuple", data := .seq #[] }
noncomputable def ob41 (P : Params) : Obj := { cls := .type "code", data := .fields #[.str (Str.ofString "_strip_quoted_realnames") 226, .str (Str.ofString "_strip_quoted_realnames") 227, .str (Str.ofString "/claim/cut.py") 228, .int 54 0, .int 1 0, .int 0 0, .int 0 0, .int 3 0, .ref 36, .bool true, .int 181 0, .ref 37, .none, .ref 38, .ref 39, .ref 40, .int 235 0, .int 54 0, .str (Str.ofString "/claim/cut.py") 236] }
noncomputable def ob42 (P : Params) : Obj := fnOf (cell 7) "cpy313.email.utils" 214 41
noncomputable def ob43 (P : Params) : Obj := { cls := .type "tuple", data := .seq #[] }
noncomputable def ob45 (P : Params) : Obj := { cls := .type "tuple", data := .seq #[.str (Str.ofString "addr") 241, .str (Str.ofString "opens") 242, .str (Str.ofString "pos") 243, .str (Str.ofString "ch") 244] }
noncomputable def ob46 (P : Params) : Obj := { cls := .type "tuple", data := .seq #[] }
noncomputable def ob48 (P : Params) : Obj := { cls := .type "code", data := .fields #[.str (Str.ofString "_check_parenthesis") 238, .str (Str.ofString "_check_parenthesis") 239, .str (Str.ofString "/claim/cut.py") 240, .int 72 0, .int 1 0, .int 0 0, .int 0 0, .int 3 0, .ref 43, .bool true, .int 181 0, .ref 44, .none, .ref 45, .ref 46, .ref 47, .int 245 0, .int 72 0, .str (Str.ofString "/claim/cut.py") 246] }
noncomputable def ob49 (P : Params) : Obj := fnOf (cell 8) "cpy313.email.utils" 214 48
noncomputable def ob50 (P : Params) : Obj := { cls := .type "dict", data := .dict #[{ hash := PyData.keyHash P (Str.ofString "!"), key := .str (Str.ofString "!") 350, val := .int 54 346 }, { hash := PyData.keyHash P (Str.ofString "!="), key := .str (Str.ofString "!=") 352, val := .int 28 294 }, { hash := PyData.keyHash P (Str.ofString "%"), key := .str (Str.ofString "%") 354, val := .int 24 286 }, { hash := PyData.keyHash P (Str.ofString "%="), key := .str (Str.ofString "%=") 356, val := .int 40 318 }, { hash := PyData.keyHash P (Str.ofString "&"), key := .str (Str.ofString "&") 358, val := .int 19 276 }, { hash := PyData.keyHash P (Str.ofString "&="), key := .str (Str.ofString "&=") 360, val := .int 41 320 }, { hash := PyData.keyHash P (Str.ofString "("), key := .str (Str.ofString "(") 362, val := .int 7 252 }, { hash := PyData.keyHash P (Str.ofString ")"), key := .str (Str.ofString ")") 364, val := .int 8 254 }, { hash := PyData.keyHash P (Str.ofString "*"), key := .str (Str.ofString "*") 366, val := .int 16 270 }, { hash := PyData.keyHash P (Str.ofString "**"), key := .str (Str.ofString "**") 368, val := .int 35 308 }, { hash := PyData.keyHash P (Str.ofString "**="), key := .str (Str.ofString "**=") 370, val := .int 46 330 }, { hash := PyData.keyHash P (Str.ofString "*="), key := .str (Str.ofString "*=") 372, val := .int 38 314 }, { hash := PyData.keyHash P (Str.ofString "+"), key := .str (Str.ofString "+") 374, val := .int 14 266 }, { hash := PyData.keyHash P (Str.ofString "+="), key := .str (Str.ofString "+=") 376, val := .int 36 310 }, { hash := PyData.keyHash P (Str.ofString ","), key := .str (Str.ofString ",") 378, val := .int 12 262 }, { hash := PyData.keyHash P (Str.ofString "-"), key := .str (Str.ofString "-") 380, val := .int 15 268 }, { hash := PyData.keyHash P (Str.ofString "-="), key := .str (Str.ofString "-=") 382, val := .int 37 312 }, { hash := PyData.keyHash P (Str.ofString "->"), key := .str (Str.ofString "->") 384, val := .int 51 340 }, { hash := PyData.keyHash P (Str.ofString "."), key := .str (Str.ofString ".") 386, val := .int 23 284 }, { hash := PyData.keyHash P (Str.ofString "..."), key := .str (Str.ofString "...") 388, val := .int 52 342 }, { hash := PyData.keyHash P (Str.ofString "/"), key := .str (Str.ofString "/") 390, val := .int 17 272 }, { hash := PyData.keyHash P (Str.ofString "//"), key := .str (Str.ofString "//") 392, val := .int 47 332 }, { hash := PyData.keyHash P (Str.ofString "//="), key := .str (Str.ofString "//=") 394, val := .int 48 334 }, { hash := PyData.keyHash P (Str.ofString "/="), key := .str (Str.ofString "/=") 396, val := .int 39 316 }, { hash := PyData.keyHash P (Str.ofString ":"), key := .str (Str.ofString ":") 398, val := .int 11 260 }, { hash := PyData.keyHash P (Str.ofString ":="), key := .str (Str.ofString ":=") 400, val := .int 53 344 }, { hash := PyData.keyHash P (Str.ofString ";"), key := .str (Str.ofString ";") 402, val := .int 13 264 }, { hash := PyData.keyHash P (Str.ofString "<"), key := .str (Str.ofString "<") 404, val := .int 20 278 }, { hash := PyData.keyHash P (Str.ofString "<<"), key := .str (Str.ofString "<<") 406, val := .int 33 304 }, { hash := PyData.keyHash P (Str.ofString "<<="), key := .str (Str.ofString "<<=") 408, val := .int 44 326 }, { hash := PyData.keyHash P (Str.ofString "<="), key := .str (Str.ofString "<=") 410, val := .int 29 296 }, { hash := PyData.keyHash P (Str.ofString "="), key := .str (Str.ofString "=") 412, val := .int 22 282 }, { hash := PyData.keyHash P (Str.ofString "=="), key := .str (Str.ofString "==") 414, val := .int 27 292 }, { hash := PyData.keyHash P (Str.ofString ">"), key := .str (Str.ofString ">") 416, val := .int 21 280 }, { hash := PyData.keyHash P (Str.ofString ">="), key := .str (Str.ofString ">=") 418, val := .int 30 298 }, { hash := PyData.keyHash P (Str.ofString ">>"), key := .str (Str.ofString ">>") 419, val := .int 34 306 }, { hash := PyData.keyHash P (Str.ofString ">>="), key := .str (Str.ofString ">>=") 420, val := .int 45 328 }, { hash := PyData.keyHash P (Str.ofString "@"), key := .str (Str.ofString "@") 421, val := .int 49 336 }, { hash := PyData.keyHash P (Str.ofString "@="), key := .str (Str.ofString "@=") 422, val := .int 50 338 }, { hash := PyData.keyHash P (Str.ofString "["), key := .str (Str.ofString "[") 423, val := .int 9 256 }, { hash := PyData.keyHash P (Str.ofString "]"), key := .str (Str.ofString "]") 424, val := .int 10 258 }, { hash := PyData.keyHash P (Str.ofString "^"), key := .str (Str.ofString "^") 425, val := .int 32 302 }, { hash := PyData.keyHash P (Str.ofString "^="), key := .str (Str.ofString "^=") 426, val := .int 43 324 }, { hash := PyData.keyHash P (Str.ofString "{"), key := .str (Str.ofString "{") 427, val := .int 25 288 }, { hash := PyData.keyHash P (Str.ofString "|"), key := .str (Str.ofString "|") 428, val := .int 18 274 }, { hash := PyData.keyHash P (Str.ofString "|="), key := .str (Str.ofString "|=") 429, val := .int 42 322 }, { hash := PyData.keyHash P (Str.ofString "}"), key := .str (Str.ofString "}") 430, val := .int 26 290 }, { hash := PyData.keyHash P (Str.ofString "~"), key := .str (Str.ofString "~") 431, val := .int 31 300 }] 48 }
noncomputable def ob53 (P : Params) : Obj := { cls := .type "tuple", data := .seq #[] }
noncomputable def ob55 (P : Params) : Obj := { cls := .type "tuple", data := .seq #[.str (Str.ofString "x") 450] }
noncomputable def ob56 (P : Params) : Obj := { cls := .type "tuple", data := .seq #[] }
noncomputable def ob58 (P : Params) : Obj := { cls := .type "code", data := .fields #[.str (Str.ofString "ISTERMINAL") 447, .str (Str.ofString "ISTERMINAL") 448, .str (Str.ofString "/claim/cut.py") 449, .int 135 0, .int 1 0, .int 0 0, .int 0 0, .int 3 0, .ref 53, .bool true, .int 181 0, .ref 54, .none, .ref 55, .ref 56, .ref 57, .int 451 0, .int 135 0, .str (Str.ofString "/claim/cut.py") 452] }
noncomputable def ob59 (P : Params) : Obj := fnOf (cell 61) "cpy313.token" 248 58
noncomputable def ob60 (P : Params) : Obj := { cls := .type "tuple", data := .seq #[] }
noncomputable def ob62 (P : Params) : Obj := { cls := .type "tuple", data := .seq #[.str (Str.ofString "x") 457] }
noncomputable def ob63 (P : Params) : Obj := { cls := .type "tuple", data := .seq #[] }
noncomputable def ob65 (P : Params) : Obj := { cls := .type "code", data := .fields #[.str (Str.ofString "ISNONTERMINAL") 454, .str (Str.ofString "ISNONTERMINAL") 455, .str (Str.ofString "/claim/cut.py") 456, .int 137 0, .int 1 0, .int 0 0, .int 0 0, .int 3 0, .ref 60, .bool true, .int 181 0, .ref 61, .none, .ref 62, .ref 63, .ref 64, .int 458 0, .int 137 0, .str (Str.ofString "/claim/cut.py") 459] }
noncomputable def ob66 (P : Params) : Obj := fnOf (cell 62) "cpy313.token" 248 65
noncomputable def ob67 (P : Params) : Obj := { cls := .type "tuple", data := .seq #[] }
noncomputable def ob69 (P : Params) : Obj := { cls := .type "tuple", data := .seq #[.str (Str.ofString "x") 464] }
noncomputable def ob70 (P : Params) : Obj := { cls := .type "tuple", data := .seq #[] }
noncomputable def ob72 (P : Params) : Obj := { cls := .type "code", data := .fields #[.str (Str.ofString "ISEOF") 461, .str (Str.ofString "ISEOF") 462, .str (Str.ofString "/claim/cut.py") 463, .int 139 0, .int 1 0, .int 0 0, .int 0 0, .int 3 0, .ref 67, .bool true, .int 181 0, .ref 68, .none, .ref 69, .ref 70, .ref 71, .int 465 0, .int 139 0, .str (Str.ofString "/claim/cut.py") 466] }
noncomputable def ob73 (P : Params) : Obj := fnOf (cell 63) "cpy313.token" 248 72
noncomputable def ob74 (P : Params) : Obj := { cls := .type "tuple", data := .seq #[] }
noncomputable def ob76 (P : Params) : Obj := { cls := .type "tuple", data := .seq #[.str (Str.ofString "script") 473, .str (Str.ofString "numbers") 474, .str (Str.ofString "place") 475] }
noncomputable def ob77 (P : Params) : Obj := { cls := .type "tuple", data := .seq #[] }
noncomputable def ob79 (P : Params) : Obj := { cls := .type "code", data := .fields #[.str (Str.ofString "_law_numbers") 470, .str (Str.ofString "_law_numbers") 471, .str (Str.ofString "/claim/cut.py") 472, .int 142 0, .int 1 0, .int 0 0, .int 0 0, .int 3 0, .ref 74, .bool true, .int 181 0, .ref 75, .none, .ref 76, .ref 77, .ref 78, .int 476 0, .int 142 0, .str (Str.ofString "/claim/cut.py") 477] }
noncomputable def ob80 (P : Params) : Obj := fnOf (cell 65) "law_sr0055_01" 468 79
noncomputable def ob81 (P : Params) : Obj := { cls := .type "tuple", data := .seq #[] }
noncomputable def ob83 (P : Params) : Obj := { cls := .type "tuple", data := .seq #[.str (Str.ofString "numbers") 482, .str (Str.ofString "row") 483, .str (Str.ofString "place") 484, .str (Str.ofString "rest") 485, .str (Str.ofString "turn") 486, .str (Str.ofString "figure") 487] }
noncomputable def ob84 (P : Params) : Obj := { cls := .type "tuple", data := .seq #[] }
noncomputable def ob86 (P : Params) : Obj := { cls := .type "code", data := .fields #[.str (Str.ofString "_law_symbols") 479, .str (Str.ofString "_law_symbols") 480, .str (Str.ofString "/claim/cut.py") 481, .int 147 0, .int 1 0, .int 0 0, .int 0 0, .int 3 0, .ref 81, .bool true, .int 181 0, .ref 82, .none, .ref 83, .ref 84, .ref 85, .int 488 0, .int 147 0, .str (Str.ofString "/claim/cut.py") 489] }
noncomputable def ob87 (P : Params) : Obj := fnOf (cell 66) "law_sr0055_01" 468 86
noncomputable def ob88 (P : Params) : Obj := { cls := .type "tuple", data := .seq #[] }
noncomputable def ob90 (P : Params) : Obj := { cls := .type "tuple", data := .seq #[.str (Str.ofString "row") 494, .str (Str.ofString "octets") 495, .str (Str.ofString "number") 496, .str (Str.ofString "some") 497] }
noncomputable def ob91 (P : Params) : Obj := { cls := .type "tuple", data := .seq #[] }
noncomputable def ob93 (P : Params) : Obj := { cls := .type "code", data := .fields #[.str (Str.ofString "_law_octets") 491, .str (Str.ofString "_law_octets") 492, .str (Str.ofString "/claim/cut.py") 493, .int 169 0, .int 1 0, .int 0 0, .int 0 0, .int 3 0, .ref 88, .bool true, .int 181 0, .ref 89, .none, .ref 90, .ref 91, .ref 92, .int 498 0, .int 169 0, .str (Str.ofString "/claim/cut.py") 499] }
noncomputable def ob94 (P : Params) : Obj := fnOf (cell 67) "law_sr0055_01" 468 93
noncomputable def ob95 (P : Params) : Obj := { cls := .type "tuple", data := .seq #[] }
noncomputable def ob97 (P : Params) : Obj := { cls := .type "tuple", data := .seq #[.str (Str.ofString "octets") 504, .str (Str.ofString "stream") 505, .str (Str.ofString "row") 506] }
noncomputable def ob98 (P : Params) : Obj := { cls := .type "tuple", data := .seq #[] }
noncomputable def ob100 (P : Params) : Obj := { cls := .type "code", data := .fields #[.str (Str.ofString "_law_read") 501, .str (Str.ofString "_law_read") 502, .str (Str.ofString "/claim/cut.py") 503, .int 178 0, .int 1 0, .int 0 0, .int 0 0, .int 3 0, .ref 95, .bool true, .int 181 0, .ref 96, .none, .ref 97, .ref 98, .ref 99, .int 507 0, .int 178 0, .str (Str.ofString "/claim/cut.py") 508] }
noncomputable def ob101 (P : Params) : Obj := fnOf (cell 68) "law_sr0055_01" 468 100
noncomputable def ob102 (P : Params) : Obj := { cls := .type "tuple", data := .seq #[] }
noncomputable def ob104 (P : Params) : Obj := { cls := .type "tuple", data := .seq #[.str (Str.ofString "row") 513, .str (Str.ofString "rules") 514, .str (Str.ofString "head") 515, .str (Str.ofString "number") 516] }
noncomputable def ob105 (P : Params) : Obj := { cls := .type "tuple", data := .seq #[] }
noncomputable def ob107 (P : Params) : Obj := { cls := .type "code", data := .fields #[.str (Str.ofString "_law_rules") 510, .str (Str.ofString "_law_rules") 511, .str (Str.ofString "/claim/cut.py") 512, .int 186 0, .int 1 0, .int 0 0, .int 0 0, .int 3 0, .ref 102, .bool true, .int 181 0, .ref 103, .none, .ref 104, .ref 105, .ref 106, .int 517 0, .int 186 0, .str (Str.ofString "/claim/cut.py") 518] }
noncomputable def ob108 (P : Params) : Obj := fnOf (cell 69) "law_sr0055_01" 468 107
noncomputable def ob109 (P : Params) : Obj := { cls := .type "tuple", data := .seq #[] }
noncomputable def ob111 (P : Params) : Obj := { cls := .type "tuple", data := .seq #[.str (Str.ofString "signs") 523, .str (Str.ofString "sign") 524] }
noncomputable def ob112 (P : Params) : Obj := { cls := .type "tuple", data := .seq #[] }
noncomputable def ob114 (P : Params) : Obj := { cls := .type "code", data := .fields #[.str (Str.ofString "_law_spelled") 520, .str (Str.ofString "_law_spelled") 521, .str (Str.ofString "/claim/cut.py") 522, .int 198 0, .int 0 0, .int 0 0, .int 0 0, .int 3 0, .ref 109, .bool true, .int 181 0, .ref 110, .none, .ref 111, .ref 112, .ref 113, .int 525 0, .int 198 0, .str (Str.ofString "/claim/cut.py") 526] }
noncomputable def ob115 (P : Params) : Obj := fnOf (cell 70) "law_sr0055_01" 468 114
noncomputable def ob116 (P : Params) : Obj := { cls := .type "tuple", data := .seq #[] }
noncomputable def ob118 (P : Params) : Obj := { cls := .type "tuple", data := .seq #[.str (Str.ofString "first") 531, .str (Str.ofString "second") 532] }
noncomputable def ob119 (P : Params) : Obj := { cls := .type "tuple", data := .seq #[] }
noncomputable def ob121 (P : Params) : Obj := { cls := .type "code", data := .fields #[.str (Str.ofString "_law_steps") 528, .str (Str.ofString "_law_steps") 529, .str (Str.ofString "/claim/cut.py") 530, .int 203 0, .int 2 0, .int 0 0, .int 0 0, .int 3 0, .ref 116, .bool true, .int 181 0, .ref 117, .none, .ref 118, .ref 119, .ref 120, .int 533 0, .int 203 0, .str (Str.ofString "/claim/cut.py") 534] }
noncomputable def ob122 (P : Params) : Obj := fnOf (cell 71) "law_sr0055_01" 468 121
noncomputable def ob123 (P : Params) : Obj := { cls := .type "tuple", data := .seq #[] }
noncomputable def ob125 (P : Params) : Obj := { cls := .type "tuple", data := .seq #[.str (Str.ofString "first") 539, .str (Str.ofString "second") 540, .str (Str.ofString "marks") 541, .str (Str.ofString "even") 542, .str (Str.ofString "odd") 543, .str (Str.ofString "last") 544, .str (Str.ofString "others") 545, .str (Str.ofString "ahead") 546, .str (Str.ofString "behind") 547, .str (Str.ofString "end") 548] }
noncomputable def ob126 (P : Params) : Obj := { cls := .type "tuple", data := .seq #[] }
noncomputable def ob128 (P : Params) : Obj := { cls := .type "code", data := .fields #[.str (Str.ofString "_law_both") 536, .str (Str.ofString "_law_both") 537, .str (Str.ofString "/claim/cut.py") 538, .int 205 0, .int 2 0, .int 0 0, .int 0 0, .int 3 0, .ref 123, .bool true, .int 181 0, .ref 124, .none, .ref 125, .ref 126, .ref 127, .int 549 0, .int 205 0, .str (Str.ofString "/claim/cut.py") 550] }
noncomputable def ob129 (P : Params) : Obj := fnOf (cell 72) "law_sr0055_01" 468 128
noncomputable def ob130 (P : Params) : Obj := { cls := .type "tuple", data := .seq #[] }
noncomputable def ob132 (P : Params) : Obj := { cls := .type "tuple", data := .seq #[.str (Str.ofString "symbol") 555, .str (Str.ofString "step") 556] }
noncomputable def ob133 (P : Params) : Obj := { cls := .type "tuple", data := .seq #[] }
noncomputable def ob135 (P : Params) : Obj := { cls := .type "code", data := .fields #[.str (Str.ofString "_law_one") 552, .str (Str.ofString "_law_one") 553, .str (Str.ofString "/claim/cut.py") 554, .int 213 0, .int 1 0, .int 0 0, .int 0 0, .int 3 0, .ref 130, .bool true, .int 181 0, .ref 131, .none, .ref 132, .ref 133, .ref 134, .int 557 0, .int 213 0, .str (Str.ofString "/claim/cut.py") 558] }
noncomputable def ob136 (P : Params) : Obj := fnOf (cell 73) "law_sr0055_01" 468 135
noncomputable def ob137 (P : Params) : Obj := { cls := .type "tuple", data := .seq #[] }
noncomputable def ob139 (P : Params) : Obj := { cls := .type "tuple", data := .seq #[.str (Str.ofString "piece") 563, .str (Str.ofString "walk") 564] }
noncomputable def ob140 (P : Params) : Obj := { cls := .type "tuple", data := .seq #[] }
noncomputable def ob142 (P : Params) : Obj := { cls := .type "code", data := .fields #[.str (Str.ofString "_law_closes") 560, .str (Str.ofString "_law_closes") 561, .str (Str.ofString "/claim/cut.py") 562, .int 222 0, .int 1 0, .int 0 0, .int 0 0, .int 3 0, .ref 137, .bool true, .int 181 0, .ref 138, .none, .ref 139, .ref 140, .ref 141, .int 565 0, .int 222 0, .str (Str.ofString "/claim/cut.py") 566] }
noncomputable def ob143 (P : Params) : Obj := fnOf (cell 74) "law_sr0055_01" 468 142
noncomputable def ob144 (P : Params) : Obj := { cls := .type "tuple", data := .seq #[] }
noncomputable def ob146 (P : Params) : Obj := { cls := .type "tuple", data := .seq #[.str (Str.ofString "want") 571, .str (Str.ofString "items") 572, .str (Str.ofString "place") 573] }
noncomputable def ob147 (P : Params) : Obj := { cls := .type "tuple", data := .seq #[] }
noncomputable def ob149 (P : Params) : Obj := { cls := .type "code", data := .fields #[.str (Str.ofString "_law_items") 568, .str (Str.ofString "_law_items") 569, .str (Str.ofString "/claim/cut.py") 570, .int 227 0, .int 1 0, .int 0 0, .int 0 0, .int 3 0, .ref 144, .bool true, .int 181 0, .ref 145, .none, .ref 146, .ref 147, .ref 148, .int 574 0, .int 227 0, .str (Str.ofString "/claim/cut.py") 575] }
noncomputable def ob150 (P : Params) : Obj := fnOf (cell 75) "law_sr0055_01" 468 149
noncomputable def ob151 (P : Params) : Obj := { cls := .type "tuple", data := .seq #[] }
noncomputable def ob153 (P : Params) : Obj := { cls := .type "tuple", data := .seq #[.str (Str.ofString "items") 580, .str (Str.ofString "places") 581, .str (Str.ofString "found") 582, .str (Str.ofString "place") 583] }
noncomputable def ob154 (P : Params) : Obj := { cls := .type "tuple", data := .seq #[] }
noncomputable def ob156 (P : Params) : Obj := { cls := .type "code", data := .fields #[.str (Str.ofString "_law_reach") 577, .str (Str.ofString "_law_reach") 578, .str (Str.ofString "/claim/cut.py") 579, .int 238 0, .int 2 0, .int 0 0, .int 0 0, .int 3 0, .ref 151, .bool true, .int 181 0, .ref 152, .none, .ref 153, .ref 154, .ref 155, .int 584 0, .int 238 0, .str (Str.ofString "/claim/cut.py") 585] }
noncomputable def ob157 (P : Params) : Obj := fnOf (cell 76) "law_sr0055_01" 468 156
noncomputable def ob158 (P : Params) : Obj := { cls := .type "tuple", data := .seq #[] }
noncomputable def ob160 (P : Params) : Obj := { cls := .type "tuple", data := .seq #[.str (Str.ofString "items") 590, .str (Str.ofString "sign") 591, .str (Str.ofString "moves") 592, .str (Str.ofString "start") 593, .str (Str.ofString "ahead") 594, .str (Str.ofString "place") 595] }
noncomputable def ob161 (P : Params) : Obj := { cls := .type "tuple", data := .seq #[] }
noncomputable def ob163 (P : Params) : Obj := { cls := .type "code", data := .fields #[.str (Str.ofString "_law_moves") 587, .str (Str.ofString "_law_moves") 588, .str (Str.ofString "/claim/cut.py") 589, .int 246 0, .int 2 0, .int 0 0, .int 0 0, .int 3 0, .ref 158, .bool true, .int 181 0, .ref 159, .none, .ref 160, .ref 161, .ref 162, .int 596 0, .int 246 0, .str (Str.ofString "/claim/cut.py") 597] }
noncomputable def ob164 (P : Params) : Obj := fnOf (cell 77) "law_sr0055_01" 468 163
noncomputable def ob165 (P : Params) : Obj := { cls := .type "tuple", data := .seq #[] }
noncomputable def ob168 (P : Params) : Obj := { cls := .type "code", data := .fields #[.str (Str.ofString "_law_joined") 599, .str (Str.ofString "_law_joined") 600, .str (Str.ofString "/claim/cut.py") 601, .int 257 0, .int 2 0, .int 0 0, .int 0 0, .int 3 0, .ref 165, .bool true, .int 181 0, .ref 166, .none, .none, .none, .ref 167, .int 602 0, .int 257 0, .str (Str.ofString "/claim/cut.py") 603] }
noncomputable def ob169 (P : Params) : Obj := fnOf (cell 78) "law_sr0055_01" 468 168
noncomputable def ob170 (P : Params) : Obj := { cls := .type "tuple", data := .seq #[] }
noncomputable def ob173 (P : Params) : Obj := { cls := .type "code", data := .fields #[.str (Str.ofString "_law_stays") 605, .str (Str.ofString "_law_stays") 606, .str (Str.ofString "/claim/cut.py") 607, .int 265 0, .int 1 0, .int 0 0, .int 0 0, .int 3 0, .ref 170, .bool true, .int 181 0, .ref 171, .none, .none, .none, .ref 172, .int 608 0, .int 265 0, .str (Str.ofString "/claim/cut.py") 609] }
noncomputable def ob174 (P : Params) : Obj := fnOf (cell 79) "law_sr0055_01" 468 173
noncomputable def ob175 (P : Params) : Obj := { cls := .type "tuple", data := .seq #[] }
noncomputable def ob177 (P : Params) : Obj := { cls := .type "tuple", data := .seq #[.str (Str.ofString "items") 614, .str (Str.ofString "signs") 615, .str (Str.ofString "made") 616, .str (Str.ofString "symbol") 617, .str (Str.ofString "moves") 618, .str (Str.ofString "sign") 619] }
noncomputable def ob178 (P : Params) : Obj := { cls := .type "tuple", data := .seq #[] }
noncomputable def ob180 (P : Params) : Obj := { cls := .type "code", data := .fields #[.str (Str.ofString "_law_told") 611, .str (Str.ofString "_law_told") 612, .str (Str.ofString "/claim/cut.py") 613, .int 267 0, .int 4 0, .int 0 0, .int 0 0, .int 3 0, .ref 175, .bool true, .int 181 0, .ref 176, .none, .ref 177, .ref 178, .ref 179, .int 620 0, .int 267 0, .str (Str.ofString "/claim/cut.py") 621] }
noncomputable def ob181 (P : Params) : Obj := fnOf (cell 80) "law_sr0055_01" 468 180
noncomputable def ob182 (P : Params) : Obj := { cls := .type "tuple", data := .seq #[] }
noncomputable def ob185 (P : Params) : Obj := { cls := .type "code", data := .fields #[.str (Str.ofString "_law_holds") 623, .str (Str.ofString "_law_holds") 624, .str (Str.ofString "/claim/cut.py") 625, .int 274 0, .int 2 0, .int 0 0, .int 0 0, .int 3 0, .ref 182, .bool true, .int 181 0, .ref 183, .none, .none, .none, .ref 184, .int 626 0, .int 274 0, .str (Str.ofString "/claim/cut.py") 627] }
noncomputable def ob186 (P : Params) : Obj := fnOf (cell 81) "law_sr0055_01" 468 185
noncomputable def ob187 (P : Params) : Obj := { cls := .type "tuple", data := .seq #[] }
noncomputable def ob189 (P : Params) : Obj := { cls := .type "tuple", data := .seq #[.str (Str.ofString "script") 632, .str (Str.ofString "row") 633, .str (Str.ofString "read") 634] }
noncomputable def ob190 (P : Params) : Obj := { cls := .type "tuple", data := .seq #[] }
noncomputable def ob192 (P : Params) : Obj := { cls := .type "code", data := .fields #[.str (Str.ofString "law") 629, .str (Str.ofString "law") 630, .str (Str.ofString "/claim/cut.py") 631, .int 295 0, .int 1 0, .int 0 0, .int 0 0, .int 3 0, .ref 187, .bool true, .int 181 0, .ref 188, .none, .ref 189, .ref 190, .ref 191, .int 635 0, .int 295 0, .str (Str.ofString "/claim/cut.py") 636] }
noncomputable def ob193 (P : Params) : Obj := fnOf (cell 82) "law_sr0055_01" 468 192
/-- what the compiled text holds of a def -/
noncomputable def fnIn (s : Stmt) : Obj := match s with
  | .FunctionDef name params body _ _ _ scope _ _ _ => { cls := .none, data := .func { name := name, qualname := name, params := params, body := .stmts body, scope := scope, globals := 0, closure := [], defaults := .none, kwdefaults := .none } }
  | _ => { cls := .none, data := .dict #[] }
noncomputable def obNo : Obj := { cls := .none, data := .fields #[] }
noncomputable def ob11 (P : Params) : Obj := { cls := .type "tuple", data := .seq #[] }
noncomputable def ob12 (P : Params) : Obj := { cls := .none, data := .fields #[.int 3 0, .int 0 0, .ref 20, .int 32 0, .int 0 0, .ref 27, .int 41 0, .int 0 0, .ref 34, .int 54 0, .int 0 0, .ref 41, .int 72 0, .int 0 0, .ref 48, .int 135 0, .int 0 0, .ref 58, .int 137 0, .int 0 0, .ref 65, .int 139 0, .int 0 0, .ref 72, .int 142 0, .int 0 0, .ref 79, .int 147 0, .int 0 0, .ref 86, .int 169 0, .int 0 0, .ref 93, .int 178 0, .int 0 0, .ref 100, .int 186 0, .int 0 0, .ref 107, .int 198 0, .int 0 0, .ref 114, .int 203 0, .int 0 0, .ref 121, .int 205 0, .int 0 0, .ref 128, .int 213 0, .int 0 0, .ref 135, .int 222 0, .int 0 0, .ref 142, .int 227 0, .int 0 0, .ref 149, .int 238 0, .int 0 0, .ref 156, .int 246 0, .int 0 0, .ref 163, .int 257 0, .int 0 0, .ref 168, .int 265 0, .int 0 0, .ref 173, .int 267 0, .int 0 0, .ref 180, .int 274 0, .int 0 0, .ref 185, .int 295 0, .int 0 0, .ref 192] }
noncomputable def ob13 (P : Params) : Obj := { cls := .type "code", data := .fields #[.str (Str.ofString "<module>") 182, .str (Str.ofString "<module>") 183, .str (Str.ofString "/claim/cut.py") 184, .int 1 0, .int 0 0, .int 0 0, .int 0 0, .int 0 0, .ref 11, .bool false, .int 181 0, .ref 12, .none, .none, .none, .none, .int 185 0, .int 1 0, .str (Str.ofString "/claim/cut.py") 186] }
noncomputable def ob14 (P : Params) : Obj := { cls := .type "frame", slots := #[some (.ref 13), some (.ref 3), some (.ref 3), none, some (.str (Str.ofString "__main__") 164), none, some (.ref 0)] }
noncomputable def ob51 (P : Params) : Obj := { cls := .type "dict", data := .dict #[{ hash := PyData.keyHash P (Str.ofString "->"), key := .str (Str.ofString "->") 384, val := .int 51 340 }, { hash := PyData.keyHash P (Str.ofString "."), key := .str (Str.ofString ".") 386, val := .int 23 284 }, { hash := PyData.keyHash P (Str.ofString "..."), key := .str (Str.ofString "...") 388, val := .int 52 342 }, { hash := PyData.keyHash P (Str.ofString "/"), key := .str (Str.ofString "/") 390, val := .int 17 272 }, { hash := PyData.keyHash P (Str.ofString "//"), key := .str (Str.ofString "//") 392, val := .int 47 332 }, { hash := PyData.keyHash P (Str.ofString "//="), key := .str (Str.ofString "//=") 394, val := .int 48 334 }, { hash := PyData.keyHash P (Str.ofString "/="), key := .str (Str.ofString "/=") 396, val := .int 39 316 }, { hash := PyData.keyHash P (Str.ofString ":"), key := .str (Str.ofString ":") 398, val := .int 11 260 }, { hash := PyData.keyHash P (Str.ofString ":="), key := .str (Str.ofString ":=") 400, val := .int 53 344 }, { hash := PyData.keyHash P (Str.ofString ";"), key := .str (Str.ofString ";") 402, val := .int 13 264 }, { hash := PyData.keyHash P (Str.ofString "<"), key := .str (Str.ofString "<") 404, val := .int 20 278 }, { hash := PyData.keyHash P (Str.ofString "<<"), key := .str (Str.ofString "<<") 406, val := .int 33 304 }, { hash := PyData.keyHash P (Str.ofString "<<="), key := .str (Str.ofString "<<=") 408, val := .int 44 326 }, { hash := PyData.keyHash P (Str.ofString "<="), key := .str (Str.ofString "<=") 410, val := .int 29 296 }, { hash := PyData.keyHash P (Str.ofString "="), key := .str (Str.ofString "=") 412, val := .int 22 282 }, { hash := PyData.keyHash P (Str.ofString "=="), key := .str (Str.ofString "==") 414, val := .int 27 292 }, { hash := PyData.keyHash P (Str.ofString ">"), key := .str (Str.ofString ">") 416, val := .int 21 280 }] 17 }
noncomputable def ob52 (P : Params) : Obj := { cls := .type "dict", data := .dict #[{ hash := PyData.keyHash P (Str.ofString ">="), key := .str (Str.ofString ">=") 418, val := .int 30 298 }, { hash := PyData.keyHash P (Str.ofString ">>"), key := .str (Str.ofString ">>") 419, val := .int 34 306 }, { hash := PyData.keyHash P (Str.ofString ">>="), key := .str (Str.ofString ">>=") 420, val := .int 45 328 }, { hash := PyData.keyHash P (Str.ofString "@"), key := .str (Str.ofString "@") 421, val := .int 49 336 }, { hash := PyData.keyHash P (Str.ofString "@="), key := .str (Str.ofString "@=") 422, val := .int 50 338 }, { hash := PyData.keyHash P (Str.ofString "["), key := .str (Str.ofString "[") 423, val := .int 9 256 }, { hash := PyData.keyHash P (Str.ofString "]"), key := .str (Str.ofString "]") 424, val := .int 10 258 }, { hash := PyData.keyHash P (Str.ofString "^"), key := .str (Str.ofString "^") 425, val := .int 32 302 }, { hash := PyData.keyHash P (Str.ofString "^="), key := .str (Str.ofString "^=") 426, val := .int 43 324 }, { hash := PyData.keyHash P (Str.ofString "{"), key := .str (Str.ofString "{") 427, val := .int 25 288 }, { hash := PyData.keyHash P (Str.ofString "|"), key := .str (Str.ofString "|") 428, val := .int 18 274 }, { hash := PyData.keyHash P (Str.ofString "|="), key := .str (Str.ofString "|=") 429, val := .int 42 322 }, { hash := PyData.keyHash P (Str.ofString "}"), key := .str (Str.ofString "}") 430, val := .int 26 290 }, { hash := PyData.keyHash P (Str.ofString "~"), key := .str (Str.ofString "~") 431, val := .int 31 300 }] 14 }
/-- what stands when the text has run -/
noncomputable def hd.heap_39 : Params → Frag := fun P => [(2, ob2 P), (3, ob3 P), (15, ob15 P), (17, ob17 P), (18, ob18 P), (20, ob20 P), (21, ob21 P), (22, ob22 P), (24, ob24 P), (25, ob25 P), (27, ob27 P), (28, ob28 P), (29, ob29 P), (31, ob31 P), (32, ob32 P), (34, ob34 P), (35, ob35 P), (36, ob36 P), (38, ob38 P), (39, ob39 P), (41, ob41 P), (42, ob42 P), (43, ob43 P), (45, ob45 P), (46, ob46 P), (48, ob48 P), (49, ob49 P), (50, ob50 P), (53, ob53 P), (55, ob55 P), (56, ob56 P), (58, ob58 P), (59, ob59 P), (60, ob60 P), (62, ob62 P), (63, ob63 P), (65, ob65 P), (66, ob66 P), (67, ob67 P), (69, ob69 P), (70, ob70 P), (72, ob72 P), (73, ob73 P), (74, ob74 P), (76, ob76 P), (77, ob77 P), (79, ob79 P), (80, ob80 P), (81, ob81 P), (83, ob83 P), (84, ob84 P), (86, ob86 P), (87, ob87 P), (88, ob88 P), (90, ob90 P), (91, ob91 P), (93, ob93 P), (94, ob94 P), (95, ob95 P), (97, ob97 P), (98, ob98 P), (100, ob100 P), (101, ob101 P), (102, ob102 P), (104, ob104 P), (105, ob105 P), (107, ob107 P), (108, ob108 P), (109, ob109 P), (111, ob111 P), (112, ob112 P), (114, ob114 P), (115, ob115 P), (116, ob116 P), (118, ob118 P), (119, ob119 P), (121, ob121 P), (122, ob122 P), (123, ob123 P), (125, ob125 P), (126, ob126 P), (128, ob128 P), (129, ob129 P), (130, ob130 P), (132, ob132 P), (133, ob133 P), (135, ob135 P), (136, ob136 P), (137, ob137 P), (139, ob139 P), (140, ob140 P), (142, ob142 P), (143, ob143 P), (144, ob144 P), (146, ob146 P), (147, ob147 P), (149, ob149 P), (150, ob150 P), (151, ob151 P), (153, ob153 P), (154, ob154 P), (156, ob156 P), (157, ob157 P), (158, ob158 P), (160, ob160 P), (161, ob161 P), (163, ob163 P), (164, ob164 P), (165, ob165 P), (168, ob168 P), (169, ob169 P), (170, ob170 P), (173, ob173 P), (174, ob174 P), (175, ob175 P), (177, ob177 P), (178, ob178 P), (180, ob180 P), (181, ob181 P), (182, ob182 P), (185, ob185 P), (186, ob186 P), (187, ob187 P), (189, ob189 P), (190, ob190 P), (192, ob192 P), (193, ob193 P)]
noncomputable def hdAs : List Addr := [2, 3, 15, 17, 18, 20, 21, 22, 24, 25, 27, 28, 29, 31, 32, 34, 35, 36, 38, 39, 41, 42, 43, 45, 46, 48, 49, 50, 53, 55, 56, 58, 59, 60, 62, 63, 65, 66, 67, 69, 70, 72, 73, 74, 76, 77, 79, 80, 81, 83, 84, 86, 87, 88, 90, 91, 93, 94, 95, 97, 98, 100, 101, 102, 104, 105, 107, 108, 109, 111, 112, 114, 115, 116, 118, 119, 121, 122, 123, 125, 126, 128, 129, 130, 132, 133, 135, 136, 137, 139, 140, 142, 143, 144, 146, 147, 149, 150, 151, 153, 154, 156, 157, 158, 160, 161, 163, 164, 165, 168, 169, 170, 173, 174, 175, 177, 178, 180, 181, 182, 185, 186, 187, 189, 190, 192, 193]
noncomputable def hdView : Program := { PySem.Challenge.pw_sr0055_01 with main := { PySem.Challenge.pw_sr0055_01.main with body := [cell 1, cell 2, cell 4, cell 6, cell 7, cell 8, cell 10, cell 11, cell 12, cell 13, cell 14, cell 15, cell 16, cell 17, cell 18, cell 19, cell 20, cell 21, cell 22, cell 23, cell 24, cell 25, cell 26, cell 27, cell 28, cell 29, cell 30, cell 31, cell 32, cell 33, cell 34, cell 35, cell 36, cell 37, cell 38, cell 39, cell 40, cell 41, cell 42, cell 43, cell 44, cell 45, cell 46, cell 47, cell 48, cell 49, cell 50, cell 51, cell 52, cell 53, cell 54, cell 55, cell 56, cell 57, cell 58, cell 59, cell 60, cell 61, cell 62, cell 63, cell 65, cell 66, cell 67, cell 68, cell 69, cell 70, cell 71, cell 72, cell 73, cell 74, cell 75, cell 76, cell 77, cell 78, cell 79, cell 80, cell 81, cell 82] } }
noncomputable def hdH : Hook := kHook hd.heap_39 hdAs (fun _ => rfl)
noncomputable def hdLoose : List Str := ["EXACT_TOKEN_TYPES"]
noncomputable def hdXt (s : Shared) : Bool := xlAt hdView [] s && recOk (RowW.records PySem.Challenge.rw_sr0055_01.row.toRowW) s
/-- the whole heap when the text has run -/
noncomputable def topHeap (P : Params) : Heap := { objs := Array.mk [boot_o_0 P, boot_o_1 P, ob2 P, ob3 P, boot_o_4 P, boot_o_5 P, boot_o_6 P, boot_o_7 P, boot_o_8 P, boot_o_9 P, boot_o_10 P, ob11 P, ob12 P, ob13 P, ob14 P, ob15 P, obNo, ob17 P, ob18 P, fnIn (cell 2), ob20 P, ob21 P, ob22 P, obNo, ob24 P, ob25 P, fnIn (cell 4), ob27 P, ob28 P, ob29 P, obNo, ob31 P, ob32 P, fnIn (cell 6), ob34 P, ob35 P, ob36 P, obNo, ob38 P, ob39 P, fnIn (cell 7), ob41 P, ob42 P, ob43 P, obNo, ob45 P, ob46 P, fnIn (cell 8), ob48 P, ob49 P, ob50 P, ob51 P, ob52 P, ob53 P, obNo, ob55 P, ob56 P, fnIn (cell 61), ob58 P, ob59 P, ob60 P, obNo, ob62 P, ob63 P, fnIn (cell 62), ob65 P, ob66 P, ob67 P, obNo, ob69 P, ob70 P, fnIn (cell 63), ob72 P, ob73 P, ob74 P, obNo, ob76 P, ob77 P, fnIn (cell 65), ob79 P, ob80 P, ob81 P, obNo, ob83 P, ob84 P, fnIn (cell 66), ob86 P, ob87 P, ob88 P, obNo, ob90 P, ob91 P, fnIn (cell 67), ob93 P, ob94 P, ob95 P, obNo, ob97 P, ob98 P, fnIn (cell 68), ob100 P, ob101 P, ob102 P, obNo, ob104 P, ob105 P, fnIn (cell 69), ob107 P, ob108 P, ob109 P, obNo, ob111 P, ob112 P, fnIn (cell 70), ob114 P, ob115 P, ob116 P, obNo, ob118 P, ob119 P, fnIn (cell 71), ob121 P, ob122 P, ob123 P, obNo, ob125 P, ob126 P, fnIn (cell 72), ob128 P, ob129 P, ob130 P, obNo, ob132 P, ob133 P, fnIn (cell 73), ob135 P, ob136 P, ob137 P, obNo, ob139 P, ob140 P, fnIn (cell 74), ob142 P, ob143 P, ob144 P, obNo, ob146 P, ob147 P, fnIn (cell 75), ob149 P, ob150 P, ob151 P, obNo, ob153 P, ob154 P, fnIn (cell 76), ob156 P, ob157 P, ob158 P, obNo, ob160 P, ob161 P, fnIn (cell 77), ob163 P, ob164 P, ob165 P, obNo, fnIn (cell 78), ob168 P, ob169 P, ob170 P, obNo, fnIn (cell 79), ob173 P, ob174 P, ob175 P, obNo, ob177 P, ob178 P, fnIn (cell 80), ob180 P, ob181 P, ob182 P, obNo, fnIn (cell 81), ob185 P, ob186 P, ob187 P, obNo, ob189 P, ob190 P, fnIn (cell 82), ob192 P, ob193 P] }
noncomputable abbrev topEnd (w : World) (os : OsState) : Shared := ⟨topHeap w.params, Array.mk [], boot_drawn, 638, os⟩
theorem top_open : ∀ w : World, (fencedOpening treeTable PySem.Challenge.pw_sr0055_01 w 4706).map (fun s => (s.heap, s.gens, s.drawn, s.toks)) = some (boot_heap w.params, Array.mk [], boot_drawn, boot_toks) := boot_open rfl rfl fun _ => rfl
theorem top_size : ∀ w : World, ((boot_heap w.params).isNs mainGlobals && (Array.mk [] : Array GenState).size == 0, (boot_heap w.params).objs.size, (boot_heap w.params).nsMap mainGlobals "__annotations__") = (true, 11, some (.ref 6)) := by
  intro w
  kernel_rfl
noncomputable def TopRuns (w : World) : Prop := ∀ os : OsState, topRun treeTable PySem.Challenge.pw_sr0055_01 w 11 (some (.ref 6)) 4706 ⟨boot_heap w.params, Array.mk [], boot_drawn, boot_toks, os⟩ (topStub PySem.Challenge.pw_sr0055_01) = some (topEnd w os)
theorem top_f : ∀ w : World, TopRuns (w.withFollow "special-get-raises" false) := by
  intro w os
  rw [PySem.W.Fast.te14082659384304107361, PySem.W.Fast.te14364793385576792824]
  kernel_rfl
theorem top_t : ∀ w : World, TopRuns (w.withFollow "special-get-raises" true) := by
  intro w os
  rw [PySem.W.Fast.te14082659384304107361, PySem.W.Fast.te14364793385576792824]
  kernel_rfl
theorem look1 (w : World) (os : OsState) : staticsOk (importedModules PySem.Challenge.pw_sr0055_01.main.body) (boot_heap w.params) (topHeap w.params) = true := by kernel_rfl
theorem look2 (w : World) (os : OsState) : namesBound PySem.Challenge.pw_sr0055_01 (topHeap w.params) = true := by kernel_rfl
theorem look3 (w : World) (os : OsState) : laidKept (boot_heap w.params) (topHeap w.params) = true := by kernel_rfl
theorem see0 (w : World) (os : OsState) : seen ((recsOf hdView).map (·.name)) (ownsOf hdView) [] { topEnd w os with gens := #[] } = expectedOf hdView := by
  rw [PySem.W.Fast.te5160383126252970620]
  kernel_rfl
theorem see1 (w : World) (os : OsState) : (topEnd w os).heap.bltView = bltViewBooted := by kernel_rfl
theorem see2 (w : World) (os : OsState) : (topEnd w os).heap.keysOk (looseW hdView hdLoose) ((recsOf hdView).map (·.name)) ((litsOf hdView).map (·.1)) ((clssOf hdView (looseW hdView hdLoose)).map (·.name)) = true := by
  rw [PySem.W.Fast.te10880121769531294198]
  kernel_rfl
theorem see3 (w : World) (os : OsState) : (topEnd w os).heap.accountedOkI (importedModules PySem.Challenge.pw_sr0055_01.main.body) = true := by
  rw [PySem.W.Fast.te14722251495701143533, PySem.W.Fast.te5923862056798008813]
  kernel_rfl
theorem see4 (w : World) (os : OsState) : (topEnd w os).heap.isNs mainGlobals = true := by kernel_rfl
theorem see14 (w : World) (os : OsState) : (topEnd w os).heap.isNs builtinsNs = true := by kernel_rfl
theorem see5 (w : World) (os : OsState) : tablesOk hdView (topEnd w os).heap = true := by
  rw [PySem.W.Fast.te10994771534591457954]
  kernel_rfl
theorem see6 (w : World) (os : OsState) : hdXt (topEnd w os) = true := by kernel_rfl
theorem see7 (w : World) (os : OsState) : tabsOk hdView (topEnd w os) = true := by
  rw [PySem.W.Fast.te479339242167458305]
  kernel_rfl
theorem see8 (w : World) (os : OsState) : pinSeenD hdView (drecsOf hdView) (topEnd w os) = pinGoodD (drecsOf hdView) := by
  rw [PySem.W.Fast.te16090120013241838585]
  kernel_rfl
theorem see9 (w : World) (os : OsState) : plainSeenE hdView (looseW hdView hdLoose) (topEnd w os) = plainGoodE hdView (looseW hdView hdLoose) := by
  rw [PySem.W.Fast.te2386780881361962483]
  kernel_rfl
theorem see10 (w : World) (os : OsState) : plainSeenD hdView hdLoose (topEnd w os) = plainGoodD hdView hdLoose := by
  rw [PySem.W.Fast.te11698064438423848299]
  kernel_rfl
theorem see11 (w : World) (os : OsState) : wideSeen hdView (topEnd w os) = wideGood hdView := by
  rw [PySem.W.Fast.te7317090234206586261]
  kernel_rfl
theorem see12 (w : World) (os : OsState) : clsSeenW hdView hdLoose (topEnd w os) = clsGoodW hdView hdLoose := by
  rw [PySem.W.Fast.te7369524293546568484]
  kernel_rfl
theorem see13 (w : World) (os : OsState) : hdH.obs (topEnd w os) = hdH.val w := by kernel_rfl
theorem top_looks (w : World) (os : OsState) : ((staticsOk (importedModules PySem.Challenge.pw_sr0055_01.main.body) (boot_heap w.params) (topHeap w.params) && namesBound PySem.Challenge.pw_sr0055_01 (topHeap w.params) && gensDone (topEnd w os) && laidKept (boot_heap w.params) (topHeap w.params)),
    openSeen hdView hdLoose (importedModules PySem.Challenge.pw_sr0055_01.main.body) hdXt true (topEnd w os), hdH.obs (topEnd w os)) = (true, openGood hdView hdLoose, hdH.val w) :=
  looks_pair (look_both (look_both (look_both (look1 w os) (look2 w os)) rfl) (look3 w os)) (looks_pair
    (looks_pair (see0 w os) (looks_pair (see1 w os) (looks_pair
      (look_both (look_both (look_both (look_both (look_both (look_both (see2 w os) (see3 w os)) (see4 w os)) (see14 w os)) (see5 w os)) (see6 w os)) rfl)
      (looks_pair (see7 w os) (looks_pair (see8 w os) (looks_pair (see9 w os) (looks_pair (see10 w os) (looks_pair (see11 w os) (see12 w os))))))))) (see13 w os))
theorem left : LeftO PySem.Challenge.rw_sr0055_01.row.prog hdView hdLoose hdXt hdH.obs hdH.val 4706 :=
  LeftO.of_pieces (M := 4706) top_open top_size (fun w => byRow2 "special-get-raises" (P := TopRuns) top_f top_t w) rfl fun w => funext fun os => top_looks w os
end Mine
end -- Hd

section -- M0
namespace Mine
/-! the plain readings of the law's own functions -/
noncomputable abbrev Step := Int × Int
noncomputable def stepsF (a b : Step) : Step := (a.1 + b.1, min a.2 (a.1 + b.2))
structure Piece where
  m : Int
  e : Step
  o : Step
  l : Step
noncomputable def Piece.unit : Piece := ⟨0, (0, 0), (0, 0), (0, 0)⟩
noncomputable def bothF (p q : Piece) : Piece :=
  ⟨p.m + q.m, stepsF p.e (if p.m % 2 = 1 then q.o else q.e), stepsF p.o (if p.m % 2 = 1 then q.e else q.o), if q.m = 0 then stepsF p.l q.l else q.l⟩
noncomputable def oneStep (symbol : Int) : Step := if symbol = 8 then (-1, -1) else if symbol = 7 then (1, 0) else (0, 0)
noncomputable def oneF (symbol : Int) : Piece := if symbol = 3 then ⟨1, (0, 0), (0, 0), (0, 0)⟩ else ⟨0, oneStep symbol, (0, 0), oneStep symbol⟩
noncomputable def closesF (p : Piece) : Bool := let w := if p.m % 2 = 1 then stepsF p.e p.l else p.e; w.1 == 0 && decide (w.2 ≥ 0)

/-- an item of the want: three dots, or a sign -/
noncomputable abbrev Item := Option Nat
noncomputable def itemsF : List Nat → List Item
  | [] => []
  | [a] => [some a]
  | [a, b] => [some a, some b]
  | a :: b :: c :: r => if a = 46 ∧ b = 46 ∧ c = 46 then none :: itemsF r else some a :: itemsF (b :: c :: r)

noncomputable def reachG (items : List Item) : Nat → List Nat → Nat → List Nat
  | 0, found, p => if p ∈ found then found else found ++ [p]
  | k + 1, found, p => if p ∈ found then found else if items[p]? = some none then reachG items k (found ++ [p]) (p + 1) else found ++ [p]
noncomputable def reach1 (items : List Item) (found : List Nat) (p : Nat) : List Nat := reachG items (items.length - p) found p
theorem reach1_eq (items : List Item) (found : List Nat) (p : Nat) : reach1 items found p = if p ∈ found then found else if items[p]? = some none then reach1 items (found ++ [p]) (p + 1) else found ++ [p] := by
  unfold reach1
  cases hk : items.length - p with
  | zero =>
    have h : items[p]? = none := List.getElem?_eq_none (by omega)
    rw [h]; rfl
  | succ k =>
    have h : items.length - (p + 1) = k := by omega
    rw [h]; rfl
noncomputable def reachF (items : List Item) (places : List Nat) : List Nat := places.foldl (reach1 items) []
noncomputable def adv (items : List Item) (c : Nat) (p : Nat) : Option Nat := match items[p]? with
  | some none => some p
  | some (some c') => if c' = c then some (p + 1) else none
  | none => none
noncomputable abbrev Moves := List (List Nat)
noncomputable def movesF (items : List Item) (c : Nat) : Moves := (List.range (items.length + 1)).map fun s => reachF items ((reachF items [s]).filterMap (adv items c))
noncomputable def joinRow (second : Moves) (places : List Nat) : List Nat := places.foldl (fun found place => found ++ (second.getD place []).filter fun o => !found.contains o) []
noncomputable def joinedF (first second : Moves) : Moves := first.map (joinRow second)
noncomputable def staysF (items : List Item) : Moves := (List.range (items.length + 1)).map fun s => reachF items [s]
structure Part where
  text : List Nat
  piece : Piece
  moves : Moves
noncomputable def toldF (items : List Item) (symbol : Int) (text : List Nat) : Part := ⟨text, oneF symbol, text.foldl (fun mv c => joinedF mv (movesF items c)) (staysF items)⟩
noncomputable def addPart (p q : Part) : Part := ⟨p.text ++ q.text, bothF p.piece q.piece, joinedF p.moves q.moves⟩
end Mine
end -- M0

section -- M1
namespace Mine
/-! sizes of the walk's lists -/
structure Good (n : Nat) (l : List Nat) : Prop where
  nd : l.Nodup
  le : ∀ q ∈ l, q ≤ n
theorem Good.nil (n : Nat) : Good n [] := ⟨List.nodup_nil, fun _ h => by cases h⟩
theorem Good.len {n : Nat} {l : List Nat} (h : Good n l) : l.length ≤ n + 1 := by
  have := h.nd.length_le_of_subset (l₂ := List.range (n + 1)) (fun q hq => List.mem_range.mpr (Nat.lt_succ_of_le (h.le q hq)))
  simpa using this
theorem Good.snoc {n p : Nat} {l : List Nat} (h : Good n l) (hp : p ≤ n) (hn : p ∉ l) : Good n (l ++ [p]) := by
  refine ⟨List.nodup_append.mpr ⟨h.nd, by simp, fun a ha b hb => ?_⟩, fun q hq => ?_⟩
  · rw [List.mem_singleton.mp hb]; rintro rfl; exact hn ha
  · rcases List.mem_append.mp hq with h' | h'
    · exact h.le q h'
    · rw [List.mem_singleton.mp h']; exact hp
theorem reach1_good (items : List Item) (found : List Nat) (p : Nat) (h : Good items.length found) (hp : p ≤ items.length) : Good items.length (reach1 items found p) := by
  rw [reach1_eq]
  split
  · exact h
  · rename_i hn
    split
    · rename_i hi
      exact reach1_good items _ (p + 1) (h.snoc hp hn) (List.getElem?_eq_some_iff.mp hi).1
    · exact h.snoc hp hn
termination_by items.length - p
decreasing_by
  rename_i hh
  have := (List.getElem?_eq_some_iff.mp hh).1
  omega
theorem reachFold_good (items : List Item) : ∀ (places : List Nat) (found : List Nat), Good items.length found → (∀ p ∈ places, p ≤ items.length) → Good items.length (places.foldl (reach1 items) found)
  | [], _, h, _ => h
  | p :: ps, found, h, hp => reachFold_good items ps _ (reach1_good items found p h (hp p (.head _))) fun q hq => hp q (.tail _ hq)
theorem reachF_good (items : List Item) (places : List Nat) (hp : ∀ p ∈ places, p ≤ items.length) : Good items.length (reachF items places) := reachFold_good items places [] (.nil _) hp
theorem adv_le {items : List Item} {c p q : Nat} (h : adv items c p = some q) : q ≤ items.length := by
  unfold adv at h
  split at h
  · rename_i e
    have := (List.getElem?_eq_some_iff.mp e).1
    cases h; omega
  · rename_i e
    have := (List.getElem?_eq_some_iff.mp e).1
    split at h
    · cases h; omega
    · cases h
  · cases h
theorem ahead_le (items : List Item) (c : Nat) (l : List Nat) : ∀ p ∈ l.filterMap (adv items c), p ≤ items.length := fun p hp => by
  obtain ⟨q, _, e⟩ := List.mem_filterMap.mp hp
  exact adv_le e

structure MGood (n : Nat) (mv : Moves) : Prop where
  len : mv.length = n + 1
  row : ∀ r ∈ mv, Good n r
theorem MGood.getD {n : Nat} {mv : Moves} (h : MGood n mv) (p : Nat) : Good n (mv.getD p []) := by
  rw [List.getD_eq_getElem?_getD]
  cases e : mv[p]? with
  | none => exact .nil n
  | some r => exact h.row r (List.mem_of_getElem? e)
theorem staysF_mgood (items : List Item) : MGood items.length (staysF items) := by
  refine ⟨by simp [staysF], fun r hr => ?_⟩
  obtain ⟨s, hs, rfl⟩ := List.mem_map.mp hr
  refine reachF_good items [s] fun p hp => ?_
  rw [List.mem_singleton.mp hp]; exact Nat.lt_succ_iff.mp (List.mem_range.mp hs)
theorem movesF_mgood (items : List Item) (c : Nat) : MGood items.length (movesF items c) := by
  refine ⟨by simp [movesF], fun r hr => ?_⟩
  obtain ⟨s, hs, rfl⟩ := List.mem_map.mp hr
  exact reachF_good items _ (ahead_le items c _)
theorem join_good {n : Nat} {found row : List Nat} (h : Good n found) (hr : Good n row) : Good n (found ++ row.filter fun o => !found.contains o) := by
  refine ⟨List.nodup_append.mpr ⟨h.nd, hr.nd.filter _, fun a ha b hb => ?_⟩, fun q hq => ?_⟩
  · rintro rfl
    have := (List.mem_filter.mp hb).2
    simp at this; exact this ha
  · rcases List.mem_append.mp hq with h' | h'
    · exact h.le q h'
    · exact hr.le q (List.mem_filter.mp h').1
theorem joinFold_good {n : Nat} {second : Moves} (hs : MGood n second) : ∀ (places found : List Nat), Good n found → Good n (places.foldl (fun found place => found ++ (second.getD place []).filter fun o => !found.contains o) found)
  | [], _, h => h
  | p :: ps, found, h => joinFold_good hs ps _ (join_good h (hs.getD p))
theorem joinRow_good {n : Nat} {second : Moves} (hs : MGood n second) (places : List Nat) : Good n (joinRow second places) := joinFold_good hs places [] (.nil n)
theorem joinedF_mgood {n : Nat} {first second : Moves} (hf : MGood n first) (hs : MGood n second) : MGood n (joinedF first second) := by
  refine ⟨by rw [joinedF, List.length_map, hf.len], fun r hr => ?_⟩
  obtain ⟨s, _, rfl⟩ := List.mem_map.mp hr
  exact joinRow_good hs s
theorem toldFold_mgood (items : List Item) : ∀ (text : List Nat) (mv : Moves), MGood items.length mv → MGood items.length (text.foldl (fun mv c => joinedF mv (movesF items c)) mv)
  | [], _, h => h
  | c :: t, mv, h => toldFold_mgood items t _ (joinedF_mgood h (movesF_mgood items c))
theorem toldF_mgood (items : List Item) (symbol : Int) (text : List Nat) : MGood items.length (toldF items symbol text).moves := toldFold_mgood items text _ (staysF_mgood items)
end Mine
end -- M1

section -- M2
namespace Mine
/-! the places that a text leads to -/
inductive Runs (items : List Item) : Nat → List Nat → Nat → Prop
  | done (p : Nat) : Runs items p [] p
  | skip {p q : Nat} {t : List Nat} : items[p]? = some none → Runs items (p + 1) t q → Runs items p t q
  | stay {p c q : Nat} {t : List Nat} : items[p]? = some none → Runs items p t q → Runs items p (c :: t) q
  | step {p c q : Nat} {t : List Nat} : items[p]? = some (some c) → Runs items (p + 1) t q → Runs items p (c :: t) q

section
variable {items : List Item}
theorem lt_of_some {p : Nat} {x : Item} (h : items[p]? = some x) : p < items.length := (List.getElem?_eq_some_iff.mp h).1
theorem Runs.le {p q : Nat} {t : List Nat} (h : Runs items p t q) : p ≤ items.length → q ≤ items.length := by
  induction h with
  | done => exact id
  | skip e _ ih => exact fun _ => ih (lt_of_some e)
  | stay _ _ ih => exact ih
  | step e _ ih => exact fun _ => ih (lt_of_some e)
theorem Runs.append {p m q : Nat} {s t : List Nat} (h : Runs items p s m) (k : Runs items m t q) : Runs items p (s ++ t) q := by
  induction h with
  | done => exact k
  | skip e _ ih => exact .skip e (ih k)
  | stay e _ ih => exact .stay e (ih k)
  | step e _ ih => exact .step e (ih k)
theorem Runs.split {p q : Nat} {u : List Nat} (h : Runs items p u q) : ∀ {s t : List Nat}, u = s ++ t → ∃ m, Runs items p s m ∧ Runs items m t q := by
  induction h with
  | done p =>
    intro s t e
    obtain ⟨rfl, rfl⟩ := List.append_eq_nil_iff.mp e.symm
    exact ⟨p, .done p, .done p⟩
  | @skip p q t' e h ih =>
    intro s t e'
    cases s with
    | nil => exact ⟨p, .done p, by rw [List.nil_append] at e'; exact e' ▸ .skip e h⟩
    | cons a s => obtain ⟨m, h1, h2⟩ := ih e'; exact ⟨m, .skip e h1, h2⟩
  | @stay p c q t' e h ih =>
    intro s t e'
    cases s with
    | nil => exact ⟨p, .done p, by rw [List.nil_append] at e'; exact e' ▸ .stay e h⟩
    | cons a s =>
      obtain ⟨rfl, e2⟩ := List.cons_eq_cons.mp e'
      obtain ⟨m, h1, h2⟩ := ih e2; exact ⟨m, .stay e h1, h2⟩
  | @step p c q t' e h ih =>
    intro s t e'
    cases s with
    | nil => exact ⟨p, .done p, by rw [List.nil_append] at e'; exact e' ▸ .step e h⟩
    | cons a s =>
      obtain ⟨rfl, e2⟩ := List.cons_eq_cons.mp e'
      obtain ⟨m, h1, h2⟩ := ih e2; exact ⟨m, .step e h1, h2⟩
theorem runs_append {p q : Nat} {s t : List Nat} : Runs items p (s ++ t) q ↔ ∃ m, Runs items p s m ∧ Runs items m t q :=
  ⟨fun h => h.split rfl, fun ⟨_, h, k⟩ => h.append k⟩
theorem runs_nil {p q : Nat} : Runs items p [] q ↔ q = p ∨ items[p]? = some none ∧ Runs items (p + 1) [] q := by
  constructor
  · intro h
    cases h with
    | done => exact .inl rfl
    | skip e h => exact .inr ⟨e, h⟩
  · rintro (rfl | ⟨e, h⟩)
    · exact .done _
    · exact .skip e h

noncomputable def Closed (items : List Item) (l : List Nat) : Prop := ∀ r ∈ l, items[r]? = some none → r + 1 ∈ l
theorem Closed.runs {l : List Nat} (h : Closed items l) {p q : Nat} {t : List Nat} (r : Runs items p t q) : t = [] → p ∈ l → q ∈ l := by
  induction r with
  | done => exact fun _ h => h
  | skip e _ ih => exact fun ht hp => ih ht (h _ hp e)
  | stay => exact nofun
  | step => exact nofun

theorem reach1_spec (found : List Nat) (p : Nat) (hc : ∀ r ∈ found, items[r]? = some none → r + 1 ∈ found ∨ r + 1 = p) :
    Closed items (reach1 items found p) ∧ ∀ q, q ∈ reach1 items found p ↔ q ∈ found ∨ Runs items p [] q := by
  rw [reach1_eq]
  split
  · rename_i hp
    have hcl : Closed items found := fun r hr e => (hc r hr e).elim id fun e => e ▸ hp
    exact ⟨hcl, fun q => ⟨.inl, fun h => h.elim id fun r => hcl.runs r rfl hp⟩⟩
  · rename_i hp
    split
    · rename_i hi
      have ih := reach1_spec (found ++ [p]) (p + 1) (fun r hr e => by
        rcases List.mem_append.mp hr with h | h
        · rcases hc r h e with h | h
          · exact .inl (List.mem_append_left _ h)
          · exact .inl (List.mem_append_right _ (by simp [h]))
        · rw [List.mem_singleton.mp h]; exact .inr rfl)
      refine ⟨ih.1, fun q => ?_⟩
      rw [ih.2, List.mem_append, List.mem_singleton, runs_nil (p := p)]
      constructor
      · rintro ((h | h) | h)
        · exact .inl h
        · exact .inr (.inl h)
        · exact .inr (.inr ⟨hi, h⟩)
      · rintro (h | h | ⟨_, h⟩)
        · exact .inl (.inl h)
        · exact .inl (.inr h)
        · exact .inr h
    · rename_i hi
      refine ⟨fun r hr e => ?_, fun q => ?_⟩
      · rcases List.mem_append.mp hr with h | h
        · rcases hc r h e with h | h
          · exact List.mem_append_left _ h
          · exact List.mem_append_right _ (by simp [h])
        · rw [List.mem_singleton.mp h] at e; exact absurd e hi
      · rw [List.mem_append, List.mem_singleton, runs_nil (p := p)]
        constructor
        · rintro (h | h)
          · exact .inl h
          · exact .inr (.inl h)
        · rintro (h | h | ⟨h, _⟩)
          · exact .inl h
          · exact .inr h
          · exact absurd h hi
termination_by items.length - p
decreasing_by
  rename_i hh
  have := lt_of_some hh
  omega

theorem reachFold_spec : ∀ (places found : List Nat), Closed items found → Closed items (places.foldl (reach1 items) found) ∧ ∀ q, q ∈ places.foldl (reach1 items) found ↔ q ∈ found ∨ ∃ p ∈ places, Runs items p [] q
  | [], found, h => ⟨h, fun q => by simp⟩
  | p :: ps, found, h => by
    obtain ⟨h1, h2⟩ := reach1_spec found p fun r hr e => .inl (h r hr e)
    obtain ⟨h3, h4⟩ := reachFold_spec ps _ h1
    refine ⟨h3, fun q => ?_⟩
    rw [List.foldl_cons, h4, h2]
    constructor
    · rintro ((h | h) | ⟨x, hx, h⟩)
      · exact .inl h
      · exact .inr ⟨p, .head _, h⟩
      · exact .inr ⟨x, .tail _ hx, h⟩
    · rintro (h | ⟨x, hx, h⟩)
      · exact .inl (.inl h)
      · rcases List.mem_cons.mp hx with rfl | hx
        · exact .inl (.inr h)
        · exact .inr ⟨x, hx, h⟩
theorem mem_reachF {places : List Nat} {q : Nat} : q ∈ reachF items places ↔ ∃ p ∈ places, Runs items p [] q := by
  rw [reachF, (reachFold_spec places [] nofun).2]
  simp

theorem runs_one {p c q : Nat} : Runs items p [c] q ↔ ∃ r r', Runs items p [] r ∧ adv items c r = some r' ∧ Runs items r' [] q := by
  constructor
  · intro h
    suffices key : ∀ u, Runs items p u q → u = [c] → ∃ r r', Runs items p [] r ∧ adv items c r = some r' ∧ Runs items r' [] q from key _ h rfl
    clear h
    intro u hu
    induction hu with
    | done => exact nofun
    | skip e _ ih => intro e'; obtain ⟨r, r', h1, h2, h3⟩ := ih e'; exact ⟨r, r', .skip e h1, h2, h3⟩
    | @stay p c' q t e h ih =>
      intro e'
      obtain ⟨rfl, rfl⟩ := List.cons_eq_cons.mp e'
      exact ⟨p, p, .done p, by unfold adv; rw [e], h⟩
    | @step p c' q t e h ih =>
      intro e'
      obtain ⟨rfl, rfl⟩ := List.cons_eq_cons.mp e'
      exact ⟨p, p + 1, .done p, by unfold adv; rw [e]; exact if_pos rfl, h⟩
  · rintro ⟨r, r', h1, h2, h3⟩
    have : Runs items r [c] q := by
      unfold adv at h2
      split at h2
      · rename_i e; cases h2; exact .stay e h3
      · rename_i c' e
        split at h2
        · rename_i e2; cases h2; exact .step (e2 ▸ e) h3
        · cases h2
      · cases h2
    exact h1.append this

/-- the moves stand for the text -/
structure MvOk (items : List Item) (mv : Moves) (t : List Nat) : Prop where
  len : mv.length = items.length + 1
  iff : ∀ p, p ≤ items.length → ∀ q, q ∈ mv.getD p [] ↔ Runs items p t q
theorem range_row {n p : Nat} (f : Nat → List Nat) (h : p ≤ n) : ((List.range (n + 1)).map f).getD p [] = f p := by
  rw [List.getD_eq_getElem?_getD, List.getElem?_map, List.getElem?_range (by omega)]; rfl
theorem stays_ok : MvOk items (staysF items) [] := by
  refine ⟨by simp [staysF], fun p hp q => ?_⟩
  rw [staysF, range_row _ hp, mem_reachF]
  simp
theorem moves_ok (c : Nat) : MvOk items (movesF items c) [c] := by
  refine ⟨by simp [movesF], fun p hp q => ?_⟩
  rw [movesF, range_row _ hp, mem_reachF, runs_one]
  constructor
  · rintro ⟨x, hx, h⟩
    obtain ⟨r, hr, e⟩ := List.mem_filterMap.mp hx
    obtain ⟨y, hy, h'⟩ := mem_reachF.mp hr
    rw [List.mem_singleton.mp hy] at h'
    exact ⟨r, x, h', e, h⟩
  · rintro ⟨r, r', h1, h2, h3⟩
    exact ⟨r', List.mem_filterMap.mpr ⟨r, mem_reachF.mpr ⟨p, by simp, h1⟩, h2⟩, h3⟩
theorem joinFold_mem {second : Moves} : ∀ (places found : List Nat) (q : Nat), q ∈ places.foldl (fun found place => found ++ (second.getD place []).filter fun o => !found.contains o) found ↔ q ∈ found ∨ ∃ p ∈ places, q ∈ second.getD p []
  | [], found, q => by simp
  | p :: ps, found, q => by
    rw [List.foldl_cons, joinFold_mem ps, List.mem_append, List.mem_filter]
    constructor
    · rintro ((h | ⟨h, _⟩) | ⟨x, hx, h⟩)
      · exact .inl h
      · exact .inr ⟨p, .head _, h⟩
      · exact .inr ⟨x, .tail _ hx, h⟩
    · rintro (h | ⟨x, hx, h⟩)
      · exact .inl (.inl h)
      · rcases List.mem_cons.mp hx with rfl | hx
        · by_cases hq : q ∈ found
          · exact .inl (.inl hq)
          · exact .inl (.inr ⟨h, by simpa using hq⟩)
        · exact .inr ⟨x, hx, h⟩
theorem MvOk.join {m₁ m₂ : Moves} {s t : List Nat} (h : MvOk items m₁ s) (k : MvOk items m₂ t) : MvOk items (joinedF m₁ m₂) (s ++ t) := by
  refine ⟨by rw [joinedF, List.length_map, h.len], fun p hp q => ?_⟩
  have e : (joinedF m₁ m₂).getD p [] = joinRow m₂ (m₁.getD p []) := by
    rw [joinedF, List.getD_eq_getElem?_getD, List.getD_eq_getElem?_getD, List.getElem?_map, List.getElem?_eq_getElem (by rw [h.len]; omega)]; rfl
  rw [e, joinRow, joinFold_mem, runs_append]
  constructor
  · rintro (h' | ⟨m, hm, hq⟩)
    · cases h'
    · have h1 := (h.iff p hp m).mp hm
      exact ⟨m, h1, (k.iff m (h1.le hp) q).mp hq⟩
  · rintro ⟨m, h1, h2⟩
    exact .inr ⟨m, (h.iff p hp m).mpr h1, (k.iff m (h1.le hp) q).mpr h2⟩
theorem told_ok (s : Int) : ∀ t : List Nat, MvOk items (toldF items s t).moves t := by
  have key : ∀ (t u : List Nat) (mv : Moves), MvOk items mv u → MvOk items (t.foldl (fun mv c => joinedF mv (movesF items c)) mv) (u ++ t) := by
    intro t
    induction t with
    | nil => intro u mv h; rw [List.append_nil]; exact h
    | cons c t ih =>
      intro u mv h
      have := ih (u ++ [c]) _ (h.join (moves_ok c))
      rwa [List.append_assoc] at this
  exact fun t => key t [] _ stays_ok
end
end Mine
end -- M2

section -- M5
namespace Mine
/-! a want cut at its three dots, and the texts that it stands for -/
noncomputable def splitL : List Nat → List (List Nat)
  | [] => [[]]
  | [a] => [[a]]
  | [a, b] => [[a, b]]
  | a :: b :: c :: r => if a = 46 ∧ b = 46 ∧ c = 46 then [] :: splitL r else match splitL (b :: c :: r) with
    | [] => [[a]]
    | p :: ps => (a :: p) :: ps
noncomputable def glueI : List (List Nat) → List Item
  | [] => []
  | [p] => p.map some
  | p :: q :: r => p.map some ++ none :: glueI (q :: r)
theorem splitL_ne : ∀ (n : Nat) (l : List Nat), l.length ≤ n → ∃ p ps, splitL l = p :: ps
  | _, [], _ => ⟨_, _, rfl⟩
  | _, [a], _ => ⟨_, _, rfl⟩
  | _, [a, b], _ => ⟨_, _, rfl⟩
  | 0, _ :: _, h => by simp at h
  | n + 1, a :: b :: c :: r, h => by
    rw [splitL]
    split
    · exact ⟨_, _, rfl⟩
    · obtain ⟨p, ps, e⟩ := splitL_ne n (b :: c :: r) (by simpa using h)
      rw [e]; exact ⟨_, _, rfl⟩
theorem items_glue : ∀ (n : Nat) (l : List Nat), l.length ≤ n → itemsF l = glueI (splitL l)
  | _, [], _ => rfl
  | _, [a], _ => rfl
  | _, [a, b], _ => rfl
  | 0, _ :: _, h => by simp at h
  | n + 1, a :: b :: c :: r, h => by
    simp only [List.length_cons] at h
    rw [splitL, itemsF]
    by_cases e : a = 46 ∧ b = 46 ∧ c = 46
    · rw [if_pos e, if_pos e, items_glue n r (by omega)]
      obtain ⟨p, ps, e'⟩ := splitL_ne n r (by omega)
      rw [e']; rfl
    · rw [if_neg e, if_neg e, items_glue n (b :: c :: r) (by simp only [List.length_cons]; omega)]
      obtain ⟨p, ps, e'⟩ := splitL_ne n (b :: c :: r) (by simp only [List.length_cons]; omega)
      rw [e']
      cases ps <;> rfl

/-- the texts of a row of parts -/
noncomputable def Mat : List (List Nat) → List Nat → Prop
  | [], _ => False
  | [p], t => t = p
  | p :: q :: r, t => ∃ g u, t = p ++ g ++ u ∧ Mat (q :: r) u

/-- the texts of a row of items, to its end -/
noncomputable def RunsL : List Item → List Nat → Prop
  | [], t => t = []
  | some c :: r, t => ∃ t', t = c :: t' ∧ RunsL r t'
  | none :: r, t => ∃ g u, t = g ++ u ∧ RunsL r u

theorem runsL_of {items : List Item} {p q : Nat} {t : List Nat} (h : Runs items p t q) : q = items.length → RunsL (items.drop p) t := by
  induction h with
  | done p => rintro rfl; rw [List.drop_length]; rfl
  | @skip p q t e _ ih =>
    intro hq
    obtain ⟨hlt, e'⟩ := List.getElem?_eq_some_iff.mp e
    rw [List.drop_eq_getElem_cons hlt, e']
    exact ⟨[], t, rfl, ih hq⟩
  | @stay p c q t e _ ih =>
    intro hq
    obtain ⟨hlt, e'⟩ := List.getElem?_eq_some_iff.mp e
    have := ih hq
    rw [List.drop_eq_getElem_cons hlt, e'] at this ⊢
    obtain ⟨g, u, h1, h2⟩ := this
    exact ⟨c :: g, u, by rw [h1]; rfl, h2⟩
  | @step p c q t e _ ih =>
    intro hq
    obtain ⟨hlt, e'⟩ := List.getElem?_eq_some_iff.mp e
    rw [List.drop_eq_getElem_cons hlt, e']
    exact ⟨t, rfl, ih hq⟩
theorem stays_run {items : List Item} {p q : Nat} {t : List Nat} (e : items[p]? = some none) (h : Runs items (p + 1) t q) : ∀ g : List Nat, Runs items p (g ++ t) q
  | [] => .skip e h
  | _ :: g => .stay e (stays_run e h g)
theorem runs_of_L {items : List Item} : ∀ (k p : Nat), p + k = items.length → ∀ t, RunsL (items.drop p) t → Runs items p t items.length
  | 0, p, hk, t, h => by
    have : p = items.length := by omega
    subst this
    rw [List.drop_length] at h
    cases h; exact .done _
  | k + 1, p, hk, t, h => by
    have hlt : p < items.length := by omega
    rw [List.drop_eq_getElem_cons hlt] at h
    cases e : items[p] with
    | none =>
      rw [e] at h
      obtain ⟨g, u, rfl, h2⟩ := h
      exact stays_run (by rw [List.getElem?_eq_getElem hlt, e]) (runs_of_L k (p + 1) (by omega) u h2) g
    | some c =>
      rw [e] at h
      obtain ⟨t', rfl, h2⟩ := h
      exact .step (by rw [List.getElem?_eq_getElem hlt, e]) (runs_of_L k (p + 1) (by omega) t' h2)
theorem runs_L {items : List Item} {t : List Nat} : Runs items 0 t items.length ↔ RunsL items t :=
  ⟨fun h => by have := runsL_of h rfl; rwa [List.drop_zero] at this, fun h => runs_of_L items.length 0 (Nat.zero_add _) t (by rwa [List.drop_zero])⟩
theorem runsL_part : ∀ (p : List Nat) (r : List Item) (t : List Nat), RunsL (p.map some ++ r) t ↔ ∃ u, t = p ++ u ∧ RunsL r u
  | [], r, t => ⟨fun h => ⟨t, rfl, h⟩, fun ⟨u, e, h⟩ => by rw [e]; exact h⟩
  | c :: p, r, t => by
    show (∃ t', t = c :: t' ∧ RunsL (p.map some ++ r) t') ↔ _
    constructor
    · rintro ⟨t', rfl, h⟩
      obtain ⟨u, e, h'⟩ := (runsL_part p r t').mp h
      exact ⟨u, by rw [e]; rfl, h'⟩
    · rintro ⟨u, rfl, h⟩
      exact ⟨p ++ u, rfl, (runsL_part p r _).mpr ⟨u, rfl, h⟩⟩
theorem runsL_glue : ∀ (ps : List (List Nat)), ps ≠ [] → ∀ t, RunsL (glueI ps) t ↔ Mat ps t
  | [], h, _ => absurd rfl h
  | [p], _, t => by
    have := runsL_part p [] t
    rw [List.append_nil] at this
    show RunsL (p.map some) t ↔ t = p
    rw [this]
    constructor
    · rintro ⟨u, rfl, h⟩
      cases h; rw [List.append_nil]
    · rintro rfl
      exact ⟨[], by rw [List.append_nil], rfl⟩
  | p :: q :: r, _, t => by
    show RunsL (p.map some ++ none :: glueI (q :: r)) t ↔ ∃ g u, t = p ++ g ++ u ∧ Mat (q :: r) u
    rw [runsL_part]
    constructor
    · rintro ⟨u, rfl, g, v, rfl, h⟩
      exact ⟨g, v, by rw [List.append_assoc], (runsL_glue (q :: r) nofun v).mp h⟩
    · rintro ⟨g, v, rfl, h⟩
      exact ⟨g ++ v, by rw [List.append_assoc], g, v, rfl, (runsL_glue (q :: r) nofun v).mpr h⟩
theorem runs_mat (l t : List Nat) : Runs (itemsF l) 0 t (itemsF l).length ↔ Mat (splitL l) t := by
  rw [runs_L, items_glue l.length l (Nat.le_refl _), runsL_glue]
  obtain ⟨p, ps, e⟩ := splitL_ne l.length l (Nat.le_refl _)
  rw [e]; exact nofun

/-! greedy search -/
noncomputable def AtL (l w : List Nat) (e i : Nat) : Prop := i + w.length ≤ e ∧ (l.drop i).take w.length = w
noncomputable def Fits (l : List Nat) (e : Nat) : List (List Nat) → Nat → Prop
  | [], s => s ≤ e
  | w :: r, s => ∃ k, s ≤ k ∧ AtL l w e k ∧ Fits l e r (k + w.length)
theorem Fits.mono {l : List Nat} {e : Nat} : ∀ {ws : List (List Nat)} {s s' : Nat}, Fits l e ws s → s' ≤ s → Fits l e ws s'
  | [], _, _, h, hs => Nat.le_trans hs h
  | _ :: _, _, _, ⟨k, h1, h2⟩, hs => ⟨k, Nat.le_trans hs h1, h2⟩
theorem Fits.le {l : List Nat} {e : Nat} : ∀ {ws : List (List Nat)} {s : Nat}, Fits l e ws s → s ≤ e
  | [], _, h => h
  | _ :: _, _, ⟨k, h1, ⟨h2, _⟩, _⟩ => by omega
theorem fits_nil_cons {l : List Nat} {e : Nat} {ws : List (List Nat)} {s : Nat} : Fits l e ([] :: ws) s ↔ Fits l e ws s :=
  ⟨fun ⟨k, h1, _, h3⟩ => h3.mono (by simpa using h1), fun h => ⟨s, Nat.le_refl _, ⟨by simpa using h.le, rfl⟩, by simpa using h⟩⟩
theorem fits_snoc_nil {l : List Nat} {e : Nat} : ∀ {ws : List (List Nat)} {s : Nat}, Fits l e (ws ++ [[]]) s ↔ Fits l e ws s
  | [], s => fits_nil_cons
  | w :: ws, s => by
    show (∃ k, s ≤ k ∧ AtL l w e k ∧ Fits l e (ws ++ [[]]) (k + w.length)) ↔ ∃ k, s ≤ k ∧ AtL l w e k ∧ Fits l e ws (k + w.length)
    simp only [fits_snoc_nil (ws := ws)]

/-- the parts behind the first one, found behind s -/
noncomputable def GapMat (t : List Nat) (ps : List (List Nat)) (s : Nat) : Prop := ∃ j, s ≤ j ∧ j ≤ t.length ∧ Mat ps (t.drop j)
theorem gap_last {t p : List Nat} {s : Nat} : GapMat t [p] s ↔ s + p.length ≤ t.length ∧ t.drop (t.length - p.length) = p := by
  constructor
  · rintro ⟨j, h1, h2, h3⟩
    have h3 : t.drop j = p := h3
    have hl : p.length = t.length - j := by rw [← h3, List.length_drop]
    refine ⟨by omega, ?_⟩
    rw [show t.length - p.length = j by omega]; exact h3
  · rintro ⟨h1, h2⟩
    exact ⟨t.length - p.length, by omega, by omega, h2⟩
theorem gap_cons {t w q : List Nat} {r : List (List Nat)} {s : Nat} : GapMat t (w :: q :: r) s ↔ ∃ k, s ≤ k ∧ AtL t w t.length k ∧ GapMat t (q :: r) (k + w.length) := by
  constructor
  · rintro ⟨j, h1, h2, g, u, h3, h4⟩
    have hl : t.length - j = w.length + g.length + u.length := by
      have := congrArg List.length h3
      rwa [List.length_drop, List.length_append, List.length_append] at this
    refine ⟨j, h1, ⟨by omega, ?_⟩, j + w.length + g.length, by omega, by omega, ?_⟩
    · rw [h3, List.append_assoc, List.take_left']; rfl
    · have : t.drop (j + w.length + g.length) = u := by
        rw [Nat.add_assoc, ← List.drop_drop, h3, ← List.length_append, List.drop_left']; rfl
      rw [this]; exact h4
  · rintro ⟨k, h1, ⟨h2, h3⟩, j, h4, h5, h6⟩
    refine ⟨k, h1, by omega, (t.drop (k + w.length)).take (j - (k + w.length)), t.drop j, ?_, h6⟩
    have e1 : t.drop k = w ++ t.drop (k + w.length) := by
      have := List.take_append_drop w.length (t.drop k)
      rw [h3, List.drop_drop] at this
      exact this.symm
    have e2 : t.drop (k + w.length) = (t.drop (k + w.length)).take (j - (k + w.length)) ++ t.drop j := by
      have := List.take_append_drop (j - (k + w.length)) (t.drop (k + w.length))
      rw [List.drop_drop, show k + w.length + (j - (k + w.length)) = j by omega] at this
      exact this.symm
    rw [e1, List.append_assoc, ← e2]
theorem gap_fits {t pk : List Nat} : ∀ (ms : List (List Nat)) (s : Nat), GapMat t (ms ++ [pk]) s ↔ pk.length ≤ t.length ∧ t.drop (t.length - pk.length) = pk ∧ Fits t (t.length - pk.length) ms s
  | [], s => by
    rw [List.nil_append, gap_last]
    show _ ↔ _ ∧ _ ∧ s ≤ _
    constructor
    · rintro ⟨a, b⟩; exact ⟨by omega, b, by omega⟩
    · rintro ⟨a, b, c⟩; exact ⟨by omega, b⟩
  | w :: ms, s => by
    obtain ⟨q, r, e⟩ : ∃ q r, ms ++ [pk] = q :: r := by
      cases ms with
      | nil => exact ⟨_, _, rfl⟩
      | cons a b => exact ⟨_, _, rfl⟩
    rw [List.cons_append, e, gap_cons, ← e]
    simp only [gap_fits ms]
    constructor
    · rintro ⟨k, h1, ⟨h2, h3⟩, h4, h5, h6⟩
      exact ⟨h4, h5, k, h1, ⟨h6.le, h3⟩, h6⟩
    · rintro ⟨h4, h5, k, h1, ⟨h2, h3⟩, h6⟩
      exact ⟨k, h1, ⟨by omega, h3⟩, h4, h5, h6⟩
theorem mat_fits {t p0 pk : List Nat} (ms : List (List Nat)) : Mat (p0 :: (ms ++ [pk])) t ↔ t.take p0.length = p0 ∧ pk.length ≤ t.length ∧ t.drop (t.length - pk.length) = pk ∧ Fits t (t.length - pk.length) ms p0.length := by
  obtain ⟨q, r, e⟩ : ∃ q r, ms ++ [pk] = q :: r := by
    cases ms with
    | nil => exact ⟨_, _, rfl⟩
    | cons a b => exact ⟨_, _, rfl⟩
  have key : Mat (p0 :: (ms ++ [pk])) t ↔ t.take p0.length = p0 ∧ GapMat t (ms ++ [pk]) p0.length := by
    rw [e]
    constructor
    · rintro ⟨g, u, rfl, h⟩
      refine ⟨by rw [List.append_assoc, List.take_left']; rfl, p0.length + g.length, by omega, by simp, ?_⟩
      rw [← List.length_append, List.drop_left']
      · exact h
      · rfl
    · rintro ⟨h1, j, h2, h3, h4⟩
      refine ⟨(t.drop p0.length).take (j - p0.length), t.drop j, ?_, h4⟩
      have e1 := List.take_append_drop p0.length t
      have e2 := List.take_append_drop (j - p0.length) (t.drop p0.length)
      rw [List.drop_drop, show p0.length + (j - p0.length) = j by omega] at e2
      rw [h1] at e1
      rw [List.append_assoc, e2, e1]
  rw [key, gap_fits]
end Mine
end -- M5

section -- L1
open PySem PySem.W PyProof.Rows PySem.Calls
set_option maxRecDepth 100000
set_option linter.unusedSectionVars false
set_option linter.unusedVariables false
namespace Mine

/-! pure data, and how a value reads as it -/
inductive PD where
  | none
  | bool (b : Bool)
  | int (i : Int)
  | str (x : Str)
  | list (ds : List PD)
  | tup (ds : List PD)
  | dict (es : List (Int × PD))
  | raw (v : Value)

noncomputable abbrev Rdr := Addr → Option Obj
noncomputable abbrev lstO (vs : Array Value) (n : Nat) : Obj := { cls := .type "list", dict := none, data := .seq vs n, slots := #[] }
noncomputable abbrev tupO (vs : Array Value) (n : Nat) : Obj := { cls := .type "tuple", dict := none, data := .seq vs n, slots := #[] }
noncomputable abbrev dctO (es : Array DictEntry) (n : Nat) : Obj := { cls := .type "dict", dict := none, data := .dict es n, slots := #[] }

mutual
inductive Rd (G : Rdr) : PD → Value → Prop
  | none : Rd G .none .none
  | bool (b : Bool) : Rd G (.bool b) (.bool b)
  | int (i : Int) (t : Tok) : Rd G (.int i) (.int i t)
  | str (x : Str) (t : Tok) : Rd G (.str x) (.str x t)
  | raw (v : Value) : Rd G (.raw v) v
  | list {a : Addr} {vs : Array Value} {n : Nat} {ds : List PD} : G a = some (lstO vs n) → RdL G ds vs.toList → Rd G (.list ds) (.ref a)
  | tup {a : Addr} {vs : Array Value} {n : Nat} {ds : List PD} : G a = some (tupO vs n) → RdL G ds vs.toList → Rd G (.tup ds) (.ref a)
  | dict {a : Addr} {es : Array DictEntry} {n : Nat} {ps : List (Int × PD)} : G a = some (dctO es n) → RdE G ps es.toList → (ps.map (·.1)).Nodup → Rd G (.dict ps) (.ref a)
inductive RdL (G : Rdr) : List PD → List Value → Prop
  | nil : RdL G [] []
  | cons {d : PD} {v : Value} {ds : List PD} {vs : List Value} : Rd G d v → RdL G ds vs → RdL G (d :: ds) (v :: vs)
inductive RdE (G : Rdr) : List (Int × PD) → List DictEntry → Prop
  | nil : RdE G [] []
  | cons {k : Int} {t : Tok} {d : PD} {v : Value} {ps : List (Int × PD)} {es : List DictEntry} : Rd G d v → RdE G ps es → RdE G ((k, d) :: ps) (⟨hashInt k, .int k t, v⟩ :: es)
end

noncomputable def Sub (G G' : Rdr) : Prop := ∀ a o, G a = some o → G' a = some o
theorem Sub.refl (G : Rdr) : Sub G G := fun _ _ e => e
theorem Sub.trans {G G' G'' : Rdr} (x : Sub G G') (y : Sub G' G'') : Sub G G'' := fun a o e => y a o (x a o e)

section
variable {G G' : Rdr} (hs : Sub G G')
include hs
mutual
theorem Rd.mono : ∀ {d : PD} {v : Value}, Rd G d v → Rd G' d v
  | _, _, .none => .none
  | _, _, .bool b => .bool b
  | _, _, .int i t => .int i t
  | _, _, .str x t => .str x t
  | _, _, .raw v => .raw v
  | _, _, .list e l => .list (hs _ _ e) (RdL.mono l)
  | _, _, .tup e l => .tup (hs _ _ e) (RdL.mono l)
  | _, _, .dict e l n => .dict (hs _ _ e) (RdE.mono l) n
theorem RdL.mono : ∀ {ds : List PD} {vs : List Value}, RdL G ds vs → RdL G' ds vs
  | _, _, .nil => .nil
  | _, _, .cons h r => .cons (Rd.mono h) (RdL.mono r)
theorem RdE.mono : ∀ {ds : List (Int × PD)} {vs : List DictEntry}, RdE G ds vs → RdE G' ds vs
  | _, _, .nil => .nil
  | _, _, .cons h r => .cons (Rd.mono h) (RdE.mono r)
end
end

mutual
noncomputable def PD.nd : PD → Bool
  | .dict _ => false
  | .raw _ => false
  | .list ds => PD.ndL ds
  | .tup ds => PD.ndL ds
  | _ => true
noncomputable def PD.ndL : List PD → Bool
  | [] => true
  | d :: r => d.nd && PD.ndL r
end

noncomputable def Rdr.but (G : Rdr) (a : Addr) : Rdr := fun b => if b = a then none else G b
theorem Rdr.but_sub (G : Rdr) (a : Addr) : Sub (G.but a) G := fun b o e => by
  unfold Rdr.but at e; split at e
  · cases e
  · exact e
section
variable {G : Rdr} {a : Addr} (hd : ∀ o, G a = some o → o.cls = .type "dict")
include hd
theorem but_of_seq {b : Addr} {o : Obj} (e : G b = some o) (hc : o.cls = .type "list" ∨ o.cls = .type "tuple") : G.but a b = some o := by
  unfold Rdr.but
  split
  · rename_i h; subst h
    have := hd _ e
    rw [this] at hc
    rcases hc with h | h <;> (injection h with h; exact absurd h (by decide))
  · exact e
mutual
theorem Rd.avoid : ∀ {d : PD} {v : Value}, Rd G d v → d.nd = true → Rd (G.but a) d v
  | _, _, .none, _ => .none
  | _, _, .bool b, _ => .bool b
  | _, _, .int i t, _ => .int i t
  | _, _, .str x t, _ => .str x t
  | _, _, .list e l, h => .list (but_of_seq hd e (.inl rfl)) (RdL.avoid l (by simpa [PD.nd] using h))
  | _, _, .tup e l, h => .tup (but_of_seq hd e (.inr rfl)) (RdL.avoid l (by simpa [PD.nd] using h))
theorem RdL.avoid : ∀ {ds : List PD} {vs : List Value}, RdL G ds vs → PD.ndL ds = true → RdL (G.but a) ds vs
  | _, _, .nil, _ => .nil
  | _, _, .cons h r, e => by
    simp only [PD.ndL, Bool.and_eq_true] at e
    exact .cons (Rd.avoid h e.1) (RdL.avoid r e.2)
end
end

theorem RdL.length {G : Rdr} : ∀ {ds : List PD} {vs : List Value}, RdL G ds vs → vs.length = ds.length
  | _, _, .nil => rfl
  | _, _, .cons _ r => by simp [r.length]
theorem RdL.append {G : Rdr} : ∀ {ds es : List PD} {vs ws : List Value}, RdL G ds vs → RdL G es ws → RdL G (ds ++ es) (vs ++ ws)
  | _, _, _, _, .nil, h => h
  | _, _, _, _, .cons a r, h => .cons a (r.append h)
theorem RdL.get {G : Rdr} : ∀ {ds : List PD} {vs : List Value}, RdL G ds vs → ∀ {i : Nat} {d : PD}, ds[i]? = some d → ∃ v, vs[i]? = some v ∧ Rd G d v
  | _, _, .nil, i, d, e => by simp at e
  | _, _, .cons a r, 0, d, e => by
    simp at e; subst e; exact ⟨_, rfl, a⟩
  | _, _, .cons a r, i + 1, d, e => by
    simp at e
    obtain ⟨v, hv, hd⟩ := r.get e
    exact ⟨v, by simpa using hv, hd⟩
theorem RdL.set {G : Rdr} : ∀ {ds : List PD} {vs : List Value}, RdL G ds vs → ∀ {i : Nat} {d : PD} {v : Value}, Rd G d v → RdL G (ds.set i d) (vs.set i v)
  | _, _, .nil, _, _, _, _ => .nil
  | _, _, .cons _ r, 0, _, _, h => .cons h r
  | _, _, .cons a r, _ + 1, _, _, h => .cons a (r.set h)
theorem RdL.eraseIdx {G : Rdr} : ∀ {ds : List PD} {vs : List Value}, RdL G ds vs → ∀ (i : Nat), RdL G (ds.eraseIdx i) (vs.eraseIdx i)
  | _, _, .nil, _ => .nil
  | _, _, .cons _ r, 0 => r
  | _, _, .cons a r, i + 1 => .cons a (r.eraseIdx i)

theorem Rd.int_inv {G : Rdr} {i : Int} {v : Value} (h : Rd G (.int i) v) : ∃ t, v = .int i t := by cases h; exact ⟨_, rfl⟩
theorem Rd.str_inv {G : Rdr} {x : Str} {v : Value} (h : Rd G (.str x) v) : ∃ t, v = .str x t := by cases h; exact ⟨_, rfl⟩
theorem Rd.bool_inv {G : Rdr} {b : Bool} {v : Value} (h : Rd G (.bool b) v) : v = .bool b := by cases h; rfl
theorem Rd.none_inv {G : Rdr} {v : Value} (h : Rd G .none v) : v = .none := by cases h; rfl
theorem Rd.raw_inv {G : Rdr} {x v : Value} (h : Rd G (.raw x) v) : v = x := by cases h; rfl
theorem Rd.list_inv {G : Rdr} {ds : List PD} {v : Value} (h : Rd G (.list ds) v) : ∃ a vs n, v = .ref a ∧ G a = some (lstO vs n) ∧ RdL G ds vs.toList := by
  cases h with | list e l => exact ⟨_, _, _, rfl, e, l⟩
theorem Rd.tup_inv {G : Rdr} {ds : List PD} {v : Value} (h : Rd G (.tup ds) v) : ∃ a vs n, v = .ref a ∧ G a = some (tupO vs n) ∧ RdL G ds vs.toList := by
  cases h with | tup e l => exact ⟨_, _, _, rfl, e, l⟩
theorem Rd.dict_inv {G : Rdr} {ps : List (Int × PD)} {v : Value} (h : Rd G (.dict ps) v) : ∃ a es n, v = .ref a ∧ G a = some (dctO es n) ∧ RdE G ps es.toList ∧ (ps.map (·.1)).Nodup := by
  cases h with | dict e l n => exact ⟨_, _, _, rfl, e, l, n⟩

noncomputable def PD.scalar : PD → Bool
  | .none | .bool _ | .int _ | .str _ => true
  | _ => false
theorem Rd.scalar {G G' : Rdr} {d : PD} {v : Value} (h : Rd G d v) (hs : d.scalar = true) : Rd G' d v := by
  cases h <;> first | (cases hs; done) | constructor

/-! the state of a frame -/
structure Ext where
  h : Addr → Option Obj
  g : Nat → Option GenState
  r : Rdr

inductive Slot where
  | val (d : PD)
  | own (ds : List PD)
  | ownd (es : List (Int × PD))

noncomputable abbrev Rho := List (Str × Slot)

structure GOk (K : Frag) (h : Heap) : Prop where
  kin : K.In h
  lim : h.NoLimit
  g : ∃ mg, h.Ns mainGlobals mg
  b : ∃ mb, h.Ns builtinsNs mb ∧ ∀ x : Str, x ≠ "__name__" → mb x = bootBuiltins x
theorem GOk.keeps {K : Frag} {h h' : Heap} (x : GOk K h) (k : ∀ b o, h.get? b = some o → h'.get? b = some o) : GOk K h' :=
  ⟨x.kin.keeps k, x.lim.keeps k, let ⟨m, e⟩ := x.g; ⟨m, e.keeps k⟩, let ⟨m, e, r⟩ := x.b; ⟨m, e.keeps k, r⟩⟩

structure Cx where
  prog : Program
  w : World
  K : Frag
  A : Around
  env : Env
  os : OsState
  cown : Bool

noncomputable def Cx.fp (C : Cx) (a : Addr) : Prop := a = C.env.locals ∨ C.cown = true ∧ ∃ x, C.env.cells.lookup x = some a

noncomputable def At (env : Env) (h : Heap) (x : Str) (v : Value) : Prop :=
  (env.kindOf x = some .local ∧ ∃ m, h.Ns env.locals m ∧ m x = some v) ∨
  ((env.kindOf x = some .cell ∨ env.kindOf x = some .free) ∧ ∃ c, env.cells.lookup x = some c ∧ h.IsCell c (some v))

noncomputable def SlotRd (G : Rdr) (h : Heap) (a : Addr) : Slot → Value → Prop
  | .val d, v => Rd G d v
  | .own ds, v => v = .ref a ∧ ∃ vs n, h.get? a = some (lstO vs n) ∧ RdL G ds vs.toList
  | .ownd ps, v => v = .ref a ∧ ∃ es n, h.get? a = some (dctO es n) ∧ RdE G ps es.toList ∧ (ps.map (·.1)).Nodup

noncomputable def Slot.owned : Slot → Bool
  | .val _ => false
  | _ => true
noncomputable def IsOwn (ρ : Rho) (x : Str) : Prop := ∃ sl, ρ.lookup x = some sl ∧ sl.owned = true

structure St (C : Cx) (X : Ext) (ρ : Rho) (s : Shared) (G : Rdr) (ow : Str → Addr) : Prop where
  keep : ∀ a o, X.h a = some o → s.heap.get? a = some o
  keepg : ∀ i y, X.g i = some y → s.gens[i]? = some y
  bare : AllBare s.gens
  os : s.os = C.os
  ok : ∃ hB : Heap, GOk C.K hB ∧ ∀ a o, hB.get? a = some o → X.h a = some o
  rd : ∀ a o, G a = some o → s.heap.get? a = some o
  g0 : Sub X.r G
  new : ∀ a o, G a = some o → X.r a = some o ∨ X.h a = none
  fp : ∀ a, C.fp a → G a = none ∧ X.h a = none
  ns : ∃ m, s.heap.Ns C.env.locals m
  cell : ∀ x c, C.env.cells.lookup x = some c → ∃ v, s.heap.IsCell c v
  cellG : C.cown = false → ∀ x c, C.env.cells.lookup x = some c → ∃ o, G c = some o
  loc : ∀ x sl, ρ.lookup x = some sl → ∃ v, At C.env s.heap x v ∧ SlotRd G s.heap (ow x) sl v
  own : ∀ x, IsOwn ρ x → G (ow x) = none ∧ X.h (ow x) = none ∧ ¬ C.fp (ow x)
  apart : ∀ x y, IsOwn ρ x → IsOwn ρ y → ow x = ow y → x = y

structure PureStep (s s' : Shared) : Prop where
  heap : ∀ a o, s.heap.get? a = some o → s'.heap.get? a = some o
  gens : ∀ (i : Nat) (y : GenState), s.gens[i]? = some y → s'.gens[i]? = some y
  bare : AllBare s.gens → AllBare s'.gens
  os : s'.os = s.os
theorem PureStep.refl (s : Shared) : PureStep s s := ⟨fun _ _ e => e, fun _ _ e => e, fun e => e, rfl⟩
theorem PureStep.trans {s s' s'' : Shared} (x : PureStep s s') (y : PureStep s' s'') : PureStep s s'' :=
  ⟨fun a o e => y.heap a o (x.heap a o e), fun i z e => y.gens i z (x.gens i z e), fun e => y.bare (x.bare e), y.os.trans x.os⟩
theorem PureStep.toks (s : Shared) (t : Nat) : PureStep s { s with toks := t } := ⟨fun _ _ e => e, fun _ _ e => e, fun e => e, rfl⟩
theorem PureStep.of_heap {s : Shared} {h' : Heap} {t : Nat} (k : ∀ a o, s.heap.get? a = some o → h'.get? a = some o) : PureStep s { s with heap := h', toks := t } :=
  ⟨k, fun _ _ e => e, fun e => e, rfl⟩
theorem PureStep.push (s : Shared) (o : Obj) (t : Nat) : PureStep s { s with heap := s.heap.push o, toks := t } := .of_heap fun _ _ e => Heap.get?_push_of_some o e

structure GExt (s : Shared) (G G' : Rdr) (s' : Shared) : Prop where
  sub : Sub G G'
  new : ∀ a o, G' a = some o → G a = some o ∨ s.heap.get? a = none
  rd : ∀ a o, G' a = some o → s'.heap.get? a = some o
theorem GExt.same {s s' : Shared} {G : Rdr} (h : ∀ a o, G a = some o → s'.heap.get? a = some o) : GExt s G G s' := ⟨.refl G, fun _ _ e => .inl e, h⟩
theorem GExt.trans {s s' s'' : Shared} {G G' G'' : Rdr} (p : PureStep s s') (x : GExt s G G' s') (y : GExt s' G' G'' s'') : GExt s G G'' s'' :=
  { sub := x.sub.trans y.sub
    new := fun a o e => by
      rcases y.new a o e with h | h
      · exact x.new a o h
      · right
        cases q : s.heap.get? a with
        | none => rfl
        | some o' => rw [p.heap a o' q] at h; cases h
    rd := y.rd }

noncomputable def Res (s : Shared) (G : Rdr) (d : PD) (v : Value) (s' : Shared) : Prop := PureStep s s' ∧ ∃ G', GExt s G G' s' ∧ Rd G' d v

/-- a new object is put into the readable part -/
noncomputable def Rdr.put (G : Rdr) (a : Addr) (o : Obj) : Rdr := fun b => if b = a then some o else G b
theorem Rdr.put_self (G : Rdr) (a : Addr) (o : Obj) : G.put a o a = some o := by simp [Rdr.put]
theorem Rdr.put_sub {G : Rdr} {a : Addr} {o : Obj} (h : G a = none) : Sub G (G.put a o) := fun b x e => by
  unfold Rdr.put; split
  · rename_i q; subst q; rw [h] at e; cases e
  · exact e
theorem get_size (h : Heap) : h.get? h.objs.size = none := by
  cases q : h.get? h.objs.size with
  | none => rfl
  | some o => exact absurd (Heap.lt_size q) (Nat.lt_irrefl _)
theorem GExt.push {s : Shared} {G : Rdr} {o : Obj} {t : Nat} (hG : ∀ a o, G a = some o → s.heap.get? a = some o) (hf : o.isFreed = false) :
    GExt s G (G.put s.heap.objs.size o) { s with heap := s.heap.push o, toks := t } where
  sub := Rdr.put_sub (by
    cases q : G s.heap.objs.size with
    | none => rfl
    | some o => have := hG _ _ q; rw [get_size] at this; cases this)
  new := fun a x e => by
    unfold Rdr.put at e; split at e
    · rename_i q; subst q; exact .inr (get_size _)
    · exact .inl e
  rd := fun a x e => by
    unfold Rdr.put at e; split at e
    · rename_i q; subst q; cases e; exact Heap.get?_push_size _ hf
    · exact Heap.get?_push_of_some _ (hG a x e)

theorem Res.refl {s : Shared} {G : Rdr} {d : PD} {v : Value} (hG : ∀ a o, G a = some o → s.heap.get? a = some o) (h : Rd G d v) : Res s G d v s := ⟨.refl s, G, .same hG, h⟩
theorem Res.toks {s : Shared} {G : Rdr} {d : PD} {v : Value} {t : Nat} (hG : ∀ a o, G a = some o → s.heap.get? a = some o) (h : Rd G d v) : Res s G d v { s with toks := t } := ⟨.toks s t, G, .same hG, h⟩

theorem At.keeps {env : Env} {h h' : Heap} {x : Str} {v : Value} (a : At env h x v) (k : ∀ b o, h.get? b = some o → h'.get? b = some o) : At env h' x v := by
  rcases a with ⟨hk, m, hn, hm⟩ | ⟨hk, c, hc, hv⟩
  · exact .inl ⟨hk, m, hn.keeps k, hm⟩
  · exact .inr ⟨hk, c, hc, hv.keeps k⟩

theorem SlotRd.keeps {G G' : Rdr} {h h' : Heap} {a : Addr} {sl : Slot} {v : Value} (x : SlotRd G h a sl v) (k : ∀ o, h.get? a = some o → h'.get? a = some o) (g : Sub G G') : SlotRd G' h' a sl v := by
  cases sl with
  | val d => exact Rd.mono g x
  | own ds => obtain ⟨e, vs, n, h1, h2⟩ := x; exact ⟨e, vs, n, k _ h1, RdL.mono g h2⟩
  | ownd ps => obtain ⟨e, es, n, h1, h2, h3⟩ := x; exact ⟨e, es, n, k _ h1, RdE.mono g h2, h3⟩

namespace St
variable {C : Cx} {X : Ext} {ρ : Rho} {s s' : Shared} {G G' : Rdr} {ow : Str → Addr}

theorem gok (S : St C X ρ s G ow) : GOk C.K s.heap := let ⟨_, h, k⟩ := S.ok; h.keeps fun a o e => S.keep a o (k a o e)

theorem grow (S : St C X ρ s G ow) (p : PureStep s s') (g : GExt s G G' s') : St C X ρ s' G' ow where
  keep := fun a o e => p.heap a o (S.keep a o e)
  keepg := fun i y e => p.gens i y (S.keepg i y e)
  bare := p.bare S.bare
  os := p.os.trans S.os
  ok := S.ok
  rd := g.rd
  g0 := S.g0.trans g.sub
  new := fun a o e => by
    rcases g.new a o e with h | h
    · exact S.new a o h
    · right
      cases q : X.h a with
      | none => rfl
      | some o' => rw [S.keep a o' q] at h; cases h
  fp := fun a ha => by
    refine ⟨?_, (S.fp a ha).2⟩
    cases q : G' a with
    | none => rfl
    | some o =>
      rcases g.new a o q with h | h
      · rw [(S.fp a ha).1] at h; cases h
      · rcases ha with rfl | ⟨_, x, hx⟩
        · obtain ⟨m, o', _, _, e, _⟩ := S.ns; rw [e] at h; cases h
        · obtain ⟨v, o', e, _⟩ := S.cell x a hx; rw [e] at h; cases h
  ns := let ⟨m, h⟩ := S.ns; ⟨m, h.keeps p.heap⟩
  cell := fun x c hc => let ⟨v, h⟩ := S.cell x c hc; ⟨v, h.keeps p.heap⟩
  cellG := fun ho x c hc => let ⟨o, h⟩ := S.cellG ho x c hc; ⟨o, g.sub _ _ h⟩
  loc := fun x sl e => let ⟨v, h1, h2⟩ := S.loc x sl e; ⟨v, h1.keeps p.heap, h2.keeps (p.heap _) g.sub⟩
  own := fun x hx => by
    obtain ⟨h1, h2, h3⟩ := S.own x hx
    refine ⟨?_, h2, h3⟩
    cases q : G' (ow x) with
    | none => rfl
    | some o =>
      rcases g.new _ o q with h | h
      · rw [h1] at h; cases h
      · obtain ⟨sl, hl, ho⟩ := hx
        obtain ⟨v, _, hr⟩ := S.loc x sl hl
        cases sl with
        | val d => cases ho
        | own ds => obtain ⟨_, vs, n, e, _⟩ := hr; rw [e] at h; cases h
        | ownd ps => obtain ⟨_, vs, n, e, _⟩ := hr; rw [e] at h; cases h
  apart := S.apart

theorem res {d : PD} {v : Value} (S : St C X ρ s G ow) (r : Res s G d v s') : ∃ G', St C X ρ s' G' ow ∧ Sub G G' ∧ Rd G' d v :=
  let ⟨p, G', g, h⟩ := r; ⟨G', S.grow p g, g.sub, h⟩

theorem weaken {ρ' : Rho} (S : St C X ρ s G ow) (h : ∀ x sl, ρ'.lookup x = some sl → ρ.lookup x = some sl) : St C X ρ' s G ow :=
  { S with
    loc := fun x sl e => S.loc x sl (h x sl e)
    own := fun x ⟨sl, e, o⟩ => S.own x ⟨sl, h x sl e, o⟩
    apart := fun x y ⟨sl, e, o⟩ ⟨sl', e', o'⟩ => S.apart x y ⟨sl, h x sl e, o⟩ ⟨sl', h y sl' e', o'⟩ }
end St
end Mine
end -- L1

section -- L2
open PySem PySem.W PyProof.Rows PySem.Calls
set_option maxRecDepth 100000
set_option linter.unusedSectionVars false
set_option linter.unusedVariables false
namespace Mine

theorem Res.trans {s s1 s' : Shared} {G G1 : Rdr} {d : PD} {v : Value} (p : PureStep s s1) (x : GExt s G G1 s1) (r : Res s1 G1 d v s') : Res s G d v s' :=
  let ⟨p', G', x', h⟩ := r; ⟨p.trans p', G', x.trans p x', h⟩

noncomputable abbrev NoE : Value → Shared → Prop := fun _ _ => False
noncomputable abbrev Cx.M (C : Cx) : Model := model C.prog C.w

structure COk (C : Cx) (n : Nat) : Prop where
  fn : C.env.scope.kind = .function
  hnd : C.A.handled = none
  globals : C.env.globals = mainGlobals
  builtins : C.env.builtins = builtinsNs
  depth : C.A.depth + n < 900
  units : C.A.units + 20 * n < 9000
  cellL : ∀ x c, C.env.cells.lookup x = some c → c ≠ C.env.locals
  cellI : ∀ x y c, C.env.cells.lookup x = some c → C.env.cells.lookup y = some c → x = y

/-- an expression gives d -/
noncomputable def EV (C : Cx) (ρ : Rho) (e : Expr) (d : PD) : Prop :=
  ∀ ⦃X : Ext⦄ (s : Shared) (G : Rdr) (ow : Str → Addr), St C X ρ s G ow → wpAny C.M C.A (eval e C.env) (fun v s' => Res s G d v s') NoE s
/-- a test gives b -/
noncomputable def ET (C : Cx) (ρ : Rho) (e : Expr) (b : Bool) : Prop :=
  ∀ ⦃X : Ext⦄ (s : Shared) (G : Rdr) (ow : Str → Addr), St C X ρ s G ow → wpAny C.M C.A (PySem.isTrue e C.env (eval e C.env)) (fun c s' => c = b ∧ PureStep s s') NoE s
noncomputable def ResL (s : Shared) (G : Rdr) (ds : List PD) (vs : List Value) (s' : Shared) : Prop := PureStep s s' ∧ ∃ G', GExt s G G' s' ∧ RdL G' ds vs
/-- several expressions, one behind the other -/
noncomputable def EVs (C : Cx) (ρ : Rho) (es : List Expr) (ds : List PD) : Prop :=
  (∀ pos, (backTo pos (starEach es C.env)).any (·.1) = false) ∧ ∀ (pos : Pos) ⦃X : Ext⦄ (s : Shared) (G : Rdr) (ow : Str → Addr), St C X ρ s G ow →
    wpAny C.M C.A (spliced (backTo pos (starEach es C.env))) (fun vs s' => ResL s G ds vs s') NoE s

structure VOk (C : Cx) (s : Shared) (G : Rdr) : Prop where
  rd : ∀ a o, G a = some o → s.heap.get? a = some o
  gok : GOk C.K s.heap
theorem St.vok {C : Cx} {X : Ext} {ρ : Rho} {s : Shared} {G : Rdr} {ow : Str → Addr} (S : St C X ρ s G ow) : VOk C s G := ⟨S.rd, S.gok⟩

/-- an operation of two values -/
noncomputable def OP2 (C : Cx) (f : Value → Value → Sem Value) (d₁ d₂ d : PD) : Prop :=
  ∀ (A : Around) (s : Shared) (G : Rdr) (v₁ v₂ : Value), VOk C s G → Rd G d₁ v₁ → Rd G d₂ v₂ → wpAny C.M A (f v₁ v₂) (fun v s' => Res s G d v s') NoE s
/-- truth of a value -/
noncomputable def TR (C : Cx) (d : PD) (b : Bool) : Prop :=
  ∀ (A : Around) (s : Shared) (G : Rdr) (v : Value), VOk C s G → Rd G d v → wpAny C.M A (truthy v) (fun c s' => c = b ∧ PureStep s s') NoE s
/-- a call of a value -/
noncomputable def CL (C : Cx) (f : Value) (ds : List PD) (d : PD) : Prop :=
  ∀ (s : Shared) (G : Rdr) (vs : List Value), VOk C s G → RdL G ds vs → AllBare s.gens → wpAny C.M C.A (call f vs) (fun v s' => Res s G d v s') NoE s


section
variable {C : Cx} {n : Nat} {ρ : Rho} {s : Shared} {G : Rdr}

theorem ev_int (i : Int) (k : Nat) (pos : Pos) : EV C ρ (.Constant (.int i) k pos) (.int i) := fun X s G ow S =>
  wpAny_Constant_int (Res.toks S.rd (.int _ _))
theorem ev_bool (b : Bool) (k : Nat) (pos : Pos) : EV C ρ (.Constant (.bool b) k pos) (.bool b) := fun X s G ow S =>
  Constant_bool (Res.refl S.rd (.bool _))
theorem ev_none (k : Nat) (pos : Pos) : EV C ρ (.Constant .none k pos) .none := fun X s G ow S =>
  Constant_none (Res.refl S.rd .none)
theorem ev_str (x : Str) (k : Nat) (pos : Pos) : EV C ρ (.Constant (.str x) k pos) (.str x) := fun X s G ow S => by
  show wpAny _ _ (mkText x) _ _ s
  exact wpAny_mkText (Res.toks S.rd (.str _ _))

theorem ev_name (hC : COk C n) {x : Str} {pos : Pos} {d : PD} (hρ : ρ.lookup x = some (.val d)) (hd : (x == ("__debug__" : Str)) = false := by decide)
    (hc : (x == ("__classdict__" : Str)) = false := by decide) : EV C ρ (.Name x pos) d := fun X s G ow S => by
  obtain ⟨v, hv, hr⟩ := S.loc x _ hρ
  have fin : Res s G d v s := Res.refl S.rd hr
  rcases hv with ⟨hk, m, hn, hm⟩ | ⟨hk, c, hcl, hcv⟩
  · exact wpAny_Name (wpAny_loadName_local hC.fn hk hn hm fin) hd
  · rcases hk with hk | hk
    · exact wpAny_Name (wpAny_loadName_cell hC.fn hk hcl hcv fin) hd
    · exact wpAny_Name (wpAny_loadName_free hC.fn hk hcl hcv fin hc) hd

theorem ev_glob (hC : COk C n) {x : Str} {pos : Pos} {v : Value} (hx : C.env.kindOf x = some .globalImplicit) (e : nsIn C.K mainGlobals x = some (some v))
    (hd : (x == ("__debug__" : Str)) = false := by decide) : EV C ρ (.Name x pos) (.raw v) := fun X s G ow S => by
  obtain ⟨mg, hg⟩ := S.gok.g
  exact Name_function_global hC.fn hx (loadGlobal_global (hC.globals ▸ hg) (mg_of S.gok.kin hg e) (Res.refl S.rd (.raw v))) hd
theorem ev_builtin (hC : COk C n) {x : Str} {pos : Pos} {v : Value} (hx : C.env.kindOf x = some .globalImplicit) (e : nsIn C.K mainGlobals x = some none) (hv : bootBuiltins x = some v)
    (hn : x ≠ "__name__") (hd : (x == ("__debug__" : Str)) = false := by decide) : EV C ρ (.Name x pos) (.raw v) := fun X s G ow S => by
  obtain ⟨mg, hg⟩ := S.gok.g
  obtain ⟨mb, hb, hb'⟩ := S.gok.b
  exact Name_function_global hC.fn hx (loadGlobal_builtin (hC.globals ▸ hg) (mg_none_of S.gok.kin hg e) (hC.builtins ▸ hb) ((hb' x hn).trans hv) (Res.refl S.rd (.raw v))) hd

theorem ev_binop {l r : Expr} {op : Operator} {pos : Pos} {d₁ d₂ d : PD} (hl : EV C ρ l d₁) (hr : EV C ρ r d₂) (ho : OP2 C (binaryOp op) d₁ d₂ d) : EV C ρ (.BinOp l op r pos) d := fun X s G ow S => by
  refine wpAny_BinOp (wpAny_mono (hl s G ow S) (fun v₁ s₁ r₁ => ?_) fun _ _ f => f.elim)
  obtain ⟨p₁, G₁, x₁, e₁⟩ := r₁
  have S₁ := S.grow p₁ x₁
  refine wpAny_mono (hr s₁ G₁ ow S₁) (fun v₂ s₂ r₂ => ?_) fun _ _ f => f.elim
  obtain ⟨p₂, G₂, x₂, e₂⟩ := r₂
  have S₂ := S₁.grow p₂ x₂
  exact wpAny_mono (ho _ s₂ G₂ v₁ v₂ S₂.vok (e₁.mono x₂.sub) e₂) (fun v s' r => .trans p₁ x₁ (.trans p₂ x₂ r)) fun _ _ f => f.elim
theorem ev_cmp {l r : Expr} {op : CmpOp} {pos : Pos} {d₁ d₂ d : PD} (hl : EV C ρ l d₁) (hr : EV C ρ r d₂) (ho : OP2 C (compareOp op) d₁ d₂ d) (hm : behindInMarks op r = false := by with_unfolding_all rfl) :
    EV C ρ (.Compare l [op] [r] pos) d := fun X s G ow S => by
  refine wpAny_Compare1 (wpAny_mono (hl s G ow S) (fun v₁ s₁ r₁ => ?_) fun _ _ f => f.elim) hm
  obtain ⟨p₁, G₁, x₁, e₁⟩ := r₁
  have S₁ := S.grow p₁ x₁
  refine wpAny_mono (hr s₁ G₁ ow S₁) (fun v₂ s₂ r₂ => ?_) fun _ _ f => f.elim
  obtain ⟨p₂, G₂, x₂, e₂⟩ := r₂
  have S₂ := S₁.grow p₂ x₂
  exact wpAny_mono (ho _ s₂ G₂ v₁ v₂ S₂.vok (e₁.mono x₂.sub) e₂) (fun v s' r => .trans p₁ x₁ (.trans p₂ x₂ r)) fun _ _ f => f.elim

theorem et_cmp {l r : Expr} {op : CmpOp} {pos : Pos} {d₁ d₂ : PD} {b : Bool} (hl : EV C ρ l d₁) (hr : EV C ρ r d₂) (ho : OP2 C (compareOp op) d₁ d₂ (.bool b)) (hm : behindInMarks op r = false := by with_unfolding_all rfl) :
    ET C ρ (.Compare l [op] [r] pos) b := fun X s G ow S => by
  refine wpAny_isTrue_Compare1 (wpAny_mono (hl s G ow S) (fun v₁ s₁ r₁ => ?_) fun _ _ f => f.elim) hm
  obtain ⟨p₁, G₁, x₁, e₁⟩ := r₁
  have S₁ := S.grow p₁ x₁
  refine wpAny_mono (hr s₁ G₁ ow S₁) (fun v₂ s₂ r₂ => ?_) fun _ _ f => f.elim
  obtain ⟨p₂, G₂, x₂, e₂⟩ := r₂
  have S₂ := S₁.grow p₂ x₂
  refine wpAny_mono (ho _ s₂ G₂ v₁ v₂ S₂.vok (e₁.mono x₂.sub) e₂) (fun v s' r => ?_) fun _ _ f => f.elim
  obtain ⟨p₃, G₃, x₃, e₃⟩ := r
  cases e₃.bool_inv
  exact wpAny_truthy_bool ⟨rfl, p₁.trans (p₂.trans p₃)⟩

theorem et_plain {e : Expr} {d : PD} {b : Bool} (he : EV C ρ e d) (ht : TR C d b)
    (hp : PySem.isTrue e C.env (eval e C.env) = (do let v ← eval e C.env; standAt e.pos; holding [v] (truthy v)) := by rfl) : ET C ρ e b := fun X s G ow S => by
  refine isTrue_plain (wpAny_mono (he s G ow S) (fun v s₁ r₁ => ?_) fun _ _ f => f.elim) hp
  obtain ⟨p₁, G₁, x₁, e₁⟩ := r₁
  exact wpAny_mono (ht _ s₁ G₁ v (S.grow p₁ x₁).vok e₁) (fun c s' h => ⟨h.1, p₁.trans h.2⟩) fun _ _ f => f.elim

theorem et_not {e : Expr} {b : Bool} {pos : Pos} (h : ET C ρ e b) : ET C ρ (.UnaryOp .Not e pos) (!b) := fun X s G ow S =>
  isTrue_not (wpAny_mono (h s G ow S) (fun c s' h => ⟨by rw [h.1], h.2⟩) fun _ _ f => f.elim)
theorem et_and {x y : Expr} {b c : Bool} {pos : Pos} (h1 : ET C ρ x b) (h2 : b = true → ET C ρ y c) : ET C ρ (.BoolOp .And [x, y] pos) (b && c) := fun X s G ow S => by
  refine isTrue_and (wpAny_mono (h1 s G ow S) (fun c' s' h => ?_) fun _ _ f => f.elim)
  obtain ⟨rfl, p⟩ := h
  cases c' with
  | false => rw [if_neg Bool.false_ne_true]; exact ⟨rfl, p⟩
  | true =>
    rw [if_pos rfl]
    refine isTrue_and (wpAny_mono (h2 rfl s' G ow (S.grow p (.same fun a o e => p.heap a o (S.rd a o e)))) (fun c' s'' h => ?_) fun _ _ f => f.elim)
    obtain ⟨rfl, p'⟩ := h
    cases c' with
    | false => rw [if_neg Bool.false_ne_true]; exact ⟨rfl, p.trans p'⟩
    | true => rw [if_pos rfl]; exact isTrue_and_nil ⟨rfl, p.trans p'⟩
theorem et_or {x y : Expr} {b c : Bool} {pos : Pos} (h1 : ET C ρ x b) (h2 : b = false → ET C ρ y c) : ET C ρ (.BoolOp .Or [x, y] pos) (b || c) := fun X s G ow S => by
  refine isTrue_or (wpAny_mono (h1 s G ow S) (fun c' s' h => ?_) fun _ _ f => f.elim)
  obtain ⟨rfl, p⟩ := h
  cases c' with
  | true => rw [if_pos rfl]; exact ⟨rfl, p⟩
  | false =>
    rw [if_neg Bool.false_ne_true]
    refine isTrue_or (wpAny_mono (h2 rfl s' G ow (S.grow p (.same fun a o e => p.heap a o (S.rd a o e)))) (fun c' s'' h => ?_) fun _ _ f => f.elim)
    obtain ⟨rfl, p'⟩ := h
    cases c' with
    | true => rw [if_pos rfl]; exact ⟨rfl, p.trans p'⟩
    | false => rw [if_neg Bool.false_ne_true]; exact isTrue_or_nil ⟨rfl, p.trans p'⟩

/-- «a and b» of two bools, as a value -/
theorem ev_and {x y : Expr} {b c : Bool} {pos : Pos} (h1 : EV C ρ x (.bool b)) (h2 : b = true → EV C ρ y (.bool c)) : EV C ρ (.BoolOp .And [x, y] pos) (.bool (b && c)) := fun X s G ow S => by
  refine BoolOp_and (wpAny_mono (h1 s G ow S) (fun v s' r => ?_) fun _ _ f => f.elim)
  obtain ⟨p, G₁, x₁, e₁⟩ := r
  cases e₁.bool_inv
  refine wpAny_truthy_bool ?_
  cases b with
  | false => rw [if_neg Bool.false_ne_true]; exact ⟨p, G₁, x₁, .bool _⟩
  | true =>
    rw [if_pos rfl]
    exact BoolOp_one (wpAny_mono (h2 rfl s' G₁ ow (S.grow p x₁)) (fun v s'' r => .trans p x₁ r) fun _ _ f => f.elim)

theorem evs_nil : EVs C ρ [] [] := ⟨fun _ => rfl, fun pos X s G ow S => spliced_nil ⟨.refl s, G, .same S.rd, .nil⟩⟩
theorem evs_cons {e : Expr} {es : List Expr} {d : PD} {ds : List PD} (he : EV C ρ e d) (hes : EVs C ρ es ds)
    (h : starEach (e :: es) C.env = (false, eval e C.env) :: starEach es C.env := by rfl) : EVs C ρ (e :: es) (d :: ds) := by
  refine ⟨fun pos => by rw [h]; exact (Bool.false_or _).trans (hes.1 pos), fun pos X s G ow S => ?_⟩
  rw [h]
  show wpAny _ _ (spliced ((false, eval e C.env) :: backTo pos (starEach es C.env))) _ _ s
  refine spliced_cons (wpAny_mono (he s G ow S) (fun v s₁ r₁ => ?_) fun _ _ f => f.elim)
  obtain ⟨p₁, G₁, x₁, e₁⟩ := r₁
  refine wpAny_mono (hes.2 pos s₁ G₁ ow (S.grow p₁ x₁)) (fun vs s₂ r₂ => ?_) fun _ _ f => f.elim
  obtain ⟨p₂, G₂, x₂, e₂⟩ := r₂
  exact ⟨p₁.trans p₂, G₂, x₁.trans p₁ x₂, .cons (e₁.mono x₂.sub) e₂⟩

theorem ev_list {es : List Expr} {ds : List PD} {pos : Pos} (h : EVs C ρ es ds) (hsz : ds.length ≤ sizeLine := by simp only [List.length_cons, List.length_nil]; decide) : EV C ρ (.List es pos) (.list ds) := fun X s G ow S => by
  refine List_ (wpAny_mono (h.2 pos s G ow S) (fun vs s₁ r₁ => ?_) fun _ _ f => f.elim)
  obtain ⟨p₁, G₁, x₁, e₁⟩ := r₁
  have S₁ := S.grow p₁ x₁
  refine wpAny_newList ?_ (by rw [e₁.length]; exact hsz)
  have x₂ := GExt.push (s := s₁) (o := lstO vs.toArray 0) (t := s₁.toks) S₁.rd rfl
  exact ⟨p₁.trans (.push _ _ _), _, x₁.trans p₁ x₂, .list (Rdr.put_self _ _ _) (e₁.mono x₂.sub)⟩
theorem ev_tuple {es : List Expr} {ds : List PD} {k : Nat} {pos : Pos} (h : EVs C ρ es ds) (hsz : ds.length ≤ sizeLine := by simp only [List.length_cons, List.length_nil]; decide) : EV C ρ (.Tuple es k pos) (.tup ds) := fun X s G ow S => by
  refine Tuple_ (wpAny_mono (h.2 pos s G ow S) (fun vs s₁ r₁ => ?_) fun _ _ f => f.elim)
  obtain ⟨p₁, G₁, x₁, e₁⟩ := r₁
  have S₁ := S.grow p₁ x₁
  refine wpAny_newTuple ?_ (by rw [e₁.length]; exact hsz)
  have x₂ := GExt.push (s := s₁) (o := tupO vs.toArray 0) (t := s₁.toks) S₁.rd rfl
  exact ⟨p₁.trans (.push _ _ _), _, x₁.trans p₁ x₂, .tup (Rdr.put_self _ _ _) (e₁.mono x₂.sub)⟩

/-- x[i] -/
theorem ev_sub {value slice : Expr} {pos : Pos} {d₁ d₂ d : PD} (hl : EV C ρ value d₁) (hr : EV C ρ slice d₂) (ho : OP2 C (subscriptTail value slice) d₁ d₂ d) : EV C ρ (.Subscript value slice pos) d := fun X s G ow S => by
  refine Subscript_ (wpAny_mono (hl s G ow S) (fun v₁ s₁ r₁ => ?_) fun _ _ f => f.elim)
  obtain ⟨p₁, G₁, x₁, e₁⟩ := r₁
  have S₁ := S.grow p₁ x₁
  refine wpAny_mono (hr s₁ G₁ ow S₁) (fun v₂ s₂ r₂ => ?_) fun _ _ f => f.elim
  obtain ⟨p₂, G₂, x₂, e₂⟩ := r₂
  have S₂ := S₁.grow p₂ x₂
  exact wpAny_mono (ho _ s₂ G₂ v₁ v₂ S₂.vok (e₁.mono x₂.sub) e₂) (fun v s' r => .trans p₁ x₁ (.trans p₂ x₂ r)) fun _ _ f => f.elim

/-! the operations -/
theorem op_add {a b : Int} : OP2 C (binaryOp .Add) (.int a) (.int b) (.int (a + b)) := fun A s G v₁ v₂ V h1 h2 => by
  obtain ⟨t, rfl⟩ := h1.int_inv; obtain ⟨u, rfl⟩ := h2.int_inv
  exact PyProof.Rows.add_int (Res.toks V.rd (.int _ _))
theorem op_sub {a b : Int} : OP2 C (binaryOp .Sub) (.int a) (.int b) (.int (a - b)) := fun A s G v₁ v₂ V h1 h2 => by
  obtain ⟨t, rfl⟩ := h1.int_inv; obtain ⟨u, rfl⟩ := h2.int_inv
  exact PyProof.Rows.sub_int (Res.toks V.rd (.int _ _))
theorem op_iadd {a b : Int} : OP2 C (inplaceOp .Add) (.int a) (.int b) (.int (a + b)) := fun A s G v₁ v₂ V h1 h2 => by
  obtain ⟨t, rfl⟩ := h1.int_inv; obtain ⟨u, rfl⟩ := h2.int_inv
  exact PyProof.Rows.iadd_int (Res.toks V.rd (.int _ _))
theorem op_isub {a b : Int} : OP2 C (inplaceOp .Sub) (.int a) (.int b) (.int (a - b)) := fun A s G v₁ v₂ V h1 h2 => by
  obtain ⟨t, rfl⟩ := h1.int_inv; obtain ⟨u, rfl⟩ := h2.int_inv
  exact PySem.P.isub_int (Res.toks V.rd (.int _ _))
theorem op_mod {a b : Int} (hb : 0 < b) : OP2 C (binaryOp .Mod) (.int a) (.int b) (.int (a % b)) := fun A s G v₁ v₂ V h1 h2 => by
  obtain ⟨t, rfl⟩ := h1.int_inv; obtain ⟨u, rfl⟩ := h2.int_inv
  refine mod_int' (by omega) ?_
  rw [Int.fmod_eq_emod_of_nonneg _ (Int.le_of_lt hb)]
  exact Res.toks V.rd (.int _ _)
theorem op_div {a b : Int} (hb : 0 < b) (hb2 : b < 1073741824) : OP2 C (binaryOp .FloorDiv) (.int a) (.int b) (.int (a / b)) := fun A s G v₁ v₂ V h1 h2 => by
  obtain ⟨t, rfl⟩ := h1.int_inv; obtain ⟨u, rfl⟩ := h2.int_inv
  refine floordiv_int (by omega) ?_ (.inl (PyProof.noPylong_small (by omega)))
  rw [Int.fdiv_eq_ediv_of_nonneg _ (Int.le_of_lt hb)]
  exact Res.toks V.rd (.int _ _)
theorem op_lt {a b : Int} : OP2 C (compareOp .Lt) (.int a) (.int b) (.bool (decide (a < b))) := fun A s G v₁ v₂ V h1 h2 => by
  obtain ⟨t, rfl⟩ := h1.int_inv; obtain ⟨u, rfl⟩ := h2.int_inv
  exact PySem.P.lt_int (Res.refl V.rd (.bool _))
theorem op_le {a b : Int} : OP2 C (compareOp .LtE) (.int a) (.int b) (.bool (decide (a ≤ b))) := fun A s G v₁ v₂ V h1 h2 => by
  obtain ⟨t, rfl⟩ := h1.int_inv; obtain ⟨u, rfl⟩ := h2.int_inv
  exact PySem.P.le_int (Res.refl V.rd (.bool _))
theorem op_gt {a b : Int} : OP2 C (compareOp .Gt) (.int a) (.int b) (.bool (decide (a > b))) := fun A s G v₁ v₂ V h1 h2 => by
  obtain ⟨t, rfl⟩ := h1.int_inv; obtain ⟨u, rfl⟩ := h2.int_inv
  exact PySem.P.gt_int (Res.refl V.rd (.bool _))
theorem op_ge {a b : Int} : OP2 C (compareOp .GtE) (.int a) (.int b) (.bool (decide (a ≥ b))) := fun A s G v₁ v₂ V h1 h2 => by
  obtain ⟨t, rfl⟩ := h1.int_inv; obtain ⟨u, rfl⟩ := h2.int_inv
  exact PySem.P.ge_int (Res.refl V.rd (.bool _))
theorem op_eq {a b : Int} : OP2 C (compareOp .Eq) (.int a) (.int b) (.bool (a == b)) := fun A s G v₁ v₂ V h1 h2 => by
  obtain ⟨t, rfl⟩ := h1.int_inv; obtain ⟨u, rfl⟩ := h2.int_inv
  exact PyProof.Rows.eq_int (Res.refl V.rd (.bool _))
theorem op_ne {a b : Int} : OP2 C (compareOp .NotEq) (.int a) (.int b) (.bool (a != b)) := fun A s G v₁ v₂ V h1 h2 => by
  obtain ⟨t, rfl⟩ := h1.int_inv; obtain ⟨u, rfl⟩ := h2.int_inv
  exact PyProof.Rows.ne_int (Res.refl V.rd (.bool _))

theorem tr_bool {b : Bool} : TR C (.bool b) b := fun A s G v V h => by cases h.bool_inv; exact wpAny_truthy_bool ⟨rfl, .refl s⟩
theorem tr_int {i : Int} : TR C (.int i) (i != 0) := fun A s G v V h => by
  obtain ⟨t, rfl⟩ := h.int_inv
  exact truthy_int ⟨rfl, .refl s⟩
end
end Mine
end -- L2

section -- L3
open PySem PySem.W PyProof.Rows PySem.Calls
open Builtin Builtin.Str
set_option maxRecDepth 100000
set_option linter.unusedSectionVars false
set_option linter.unusedVariables false
namespace Mine

noncomputable def pInts (l : List Int) : List PD := l.map PD.int
noncomputable def pStrs (l : List Str) : List PD := l.map PD.str

theorem RdL.ints_inv {G : Rdr} : ∀ {is : List Int} {vs : List Value}, RdL G (pInts is) vs → IntsAre vs is
  | [], _, .nil => .nil
  | _ :: _, _, .cons h r => by
    obtain ⟨t, rfl⟩ := h.int_inv
    exact .cons _ t r.ints_inv
noncomputable def strsOf : List Value → List (Str × Tok)
  | .str x t :: r => (x, t) :: strsOf r
  | _ => []
theorem RdL.strs_inv {G : Rdr} : ∀ {ss : List Str} {vs : List Value}, RdL G (pStrs ss) vs → ∃ l, l.map (·.1) = ss ∧ vs = strValues l
  | [], _, .nil => ⟨[], rfl, rfl⟩
  | _ :: _, _, .cons h r => by
    obtain ⟨t, rfl⟩ := h.str_inv
    obtain ⟨l, h1, h2⟩ := r.strs_inv
    exact ⟨(_, t) :: l, by rw [List.map_cons, h1], by rw [h2]; rfl⟩
theorem rdl_strValues {G : Rdr} : ∀ l : List (Str × Tok), RdL G (pStrs (l.map (·.1))) (strValues l)
  | [] => .nil
  | (x, t) :: r => .cons (.str x t) (rdl_strValues r)

section
variable {C : Cx} {ρ : Rho} {s : Shared} {G : Rdr}

noncomputable def noSlice (slice : Expr) : Prop := ∀ o i, subscripted slice false o i = operate [o, i] (getItem o i)

/-- an item of a list -/
theorem op_item {value slice : Expr} {ds : List PD} {i : Int} {d : PD} (h0 : 0 ≤ i) (hd : ds[i.toNat]? = some d) (hfit : i < 2 ^ 63 := by omega) (hs : noSlice slice := by intro _ _; with_unfolding_all rfl) :
    OP2 C (subscriptTail value slice) (.list ds) (.int i) d := fun A s G v₁ v₂ V h1 h2 => by
  obtain ⟨t, rfl⟩ := h2.int_inv
  obtain ⟨a, vs, n, rfl, e, l⟩ := h1.list_inv
  obtain ⟨v, hv, hr⟩ := l.get hd
  have hl : s.heap.IsList a vs := ⟨_, V.rd _ _ e, rfl, n, rfl⟩
  exact tail_any hl.typeIs slot_list_getitem.lookup (wpAny_getItem_list hl h0 hfit (by simpa using hv) (Res.refl V.rd hr)) (hs _ _)
theorem op_itemNeg {value slice : Expr} {ds : List PD} {i : Int} {d : PD} (h0 : i < 0) (h1 : -(ds.length : Int) ≤ i) (hd : ds[(i + ds.length).toNat]? = some d) (hfit : -(2 ^ 63) ≤ i := by decide) (hs : noSlice slice := by intro _ _; with_unfolding_all rfl) :
    OP2 C (subscriptTail value slice) (.list ds) (.int i) d := fun A s G v₁ v₂ V h1' h2 => by
  obtain ⟨t, rfl⟩ := h2.int_inv
  obtain ⟨a, vs, n, rfl, e, l⟩ := h1'.list_inv
  have hlen : vs.size = ds.length := by rw [← l.length]; simp
  obtain ⟨v, hv, hr⟩ := l.get hd
  have hl : s.heap.IsList a vs := ⟨_, V.rd _ _ e, rfl, n, rfl⟩
  exact tail_any hl.typeIs slot_list_getitem.lookup (wpAny_getItem_list_neg hl h0 (by rw [hlen]; exact h1) hfit (by rw [hlen]; simpa using hv) (Res.refl V.rd hr)) (hs _ _)

/-- a sign of a text -/
theorem op_sign {value slice : Expr} {x : Str} {i : Int} {c : Nat} (h0 : 0 ≤ i) (hd : x.cps[i.toNat]? = some c) (hfit : i < 2 ^ 63 := by omega) (hs : noSlice slice := by intro _ _; with_unfolding_all rfl) :
    OP2 C (subscriptTail value slice) (.str x) (.int i) (.str ⟨#[c]⟩) := fun A s G v₁ v₂ V h1 h2 => by
  obtain ⟨t, rfl⟩ := h2.int_inv
  obtain ⟨u, rfl⟩ := h1.str_inv
  have hlt : i.toNat < x.length := (Array.getElem?_eq_some_iff.mp hd).1
  refine tail_any (typeIs_str s x u) F.slot_str_getitem.lookup (PySem.P.getItem_str ?_ ?_ (Res.toks V.rd (.str _ _))) (hs _ _)
  · rw [Bool.or_eq_false_iff, decide_eq_false_iff_not, decide_eq_false_iff_not]
    constructor
    · have : (0 : Int) ≤ 2 ^ 63 := by decide
      omega
    · omega
  · rw [seqIndex_of h0 (by omega)]; exact hd

theorem op_cat {ds es : List PD} (hsz : ds.length + es.length ≤ sizeLine) : OP2 C (binaryOp .Add) (.list ds) (.list es) (.list (ds ++ es)) := fun A s G v₁ v₂ V h1 h2 => by
  obtain ⟨a, vs, n, rfl, e, l⟩ := h1.list_inv
  obtain ⟨b, ws, m, rfl, e', l'⟩ := h2.list_inv
  have hlen : vs.size = ds.length := by rw [← l.length]; simp
  have hlen' : ws.size = es.length := by rw [← l'.length]; simp
  refine PySem.P.add_list (n := n) (n2 := m) (V.rd _ _ e) (V.rd _ _ e') ?_ (by omega)
  have x := GExt.push (s := s) (o := lstO (vs ++ ws) 0) (t := s.toks) V.rd rfl
  exact ⟨.push _ _ _, _, x, .list (Rdr.put_self _ _ _) (by rw [Array.toList_append]; exact (l.mono x.sub).append (l'.mono x.sub))⟩

theorem op_addStr {x y : Str} (hsz : (x ++ y).length ≤ sizeLine) : OP2 C (binaryOp .Add) (.str x) (.str y) (.str (x ++ y)) := fun A s G v₁ v₂ V h1 h2 => by
  obtain ⟨t, rfl⟩ := h1.str_inv; obtain ⟨u, rfl⟩ := h2.str_inv
  refine PySem.P.add_str ?_
  by_cases hx : (x.length == 0) = true
  · rw [if_pos hx]
    have : x ++ y = y := by
      have hx' : x.cps.size = 0 := by simpa [Str.length] using hx
      have hx'' : x.cps = #[] := Array.eq_empty_of_size_eq_zero hx'
      apply Str.ext'; rw [Str.cps_append, hx'']; simp
    rw [this]
    exact Res.refl V.rd (.str _ _)
  · rw [if_neg hx]
    by_cases hy : (y.length == 0) = true
    · rw [if_pos hy]
      have : x ++ y = x := by
        have hy' : y.cps.size = 0 := by simpa [Str.length] using hy
        have hy'' : y.cps = #[] := Array.eq_empty_of_size_eq_zero hy'
        apply Str.ext'; rw [Str.cps_append, hy'']; simp
      rw [this]
      exact Res.refl V.rd (.str _ _)
    · rw [if_neg hy]
      exact ⟨hsz, Res.toks V.rd (.str _ _)⟩

theorem op_eqStr {x y : Str} : OP2 C (compareOp .Eq) (.str x) (.str y) (.bool (x.cps.toList == y.cps.toList)) := fun A s G v₁ v₂ V h1 h2 => by
  obtain ⟨t, rfl⟩ := h1.str_inv; obtain ⟨u, rfl⟩ := h2.str_inv
  exact PySem.P.eq_str (Res.refl V.rd (.bool _))
theorem op_notInStr {x y : Str} : OP2 C (compareOp .NotIn) (.str y) (.str x) (.bool (occurrences x y 0 x.length 1).isEmpty) := fun A s G v₁ v₂ V h1 h2 => by
  obtain ⟨t, rfl⟩ := h1.str_inv; obtain ⟨u, rfl⟩ := h2.str_inv
  refine PySem.P.notIn_str ?_
  rw [Bool.not_not]
  exact Res.refl V.rd (.bool _)

noncomputable def isIntV (i : Int) : Value → Bool
  | .int j _ => j == i
  | _ => false
theorem any_ints {vs : List Value} {is : List Int} (h : IntsAre vs is) (i : Int) : vs.any (isIntV i) = is.contains i := by
  induction h with
  | nil => rfl
  | cons n t _ ih =>
    simp only [List.any_cons, isIntV, ih, List.contains_cons]
    congr 1
    rw [Bool.beq_comm]
theorem eqg_ints {vs : List Value} {is : List Int} (h : IntsAre vs is) (i : Int) (u : Tok) : ∀ y, y ∈ vs → MeetsSeq.EqGives y (.int i u) (isIntV i y) := by
  induction h with
  | nil => intro y hy; cases hy
  | cons n t _ ih =>
    intro y hy
    rcases List.mem_cons.mp hy with rfl | hy
    · exact MeetsSeq.EqGives.int n i t u
    · exact ih y hy
theorem op_in {is : List Int} {i : Int} : OP2 C (compareOp .In) (.int i) (.list (pInts is)) (.bool (is.contains i)) := fun A s G v₁ v₂ V h1 h2 => by
  obtain ⟨t, rfl⟩ := h1.int_inv
  obtain ⟨a, vs, n, rfl, e, l⟩ := h2.list_inv
  have hi := l.ints_inv
  refine SeqRoads2.in_list (n := n) (isIntV i) (fun y hy => eqg_ints hi i t y (Array.mem_toList_iff.mpr hy)) (V.rd _ _ e) ?_
  rw [← Array.any_toList, any_ints hi]
  exact Res.refl V.rd (.bool _)
theorem op_notIn {is : List Int} {i : Int} : OP2 C (compareOp .NotIn) (.int i) (.list (pInts is)) (.bool (!is.contains i)) := fun A s G v₁ v₂ V h1 h2 => by
  obtain ⟨t, rfl⟩ := h1.int_inv
  obtain ⟨a, vs, n, rfl, e, l⟩ := h2.list_inv
  have hi := l.ints_inv
  refine SeqRoads2.notIn_list (n := n) (isIntV i) (fun y hy => eqg_ints hi i t y (Array.mem_toList_iff.mpr hy)) (V.rd _ _ e) ?_
  rw [← Array.any_toList, any_ints hi]
  exact Res.refl V.rd (.bool _)

theorem tr_str {x : Str} (hfit : x.length ≤ sizeLine) : TR C (.str x) (decide (x.length ≠ 0)) := fun A s G v V h => by
  obtain ⟨t, rfl⟩ := h.str_inv
  refine PySem.P.truthy_str (by have := hfit; rw [sizeLine_eq] at this; omega) ⟨?_, .toks s _⟩
  rw [Bool.eq_iff_iff]; simp

/-! slices of texts -/
noncomputable def EVo (C : Cx) (ρ : Rho) (e : Option Expr) (i : Option Int) : Prop := match e, i with
  | none, none => True
  | some e, some i => EV C ρ e (.int i)
  | _, _ => False

theorem evo {e : Option Expr} {i : Option Int} (h : EVo C ρ e i) {X : Ext} {s : Shared} {G : Rdr} {ow : Str → Addr} (S : St C X ρ s G ow) :
    wpAny C.M C.A (evalPart e C.env) (fun v s' => (∃ p : Option (Int × Tok), p.map (·.1) = i ∧ v = partValue p) ∧ PureStep s s') NoE s := by
  match e, i, h with
  | none, none, _ => exact wpAny_pure ⟨⟨none, rfl, rfl⟩, .refl s⟩
  | some e, some i, h =>
    refine wpAny_mono (h s G ow S) (fun v s' r => ?_) fun _ _ f => f
    obtain ⟨p, G', x, hr⟩ := r
    obtain ⟨t, rfl⟩ := hr.int_inv
    exact ⟨⟨some (i, t), rfl, rfl⟩, p⟩

theorem slice_post {x : Str} {t : Tok} {l u : Option (Int × Tok)} {Q : Value → Shared → Prop} {s : Shared} (hsz : x.length ≤ sizeLine)
    (h : ∀ t' k, Q (.str (PySem.Txt.slice x (l.map (·.1)) (u.map (·.1))) t') { s with toks := k }) : (sliceMade x t l u none).post Q s := by
  rcases l with _ | ⟨i, ti⟩ <;> rcases u with _ | ⟨j, tj⟩ <;> exact post_val_or_str ⟨Nat.le_trans (PySem.Txt.slice_le x _ _) hsz, h⟩

theorem ev_slice {value : Expr} {lo hi : Option Expr} {p pos : Pos} {x : Str} {i j : Option Int} (hv : EV C ρ value (.str x)) (hl : EVo C ρ lo i) (hh : EVo C ρ hi j) (hsz : x.length ≤ sizeLine)
    (ht : ∀ o r, letTemporaryGo value o r = pure () := by intro _ _; rfl) :
    EV C ρ (.Subscript value (.Slice lo hi none p) pos) (.str (PySem.Txt.slice x i j)) := fun X s G ow S => by
  refine wpAny_Subscript_str_slice (wpAny_mono (hv s G ow S) (fun v₁ s₁ r₁ => ?_) fun _ _ f => f.elim) ht
  obtain ⟨p₁, G₁, x₁, e₁⟩ := r₁
  obtain ⟨t, rfl⟩ := e₁.str_inv
  have S₁ := S.grow p₁ x₁
  refine wpAny_mono (evo hl S₁) (fun vl s₂ r₂ => ?_) fun _ _ f => f.elim
  obtain ⟨⟨l, rfl, rfl⟩, p₂⟩ := r₂
  have S₂ := S₁.grow p₂ (.same fun a o e => p₂.heap a o (S₁.rd a o e))
  refine wpAny_mono (evo hh S₂) (fun vu s₃ r₃ => ?_) fun _ _ f => f.elim
  obtain ⟨⟨u, rfl, rfl⟩, p₃⟩ := r₃
  have S₃ := S₂.grow p₃ (.same fun a o e => p₃.heap a o (S₂.rd a o e))
  refine ⟨x, t, l, u, rfl, rfl, rfl, slice_post hsz fun t' k => ?_⟩
  refine .trans p₁ x₁ ⟨(p₂.trans p₃).trans (.push _ _ _), G₁, .same fun a o e => Heap.get?_push_of_some _ (S₃.rd a o e), .str _ _⟩

/-! calls of what is built in -/
theorem cl_len_list {ds : List PD} (hsz : ds.length ≤ sizeLine) : CL C (.builtin "len") [.list ds] (.int ds.length) := fun s G vs V h _ => by
  cases h with | cons h r => cases r with | nil =>
  obtain ⟨a, vs, n, rfl, e, l⟩ := h.list_inv
  have hlen : vs.size = ds.length := by rw [← l.length]; simp
  refine call_len_list ⟨_, V.rd _ _ e, rfl, n, rfl⟩ (by rw [hlen]; rw [sizeLine_eq] at hsz; omega) ?_
  rw [hlen]
  exact Res.toks V.rd (.int _ _)
theorem cl_len_str {x : Str} (hsz : x.length ≤ sizeLine) : CL C (.builtin "len") [.str x] (.int x.length) := fun s G vs V h _ => by
  cases h with | cons h r => cases r with | nil =>
  obtain ⟨t, rfl⟩ := h.str_inv
  exact PySem.P.len_str (by rw [sizeLine_eq] at hsz; omega) (Res.toks V.rd (.int _ _))

theorem cl_startswith {x y : Str} : CL C (.builtin "str.startswith") [.str x, .str y] (.bool (PySem.Txt.startswith x y)) := fun s G vs V h _ => by
  cases h with | cons h r => cases r with | cons h' r => cases r with | nil =>
  obtain ⟨t, rfl⟩ := h.str_inv; obtain ⟨u, rfl⟩ := h'.str_inv
  exact SC.startswith (Res.refl V.rd (.bool _))
theorem cl_endswith {x y : Str} : CL C (.builtin "str.endswith") [.str x, .str y] (.bool (PySem.Txt.endswith x y)) := fun s G vs V h _ => by
  cases h with | cons h r => cases r with | cons h' r => cases r with | nil =>
  obtain ⟨t, rfl⟩ := h.str_inv; obtain ⟨u, rfl⟩ := h'.str_inv
  exact SC.endswith (Res.refl V.rd (.bool _))

noncomputable def find4 (x y : Str) (i j : Int) : Int := match occurrences x y (fromIndex x.length i) (min (fromIndex x.length j) x.length) 1 with | k :: _ => (k : Int) | [] => -1
theorem gives_str_find4 (x y : Str) (i j : Int) (t u v w : Tok) : Gives («str.find» ⟨[.str x t, .str y u, .int i v, .int j w], []⟩) (.int (find4 x y i j)) := by
  show Gives (match occurrences x y (fromIndex x.length i) (min (fromIndex x.length j) x.length) 1 with | k :: _ => retInt k | [] => (do rule "str.find.not-found"; retInt (-1))) _
  unfold find4
  cases occurrences x y (fromIndex x.length i) (min (fromIndex x.length j) x.length) 1 with
  | nil => exact .rule (.of_eq rfl)
  | cons k _ => exact .of_eq rfl
theorem cl_find4 {x y : Str} {i j : Int} : CL C (.builtin "str.find") [.str x, .str y, .int i, .int j] (.int (find4 x y i j)) := fun s G vs V h _ => by
  cases h with | cons h r => cases r with | cons h' r => cases r with | cons h₃ r => cases r with | cons h₄ r => cases r with | nil =>
  obtain ⟨t, rfl⟩ := h.str_inv; obtain ⟨u, rfl⟩ := h'.str_inv
  obtain ⟨v, rfl⟩ := h₃.int_inv; obtain ⟨w, rfl⟩ := h₄.int_inv
  exact call_gives F.slot_str_find (typeIs_str _ _ _) F.entry_str_find (F.args_str_find_4 _ _ _ _) (gives_str_find4 x y i j t u v w) (Res.toks V.rd (.int _ _))

theorem cl_split {x y : Str} (hy : (y.length == 0) = false) (hsz : x.length ≤ sizeLine) (hsz2 : (partsBetween x (occurrences x y 0 x.length (x.length + 1)) y.length).length ≤ sizeLine) :
    CL C (.builtin "str.split") [.str x, .str y] (.list (pStrs (PySem.Txt.split x y))) := fun s G vs V h _ => by
  cases h with | cons h r => cases r with | cons h' r => cases r with | nil =>
  obtain ⟨t, rfl⟩ := h.str_inv; obtain ⟨u, rfl⟩ := h'.str_inv
  have fin : ∀ (l : List (Str × Tok)) (k : Nat), l.map (·.1) = PySem.Txt.split x y →
      Res s G (.list (pStrs (PySem.Txt.split x y))) (.ref s.heap.objs.size) { s with heap := s.heap.push { cls := .type "list", data := .seq (strValues l).toArray }, toks := k } := fun l k hl => by
    have x := GExt.push (s := s) (o := lstO (strValues l).toArray 0) (t := k) V.rd rfl
    refine ⟨.push _ _ _, _, x, .list (Rdr.put_self _ _ _) ?_⟩
    rw [← hl]; exact rdl_strValues l
  cases h1 : (decide (x.length < y.length) || decide (strKind x < strKind y))
  · cases hf : (occurrences x y 0 x.length (x.length + 1)).isEmpty
    · refine call_meets F.slot_str_split (typeIs_str _ _ _) F.entry_str_split (F.args_str_split_2 _ _) (meets_str_split_sep x y t u h1 hy hf hsz hsz2) ?_
      show wants _ _ _ { s with toks := _, heap := s.heap.push { cls := .type "list", data := .seq (strsFrom s.toks (partsBetween x (occurrences x y 0 x.length (x.length + 1)) y.length)).toArray } }
      rw [strsFrom_eq]
      exact fin (numbered s.toks _) _ ((numbered_texts _ _).trans ((if_neg (ne_true_of_eq_false h1)).trans (if_neg (ne_true_of_eq_false hf))).symm)
    · exact call_meets F.slot_str_split (typeIs_str _ _ _) F.entry_str_split (F.args_str_split_2 _ _) (meets_str_split_not_found x y t u h1 hy hf)
        (fin [(x, t)] s.toks ((if_neg (ne_true_of_eq_false h1)).trans (if_pos hf)).symm)
  · exact call_meets F.slot_str_split (typeIs_str _ _ _) F.entry_str_split (F.args_str_split_2 _ _) (meets_str_split_cannot_occur x y t u h1)
      (fin [(x, t)] s.toks (if_pos h1).symm)

theorem cl_join {x : Str} {l : List Str} (hok : JoinOk x l = true) : CL C (.builtin "str.join") [.str x, .list (pStrs l)] (.str (PySem.Txt.join x l)) := fun s G vs V h _ => by
  cases h with | cons h r => cases r with | cons h' r => cases r with | nil =>
  obtain ⟨t, rfl⟩ := h.str_inv
  obtain ⟨a, vs, n, rfl, e, hl⟩ := h'.list_inv
  obtain ⟨l', h1, h2⟩ := hl.strs_inv
  refine SC.join (l := l') ⟨_, V.rd _ _ e, rfl, n, ?_⟩ h1 hok fun t' k => Res.toks V.rd (.str _ _)
  rw [← h2]

theorem cl_min (hh : C.A.handled = none) {a b : Int} : CL C (.builtin "min") [.int a, .int b] (.int (min a b)) := fun s G vs V h _ => by
  cases h with | cons h r => cases r with | cons h' r => cases r with | nil =>
  obtain ⟨t, rfl⟩ := h.int_inv; obtain ⟨u, rfl⟩ := h'.int_inv
  refine min_two_ints hh fun h' tk hk => ?_
  have e : min a b = if b < a then b else a := by
    split <;> omega
  rw [e]
  exact ⟨.of_heap hk, G, .same fun a o e => hk a o (V.rd a o e), by split <;> exact .int _ _⟩
theorem cl_isbool {b : Bool} : CL C (.builtin "isinstance") [.bool b, .raw (.type "bool")] (.bool true) := fun s G vs V h _ => by
  cases h with | cons h r => cases r with | cons h' r => cases r with | nil =>
  cases h.bool_inv; cases h'.raw_inv
  exact IsiPair.bool_bool (Res.refl V.rd (.bool _))
end
end Mine
end -- L3

section -- L4
open PySem PySem.W PyProof.Rows PySem.Calls
open Builtin Builtin.Str
set_option maxRecDepth 100000
set_option linter.unusedSectionVars false
set_option linter.unusedVariables false
namespace Mine

theorem evalArgs_of {M : Model} {A : Around} {E : Value → Shared → Prop} {s : Shared} {f : Value} {args : List (Bool × Sem Value)} {Q : Args → Shared → Prop} (hp : args.any (·.1) = false)
    (h : wpAny M A (spliced args) (fun vs s' => Q ⟨vs, []⟩ s') E s) : wpAny M A (evalArgs f true args []) Q E s := by
  match args, hp with
  | [], _ =>
    unfold evalArgs
    show wpAny M A (spliced [] >>= _) Q E s
    refine wpAny_bind (wpAny_mono h (fun vs s' h' => ?_) fun _ _ x => x)
    refine wpAny_bind (wpAny_pure ?_)
    refine wpAny_holding ?_
    exact wpAny_bind (wpAny_pure (wpAny_bind (wpAny_pure (wpAny_pure h'))))
  | (true, x) :: r, hp => simp at hp
  | (false, x) :: r, _ => exact evalArgs_plain h

section
variable {C : Cx} {n : Nat} {ρ : Rho} {s : Shared} {G : Rdr}

/-- a call of a built-in function by its name -/
theorem ev_callB {x : Str} {px pos : Pos} {id : String} {args : List Expr} {ds : List PD} {d : PD} (hf : EV C ρ (.Name x px) (.raw (.builtin id))) (ha : EVs C ρ args ds) (hc : CL C (.builtin id) ds d) :
    EV C ρ (.Call (.Name x px) args [] pos) d := fun X s G ow S => by
  show wpAny _ _ (do callWith pos (← eval (.Name x px) C.env) [] (backTo pos (starEach args C.env)) []) _ _ s
  refine wpAny_bind (wpAny_mono (hf s G ow S) (fun v s₁ r₁ => ?_) fun _ _ f => f.elim)
  obtain ⟨p₁, G₁, x₁, e₁⟩ := r₁
  cases e₁.raw_inv
  have S₁ := S.grow p₁ x₁
  refine callWith_builtin (ha.1 pos) (evalArgs_of (ha.1 pos) (wpAny_mono (ha.2 pos s₁ G₁ ow S₁) (fun vs s₂ r₂ => ?_) fun _ _ f => f.elim))
  obtain ⟨p₂, G₂, x₂, e₂⟩ := r₂
  have S₂ := S₁.grow p₂ x₂
  exact wpAny_mono (hc s₂ G₂ vs S₂.vok e₂ S₂.bare) (fun v s' r => .trans p₁ x₁ (.trans p₂ x₂ r)) fun _ _ f => f.elim
/-- a call of a class that is built in -/
theorem ev_callT {x : Str} {px pos : Pos} {T : String} {args : List Expr} {ds : List PD} {d : PD} (hf : EV C ρ (.Name x px) (.raw (.type T))) (ha : EVs C ρ args ds) (hc : CL C (.type T) ds d) :
    EV C ρ (.Call (.Name x px) args [] pos) d := fun X s G ow S => by
  show wpAny _ _ (do callWith pos (← eval (.Name x px) C.env) [] (backTo pos (starEach args C.env)) []) _ _ s
  refine wpAny_bind (wpAny_mono (hf s G ow S) (fun v s₁ r₁ => ?_) fun _ _ f => f.elim)
  obtain ⟨p₁, G₁, x₁, e₁⟩ := r₁
  cases e₁.raw_inv
  have S₁ := S.grow p₁ x₁
  refine PySem.callWith_type (ha.1 pos) (evalArgs_of (ha.1 pos) (wpAny_mono (ha.2 pos s₁ G₁ ow S₁) (fun vs s₂ r₂ => ?_) fun _ _ f => f.elim))
  obtain ⟨p₂, G₂, x₂, e₂⟩ := r₂
  have S₂ := S₁.grow p₂ x₂
  exact wpAny_mono (hc s₂ G₂ vs S₂.vok e₂ S₂.bare) (fun v s' r => .trans p₁ x₁ (.trans p₂ x₂ r)) fun _ _ f => f.elim
/-- a call of a def of the text -/
theorem ev_callF {x : Str} {px pos : Pos} {a : Addr} {oc : Value} {od : Option Addr} {fd : FuncData} {osl : Array (Option Value)} {args : List Expr} {ds : List PD} {d : PD}
    (hf : EV C ρ (.Name x px) (.raw (.ref a))) (hk : C.K.lookup a = some ⟨oc, od, .func fd, osl⟩) (ha : EVs C ρ args ds) (hc : CL C (.ref a) ds d) :
    EV C ρ (.Call (.Name x px) args [] pos) d := fun X s G ow S => by
  show wpAny _ _ (do callWith pos (← eval (.Name x px) C.env) [] (backTo pos (starEach args C.env)) []) _ _ s
  refine wpAny_bind (wpAny_mono (hf s G ow S) (fun v s₁ r₁ => ?_) fun _ _ f => f.elim)
  obtain ⟨p₁, G₁, x₁, e₁⟩ := r₁
  cases e₁.raw_inv
  have S₁ := S.grow p₁ x₁
  refine callWith_function (o := ⟨oc, od, .func fd, osl⟩) (fd := fd) (evalArgs_of (ha.1 pos) (wpAny_mono (ha.2 pos s₁ G₁ ow S₁) (fun vs s₂ r₂ => ?_) fun _ _ f => f.elim))
  obtain ⟨p₂, G₂, x₂, e₂⟩ := r₂
  have S₂ := S₁.grow p₂ x₂
  exact ⟨⟨S₂.gok.kin _ _ hk, rfl⟩, wpAny_mono (hc s₂ G₂ vs S₂.vok e₂ S₂.bare) (fun v s' r => .trans p₁ x₁ (.trans p₂ x₂ r)) fun _ _ f => f.elim⟩
/-- a method of a text -/
theorem ev_methS {o : Expr} {name : Str} {apos pos : Pos} {id : String} {args : List Expr} {x : Str} {ds : List PD} {d : PD} (ho : EV C ρ o (.str x)) (slot : PySem.Slot "str" name id)
    (ty : typeOf (.builtin id) = pure (.type "method_descriptor")) (ha : EVs C ρ args ds) (hc : CL C (.builtin id) (.str x :: ds) d) {pl : Sem Bool}
    (he : eval (.Call (.Attribute o name apos) args [] pos) C.env = (do
      let ov ← eval o C.env
      standAt apos.atName
      let (f, first) ← holding [ov] (getMethod ov name pl)
      callWith pos f first (backTo pos (starEach args C.env)) []) := by rfl) :
    EV C ρ (.Call (.Attribute o name apos) args [] pos) d := fun X s G ow S => by
  refine MethodCall_ (pl := pl) (wpAny_mono (ho s G ow S) (fun v s₁ r₁ => ?_) fun _ _ f => f.elim) he
  obtain ⟨p₁, G₁, x₁, e₁⟩ := r₁
  obtain ⟨t, rfl⟩ := e₁.str_inv
  have S₁ := S.grow p₁ x₁
  refine GM.of (.str x t) (typeIs_str _ _ _) slot ty GM.noRef ?_
  refine callWith_builtin (ha.1 pos) (evalArgs_of (ha.1 pos) (wpAny_mono (ha.2 pos s₁ G₁ ow S₁) (fun vs s₂ r₂ => ?_) fun _ _ f => f.elim))
  obtain ⟨p₂, G₂, x₂, e₂⟩ := r₂
  have S₂ := S₁.grow p₂ x₂
  exact wpAny_mono (hc s₂ G₂ _ S₂.vok (.cons (.str x t) e₂) S₂.bare) (fun v s' r => .trans p₁ x₁ (.trans p₂ x₂ r)) fun _ _ f => f.elim
end

/-! statements -/
inductive Out where
  | next (ρ : Rho)
  | brk (ρ : Rho)
  | cont (ρ : Rho)
  | ret (d : PD)

noncomputable def OutAt (C : Cx) (X : Ext) : Flow → Out → Shared → Prop
  | .next, .next ρ, s => ∃ G ow, St C X ρ s G ow
  | .brk, .brk ρ, s => ∃ G ow, St C X ρ s G ow
  | .cont, .cont ρ, s => ∃ G ow, St C X ρ s G ow
  | .ret v, .ret d, s => ∃ G ow ρ, St C X ρ s G ow ∧ Rd G d v
  | _, _, _ => False

noncomputable def EX (C : Cx) (ρ : Rho) (sts : List Stmt) (P : Out → Prop) : Prop :=
  ∀ ⦃X : Ext⦄ (s : Shared) (G : Rdr) (ow : Str → Addr), St C X ρ s G ow → wpAny C.M C.A (execs sts C.env) (fun f s' => ∃ o, P o ∧ OutAt C X f o s') NoE s

/-- a contract of a def -/
noncomputable def Fn (prog : Program) (w : World) (K : Frag) (n : Nat) (f : Value) (ds : List PD) (d : PD) : Prop :=
  ∀ C : Cx, C.prog = prog → C.w = w → C.K = K → C.A.handled = none → C.A.depth + n < 900 → C.A.units + 20 * n < 9000 → CL C f ds d

theorem bindL_other {k : Str → Option NameKind} : ∀ {binds : List (Str × Value)} {m : Str → Option Value} {x : Str}, x ∉ binds.map (·.1) → bindL k binds m x = m x
  | [], _, _, _ => rfl
  | (n, v) :: r, m, x, h => by
    have h' : x ≠ n ∧ x ∉ r.map (·.1) := by simpa using h
    unfold bindL
    rw [bindL_other h'.2]
    split
    · exact if_neg h'.1
    · rfl
theorem bindL_get {k : Str → Option NameKind} : ∀ {binds : List (Str × Value)} {m : Str → Option Value} {x : Str} {v : Value}, (binds.map (·.1)).Nodup → (x, v) ∈ binds → k x = some .local → bindL k binds m x = some v
  | (n, w) :: r, m, x, v, nd, h, hk => by
    have nd' := List.nodup_cons.mp nd
    unfold bindL
    rcases List.mem_cons.mp h with e | h
    · cases e
      rw [bindL_other nd'.1, if_pos hk, if_pos rfl]
    · exact bindL_get nd'.2 h hk
theorem bindC_other {k : Str → Option NameKind} : ∀ {binds : List (Str × Value)} {m : Str → Option Value} {x : Str}, x ∉ binds.map (·.1) → bindC k binds m x = m x
  | [], _, _, _ => rfl
  | (n, v) :: r, m, x, h => by
    have h' : x ≠ n ∧ x ∉ r.map (·.1) := by simpa using h
    unfold bindC
    rw [bindC_other h'.2]
    split
    · rfl
    · exact if_neg h'.1
theorem bindC_get {k : Str → Option NameKind} : ∀ {binds : List (Str × Value)} {m : Str → Option Value} {x : Str} {v : Value}, (binds.map (·.1)).Nodup → (x, v) ∈ binds → k x ≠ some .local → bindC k binds m x = some v
  | (n, w) :: r, m, x, v, nd, h, hk => by
    have nd' := List.nodup_cons.mp nd
    unfold bindC
    rcases List.mem_cons.mp h with e | h
    · cases e
      rw [bindC_other nd'.1, if_neg hk, if_pos rfl]
    · exact bindC_get nd'.2 h hk

noncomputable def params (names : List Str) (ds : List PD) : Rho := names.zip (ds.map Slot.val)
theorem params_get : ∀ {names : List Str} {ds : List PD} {vs : List Value} {G : Rdr}, RdL G ds vs → ∀ {x : Str} {sl : Slot}, (params names ds).lookup x = some sl → ∃ v d, (x, v) ∈ names.zip vs ∧ sl = .val d ∧ Rd G d v
  | [], _, _, _, _, _, _, e => by simp [params] at e
  | n :: r, _, _, _, .nil, _, _, e => by simp [params] at e
  | n :: r, d :: ds, v :: vs, G, .cons h l, x, sl, e => by
    have e' : List.lookup x ((n, Slot.val d) :: params r ds) = some sl := e
    rw [List.lookup_cons] at e'
    cases q : x == n with
    | true =>
      rw [q] at e'
      cases e'
      have := beq_iff_eq.mp q
      subst this
      exact ⟨v, d, .head _, rfl, h⟩
    | false =>
      rw [q] at e'
      obtain ⟨v', d', h1, h2, h3⟩ := params_get l e'
      exact ⟨v', d', .tail _ h1, h2, h3⟩

theorem cells_mem {names : List (Str × NameKind)} {L : Addr} {x : Str} {c : Addr} {s₀ s : Shared} {m cm : Str → Option Value} {cs : List (Str × Addr)} (x' : InCallC s₀ L m cs cm s) (h : cs.lookup x = some c) :
    s.heap.IsCell c (cm x) ∧ L < c := ⟨x'.cell x c h, x'.above x c (mem_of_lookup h)⟩

theorem get_ge {h : Heap} {a : Addr} (ha : h.objs.size ≤ a) : h.get? a = none := by
  cases q : h.get? a with
  | none => rfl
  | some o => exact absurd (Heap.lt_size q) (Nat.not_lt.mpr ha)

/-- how a def's contract is shown: by its body -/
theorem fn_of_body {prog : Program} {w : World} {K : Frag} {n : Nat} {a : Addr} {oc : Value} {od : Option Addr} {osl : Array (Option Value)} {fd : FuncData} {body : List Stmt} {names : List Str} {ds : List PD} {d : PD}
    (hk : K.lookup a = some ⟨oc, od, .func fd, osl⟩) (hbody : fd.body = .stmts body) (hcode : codeIn K fd.code fd.qualname = true) (hg : fd.globals = mainGlobals) (hb : fd.builtins = builtinsNs) (hclo : fd.closure = [])
    (hco : fd.scope.isCoroutine = false) (hgen : fd.scope.isGenerator = false) (hkind : fd.scope.kind = .function)
    (hbind : ∀ vs : List Value, vs.length = names.length → bindArgs fd ⟨vs, []⟩ = pure (names.zip vs)) (hlen : names.length = ds.length)
    (hnames : (names.all fun x => fd.scope.names.lookup x == some .local || fd.scope.names.lookup x == some .cell) = true) (hnd : names.Nodup)
    (h : ∀ C : Cx, C.prog = prog → C.w = w → C.K = K → COk C n → C.env.scope = fd.scope → C.env.cells.map (·.1) = (cellsFrom 0 fd.scope.names []).map (·.1) → C.env.func = some a → C.env.frame = some C.env.locals →
      C.cown = true → EX C (params names ds) body fun o => o = .ret d) :
    Fn prog w K (n + 1) (.ref a) ds d := by
  intro C hp hw hK hhnd hdep hun s G vs V l bare
  have hvl : vs.length = names.length := by rw [l.length, hlen]
  have hkk : ∀ k, ∀ x ∈ names.zip vs, fd.scope.names.lookup x.1 = some .local ∨ (fd.scope.names.lookup x.1 = some .cell ∧ ((cellsFrom k fd.scope.names []).lookup x.1).isSome = true) := fun k x hx => by
    refine kindsX (scope := fd.scope) (binds := names.zip vs) ?_ k x hx
    rw [List.all_eq_true] at hnames ⊢
    intro y hy
    exact hnames y.1 (List.of_mem_zip hy).1
  refine wpAny_call (codeAny_call_cells (fd := fd) (binds := names.zip vs) (by unfold recursionLimit; omega) (V.gok.kin _ _ (hK ▸ hk)) rfl V.gok.lim (codeRec_of V.gok.kin (hK ▸ hcode)) hbody (hbind vs hvl) hclo (hkk _) ?_ hco hgen hkind)
  intro s₁ x
  let C' : Cx := { C with A := C.A.deeper (callEnvC fd s.heap.objs.size a), env := callEnvC fd s.heap.objs.size a, os := s.os, cown := true }
  have hck : COk C' n := ⟨hkind, hhnd, hg, hb, by show C.A.depth + 1 + n < 900; omega, by show C.A.units + 3 + 20 * n < 9000; omega,
    fun y c e => Nat.ne_of_gt (x.above y c (mem_of_lookup e)), fun y z c e e' => name_of_addr x.apart (mem_of_lookup e) (mem_of_lookup e')⟩
  have ok := cellsFrom_ok fd.scope.names (s.heap.push { cls := .type "frame", data := .dict #[] }) (s.heap.objs.size + 1) [] ⟨fun _ _ hm => (nomatch hm), List.Pairwise.nil⟩ (by rw [Heap.size_push]; exact Nat.le_refl _)
  have hcn : (C'.env.cells).map (·.1) = (cellsFrom 0 fd.scope.names []).map (·.1) := cellsFrom_names fd.scope.names _ _ [] [] rfl
  let X : Ext := ⟨s.heap.get?, fun i => s.gens[i]?, G⟩
  obtain ⟨h₁, tk, rfl, hk₁⟩ := x.done
  have S : St C' X (params names ds) { s with heap := h₁, toks := tk } G (fun _ => 0) := {
    keep := hk₁
    keepg := fun _ _ e => e
    bare := bare
    os := rfl
    ok := ⟨s.heap, hK ▸ V.gok, fun _ _ e => e⟩
    rd := fun b o e => hk₁ b o (V.rd b o e)
    g0 := .refl G
    new := fun b o e => .inl e
    fp := fun b hb => by
      have : s.heap.get? b = none := get_ge (by
        rcases hb with rfl | ⟨_, y, hy⟩
        · exact Nat.le_refl _
        · exact Nat.le_of_lt (x.above y b (mem_of_lookup hy)))
      refine ⟨?_, this⟩
      cases q : G b with
      | none => rfl
      | some o => rw [V.rd b o q] at this; cases this
    ns := ⟨_, x.toInCall.ns⟩
    cell := fun y c hy => ⟨_, x.cell y c hy⟩
    cellG := fun h => nomatch h
    loc := fun y sl e => by
      obtain ⟨v, d', hm, rfl, hr⟩ := params_get l e
      refine ⟨v, ?_, hr⟩
      have hndz : ((names.zip vs).map (·.1)).Nodup := by rw [List.map_fst_zip (by omega)]; exact hnd
      rcases hkk (s.heap.objs.size + 1) _ hm with hl | ⟨hl, hc⟩
      · exact .inl ⟨hl, _, x.toInCall.ns, bindL_get hndz hm hl⟩
      · obtain ⟨c, hc⟩ := Option.isSome_iff_exists.mp hc
        refine .inr ⟨.inl hl, c, hc, ?_⟩
        have := x.cell y c hc
        rwa [bindC_get hndz hm (by show fd.scope.names.lookup y ≠ _; rw [hl]; decide)] at this
    own := fun y ⟨sl, e, ho⟩ => by
      obtain ⟨v, d', hm, rfl, hr⟩ := params_get l e
      cases ho
    apart := fun y z ⟨sl, e, ho⟩ _ _ => by
      obtain ⟨v, d', hm, rfl, hr⟩ := params_get l e
      cases ho }
  refine wpAny_mono (h C' hp hw hK hck rfl hcn rfl rfl rfl _ G _ S) (fun f s' hf => ?_) fun _ _ f => f.elim
  obtain ⟨o, rfl, ho⟩ := hf
  cases f with
  | ret v =>
    obtain ⟨G', ow', ρ', S', hr⟩ := ho
    exact ⟨⟨fun b o e => S'.keep b o e, fun i y e => S'.keepg i y e, fun _ => S'.bare, S'.os⟩, G', ⟨S'.g0, fun b o e => S'.new b o e, S'.rd⟩, hr⟩
  | next => exact ho.elim
  | brk => exact ho.elim
  | cont => exact ho.elim
end Mine
end -- L4

section -- L5
open PySem PySem.W PyProof.Rows PySem.Calls
open Builtin Builtin.Str
set_option maxRecDepth 100000
set_option linter.unusedSectionVars false
set_option linter.unusedVariables false
namespace Mine

theorem Ns_unique {h : Heap} {a : Addr} {m m' : Str → Option Value} (x : h.Ns a m) (y : h.Ns a m') : m = m' := by
  obtain ⟨o, es, ep, e1, e2, _, e3⟩ := x
  obtain ⟨o', es', ep', e1', e2', _, e3'⟩ := y
  rw [e1] at e1'; cases e1'
  rw [e2] at e2'; cases e2'
  funext z
  rw [← e3, ← e3']

noncomputable def SlotOwn (C : Cx) (X : Ext) (ρ : Rho) (G : Rdr) (ow : Str → Addr) (x : Str) (a : Addr) (sl : Slot) : Prop :=
  sl.owned = true → G a = none ∧ X.h a = none ∧ ¬ C.fp a ∧ ∀ y, y ≠ x → IsOwn ρ y → ow y ≠ a

theorem lookup_cons_eq {x y : Str} {sl : Slot} {ρ : Rho} : List.lookup y ((x, sl) :: ρ) = if y = x then some sl else List.lookup y ρ := by
  rw [List.lookup_cons]
  by_cases h : y = x
  · subst h; simp
  · have : (y == x) = false := beq_eq_false_iff_ne.mpr h
    rw [this, if_neg h]

section
variable {C : Cx} {X : Ext} {n : Nat} {ρ : Rho} {s : Shared} {G : Rdr} {ow : Str → Addr} {A : Around}

/-- a store into a name -/
theorem St.store (hC : COk C n) {x : Str} {v : Value} {sl : Slot} {a : Addr} (S : St C X ρ s G ow) (hk : C.env.kindOf x = some .local ∨ C.env.kindOf x = some .cell ∧ (C.env.cells.lookup x).isSome = true ∧ C.cown = true)
    (hr : SlotRd G s.heap a sl v) (ho : SlotOwn C X ρ G ow x a sl) :
    wpAny C.M A (storeName C.env x v) (fun _ s' => St C X ((x, sl) :: ρ) s' G (fun y => if y = x then a else ow y)) NoE s := by
  have hp : (C.env.scope.kind == .class || (C.env.scope.kind == .module && C.env.locals != C.env.globals)) = false := by rw [hC.fn]; rfl
  -- what holds after a change of one place of the frame's own
  have key : ∀ (p : Addr) (h' : Heap) (tk : Nat), C.fp p → Heap.SameBut p s.heap h' → At C.env h' x v → (∀ y w, y ≠ x → At C.env s.heap y w → At C.env h' y w) → (∃ m, h'.Ns C.env.locals m) →
      (∀ y c, C.env.cells.lookup y = some c → ∃ w, h'.IsCell c w) → St C X ((x, sl) :: ρ) { s with heap := h', toks := tk } G (fun y => if y = x then a else ow y) := by
    intro p h' tk hfp hs hx hy hn hc
    have kk : ∀ b o, ¬ C.fp b ∨ b ≠ p → s.heap.get? b = some o → h'.get? b = some o := fun b o hb e => (hs.2 b (by
      rcases hb with hb | hb
      · intro e; subst e; exact hb hfp
      · exact hb)).trans e
    have gg : ∀ b o, G b = some o → h'.get? b = some o := fun b o e => kk b o (.inr fun q => by subst q; rw [(S.fp _ hfp).1] at e; cases e) (S.rd b o e)
    have sl' : ∀ (b : Addr) (sl₁ : Slot) (w : Value), (sl₁.owned = true → ¬ C.fp b) → SlotRd G s.heap b sl₁ w → SlotRd G h' b sl₁ w := fun b sl₁ w hb r => by
      cases sl₁ with
      | val d => exact r
      | own ds => exact r.keeps (fun o e => kk b o (.inl (hb rfl)) e) (.refl G)
      | ownd ps => exact r.keeps (fun o e => kk b o (.inl (hb rfl)) e) (.refl G)
    exact {
      keep := fun b o e => kk b o (.inr fun q => by subst q; rw [(S.fp _ hfp).2] at e; cases e) (S.keep b o e)
      keepg := S.keepg
      bare := S.bare
      os := S.os
      ok := S.ok
      rd := gg
      g0 := S.g0
      new := S.new
      fp := S.fp
      ns := hn
      cell := hc
      cellG := S.cellG
      loc := fun y sl₁ e => by
        rw [lookup_cons_eq] at e
        try dsimp only
        split at e
        · rename_i q; subst q; cases e
          rw [if_pos rfl]
          exact ⟨v, hx, sl' a _ v (fun q => (ho q).2.2.1) hr⟩
        · rename_i q
          rw [if_neg q]
          obtain ⟨w, h1, h2⟩ := S.loc y sl₁ e
          exact ⟨w, hy y w q h1, sl' _ _ w (fun o => (S.own y ⟨sl₁, e, o⟩).2.2) h2⟩
      own := fun y ⟨sl₁, e, o⟩ => by
        rw [lookup_cons_eq] at e
        try dsimp only
        split at e
        · rename_i q; subst q; cases e
          rw [if_pos rfl]
          exact ⟨(ho o).1, (ho o).2.1, (ho o).2.2.1⟩
        · rename_i q
          rw [if_neg q]
          exact S.own y ⟨sl₁, e, o⟩
      apart := fun y z ⟨sl₁, e, o⟩ ⟨sl₂, e', o'⟩ q => by
        rw [lookup_cons_eq] at e e'
        try dsimp only at q
        split at e
        · rename_i h1; subst h1; cases e
          split at e'
          · rename_i h2; exact h2.symm
          · rename_i h2
            rw [if_pos rfl, if_neg h2] at q
            exact absurd q.symm ((ho o).2.2.2 z h2 ⟨sl₂, e', o'⟩)
        · rename_i h1
          split at e'
          · rename_i h2; subst h2; cases e'
            rw [if_neg h1, if_pos rfl] at q
            exact absurd q ((ho o').2.2.2 y h1 ⟨sl₁, e, o⟩)
          · rename_i h2
            rw [if_neg h1, if_neg h2] at q
            exact S.apart y z ⟨sl₁, e, o⟩ ⟨sl₂, e', o'⟩ q }
  rcases hk with hk | ⟨hk, hc, hco⟩
  · obtain ⟨m, hn⟩ := S.ns
    refine wpAny_storeName_local hk hn (fun h' hn' hs => ?_) hp
    refine key C.env.locals h' _ (.inl rfl) hs (.inl ⟨hk, _, hn', if_pos rfl⟩) (fun y w hyx hy => ?_) ⟨_, hn'⟩ fun y c hc => ?_
    · rcases hy with ⟨hky, m', hn₁, hm₁⟩ | ⟨hky, c, hc, hv⟩
      · obtain rfl := Ns_unique hn hn₁
        exact .inl ⟨hky, _, hn', (if_neg hyx).trans hm₁⟩
      · exact .inr ⟨hky, c, hc, hv.sameBut hs (hC.cellL y c hc)⟩
    · obtain ⟨w, hw⟩ := S.cell y c hc
      exact ⟨w, hw.sameBut hs (hC.cellL y c hc)⟩
  · obtain ⟨c, hc⟩ := Option.isSome_iff_exists.mp hc
    obtain ⟨w₀, hw₀⟩ := S.cell x c hc
    refine wpAny_storeName_cell hC.fn hk hc hw₀ fun h' hc' hs => ?_
    have hcL := hC.cellL x c hc
    have := key c h' s.toks (.inr ⟨hco, x, hc⟩) hs (.inr ⟨.inl hk, c, hc, hc'⟩) (fun y w hyx hy => ?_) (let ⟨m, hn⟩ := S.ns; ⟨m, hn.sameBut hs (Ne.symm hcL)⟩) fun y c' hcy => ?_
    · exact this
    · rcases hy with ⟨hky, m', hn₁, hm₁⟩ | ⟨hky, c', hcy, hv⟩
      · exact .inl ⟨hky, m', hn₁.sameBut hs (Ne.symm hcL), hm₁⟩
      · exact .inr ⟨hky, c', hcy, hv.sameBut hs fun e => hyx (hC.cellI y x c (e ▸ hcy) hc)⟩
    · by_cases e : c' = c
      · subst e; exact ⟨_, hc'⟩
      · obtain ⟨w, hw⟩ := S.cell y c' hcy
        exact ⟨w, hw.sameBut hs e⟩

theorem St.storeV (hC : COk C n) {x : Str} {v : Value} {d : PD} (S : St C X ρ s G ow) (hk : C.env.kindOf x = some .local ∨ C.env.kindOf x = some .cell ∧ (C.env.cells.lookup x).isSome = true ∧ C.cown = true)
    (hr : Rd G d v) : wpAny C.M A (storeName C.env x v) (fun _ s' => ∃ ow', St C X ((x, .val d) :: ρ) s' G ow') NoE s :=
  wpAny_mono (S.store hC hk (sl := .val d) (a := 0) hr (fun h => by cases h)) (fun _ s' h => ⟨_, h⟩) fun _ _ f => f

/-- an own object is let be read, from here on it stays as it is -/
theorem St.freeze {x : Str} {ds : List PD} (S : St C X ρ s G ow) (hx : ρ.lookup x = some (.own ds)) : ∃ o, s.heap.get? (ow x) = some o ∧ o.cls = .type "list" ∧ G (ow x) = none ∧ St C X ((x, .val (.list ds)) :: ρ) s (G.put (ow x) o) ow := by
  obtain ⟨v, h1, rfl, vs, k, hg, hl⟩ := S.loc x _ hx
  have o1 := S.own x ⟨_, hx, rfl⟩
  have sub : Sub G (G.put (ow x) (lstO vs k)) := Rdr.put_sub o1.1
  have ne : ∀ y, y ≠ x → IsOwn ρ y → ow y ≠ ow x := fun y hy ho e => hy (S.apart y x ho ⟨_, hx, rfl⟩ e)
  refine ⟨lstO vs k, hg, rfl, o1.1, ?_⟩
  exact {
    keep := S.keep, keepg := S.keepg, bare := S.bare, os := S.os, ok := S.ok
    rd := fun b o e => by
      unfold Rdr.put at e; split at e
      · rename_i q; subst q; cases e; exact hg
      · exact S.rd b o e
    g0 := S.g0.trans sub
    new := fun b o e => by
      unfold Rdr.put at e; split at e
      · rename_i q; subst q; exact .inr o1.2.1
      · exact S.new b o e
    fp := fun b hb => ⟨by
      unfold Rdr.put; split
      · rename_i q; subst q; exact absurd hb o1.2.2
      · exact (S.fp b hb).1, (S.fp b hb).2⟩
    ns := S.ns, cell := S.cell
    cellG := fun ho x c hc => let ⟨o, h⟩ := S.cellG ho x c hc; ⟨o, sub _ _ h⟩
    loc := fun y sl e => by
      rw [lookup_cons_eq] at e
      split at e
      · rename_i q; subst q; cases e
        exact ⟨_, h1, .list (Rdr.put_self _ _ _) (hl.mono sub)⟩
      · obtain ⟨w, a1, a2⟩ := S.loc y sl e
        exact ⟨w, a1, a2.keeps (fun _ e => e) sub⟩
    own := fun y ⟨sl, e, o⟩ => by
      rw [lookup_cons_eq] at e
      split at e
      · cases e; cases o
      · rename_i q
        have := S.own y ⟨sl, e, o⟩
        refine ⟨?_, this.2⟩
        unfold Rdr.put
        rw [if_neg (ne y q ⟨sl, e, o⟩)]; exact this.1
    apart := fun y z ⟨sl, e, o⟩ ⟨sl', e', o'⟩ q => by
      rw [lookup_cons_eq] at e e'
      split at e
      · cases e; cases o
      · split at e'
        · cases e'; cases o'
        · exact S.apart y z ⟨sl, e, o⟩ ⟨sl', e', o'⟩ q }
theorem St.freezeD {x : Str} {ps : List (Int × PD)} (S : St C X ρ s G ow) (hx : ρ.lookup x = some (.ownd ps)) : ∃ o, s.heap.get? (ow x) = some o ∧ o.cls = .type "dict" ∧ G (ow x) = none ∧ St C X ((x, .val (.dict ps)) :: ρ) s (G.put (ow x) o) ow := by
  obtain ⟨v, h1, rfl, vs, k, hg, hl, hnd⟩ := S.loc x _ hx
  have o1 := S.own x ⟨_, hx, rfl⟩
  have sub : Sub G (G.put (ow x) (dctO vs k)) := Rdr.put_sub o1.1
  have ne : ∀ y, y ≠ x → IsOwn ρ y → ow y ≠ ow x := fun y hy ho e => hy (S.apart y x ho ⟨_, hx, rfl⟩ e)
  refine ⟨dctO vs k, hg, rfl, o1.1, ?_⟩
  exact {
    keep := S.keep, keepg := S.keepg, bare := S.bare, os := S.os, ok := S.ok
    rd := fun b o e => by
      unfold Rdr.put at e; split at e
      · rename_i q; subst q; cases e; exact hg
      · exact S.rd b o e
    g0 := S.g0.trans sub
    new := fun b o e => by
      unfold Rdr.put at e; split at e
      · rename_i q; subst q; exact .inr o1.2.1
      · exact S.new b o e
    fp := fun b hb => ⟨by
      unfold Rdr.put; split
      · rename_i q; subst q; exact absurd hb o1.2.2
      · exact (S.fp b hb).1, (S.fp b hb).2⟩
    ns := S.ns, cell := S.cell
    cellG := fun ho x c hc => let ⟨o, h⟩ := S.cellG ho x c hc; ⟨o, sub _ _ h⟩
    loc := fun y sl e => by
      rw [lookup_cons_eq] at e
      split at e
      · rename_i q; subst q; cases e
        exact ⟨_, h1, .dict (Rdr.put_self _ _ _) (hl.mono sub) hnd⟩
      · obtain ⟨w, a1, a2⟩ := S.loc y sl e
        exact ⟨w, a1, a2.keeps (fun _ e => e) sub⟩
    own := fun y ⟨sl, e, o⟩ => by
      rw [lookup_cons_eq] at e
      split at e
      · cases e; cases o
      · rename_i q
        have := S.own y ⟨sl, e, o⟩
        refine ⟨?_, this.2⟩
        unfold Rdr.put
        rw [if_neg (ne y q ⟨sl, e, o⟩)]; exact this.1
    apart := fun y z ⟨sl, e, o⟩ ⟨sl', e', o'⟩ q => by
      rw [lookup_cons_eq] at e e'
      split at e
      · cases e; cases o
      · split at e'
        · cases e'; cases o'
        · exact S.apart y z ⟨sl, e, o⟩ ⟨sl', e', o'⟩ q }

/-- an own list is read in an expression that gives a scalar -/
theorem ev_borrow {x : Str} {ds : List PD} {e : Expr} {d : PD} (hx : ρ.lookup x = some (.own ds)) (h : EV C ((x, .val (.list ds)) :: ρ) e d) (hs : d.scalar = true) : EV C ρ e d := fun X s G ow S => by
  obtain ⟨o, _, _, _, S'⟩ := S.freeze hx
  refine wpAny_mono (h s _ ow S') (fun v s' r => ?_) fun _ _ f => f
  obtain ⟨p, G', x, hr⟩ := r
  exact ⟨p, G, .same fun a o e => p.heap a o (S.rd a o e), hr.scalar hs⟩
theorem et_borrow {x : Str} {ds : List PD} {e : Expr} {b : Bool} (hx : ρ.lookup x = some (.own ds)) (h : ET C ((x, .val (.list ds)) :: ρ) e b) : ET C ρ e b := fun X s G ow S => by
  obtain ⟨o, _, _, _, S'⟩ := S.freeze hx
  exact h s _ ow S'
theorem et_borrowD {x : Str} {ds : List (Int × PD)} {e : Expr} {b : Bool} (hx : ρ.lookup x = some (.ownd ds)) (h : ET C ((x, .val (.dict ds)) :: ρ) e b) : ET C ρ e b := fun X s G ow S => by
  obtain ⟨o, _, _, _, S'⟩ := S.freezeD hx
  exact h s _ ow S'
/-- an own dict is read in an expression that gives data without a dict in it -/
theorem ev_borrowD {x : Str} {ps : List (Int × PD)} {e : Expr} {d : PD} (hx : ρ.lookup x = some (.ownd ps)) (h : EV C ((x, .val (.dict ps)) :: ρ) e d) (hs : d.nd = true) : EV C ρ e d := fun X s G ow S => by
  obtain ⟨o, ho, hcls, hno, S'⟩ := S.freezeD hx
  refine wpAny_mono (h s _ ow S') (fun v s' r => ?_) fun _ _ f => f
  obtain ⟨p, G', g, hr⟩ := r
  have hG' : G' (ow x) = some o := g.sub _ _ (Rdr.put_self _ _ _)
  refine ⟨p, G'.but (ow x), ⟨fun a o' e => ?_, fun a o' e => ?_, fun a o' e => g.rd a o' (Rdr.but_sub _ _ a o' e)⟩, hr.avoid (fun o' e => by rw [hG'] at e; cases e; exact hcls) hs⟩
  · have : a ≠ ow x := fun q => by subst q; rw [hno] at e; cases e
    unfold Rdr.but; rw [if_neg this]
    exact g.sub a o' ((Rdr.put_sub hno) a o' e)
  · have ha : a ≠ ow x := fun q => by unfold Rdr.but at e; rw [if_pos q] at e; cases e
    rcases g.new a o' (Rdr.but_sub _ _ a o' e) with q | q
    · unfold Rdr.put at q; rw [if_neg ha] at q; exact .inl q
    · exact .inr q
end
end Mine
end -- L5

section -- L6
open PySem PySem.W PyProof.Rows PySem.Calls
open Builtin Builtin.Str
set_option maxRecDepth 100000
set_option linter.unusedSectionVars false
set_option linter.unusedVariables false
namespace Mine

/-- one statement -/
noncomputable def EX1 (C : Cx) (ρ : Rho) (st : Stmt) (P : Out → Prop) : Prop :=
  ∀ ⦃X : Ext⦄ (s : Shared) (G : Rdr) (ow : Str → Addr), St C X ρ s G ow → wpAny C.M C.A (exec st C.env) (fun f s' => ∃ o, P o ∧ OutAt C X f o s') NoE s

noncomputable def thenP (C : Cx) (rest : List Stmt) (P : Out → Prop) : Out → Prop
  | .next ρ => EX C ρ rest P
  | o => P o

noncomputable def CanStore (C : Cx) (x : Str) : Prop := C.env.kindOf x = some .local ∨ C.env.kindOf x = some .cell ∧ (C.env.cells.lookup x).isSome = true ∧ C.cown = true

section
variable {C : Cx} {n : Nat} {ρ : Rho} {P : Out → Prop} {rest : List Stmt}

theorem ex_nil (h : P (.next ρ)) : EX C ρ [] P := fun X s G ow S => wpAny_execs_nil ⟨_, h, G, ow, S⟩
theorem ex_cons {st : Stmt} (h : EX1 C ρ st (thenP C rest P)) : EX C ρ (st :: rest) P := fun X s G ow S => by
  refine wpAny_execs_cons (wpAny_mono (h s G ow S) (fun f s' hf => ?_) fun _ _ e => e)
  obtain ⟨o, ho, ha⟩ := hf
  cases f with
  | next =>
    cases o with
    | next ρ' => obtain ⟨G', ow', S'⟩ := ha; exact ho s' G' ow' S'
    | _ => exact ha.elim
  | brk => cases o with
    | brk ρ' => exact ⟨_, ho, ha⟩
    | _ => exact ha.elim
  | cont => cases o with
    | cont ρ' => exact ⟨_, ho, ha⟩
    | _ => exact ha.elim
  | ret v => cases o with
    | ret d => exact ⟨_, ho, ha⟩
    | _ => exact ha.elim
theorem ex_mono {sts : List Stmt} {P' : Out → Prop} (h : EX C ρ sts P) (hp : ∀ o, P o → P' o) : EX C ρ sts P' := fun X s G ow S =>
  wpAny_mono (h s G ow S) (fun f s' ⟨o, ho, ha⟩ => ⟨o, hp o ho, ha⟩) fun _ _ e => e
theorem ex_weaken {ρ' : Rho} {sts : List Stmt} (h : EX C ρ' sts P) (hw : ∀ x sl, ρ'.lookup x = some sl → ρ.lookup x = some sl) : EX C ρ sts P := fun X s G ow S =>
  h s G ow (S.weaken hw)
theorem ex_freeze {x : Str} {ds : List PD} {sts : List Stmt} (hx : ρ.lookup x = some (.own ds)) (h : EX C ((x, .val (.list ds)) :: ρ) sts P) : EX C ρ sts P := fun X s G ow S => by
  obtain ⟨o, _, _, _, S'⟩ := S.freeze hx
  exact h s _ ow S'
theorem ex_freezeD {x : Str} {ds : List (Int × PD)} {sts : List Stmt} (hx : ρ.lookup x = some (.ownd ds)) (h : EX C ((x, .val (.dict ds)) :: ρ) sts P) : EX C ρ sts P := fun X s G ow S => by
  obtain ⟨o, _, _, _, S'⟩ := S.freezeD hx
  exact h s _ ow S'

theorem ex_ret {e : Expr} {pos : Pos} {d : PD} (he : EV C ρ e d) (h : P (.ret d)) : EX C ρ (.Return (some e) pos :: rest) P := ex_cons fun X s G ow S => by
  refine wpAny_Return_some (wpAny_mono (he s G ow S) (fun v s' r => ?_) fun _ _ f => f)
  obtain ⟨p, G', g, hr⟩ := r
  exact ⟨.ret d, h, G', ow, ρ, S.grow p g, hr⟩

theorem ex_assign (hC : COk C n) {x : Str} {px pos : Pos} {e : Expr} {d : PD} (he : EV C ρ e d) (hk : CanStore C x) (h : EX C ((x, .val d) :: ρ) rest P)
    (hs : swapsWith e (some (.Name x px)) pos.line C.env = pure false := by rfl) : EX C ρ (.Assign [.Name x px] e pos :: rest) P := ex_cons fun X s G ow S => by
  refine wpAny_Assign_Name (wpAny_mono (he s G ow S) (fun v s' r => ?_) fun _ _ f => f.elim) hs
  obtain ⟨p, G', g, hr⟩ := r
  refine wpAny_mono ((S.grow p g).storeV hC hk hr) (fun _ s'' h'' => ?_) fun _ _ f => f
  obtain ⟨ow', S''⟩ := h''
  exact ⟨.next _, h, G', ow', S''⟩

theorem St.fresh {X : Ext} {s : Shared} {G : Rdr} {ow : Str → Addr} (S : St C X ρ s G ow) (x : Str) (sl : Slot) : SlotOwn C X ρ G ow x s.heap.objs.size sl := fun _ => by
  have hn := get_size s.heap
  refine ⟨?_, ?_, ?_, ?_⟩
  · cases q : G s.heap.objs.size with
    | none => rfl
    | some o => rw [S.rd _ _ q] at hn; cases hn
  · cases q : X.h s.heap.objs.size with
    | none => rfl
    | some o => rw [S.keep _ _ q] at hn; cases hn
  · rintro (e | ⟨_, y, hy⟩)
    · obtain ⟨m, o, _, _, ho, _⟩ := S.ns; rw [← e] at ho; rw [ho] at hn; cases hn
    · obtain ⟨v, o, ho, _⟩ := S.cell y _ hy; rw [ho] at hn; cases hn
  · rintro y _ ⟨sl', e, o⟩ q
    obtain ⟨v, _, hr⟩ := S.loc y _ e
    cases sl' with
    | val d => cases o
    | own ds => obtain ⟨_, vs, k, e, _⟩ := hr; rw [q] at e; rw [e] at hn; cases hn
    | ownd ps => obtain ⟨_, vs, k, e, _⟩ := hr; rw [q] at e; rw [e] at hn; cases hn

/-- an address that is fresh in s is fresh for the frame even when s has grown -/
theorem St.freshAt {X : Ext} {s : Shared} {G : Rdr} {ow : Str → Addr} (S : St C X ρ s G ow) (x : Str) (sl : Slot) {a : Addr} (hn : s.heap.get? a = none) : SlotOwn C X ρ G ow x a sl := fun _ => by
  refine ⟨?_, ?_, ?_, ?_⟩
  · cases q : G a with
    | none => rfl
    | some o => rw [S.rd _ _ q] at hn; cases hn
  · cases q : X.h a with
    | none => rfl
    | some o => rw [S.keep _ _ q] at hn; cases hn
  · rintro (e | ⟨_, y, hy⟩)
    · obtain ⟨m, o, _, _, ho, _⟩ := S.ns; rw [← e] at ho; rw [ho] at hn; cases hn
    · obtain ⟨v, o, ho, _⟩ := S.cell y _ hy; rw [ho] at hn; cases hn
  · rintro y _ ⟨sl', e, o⟩ q
    obtain ⟨v, _, hr⟩ := S.loc y _ e
    cases sl' with
    | val d => cases o
    | own ds => obtain ⟨_, vs, k, e, _⟩ := hr; rw [q] at e; rw [e] at hn; cases hn
    | ownd ps => obtain ⟨_, vs, k, e, _⟩ := hr; rw [q] at e; rw [e] at hn; cases hn

/-- x = [..], the list is the frame's own -/
theorem ex_newList (hC : COk C n) {x : Str} {px pos lpos : Pos} {es : List Expr} {ds : List PD} (he : EVs C ρ es ds) (hk : CanStore C x) (h : EX C ((x, .own ds) :: ρ) rest P) (hsz : ds.length ≤ sizeLine := by simp only [List.length_cons, List.length_nil]; decide) :
    EX C ρ (.Assign [.Name x px] (.List es lpos) pos :: rest) P := ex_cons fun X s G ow S => by
  refine wpAny_Assign_Name (List_ (wpAny_mono (he.2 lpos s G ow S) (fun vs s₁ r₁ => ?_) fun _ _ f => f.elim)) rfl
  obtain ⟨p₁, G₁, x₁, e₁⟩ := r₁
  have S₁ := S.grow p₁ x₁
  refine wpAny_newList ?_ (by rw [e₁.length]; exact hsz)
  have S₂ : St C X ρ { s₁ with heap := s₁.heap.push (lstO vs.toArray 0) } G₁ ow := S₁.grow (.push _ _ s₁.toks) (.same fun a o e => Heap.get?_push_of_some _ (S₁.rd a o e))
  have fr := S₁.fresh x (.own ds)
  refine wpAny_mono (S₂.store hC hk (sl := .own ds) (a := s₁.heap.objs.size) ⟨rfl, vs.toArray, 0, Heap.get?_push_size _ rfl, by simpa using e₁⟩ fr) (fun _ s'' h'' => ?_) fun _ _ f => f
  exact ⟨.next _, h, G₁, _, h''⟩

theorem At.sameBut {env : Env} {h h' : Heap} {a : Addr} {x : Str} {v : Value} (t : At env h x v) (hs : Heap.SameBut a h h') (hL : env.locals ≠ a) (hc : ∀ y c, env.cells.lookup y = some c → c ≠ a) : At env h' x v := by
  rcases t with ⟨hk, m, hn, hm⟩ | ⟨hk, c, hcl, hv⟩
  · exact .inl ⟨hk, m, hn.sameBut hs hL, hm⟩
  · exact .inr ⟨hk, c, hcl, hv.sameBut hs (hc _ _ hcl)⟩

/-- an own object is changed -/
theorem St.update {X : Ext} {s : Shared} {G : Rdr} {ow : Str → Addr} (S : St C X ρ s G ow) {x : Str} {sl : Slot} (hx : IsOwn ρ x) {h' : Heap} {tk : Nat} (hs : Heap.SameBut (ow x) s.heap h') (hn : SlotRd G h' (ow x) sl (.ref (ow x))) (ho : sl.owned = true) :
    St C X ((x, sl) :: ρ) { s with heap := h', toks := tk } G ow := by
  have o1 := S.own x hx
  have kk : ∀ b o, b ≠ ow x → s.heap.get? b = some o → h'.get? b = some o := fun b o hb e => (hs.2 b hb).trans e
  have hL : C.env.locals ≠ ow x := fun e => o1.2.2 (.inl e.symm)
  have hcc : ∀ y c, C.env.cells.lookup y = some c → c ≠ ow x := fun y c hc e => by
    cases q : C.cown with
    | true => exact o1.2.2 (.inr ⟨q, y, e ▸ hc⟩)
    | false => obtain ⟨o, h⟩ := S.cellG q y c hc; rw [e, o1.1] at h; cases h
  have hv : At C.env s.heap x (.ref (ow x)) := by
    obtain ⟨sl₀, e, o⟩ := hx
    obtain ⟨v, h1, h2⟩ := S.loc x sl₀ e
    cases sl₀ with
    | val d => cases o
    | own ds => obtain ⟨rfl, _⟩ := h2; exact h1
    | ownd ps => obtain ⟨rfl, _⟩ := h2; exact h1
  exact {
    keep := fun b o e => kk b o (fun q => by subst q; rw [o1.2.1] at e; cases e) (S.keep b o e)
    keepg := S.keepg, bare := S.bare, os := S.os, ok := S.ok
    rd := fun b o e => kk b o (fun q => by subst q; rw [o1.1] at e; cases e) (S.rd b o e)
    g0 := S.g0, new := S.new, fp := S.fp
    ns := let ⟨m, h⟩ := S.ns; ⟨m, h.sameBut hs hL⟩
    cell := fun y c hc => let ⟨v, h⟩ := S.cell y c hc; ⟨v, h.sameBut hs (hcc y c hc)⟩
    cellG := S.cellG
    loc := fun y sl₁ e => by
      rw [lookup_cons_eq] at e
      split at e
      · rename_i q; subst q; cases e
        exact ⟨_, hv.sameBut hs hL hcc, hn⟩
      · rename_i q
        obtain ⟨v, h1, h2⟩ := S.loc y sl₁ e
        refine ⟨v, h1.sameBut hs hL hcc, ?_⟩
        cases sl₁ with
        | val d => exact h2
        | own ds => exact h2.keeps (fun o e' => kk _ o (fun q' => q (S.apart y x ⟨_, e, rfl⟩ hx q')) e') (.refl G)
        | ownd ps => exact h2.keeps (fun o e' => kk _ o (fun q' => q (S.apart y x ⟨_, e, rfl⟩ hx q')) e') (.refl G)
    own := fun y ⟨sl₁, e, o⟩ => by
      rw [lookup_cons_eq] at e
      split at e
      · rename_i q; subst q; exact o1
      · exact S.own y ⟨sl₁, e, o⟩
    apart := fun y z ⟨sl₁, e, o⟩ ⟨sl₂, e', o'⟩ q => by
      rw [lookup_cons_eq] at e e'
      have hy : IsOwn ρ y := by
        split at e
        · rename_i q; subst q; exact hx
        · exact ⟨sl₁, e, o⟩
      have hz : IsOwn ρ z := by
        split at e'
        · rename_i q; subst q; exact hx
        · exact ⟨sl₂, e', o'⟩
      exact S.apart y z hy hz q }

theorem St.ownAt {X : Ext} {s : Shared} {G : Rdr} {ow : Str → Addr} (S : St C X ρ s G ow) {x : Str} {ds : List PD} (hx : ρ.lookup x = some (.own ds)) :
    At C.env s.heap x (.ref (ow x)) ∧ ∃ vs k, s.heap.get? (ow x) = some (lstO vs k) ∧ RdL G ds vs.toList := by
  obtain ⟨v, h1, rfl, vs, k, e, l⟩ := S.loc x _ hx
  exact ⟨h1, vs, k, e, l⟩
theorem St.owndAt {X : Ext} {s : Shared} {G : Rdr} {ow : Str → Addr} (S : St C X ρ s G ow) {x : Str} {ds : List (Int × PD)} (hx : ρ.lookup x = some (.ownd ds)) :
    At C.env s.heap x (.ref (ow x)) ∧ ∃ es k, s.heap.get? (ow x) = some (dctO es k) ∧ RdE G ds es.toList ∧ (ds.map (·.1)).Nodup := by
  obtain ⟨v, h1, rfl, es, k, e, l, nd⟩ := S.loc x _ hx
  exact ⟨h1, es, k, e, l, nd⟩
theorem At.eval (hC : COk C n) {x : Str} {v : Value} {pos : Pos} {s : Shared} {A : Around} {E : Value → Shared → Prop} {Q : Value → Shared → Prop} (a : At C.env s.heap x v) (fin : Q v s) (hd : (x == ("__debug__" : Str)) = false := by decide)
    (hc : (x == ("__classdict__" : Str)) = false := by decide) : wpAny C.M A (eval (.Name x pos) C.env) Q E s := by
  rcases a with ⟨hk, m, hn, hm⟩ | ⟨hk, c, hcl, hcv⟩
  · exact wpAny_Name (wpAny_loadName_local hC.fn hk hn hm fin) hd
  · rcases hk with hk | hk
    · exact wpAny_Name (wpAny_loadName_cell hC.fn hk hcl hcv fin) hd
    · exact wpAny_Name (wpAny_loadName_free hC.fn hk hcl hcv fin hc) hd

theorem interactive_fn (hC : COk C n) : interactive C.env = false := by
  unfold interactive; rw [hC.fn]; rfl

/-- x.append(e), x an own list -/
theorem ex_append (hC : COk C n) {x : Str} {px apos pos spos : Pos} {e : Expr} {ds : List PD} {d : PD} {pl : Sem Bool} (hx : ρ.lookup x = some (.own ds)) (he : EV C ρ e d) (h : EX C ((x, .own (ds ++ [d])) :: ρ) rest P) (hsz : ds.length ≤ sizeLine)
    (hev : eval (.Call (.Attribute (.Name x px) "append" apos) [e] [] pos) C.env = (do
      let ov ← eval (.Name x px) C.env
      standAt apos.atName
      let (f, first) ← holding [ov] (getMethod ov "append" pl)
      callWith pos f first (backTo pos (starEach [e] C.env)) []) := by rfl)
    (hst : starEach [e] C.env = [(false, eval e C.env)] := by rfl) (hd : (x == ("__debug__" : Str)) = false := by decide) (hc : (x == ("__classdict__" : Str)) = false := by decide)
    (hs : swapsWith (.Call (.Attribute (.Name x px) "append" apos) [e] [] pos) none spos.line C.env = pure false := by rfl) :
    EX C ρ (.Expr (.Call (.Attribute (.Name x px) "append" apos) [e] [] pos) spos :: rest) P := ex_cons fun X s G ow S => by
  refine wpAny_Expr ?_ (interactive_fn hC) hs
  obtain ⟨hat, vs, k, hg, hl⟩ := S.ownAt hx
  refine MethodCall_ (pl := pl) (hat.eval hC ?_ hd hc) hev
  · refine getMethod_list_append hg rfl rfl ?_
    dsimp only
    refine callWith_builtin (by rw [hst]; rfl) (evalArgs_of (by rw [hst]; rfl) ?_)
    rw [hst]
    show wpAny _ _ (spliced [(false, eval e C.env)]) _ _ s
    refine spliced_cons (wpAny_mono (he s G ow S) (fun v s₁ r₁ => spliced_nil ?_) fun _ _ f => f.elim)
    obtain ⟨p₁, G₁, x₁, e₁⟩ := r₁
    have S₁ := S.grow p₁ x₁
    have hg₁ := p₁.heap _ _ hg
    have hlen : vs.size = ds.length := by rw [← hl.length]; simp
    refine call_meets F.slot_list_append ⟨_, hg₁, rfl⟩ F.entry_list_append (F.args_list_append_2 _ _) (list_append (ow x) vs k v (by omega)) ⟨hg₁, ?_⟩
    refine ⟨.next _, h, G₁, ow, ?_⟩
    refine S₁.update ⟨_, hx, rfl⟩ (Heap.SameBut.update ..) (sl := .own (ds ++ [d])) ⟨rfl, vs.push v, k + 1, ?_, ?_⟩ rfl
    · rw [Heap.get?_update_self _ hg₁ rfl, Obj.mapSeq_push_plain]
    · rw [Array.toList_push]
      exact (hl.mono x₁.sub).append (.cons e₁ .nil)
end
end Mine
end -- L6

section -- L7
open PySem PySem.W PyProof.Rows PySem.Calls
open Builtin Builtin.Str
set_option maxRecDepth 100000
set_option linter.unusedSectionVars false
set_option linter.unusedVariables false
namespace Mine

noncomputable def storeD (ps : List (Int × PD)) (k : Int) (d : PD) : List (Int × PD) :=
  if ps.any (fun p => p.1 = k) then ps.map (fun p => if p.1 = k then (p.1, d) else p) else ps ++ [(k, d)]

section
variable {prog : Program} {w : World} {G : Rdr}
theorem RdE.pairs : ∀ {ps : List (Int × PD)} {es : List DictEntry}, RdE G ps es → ∃ kvs : List (Int × Value), Pairs (intKind prog w) es kvs ∧ kvs.map (·.1) = ps.map (·.1) ∧ RdL G (ps.map (·.2)) (kvs.map (·.2)) ∧
    ∀ e ∈ es, ∃ k, (intKind prog w).is k e.key = true ∧ e.hash = (intKind prog w).hash k
  | _, _, .nil => ⟨[], .nil, rfl, .nil, fun _ h => nomatch h⟩
  | _, _, .cons (k := k) (t := t) (v := v) h r => by
    obtain ⟨kvs, h1, h2, h3, h4⟩ := r.pairs
    refine ⟨(k, v) :: kvs, .cons (by simp [intKind, Value.isInt]) rfl h1, by simp [h2], .cons h h3, fun e he => ?_⟩
    rcases List.mem_cons.mp he with rfl | he
    · exact ⟨k, by simp [intKind, Value.isInt], rfl⟩
    · exact h4 e he
theorem RdE.of_pairs : ∀ {kvs : List (Int × Value)} {ps : List (Int × PD)} {es : List DictEntry}, Pairs (intKind prog w) es kvs → kvs.map (·.1) = ps.map (·.1) → RdL G (ps.map (·.2)) (kvs.map (·.2)) →
    (∀ e ∈ es, ∃ k, (intKind prog w).is k e.key = true ∧ e.hash = (intKind prog w).hash k) → RdE G ps es
  | _, [], _, .nil, _, _, _ => .nil
  | _, p :: ps, _, .nil, h, _, _ => by simp at h
  | _, [], _, .cons .., h, _, _ => by simp at h
  | kv :: kvs, (k, d) :: ps, e :: es, .cons h1 h2 r, hk, hl, hh => by
    obtain ⟨hk1, hk2⟩ := List.cons_eq_cons.mp hk
    cases hl with | cons hd hl =>
    obtain ⟨k', a1, a2⟩ := hh e (.head _)
    obtain ⟨hs, key, val⟩ := e
    obtain ⟨t, ht⟩ := Value.isInt_shape h1
    dsimp only at ht a2 h2 a1 hk1
    subst ht
    have : kv.1 = k' := by simpa [intKind, Value.isInt] using a1.symm
    subst this
    subst a2 h2 hk1
    exact .cons hd (RdE.of_pairs r hk2 hl fun e he => hh e (.tail _ he))

theorem RdE.dictOf {h : Heap} {a : Addr} {es : Array DictEntry} {n : Nat} {ps : List (Int × PD)} (e : h.get? a = some (dctO es n)) (l : RdE G ps es.toList) (nd : (ps.map (·.1)).Nodup) :
    ∃ kvs, h.DictOf (intKind prog w) a kvs ∧ kvs.map (·.1) = ps.map (·.1) ∧ RdL G (ps.map (·.2)) (kvs.map (·.2)) := by
  obtain ⟨kvs, h1, h2, h3, h4⟩ := l.pairs (prog := prog) (w := w)
  exact ⟨kvs, ⟨_, es, n, e, ⟨rfl, rfl, rfl⟩, rfl, fun x hx => h4 x (Array.mem_toList_iff.mpr hx), h1, h2 ▸ nd⟩, h2, h3⟩
theorem RdE.of_dictOf {h : Heap} {a : Addr} {kvs : List (Int × Value)} {ps : List (Int × PD)} (e : h.DictOf (intKind prog w) a kvs) (h2 : kvs.map (·.1) = ps.map (·.1)) (h3 : RdL G (ps.map (·.2)) (kvs.map (·.2))) :
    ∃ es n, h.get? a = some (dctO es n) ∧ RdE G ps es.toList ∧ (ps.map (·.1)).Nodup := by
  obtain ⟨⟨c, d, dt, sl⟩, es, n, ho, ⟨rfl, rfl, rfl⟩, rfl, hk, hp, hn⟩ := e
  exact ⟨es, n, ho, .of_pairs hp h2 h3 fun x hx => hk x (Array.mem_toList_iff.mp hx), h2 ▸ hn⟩

theorem valueAt_get : ∀ {ps : List (Int × PD)} {kvs : List (Int × Value)} {k : Int} {d : PD}, kvs.map (·.1) = ps.map (·.1) → RdL G (ps.map (·.2)) (kvs.map (·.2)) → ps.lookup k = some d → ∃ v, valueAt kvs k = some v ∧ Rd G d v
  | [], _, _, _, _, _, h => by simp at h
  | p :: ps, [], _, _, h, _, _ => by simp at h
  | (j, e) :: ps, (j', v) :: kvs, k, d, h, hl, hd => by
    obtain ⟨h1, h2⟩ := List.cons_eq_cons.mp h
    cases hl with | cons hv hl =>
    dsimp only at h1; subst h1
    rw [List.lookup_cons] at hd
    by_cases q : k = j'
    · subst q
      rw [beq_self_eq_true] at hd; cases hd
      exact ⟨v, by simp [valueAt], hv⟩
    · rw [beq_eq_false_iff_ne.mpr q] at hd
      obtain ⟨v', a1, a2⟩ := valueAt_get h2 hl hd
      refine ⟨v', ?_, a2⟩
      unfold valueAt at a1 ⊢
      rw [List.find?_cons]
      have : decide ((j', v).1 = k) = false := decide_eq_false fun e => q e.symm
      rw [this]; exact a1
theorem stored_aux {k : Int} {d : PD} {v : Value} (hv : Rd G d v) : ∀ {ps : List (Int × PD)} {kvs : List (Int × Value)}, kvs.map (·.1) = ps.map (·.1) → RdL G (ps.map (·.2)) (kvs.map (·.2)) →
    (kvs.map fun kv => if kv.1 = k then (kv.1, v) else kv).map (·.1) = (ps.map fun p => if p.1 = k then (p.1, d) else p).map (·.1) ∧
    RdL G ((ps.map fun p => if p.1 = k then (p.1, d) else p).map (·.2)) ((kvs.map fun kv => if kv.1 = k then (kv.1, v) else kv).map (·.2))
  | [], [], _, _ => ⟨rfl, .nil⟩
  | [], _ :: _, h, _ => by simp at h
  | _ :: _, [], h, _ => by simp at h
  | (j, e) :: ps, (j', v') :: kvs, h, hl => by
    obtain ⟨h1, h2⟩ := List.cons_eq_cons.mp h
    cases hl with | cons hv' hl =>
    dsimp only at h1; subst h1
    obtain ⟨b1, b2⟩ := stored_aux hv h2 hl
    simp only [List.map_cons]
    by_cases q : j' = k
    · simp only [q, if_true]; exact ⟨by rw [b1], .cons hv b2⟩
    · simp only [q, if_false]; exact ⟨by rw [b1], .cons hv' b2⟩
theorem stored_map {ps : List (Int × PD)} {kvs : List (Int × Value)} {k : Int} {d : PD} {v : Value} (h : kvs.map (·.1) = ps.map (·.1)) (hl : RdL G (ps.map (·.2)) (kvs.map (·.2))) (hv : Rd G d v) :
    (stored kvs k v).map (·.1) = (storeD ps k d).map (·.1) ∧ RdL G ((storeD ps k d).map (·.2)) ((stored kvs k v).map (·.2)) := by
  have hany : kvs.any (fun kv => kv.1 = k) = ps.any (fun p => p.1 = k) := by
    have a1 : kvs.any (fun kv => decide (kv.1 = k)) = (kvs.map (·.1)).any (fun x => decide (x = k)) := by rw [List.any_map]; rfl
    have a2 : ps.any (fun kv => decide (kv.1 = k)) = (ps.map (·.1)).any (fun x => decide (x = k)) := by rw [List.any_map]; rfl
    rw [a1, a2, h]
  unfold stored storeD
  rw [hany]
  split
  · exact stored_aux hv h hl
  · rw [List.map_append, List.map_append, List.map_append, List.map_append, h]
    exact ⟨rfl, hl.append (.cons hv .nil)⟩
end

section
variable {C : Cx} {n : Nat} {ρ : Rho} {P : Out → Prop} {rest : List Stmt}

/-- an item of a dict with int keys -/
theorem op_ditem {value slice : Expr} {ps : List (Int × PD)} {i : Int} {d : PD} (hd : ps.lookup i = some d) (hs : noSlice slice := by intro _ _; with_unfolding_all rfl) :
    OP2 C (subscriptTail value slice) (.dict ps) (.int i) d := fun A s G v₁ v₂ V h1 h2 => by
  obtain ⟨t, rfl⟩ := h2.int_inv
  obtain ⟨a, es, k, rfl, e, l, nd⟩ := h1.dict_inv
  obtain ⟨kvs, a1, a2, a3⟩ := RdE.dictOf (prog := C.prog) (w := C.w) (V.rd _ _ e) l nd
  obtain ⟨v, hv, hr⟩ := valueAt_get a2 a3 hd
  have hm := Heap.DictOf.mapOf a1
  exact tail_any hm.typeIs slot_dict_getitem.lookup (wpAny_getItem_of (by simp [intKind, Value.isInt]) hm hv (Res.toks V.rd hr)) (hs _ _)
end
end Mine
end -- L7

section -- L8
open PySem PySem.W PyProof.Rows PySem.Calls
open Builtin Builtin.Str
set_option maxRecDepth 100000
set_option linter.unusedSectionVars false
set_option linter.unusedVariables false
namespace Mine

/-! iterators: what comes, one by one; H, g: what is the iterator's own -/
structure Upd (H : Rdr) (g : Nat → Option GenState) (s s' : Shared) : Prop where
  heap : ∀ a o, H a = none → s.heap.get? a = some o → s'.heap.get? a = some o
  gens : ∀ (i : Nat) (y : GenState), g i = none → s.gens[i]? = some y → s'.gens[i]? = some y
  bare : AllBare s'.gens
  os : s'.os = s.os

structure ItIn (K : Frag) (H : Rdr) (g : Nat → Option GenState) (G : Rdr) (s : Shared) : Prop where
  gok : GOk K s.heap
  h : Sub H s.heap.get?
  g : ∀ (i : Nat) (y : GenState), g i = some y → s.gens[i]? = some y
  bare : AllBare s.gens
  rd : Sub G s.heap.get?

structure Roomy (A : Around) : Prop where
  hnd : A.handled = none
  depth : A.depth < 950
  units : A.units < 9500

structure Next (H : Rdr) (g : Nat → Option GenState) (G : Rdr) (s : Shared) (H' : Rdr) (g' : Nat → Option GenState) (G' : Rdr) (s' : Shared) : Prop where
  ext : Sub G G'
  new : ∀ a o, G' a = some o → G a = some o ∨ s.heap.get? a = none
  rd : Sub G' s'.heap.get?
  h : Sub H' s'.heap.get?
  gg : ∀ (i : Nat) (y : GenState), g' i = some y → s'.gens[i]? = some y
  hnew : ∀ a, H' a ≠ none → H a ≠ none ∨ s.heap.get? a = none
  gnew : ∀ i, g' i ≠ none → g i ≠ none ∨ s.gens[i]? = none
  disj : ∀ a, H' a ≠ none → G' a = none

/-- an iterator whose pairs are no pairs of its own -/
noncomputable def IsIt (H : Rdr) (it : Value) : Prop := ∃ a o n, it = .ref a ∧ H a = some o ∧ o.cls = .type n ∧
  ["enumerate", "zip", "dict_itemiterator", "dict_reverseitemiterator", "odict_iterator", "itertools.zip_longest", "itertools.pairwise"].contains n = false
theorem IsIt.mono {H H' : Rdr} {it : Value} (h : IsIt H it) (hs : Sub H H') : IsIt H' it := let ⟨a, o, n, e, f, r⟩ := h; ⟨a, o, n, e, hs a o f, r⟩

noncomputable def Yd (K : Frag) (M : Model) (it : Value) : List PD → Rdr → Rdr → (Nat → Option GenState) → Prop
  | [], G, H, g => IsIt H it ∧ ∀ (A : Around) (s : Shared), Roomy A → ItIn K H g G s → wpAny M A (pyNext it) (fun r s' => r = none ∧ Upd H g s s') NoE s
  | d :: ds, G, H, g => IsIt H it ∧ ∀ (A : Around) (s : Shared), Roomy A → ItIn K H g G s → wpAny M A (pyNext it) (fun r s' => ∃ v, r = some v ∧ Upd H g s s' ∧
      ∃ G' H' g', Rd G' d v ∧ Next H g G s H' g' G' s' ∧ Yd K M it ds G' H' g') NoE s
theorem Yd.isIt {K : Frag} {M : Model} {it : Value} : ∀ {ds : List PD} {G H : Rdr} {g : Nat → Option GenState}, Yd K M it ds G H g → IsIt H it
  | [], _, _, _, h => h.1
  | _ :: _, _, _, _, h => h.1

noncomputable def Rdr.or (G G' : Rdr) : Rdr := fun a => (G a).or (G' a)
theorem Rdr.or_left (G G' : Rdr) : Sub G (G.or G') := fun a o e => by unfold Rdr.or; rw [e]; rfl
theorem Rdr.or_some {G G' : Rdr} {a : Addr} {o : Obj} (h : G.or G' a = some o) : G a = some o ∨ G a = none ∧ G' a = some o := by
  unfold Rdr.or at h
  cases q : G a with
  | some x => rw [q] at h; exact .inl h
  | none => rw [q] at h; exact .inr ⟨rfl, h⟩
theorem Rdr.or_none {G G' : Rdr} {a : Addr} (h : G a = none) (h' : G' a = none) : G.or G' a = none := by unfold Rdr.or; rw [h, h']; rfl

theorem Yd.mono {K : Frag} {M : Model} {it : Value} : ∀ {ds : List PD} {G G₂ H : Rdr} {g : Nat → Option GenState}, Yd K M it ds G H g → Sub G G₂ → (∀ a, H a ≠ none → G₂ a = none) → Yd K M it ds G₂ H g
  | [], G, G₂, H, g, y, hs, hd => ⟨y.1, fun A s r i => y.2 A s r { i with rd := hs.trans i.rd }⟩
  | d :: ds, G, G₂, H, g, y, hs, hd => ⟨y.1, fun A s r i => by
    refine wpAny_mono (y.2 A s r { i with rd := hs.trans i.rd }) (fun res s' hr => ?_) fun _ _ f => f
    obtain ⟨v, rfl, u, G', H', g', hv, nx, yd⟩ := hr
    have keep2 : Sub G₂ s'.heap.get? := fun a o e => u.heap a o (by
      cases q : H a with
      | none => rfl
      | some x => rw [hd a (by rw [q]; exact Option.some_ne_none _)] at e; cases e) (i.rd a o e)
    have sub' : Sub G' (G₂.or G') := fun a o e => by
      unfold Rdr.or
      cases q : G₂ a with
      | none => exact e
      | some x =>
        have h1 := keep2 a x q
        rw [nx.rd a o e] at h1
        exact h1.symm
    have disj2 : ∀ a, H' a ≠ none → G₂.or G' a = none := fun a ha => Rdr.or_none (by
      rcases nx.hnew a ha with h | h
      · exact hd a h
      · cases q : G₂ a with
        | none => rfl
        | some x => rw [i.rd a x q] at h; cases h) (nx.disj a ha)
    refine ⟨v, rfl, u, G₂.or G', H', g', hv.mono sub', ⟨Rdr.or_left _ _, fun a o e => ?_, fun a o e => ?_, nx.h, nx.gg, nx.hnew, nx.gnew, disj2⟩, yd.mono sub' disj2⟩
    · rcases Rdr.or_some e with h | ⟨h1, h2⟩
      · exact .inl h
      · rcases nx.new a o h2 with h | h
        · rw [hs a o h] at h1; cases h1
        · exact .inr h
    · rcases Rdr.or_some e with h | ⟨h1, h2⟩
      · exact keep2 a o h
      · exact nx.rd a o h2⟩

structure LoopX (X : Ext) (H : Rdr) (g : Nat → Option GenState) (G : Rdr) : Prop where
  disj : ∀ a, H a ≠ none → X.h a = none ∧ G a = none
  disg : ∀ i, g i ≠ none → X.g i = none
  sub : Sub X.r G
  new : ∀ a o, G a = some o → X.r a = some o ∨ X.h a = none
noncomputable def joinX (X : Ext) (H : Rdr) (g : Nat → Option GenState) (G : Rdr) : Ext := ⟨Rdr.or X.h H, fun i => (X.g i).or (g i), G⟩

section
variable {C : Cx} {n : Nat} {X : Ext} {ρ : Rho} {s s' : Shared} {G G' Gk H H' : Rdr} {g g' : Nat → Option GenState} {ow : Str → Addr}

theorem or_ne_left {α : Type} {a b : Option α} (h : a.or b = none) : a = none := by cases a <;> simp_all
theorem or_ne_right {α : Type} {a b : Option α} (h : a.or b = none) : b = none := by cases a <;> simp_all

/-- the iterator's own part is let go -/
theorem St.drop (L : LoopX X H g Gk) (hB : ∃ hB : Heap, GOk C.K hB ∧ ∀ a o, hB.get? a = some o → X.h a = some o) (S : St C (joinX X H g Gk) ρ s G ow) : St C X ρ s G ow :=
  { S with
    keep := fun a o e => S.keep a o (Rdr.or_left _ _ a o e)
    keepg := fun i y e => S.keepg i y (by show (X.g i).or (g i) = _; rw [e]; rfl)
    ok := hB
    g0 := L.sub.trans S.g0
    new := fun a o e => by
      rcases S.new a o e with h | h
      · exact L.new a o h
      · exact .inr (or_ne_left h)
    fp := fun a h => ⟨(S.fp a h).1, or_ne_left (S.fp a h).2⟩
    own := fun x h => ⟨(S.own x h).1, or_ne_left (S.own x h).2.1, (S.own x h).2.2⟩ }

theorem St.itIn (L : LoopX X H g Gk) (S : St C (joinX X H g Gk) ρ s G ow) : ItIn C.K H g G s where
  gok := S.gok
  h := fun a o e => S.keep a o (by
    show (X.h a).or (H a) = _
    rw [(L.disj a (by rw [e]; exact Option.some_ne_none _)).1, e]; rfl)
  g := fun i y e => S.keepg i y (by
    show (X.g i).or (g i) = _
    rw [L.disg i (by rw [e]; exact Option.some_ne_none _), e]; rfl)
  bare := S.bare
  rd := S.rd

theorem St.disj (L : LoopX X H g Gk) (S : St C (joinX X H g Gk) ρ s G ow) : ∀ a, H a ≠ none → G a = none := fun a ha => by
  cases q : G a with
  | none => rfl
  | some o =>
    rcases S.new a o q with h | h
    · have h' : Gk a = some o := h
      rw [(L.disj a ha).2] at h'; cases h'
    · exact absurd (or_ne_right h) ha

/-- what the frame has stays, when the iterator moves -/
theorem St.moved (L : LoopX X H g Gk) (S : St C (joinX X H g Gk) ρ s G ow) (u : Upd H g s s') : ∃ hB : Heap, (GOk C.K hB ∧ ∀ a o, hB.get? a = some o → (joinX X H g Gk).h a = some o) ∧
    (∀ a o, G a = some o → s'.heap.get? a = some o) ∧ (∀ a o, X.h a = some o → s'.heap.get? a = some o) ∧ (∀ i y, X.g i = some y → s'.gens[i]? = some y) ∧
    (∃ m, s'.heap.Ns C.env.locals m) ∧ (∀ x c, C.env.cells.lookup x = some c → ∃ v, s'.heap.IsCell c v) ∧
    (∀ x sl, ρ.lookup x = some sl → ∃ v, At C.env s'.heap x v ∧ SlotRd G s'.heap (ow x) sl v) := by
  obtain ⟨hB, k1, k2⟩ := S.ok
  have fpk : ∀ a o, C.fp a → s.heap.get? a = some o → s'.heap.get? a = some o := fun a o h e => u.heap a o (or_ne_right (S.fp a h).2) e
  have hL : ∀ o, s.heap.get? C.env.locals = some o → s'.heap.get? C.env.locals = some o := fun o e => fpk _ o (.inl rfl) e
  have gk : ∀ a o, G a = some o → s'.heap.get? a = some o := fun a o e => u.heap a o (by
    cases q : H a with
    | none => rfl
    | some x => rw [S.disj L a (by rw [q]; exact nofun)] at e; cases e) (S.rd a o e)
  have hc : ∀ x c o, C.env.cells.lookup x = some c → s.heap.get? c = some o → s'.heap.get? c = some o := fun x c o h e => by
    cases q : C.cown with
    | true => exact fpk c o (.inr ⟨q, x, h⟩) e
    | false =>
      obtain ⟨o', h'⟩ := S.cellG q x c h
      have := S.rd c o' h'
      rw [e] at this; cases this
      exact gk c o h'
  refine ⟨hB, ⟨k1, k2⟩, gk, fun a o e => u.heap a o ?_ (S.keep a o (Rdr.or_left _ _ a o e)), fun i y e => u.gens i y ?_ (S.keepg i y (by show (X.g i).or (g i) = _; rw [e]; rfl)), ?_, ?_, ?_⟩
  · cases q : H a with
    | none => rfl
    | some x => rw [(L.disj a (by rw [q]; exact nofun)).1] at e; cases e
  · cases q : g i with
    | none => rfl
    | some x => rw [L.disg i (by rw [q]; exact nofun)] at e; cases e
  · obtain ⟨m, hm⟩ := S.ns; exact ⟨m, hm.at' hL⟩
  · intro x c h
    obtain ⟨v, o, e, d⟩ := S.cell x c h
    exact ⟨v, o, hc x c o h e, d⟩
  · intro x sl e
    obtain ⟨v, h1, h2⟩ := S.loc x sl e
    refine ⟨v, ?_, ?_⟩
    · rcases h1 with ⟨hk, m, hn, hm⟩ | ⟨hk, c, hcl, o, eo, d⟩
      · exact .inl ⟨hk, m, hn.at' hL, hm⟩
      · exact .inr ⟨hk, c, hcl, o, hc x c o hcl eo, d⟩
    · cases sl with
      | val d => exact h2
      | own ds => exact h2.keeps (fun o eo => u.heap _ o (or_ne_right (S.own x ⟨_, e, rfl⟩).2.1) eo) (.refl G)
      | ownd ps => exact h2.keeps (fun o eo => u.heap _ o (or_ne_right (S.own x ⟨_, e, rfl⟩).2.1) eo) (.refl G)

theorem St.ended (L : LoopX X H g Gk) (hB : ∃ hB : Heap, GOk C.K hB ∧ ∀ a o, hB.get? a = some o → X.h a = some o) (S : St C (joinX X H g Gk) ρ s G ow) (u : Upd H g s s') : St C X ρ s' G ow := by
  obtain ⟨_, _, k1, k2, k3, k4, k5, k6⟩ := S.moved L u
  exact { S.drop L hB with keep := k2, keepg := k3, bare := u.bare, os := u.os.trans S.os, rd := k1, ns := k4, cell := k5, loc := k6 }

theorem St.step (L : LoopX X H g Gk) (hB : ∃ hB : Heap, GOk C.K hB ∧ ∀ a o, hB.get? a = some o → X.h a = some o) (S : St C (joinX X H g Gk) ρ s G ow) (u : Upd H g s s') (nx : Next H g G s H' g' G' s') :
    LoopX X H' g' G' ∧ St C (joinX X H' g' G') ρ s' G' ow := by
  obtain ⟨_, _, k1, k2, k3, k4, k5, k6⟩ := S.moved L u
  have SX := S.drop L hB
  have old : ∀ a o, s.heap.get? a = some o → G a = none → G' a = none := fun a o e h => by
    cases q : G' a with
    | none => rfl
    | some x =>
      rcases nx.new a x q with h' | h'
      · rw [h] at h'; cases h'
      · rw [e] at h'; cases h'
  have oldH : ∀ a o, s.heap.get? a = some o → H a = none → H' a = none := fun a o e h => by
    cases q : H' a with
    | none => rfl
    | some x =>
      rcases nx.hnew a (by rw [q]; exact nofun) with h' | h'
      · exact absurd h h'
      · rw [e] at h'; cases h'
  have L' : LoopX X H' g' G' := {
    disj := fun a ha => by
      refine ⟨?_, nx.disj a ha⟩
      rcases nx.hnew a ha with h | h
      · exact (L.disj a h).1
      · cases q : X.h a with
        | none => rfl
        | some x => rw [SX.keep a x q] at h; cases h
    disg := fun i hi => by
      rcases nx.gnew i hi with h | h
      · exact L.disg i h
      · cases q : X.g i with
        | none => rfl
        | some x => rw [SX.keepg i x q] at h; cases h
    sub := SX.g0.trans nx.ext
    new := fun a o e => by
      rcases nx.new a o e with h | h
      · exact SX.new a o h
      · right
        cases q : X.h a with
        | none => rfl
        | some x => rw [SX.keep a x q] at h; cases h }
  refine ⟨L', ?_⟩
  exact {
    keep := fun a o e => by
      rcases Rdr.or_some e with h | ⟨_, h⟩
      · exact k2 a o h
      · exact nx.h a o h
    keepg := fun i y e => by
      cases q : X.g i with
      | some z => 
        have : (X.g i).or (g' i) = some y := e
        rw [q] at this; cases this; exact k3 i _ q
      | none =>
        have : (X.g i).or (g' i) = some y := e
        rw [q] at this; exact nx.gg i y this
    bare := u.bare
    os := u.os.trans S.os
    ok := let ⟨h, a, b⟩ := hB; ⟨h, a, fun x o e => Rdr.or_left _ _ x o (b x o e)⟩
    rd := nx.rd
    g0 := .refl G'
    new := fun a o e => .inl e
    fp := fun a h => by
      have hex : ∃ o, s.heap.get? a = some o := by
        rcases h with rfl | ⟨_, x, hx⟩
        · obtain ⟨m, o, _, _, e, _⟩ := S.ns; exact ⟨o, e⟩
        · obtain ⟨v, o, e, _⟩ := S.cell x a hx; exact ⟨o, e⟩
      obtain ⟨o, e⟩ := hex
      exact ⟨old a o e (S.fp a h).1, Rdr.or_none (or_ne_left (S.fp a h).2) (oldH a o e (or_ne_right (S.fp a h).2))⟩
    ns := k4
    cell := k5
    cellG := fun ho x c hc => let ⟨o, h⟩ := S.cellG ho x c hc; ⟨o, nx.ext _ _ h⟩
    loc := fun x sl e => let ⟨v, h1, h2⟩ := k6 x sl e; ⟨v, h1, h2.keeps (fun _ e => e) nx.ext⟩
    own := fun x hx => by
      obtain ⟨h1, h2, h3⟩ := S.own x hx
      obtain ⟨sl, e, ho⟩ := hx
      have hex : ∃ o, s.heap.get? (ow x) = some o := by
        obtain ⟨v, _, hr⟩ := S.loc x sl e
        cases sl with
        | val d => cases ho
        | own ds => obtain ⟨_, vs, k, q, _⟩ := hr; exact ⟨_, q⟩
        | ownd ps => obtain ⟨_, vs, k, q, _⟩ := hr; exact ⟨_, q⟩
      obtain ⟨o, q⟩ := hex
      exact ⟨old _ o q h1, Rdr.or_none (or_ne_left h2) (oldH _ o q (or_ne_right h2)), h3⟩
    apart := S.apart }
end
end Mine
end -- L8

section -- L9
open PySem PySem.W PyProof.Rows PySem.Calls
open Builtin Builtin.Str
set_option maxRecDepth 100000
set_option linter.unusedSectionVars false
set_option linter.unusedVariables false
namespace Mine

section
variable {C : Cx} {n : Nat} {ρ : Rho} {P : Out → Prop} {rest : List Stmt}

theorem ex_if {test : Expr} {body orelse : List Stmt} {pos : Pos} {b : Bool} (ht : ET C ρ test b) (h1 : b = true → EX C ρ body (thenP C rest P)) (h2 : b = false → EX C ρ orelse (thenP C rest P)) :
    EX C ρ (.If test body orelse pos :: rest) P := ex_cons fun X s G ow S => by
  refine wpAny_If (wpAny_mono (ht s G ow S) (fun c s' h => ?_) fun _ _ f => f.elim)
  obtain ⟨rfl, p⟩ := h
  have S' := S.grow p (.same fun a o e => p.heap a o (S.rd a o e))
  cases c with
  | true => exact h1 rfl s' G ow S'
  | false => exact h2 rfl s' G ow S'

theorem ex_assert {test : Expr} {msg : Option Expr} {pos : Pos} (ht : ET C ρ test true) (h : EX C ρ rest P) : EX C ρ (.Assert test msg pos :: rest) P := ex_cons fun X s G ow S => by
  refine wpAny_Assert_holds (wpAny_mono (ht s G ow S) (fun c s' h' => ?_) fun _ _ f => f.elim)
  obtain ⟨rfl, p⟩ := h'
  exact ⟨rfl, .next ρ, h, G, ow, S.grow p (.same fun a o e => p.heap a o (S.rd a o e))⟩

theorem ex_aug (hC : COk C n) {x : Str} {px pos : Pos} {op : Operator} {e : Expr} {d₀ d₁ d : PD} (hx : ρ.lookup x = some (.val d₀)) (he : EV C ρ e d₁) (ho : OP2 C (inplaceOp op) d₀ d₁ d) (hk : CanStore C x) (h : EX C ((x, .val d) :: ρ) rest P)
    (hc : (x == ("__classdict__" : Str)) = false := by decide) : EX C ρ (.AugAssign (.Name x px) op e pos :: rest) P := ex_cons fun X s G ow S => by
  refine wpAny_AugAssign_Name ?_
  obtain ⟨v, hv, hr⟩ := S.loc x _ hx
  have go : wpAny C.M C.A (eval e C.env) (fun v₁ s₂ => wpAny C.M C.A (inplaceOp op v v₁) (fun r s₃ => wpAny C.M C.A (storeName C.env x r) (fun _ s' => ∃ o, thenP C rest P o ∧ OutAt C X .next o s') NoE s₃) NoE s₂) NoE s := by
    refine wpAny_mono (he s G ow S) (fun v₁ s₂ r => ?_) fun _ _ f => f
    obtain ⟨p, G₁, g, e₁⟩ := r
    have S₁ := S.grow p g
    refine wpAny_mono (ho _ s₂ G₁ v v₁ S₁.vok (Rd.mono g.sub hr) e₁) (fun r s₃ r₂ => ?_) fun _ _ f => f
    obtain ⟨p₂, G₂, g₂, e₂⟩ := r₂
    refine wpAny_mono ((S₁.grow p₂ g₂).storeV hC hk e₂) (fun _ s' h' => ?_) fun _ _ f => f
    obtain ⟨ow', S'⟩ := h'
    exact ⟨.next _, h, G₂, ow', S'⟩
  rcases hv with ⟨hk, m, hn, hm⟩ | ⟨hk, c, hcl, hcv⟩
  · exact wpAny_loadName_local hC.fn hk hn hm go
  · rcases hk with hk | hk
    · exact wpAny_loadName_cell hC.fn hk hcl hcv go
    · exact wpAny_loadName_free hC.fn hk hcl hcv go hc

/-! stores into own objects -/
theorem setItem_exact {prog : Program} {w : World} {A : Around} {E : Value → Shared → Prop} {s : Shared} {l : Addr} {items : Array Value} {n : Nat} {k : Int} {t : Tok} {v : Value} {Q : Unit → Shared → Prop}
    (hl : s.heap.get? l = some (lstO items n)) (h0 : 0 ≤ k) (hj : k < items.size) (hfit : k < 2 ^ 63)
    (hQ : Q () { s with heap := s.heap.update l (Obj.mapSeq (·.setIfInBounds k.toNat v)) }) : wpAny (model prog w) A (setItem (.ref l) (.int k t) v) Q E s := by
  have hT : s.TypeIs (.ref l) "list" := ⟨_, hl, rfl⟩
  unfold setItem
  refine wpAny_holding ?_
  refine wpAny_bind (wpAny_sequenceKey hT (by decide) ?_)
  refine wpAny_bind (wpAny_callSpecial?_slot (name := Str.ofString "__setitem__") hT slot_list_setitem
    (wpAny_call_entry slot_list_setitem hT entry_list_setitem ?_ (args_list_setitem _ _ _)))
  show wpAny _ _ (Builtin.List.listSubscript? (.int k t) >>= _) _ _ s
  refine wpAny_bind (wpAny_listSubscript_int (fitsIndex_of h0 hfit) ?_)
  clear hfit
  obtain ⟨j, rfl⟩ := Int.eq_ofNat_of_zero_le h0
  have hj : j < items.size := by omega
  have hx' : items[j]? = some items[j] := Array.getElem?_eq_getElem hj
  show wpAny _ _ ((seqItemAt l j >>= fun r => pure (r.map (j, ·))) >>= _) _ _ s
  refine wpAny_bind (wpAny_bind (wpAny_seqItemAt hl rfl (wpAny_pure ?_)))
  rw [hx']
  show wpAny _ _ (setSeqItemAt l j v >>= _) _ _ s
  refine wpAny_bind (wpAny_setSeqItemAt hl rfl ?_)
  exact wpAny_pure ⟨.none, rfl, wpAny_pure hQ⟩

/-- x[i] = e, x an own list -/
theorem ex_setItem (hC : COk C n) {x : Str} {px ppos pos : Pos} {idx e : Expr} {ds : List PD} {i : Int} {d : PD} (hx : ρ.lookup x = some (.own ds)) (he : EV C ρ e d) (hi : EV C ρ idx (.int i)) (h0 : 0 ≤ i) (h1 : i < ds.length)
    (h : EX C ((x, .own (ds.set i.toNat d)) :: ρ) rest P) (hsz : ds.length ≤ sizeLine) (hd : (x == ("__debug__" : Str)) = false := by decide) (hc : (x == ("__classdict__" : Str)) = false := by decide)
    (hs : swapsWith e (some (.Subscript (.Name x px) idx ppos)) pos.line C.env = pure false := by rfl) :
    EX C ρ (.Assign [.Subscript (.Name x px) idx ppos] e pos :: rest) P := ex_cons fun X s G ow S => by
  refine wpAny_Assign_Subscript (wpAny_mono (he s G ow S) (fun v s₁ r₁ => ?_) fun _ _ f => f.elim) hs
  obtain ⟨p₁, G₁, g₁, e₁⟩ := r₁
  have S₁ := S.grow p₁ g₁
  obtain ⟨hat, vs, k, hg, hl⟩ := S₁.ownAt hx
  refine hat.eval hC ?_ hd hc
  refine wpAny_mono (hi s₁ G₁ ow S₁) (fun iv s₂ r₂ => ?_) fun _ _ f => f.elim
  obtain ⟨p₂, G₂, g₂, e₂⟩ := r₂
  obtain ⟨t, rfl⟩ := e₂.int_inv
  have S₂ := S₁.grow p₂ g₂
  have hg₂ := p₂.heap _ _ hg
  have hlen : vs.size = ds.length := by rw [← hl.length]; simp
  obtain ⟨j, rfl⟩ := Int.eq_ofNat_of_zero_le h0
  refine setItem_exact hg₂ h0 (by omega) (by rw [sizeLine_eq] at hsz; omega) ?_
  refine ⟨.next _, h, G₂, ow, ?_⟩
  refine S₂.update ⟨_, hx, rfl⟩ (Heap.SameBut.update ..) ⟨rfl, vs.setIfInBounds j v, k, ?_, ?_⟩ rfl
  · rw [Heap.get?_update_self _ hg₂ rfl]; simp [Obj.mapSeq]
  · rw [Array.toList_setIfInBounds]
    exact (hl.mono g₂.sub).set (e₁.mono g₂.sub)

/-- x[k] = e, x an own dict -/
theorem ex_setItemD (hC : COk C n) {x : Str} {px ppos pos : Pos} {idx e : Expr} {ps : List (Int × PD)} {i : Int} {d : PD} (hx : ρ.lookup x = some (.ownd ps)) (he : EV C ρ e d) (hi : EV C ρ idx (.int i))
    (h : EX C ((x, .ownd (storeD ps i d)) :: ρ) rest P) (hsz : ps.length ≤ sizeLine) (hd : (x == ("__debug__" : Str)) = false := by decide) (hc : (x == ("__classdict__" : Str)) = false := by decide)
    (hs : swapsWith e (some (.Subscript (.Name x px) idx ppos)) pos.line C.env = pure false := by rfl) :
    EX C ρ (.Assign [.Subscript (.Name x px) idx ppos] e pos :: rest) P := ex_cons fun X s G ow S => by
  refine wpAny_Assign_Subscript (wpAny_mono (he s G ow S) (fun v s₁ r₁ => ?_) fun _ _ f => f.elim) hs
  obtain ⟨p₁, G₁, g₁, e₁⟩ := r₁
  have S₁ := S.grow p₁ g₁
  obtain ⟨hat, es, k, hg, hl, nd⟩ := S₁.owndAt hx
  refine hat.eval hC ?_ hd hc
  refine wpAny_mono (hi s₁ G₁ ow S₁) (fun iv s₂ r₂ => ?_) fun _ _ f => f.elim
  obtain ⟨p₂, G₂, g₂, e₂⟩ := r₂
  obtain ⟨t, rfl⟩ := e₂.int_inv
  have S₂ := S₁.grow p₂ g₂
  have hg₂ := p₂.heap _ _ hg
  obtain ⟨kvs, a1, a2, a3⟩ := RdE.dictOf (prog := C.prog) (w := C.w) hg₂ (hl.mono g₂.sub) nd
  have hkl : kvs.length ≤ sizeLine := by
    have := congrArg List.length a2
    rw [List.length_map, List.length_map] at this
    omega
  refine wpAny_setItem_pairs (knd := intKind C.prog C.w) (k := i) (by simp [intKind, Value.isInt]) a1 (fun h' hm hsb => ?_) hkl
  obtain ⟨b1, b2⟩ := stored_map (k := i) a2 a3 (e₁.mono g₂.sub)
  obtain ⟨es', k', c1, c2, c3⟩ := RdE.of_dictOf hm b1 b2
  exact ⟨.next _, h, G₂, ow, S₂.update ⟨_, hx, rfl⟩ hsb ⟨rfl, es', k', c1, c2, c3⟩ rfl⟩

/-- del x[i], x an own list -/
theorem ex_delItem (hC : COk C n) {x : Str} {px ppos pos : Pos} {idx : Expr} {ds : List PD} {i : Int} {j : Nat} (hx : ρ.lookup x = some (.own ds)) (hi : EV C ρ idx (.int i)) (hj : seqIndex? i ds.length = some j) (hfit : Builtin.List.listFitsIndex i = true)
    (h : EX C ((x, .own (ds.eraseIdx j)) :: ρ) rest P) (hsz : ds.length ≤ sizeLine) (hd : (x == ("__debug__" : Str)) = false := by decide) (hc : (x == ("__classdict__" : Str)) = false := by decide) :
    EX C ρ (.Delete [.Subscript (.Name x px) idx ppos] pos :: rest) P := ex_cons fun X s G ow S => by
  refine wpAny_Delete (wpAny_deleteEach_cons (wpAny_delete_Subscript ?_))
  obtain ⟨hat, vs, k, hg, hl⟩ := S.ownAt hx
  refine hat.eval hC ?_ hd hc
  refine wpAny_mono (hi s G ow S) (fun iv s₂ r₂ => ?_) fun _ _ f => f.elim
  obtain ⟨p₂, G₂, g₂, e₂⟩ := r₂
  obtain ⟨t, rfl⟩ := e₂.int_inv
  have S₂ := S.grow p₂ g₂
  have hg₂ := p₂.heap _ _ hg
  have hlen : vs.size = ds.length := by rw [← hl.length]; simp
  refine PySem.P.delItem_list (n := k) (k := j) hg₂ hfit (by rw [hlen]; exact hj) ?_ (by omega)
  refine wpAny_deleteEach_nil ?_
  refine ⟨.next _, h, G₂, ow, ?_⟩
  refine S₂.update ⟨_, hx, rfl⟩ (Heap.SameBut.update ..) ⟨rfl, vs.eraseIdxIfInBounds j, _, Heap.get?_update_self _ hg₂ rfl, ?_⟩ rfl
  have : (vs.eraseIdxIfInBounds j).toList = vs.toList.eraseIdx j := by
    unfold Array.eraseIdxIfInBounds
    split
    · simp
    · rename_i q
      rw [List.eraseIdx_of_length_le (by simpa using Nat.le_of_not_lt q)]
  rw [this]
  exact (hl.mono g₂.sub).eraseIdx j

/-! while -/
theorem ex_while {test : Expr} {body : List Stmt} {pos : Pos} {α : Type} (I : α → Rho → Prop) (μ : α → Nat) (a₀ : α) (h0 : I a₀ ρ) (b : α → Bool)
    (ht : ∀ a ρ', I a ρ' → ET C ρ' test (b a))
    (hb : ∀ a ρ', I a ρ' → b a = true → EX C ρ' body fun o => match o with
      | .next ρ₂ | .cont ρ₂ => ∃ a', μ a' < μ a ∧ ∃ ρ₃, I a' ρ₃ ∧ ∀ x sl, ρ₃.lookup x = some sl → ρ₂.lookup x = some sl
      | .brk ρ₂ => thenP C rest P (.next ρ₂)
      | .ret d => P (.ret d))
    (he : ∀ a ρ', I a ρ' → b a = false → EX C ρ' rest P) : EX C ρ (.While test body [] pos :: rest) P := ex_cons fun X s G ow S => by
  refine wpAny_While ?_
  refine codeAny_whileLoop (fun k s' => ∃ a ρ' G' ow', k = μ a ∧ I a ρ' ∧ St C X ρ' s' G' ow') ?_ (μ a₀) ⟨a₀, ρ, G, ow, rfl, h0, S⟩
  rintro k s₁ ⟨a, ρ', G₁, ow₁, rfl, hI, S₁⟩
  refine wpAny_mono (ht a ρ' hI s₁ G₁ ow₁ S₁) (fun c s₂ h => ?_) fun _ _ f => f.elim
  obtain ⟨rfl, p⟩ := h
  have S₂ := S₁.grow p (.same fun x o e => p.heap x o (S₁.rd x o e))
  cases hc : b a with
  | true =>
    simp only [if_true]
    refine wpAny_mono (hb a ρ' hI hc s₂ G₁ ow₁ S₂) (fun f s₃ hf => ?_) fun _ _ f => f.elim
    obtain ⟨o, ho, hat⟩ := hf
    cases f with
    | next => cases o with
      | next ρ₂ =>
        obtain ⟨a', hm, ρ₃, hI', hw⟩ := ho
        obtain ⟨G₃, ow₃, S₃⟩ := hat
        exact ⟨_, hm, a', ρ₃, G₃, ow₃, rfl, hI', S₃.weaken hw⟩
      | _ => exact hat.elim
    | cont => cases o with
      | cont ρ₂ =>
        obtain ⟨a', hm, ρ₃, hI', hw⟩ := ho
        obtain ⟨G₃, ow₃, S₃⟩ := hat
        exact ⟨_, hm, a', ρ₃, G₃, ow₃, rfl, hI', S₃.weaken hw⟩
      | _ => exact hat.elim
    | brk => cases o with
      | brk ρ₂ => exact ⟨.next ρ₂, ho, hat⟩
      | _ => exact hat.elim
    | ret v => cases o with
      | ret d => exact ⟨.ret d, ho, hat⟩
      | _ => exact hat.elim
  | false =>
    simp only [Bool.false_eq_true, if_false]
    exact wpAny_execs_nil ⟨.next ρ', he a ρ' hI hc, G₁, ow₁, S₂⟩

/-! for -/
structure ItNew (s : Shared) (G : Rdr) (ds : List PD) (K : Frag) (M : Model) (it : Value) (s₂ : Shared) (G' H : Rdr) (g : Nat → Option GenState) : Prop where
  pure : PureStep s s₂
  ext : GExt s G G' s₂
  h : Sub H s₂.heap.get?
  gg : ∀ (i : Nat) (y : GenState), g i = some y → s₂.gens[i]? = some y
  hnew : ∀ a, H a ≠ none → s.heap.get? a = none ∧ G' a = none
  gnew : ∀ i, g i ≠ none → s.gens[i]? = none
  yd : Yd K M it ds G' H g

/-- what an expression gives, as a for's source -/
noncomputable def Itb (C : Cx) (ρ : Rho) (e : Expr) (ds : List PD) : Prop :=
  ∀ ⦃X : Ext⦄ (s : Shared) (G : Rdr) (ow : Str → Addr), St C X ρ s G ow →
    wpAny C.M C.A (eval e C.env) (fun x s₁ => wpAny C.M C.A (pyIter x) (fun it s₂ => ∃ G' H g, ItNew s G ds C.K C.M it s₂ G' H g) NoE s₁) NoE s

theorem COk.roomy (hC : COk C n) : Roomy C.A := ⟨hC.hnd, by have := hC.depth; omega, by have := hC.units; omega⟩

/-- how a turn binds what comes -/
noncomputable def Binds (C : Cx) (target : Expr) (d : PD) (f : Rho → Rho) : Prop :=
  ∀ (X : Ext) (ρ : Rho) (s : Shared) (G : Rdr) (ow : Str → Addr) (it v : Value), St C X ρ s G ow → IsIt s.heap.get? it → Rd G d v →
    wpAny C.M C.A (letOwnedTupleGo target it v) (fun _ s₁ => wpAny C.M C.A (assign target C.env v) (fun _ s₂ => ∃ G' ow', St C X (f ρ) s₂ G' ow') NoE s₁) NoE s

theorem binds_name (hC : COk C n) {x : Str} {px : Pos} {d : PD} (hk : CanStore C x) : Binds C (.Name x px) d (fun ρ => (x, .val d) :: ρ) := fun X ρ s G ow it v S _ hr => by
  show wpAny _ _ (pure ()) _ _ s
  refine wpAny_pure ?_
  refine wpAny_assign_Name (wpAny_mono (S.storeV hC hk hr) (fun _ s' h => ?_) fun _ _ f => f)
  obtain ⟨ow', S'⟩ := h
  exact ⟨G, ow', S'⟩

theorem ex_for (hC : COk C n) {target iter : Expr} {body : List Stmt} {pos : Pos} {ds : List PD} {f : PD → Rho → Rho} (hit : Itb C ρ iter ds) (hb : ∀ d, d ∈ ds → Binds C target d (f d)) (I : List PD → Rho → Prop) (h0 : I [] ρ)
    (hbody : ∀ pre d post ρ', ds = pre ++ d :: post → I pre ρ' → EX C (f d ρ') body fun o => match o with
      | .next ρ₂ | .cont ρ₂ => ∃ ρ₃, I (pre ++ [d]) ρ₃ ∧ ∀ x sl, ρ₃.lookup x = some sl → ρ₂.lookup x = some sl
      | .brk ρ₂ => thenP C rest P (.next ρ₂)
      | .ret r => P (.ret r))
    (he : ∀ ρ', I ds ρ' → EX C ρ' rest P)
    (hs : ∀ x, foldedSetIterable iter C.env x = pure x := by intro _; rfl) : EX C ρ (.For target iter body [] pos :: rest) P := ex_cons fun X s G ow S => by
  refine wpAny_For (wpAny_mono (hit s G ow S) (fun x s₁ h₁ => wpAny_mono h₁ (fun it s₂ h₂ => ?_) fun _ _ f => f.elim) fun _ _ f => f.elim) hs
  obtain ⟨G', H, g, N⟩ := h₂
  have S₂ := S.grow N.pure N.ext
  have L : LoopX X H g G' := {
    disj := fun a ha => ⟨by
      cases q : X.h a with
      | none => rfl
      | some o => exact absurd (N.hnew a ha).1 (by rw [S.keep a o q]; exact nofun), (N.hnew a ha).2⟩
    disg := fun i hi => by
      cases q : X.g i with
      | none => rfl
      | some o => exact absurd (N.gnew i hi) (by rw [S.keepg i o q]; exact nofun)
    sub := S.g0.trans N.ext.sub
    new := S₂.new }
  have S₃ : St C (joinX X H g G') ρ s₂ G' ow := { S₂ with
    keep := fun a o e => by
      rcases Rdr.or_some e with h | ⟨_, h⟩
      · exact S₂.keep a o h
      · exact N.h a o h
    keepg := fun i y e => by
      have e' : (X.g i).or (g i) = some y := e
      cases q : X.g i with
      | some z => rw [q] at e'; cases e'; exact S₂.keepg i _ q
      | none => rw [q] at e'; exact N.gg i y e'
    ok := let ⟨h, a, b⟩ := S.ok; ⟨h, a, fun x o e => Rdr.or_left _ _ x o (b x o e)⟩
    g0 := .refl G'
    new := fun a o e => .inl e
    fp := fun a ha => ⟨(S₂.fp a ha).1, Rdr.or_none (S₂.fp a ha).2 (by
      cases q : H a with
      | none => rfl
      | some o =>
        have := (N.hnew a (by rw [q]; exact nofun)).1
        rcases ha with rfl | ⟨_, x, hx⟩
        · obtain ⟨m, o', _, _, e, _⟩ := S.ns; rw [e] at this; cases this
        · obtain ⟨v, o', e, _⟩ := S.cell x a hx; rw [e] at this; cases this)⟩
    own := fun x hx => ⟨(S₂.own x hx).1, Rdr.or_none (S₂.own x hx).2.1 (by
      cases q : H (ow x) with
      | none => rfl
      | some o =>
        have := (N.hnew _ (by rw [q]; exact nofun)).1
        obtain ⟨sl, e, ho⟩ := hx
        obtain ⟨v, _, hr⟩ := S.loc x sl e
        cases sl with
        | val d => cases ho
        | own ds => obtain ⟨_, vs, k, q, _⟩ := hr; rw [q] at this; cases this
        | ownd ps => obtain ⟨_, vs, k, q, _⟩ := hr; rw [q] at this; cases this), (S₂.own x hx).2.2⟩ }
  have hB := S.ok
  refine codeAny_forLoop_any (fun k s' => ∃ pre post ρ' G₁ Gk H₁ g₁ ow₁, k = post.length ∧ ds = pre ++ post ∧ I pre ρ' ∧ LoopX X H₁ g₁ Gk ∧ St C (joinX X H₁ g₁ Gk) ρ' s' G₁ ow₁ ∧ Yd C.K C.M it post G₁ H₁ g₁) ?_ ds.length
    ⟨[], ds, ρ, G', G', H, g, ow, rfl, rfl, h0, L, S₃, N.yd⟩
  rintro k s' ⟨pre, post, ρ', G₁, Gk, H₁, g₁, ow₁, rfl, hds, hI, L₁, S₁, Y⟩
  cases post with
  | nil =>
    refine wpAny_mono (Y.2 C.A s' hC.roomy (S₁.itIn L₁)) (fun r s₄ hr => ?_) fun _ _ f => f.elim
    obtain ⟨rfl, u⟩ := hr
    refine wpAny_execs_nil ⟨.next ρ', he ρ' (by rw [hds, List.append_nil]; exact hI), G₁, ow₁, S₁.ended L₁ hB u⟩
  | cons d post =>
    refine wpAny_mono (Y.2 C.A s' hC.roomy (S₁.itIn L₁)) (fun r s₄ hr => ?_) fun _ _ f => f.elim
    obtain ⟨v, rfl, u, G₂, H₂, g₂, hv, nx, Y₂⟩ := hr
    obtain ⟨L₂, S₄⟩ := S₁.step L₁ hB u nx
    refine wpAny_mono (hb d (by rw [hds]; simp) _ ρ' s₄ G₂ ow₁ it v S₄ (Y₂.isIt.mono (S₄.itIn L₂).h) hv) (fun _ s₅ h₅ => wpAny_mono h₅ (fun _ s₆ h₆ => ?_) fun _ _ f => f.elim) fun _ _ f => f.elim
    obtain ⟨G₃, ow₃, S₆⟩ := h₆
    refine wpAny_mono (hbody pre d post ρ' hds hI s₆ G₃ ow₃ S₆) (fun fl s₇ hf => ?_) fun _ _ f => f.elim
    obtain ⟨o, ho, hat⟩ := hf
    cases fl with
    | next => cases o with
      | next ρ₂ =>
        obtain ⟨ρ₃, hI', hw⟩ := ho
        obtain ⟨G₄, ow₄, S₇⟩ := hat
        refine ⟨_, Nat.lt_succ_self _, pre ++ [d], post, ρ₃, G₄, G₂, H₂, g₂, ow₄, rfl, by rw [hds]; simp, hI', L₂, S₇.weaken hw, Y₂.mono S₇.g0 (S₇.disj L₂)⟩
      | _ => exact hat.elim
    | cont => cases o with
      | cont ρ₂ =>
        obtain ⟨ρ₃, hI', hw⟩ := ho
        obtain ⟨G₄, ow₄, S₇⟩ := hat
        refine ⟨_, Nat.lt_succ_self _, pre ++ [d], post, ρ₃, G₄, G₂, H₂, g₂, ow₄, rfl, by rw [hds]; simp, hI', L₂, S₇.weaken hw, Y₂.mono S₇.g0 (S₇.disj L₂)⟩
      | _ => exact hat.elim
    | brk => cases o with
      | brk ρ₂ =>
        obtain ⟨G₄, ow₄, S₇⟩ := hat
        exact ⟨.next ρ₂, ho, G₄, ow₄, S₇.drop L₂ hB⟩
      | _ => exact hat.elim
    | ret v => cases o with
      | ret r =>
        obtain ⟨G₄, ow₄, ρ₄, S₇, hr⟩ := hat
        exact ⟨.ret r, ho, G₄, ow₄, ρ₄, S₇.drop L₂ hB, hr⟩
      | _ => exact hat.elim
end
end Mine
end -- L9

section -- L10
open PySem PySem.W PyProof.Rows PySem.Calls
open Builtin Builtin.Str
set_option maxRecDepth 100000
set_option linter.unusedSectionVars false
set_option linter.unusedVariables false
namespace Mine

noncomputable def one (a : Addr) (o : Obj) : Rdr := fun b => if b = a then some o else none
theorem one_self (a : Addr) (o : Obj) : one a o a = some o := by simp [one]
theorem one_ne {a b : Addr} {o : Obj} (h : one a o b ≠ none) : b = a := by
  unfold one at h; split at h
  · assumption
  · exact absurd rfl h
theorem one_some {a b : Addr} {o x : Obj} (h : one a o b = some x) : b = a ∧ x = o := by
  unfold one at h; split at h
  · cases h; exact ⟨by assumption, rfl⟩
  · cases h
noncomputable abbrev noG : Nat → Option GenState := fun _ => none

section
variable {prog : Program} {w : World}

theorem upd_one {it : Addr} {o : Obj} {s : Shared} {h' : Heap} {t : Nat} (b : AllBare s.gens) (hs : Heap.ExtBut it s.heap h') : Upd (one it o) noG s { s with heap := h', toks := t } where
  heap := fun a x ha e => hs a x (fun q => by subst q; rw [one_self] at ha; cases ha) e
  gens := fun _ _ _ e => e
  bare := b
  os := rfl
theorem next_one {it : Addr} {o o' : Obj} {s : Shared} {h' : Heap} {t : Nat} {G : Rdr} {K : Frag} (i : ItIn K (one it o) noG G s) (hd : G it = none) (hs : Heap.ExtBut it s.heap h') (ho : h'.get? it = some o') :
    Next (one it o) noG G s (one it o') noG G { s with heap := h', toks := t } where
  ext := .refl G
  new := fun _ _ e => .inl e
  rd := fun a x e => hs a x (fun q => by subst q; rw [hd] at e; cases e) (i.rd a x e)
  h := fun a x e => by obtain ⟨rfl, rfl⟩ := one_some e; exact ho
  gg := fun _ _ e => nomatch e
  hnew := fun a h => .inl (by rw [one_ne h, one_self]; exact nofun)
  gnew := fun _ h => absurd rfl h
  disj := fun a h => by rw [one_ne h]; exact hd

theorem isIt_one {it : Addr} {o : Obj} {n : String} (hc : o.cls = .type n) (h : ["enumerate", "zip", "dict_itemiterator", "dict_reverseitemiterator", "odict_iterator", "itertools.zip_longest", "itertools.pairwise"].contains n = false) : IsIt (one it o) (.ref it) := ⟨it, o, n, rfl, one_self _ _, hc, h⟩

theorem yd_list {K : Frag} {it l : Addr} {vs : Array Value} {n : Nat} {ds : List PD} : ∀ {rest : List PD} {i : Nat} {G : Rdr} {o : Obj}, rest = ds.drop i → i ≤ ds.length → G l = some (lstO vs n) → RdL G ds vs.toList → G it = none → o.cls = .type "list_iterator" → o.data = .fields #[.ref l, .int i 0] →
    Yd K (model prog w) (.ref it) rest G (one it o) noG
  | [], i, G, o, hr, hi, hl, hd, hg, hc, hf => And.intro (isIt_one hc (by decide)) fun A s r x => by
    have hlen : vs.size = ds.length := by rw [← hd.length]; simp
    have hi' : i = ds.length := by
      have := congrArg List.length hr
      rw [List.length_drop] at this
      simp at this; omega
    exact wpAny_pyNext_list_end r.hnd ⟨o, x.h _ _ (one_self _ _), hc, hf⟩ ⟨_, x.rd _ _ hl, rfl, n, rfl⟩ (by simp [hlen, hi']) fun h' he => ⟨rfl, upd_one (t := s.toks) x.bare he⟩
  | d :: rest, i, G, o, hr, hi, hl, hd, hg, hc, hf => And.intro (isIt_one hc (by decide)) fun A s r x => by
    have hlt : i < ds.length := by
      have := congrArg List.length hr
      rw [List.length_drop] at this
      simp at this; omega
    have hdi : ds[i]? = some d ∧ rest = ds.drop (i + 1) := by
      rw [List.drop_eq_getElem_cons hlt] at hr
      obtain ⟨a, b⟩ := List.cons_eq_cons.mp hr
      exact ⟨by rw [List.getElem?_eq_getElem hlt, a], b⟩
    obtain ⟨v, hv, hvd⟩ := hd.get hdi.1
    refine wpAny_pyNext_list_item ⟨o, x.h _ _ (one_self _ _), hc, hf⟩ ⟨_, x.rd _ _ hl, rfl, n, rfl⟩ (x := v) (by simpa using hv) fun h' hit hs => ?_
    obtain ⟨o', e1, e2, e3⟩ := hit
    exact ⟨v, rfl, upd_one (t := s.toks) x.bare hs.extBut, G, one it o', noG, hvd, next_one (t := s.toks) x hg hs.extBut e1, yd_list hdi.2 hlt hl hd hg e2 e3⟩

theorem yd_range {K : Frag} {it : Addr} : ∀ {k i : Nat} {G : Rdr} {o : Obj}, G it = none → o = { cls := .type "range_iterator", dict := none, data := .fields #[rawInt i, rawInt k, rawInt 1], slots := #[] } →
    Yd K (model prog w) (.ref it) ((List.range' i k).map fun (j : Nat) => PD.int (j : Int)) G (one it o) noG
  | 0, i, G, o, hg, ho => And.intro (isIt_one (n := "range_iterator") (by rw [ho]) (by decide)) fun A s r x => by
    subst ho
    exact wpAny_pyNext_range_end r.hnd (x := i) (left := (0 : Nat)) (step := 1) (x.h _ _ (one_self _ _)) (by simp) fun h' he => ⟨rfl, upd_one (t := s.toks) x.bare he⟩
  | k + 1, i, G, o, hg, ho => by
    rw [List.range'_succ, List.map_cons]
    refine And.intro (isIt_one (n := "range_iterator") (by rw [ho]) (by decide)) fun A s r x => ?_
    subst ho
    refine wpAny_pyNext_range_item (x := i) (left := ((k + 1 : Nat) : Int)) (step := 1) (x.h _ _ (one_self _ _)) (by omega) fun h' hit hs => ?_
    refine ⟨_, rfl, upd_one x.bare hs.extBut, G, _, noG, .int _ _, next_one x hg hs.extBut hit, yd_range hg ?_⟩
    have e1 : (i : Int) + 1 = ((i + 1 : Nat) : Int) := by omega
    have e2 : ((k + 1 : Nat) : Int) - 1 = (k : Int) := by omega
    rw [e1, e2]

theorem yd_str {K : Frag} {it : Addr} {x : Str} {t : Tok} : ∀ {rest : List Nat} {i : Nat} {G : Rdr} {o : Obj}, rest = x.cps.toList.drop i → i ≤ x.cps.size → G it = none → o.cls = .type "str_ascii_iterator" → o.data = .fields #[.str x t, .int i 0] →
    Yd K (model prog w) (.ref it) (rest.map fun c => PD.str ⟨#[c]⟩) G (one it o) noG
  | [], i, G, o, hr, hi, hg, hc, hf => And.intro (isIt_one hc (by decide)) fun A s r y => by
    have hi' : i = x.cps.size := by
      have := congrArg List.length hr
      rw [List.length_drop] at this
      simp at this; omega
    refine wpAny_pyNext_ascii_end r.hnd ⟨o, y.h _ _ (one_self _ _), hc, hf⟩ (by simp [hi']) fun h' he => ⟨rfl, upd_one (t := s.toks) y.bare he⟩
  | c :: rest, i, G, o, hr, hi, hg, hc, hf => And.intro (isIt_one hc (by decide)) fun A s r y => by
    have hlt : i < x.cps.toList.length := by
      have := congrArg List.length hr
      rw [List.length_drop] at this
      simp at this; simp; omega
    have hdi : x.cps[i]? = some c ∧ rest = x.cps.toList.drop (i + 1) := by
      rw [List.drop_eq_getElem_cons hlt] at hr
      obtain ⟨a, b⟩ := List.cons_eq_cons.mp hr
      refine ⟨?_, b⟩
      rw [← Array.getElem?_toList, List.getElem?_eq_getElem hlt, a]
    refine wpAny_pyNext_ascii_item ⟨o, y.h _ _ (one_self _ _), hc, hf⟩ hdi.1 fun h' hit hs => ?_
    obtain ⟨o', e1, e2, e3⟩ := hit
    exact ⟨_, rfl, upd_one y.bare hs.extBut, G, one it o', noG, .str _ _, next_one y hg hs.extBut e1, yd_str hdi.2 (by rw [Array.length_toList] at hlt; omega) hg e2 e3⟩
end

section
variable {C : Cx} {n : Nat} {ρ : Rho} {P : Out → Prop} {rest : List Stmt}

theorem itNew_push {K : Frag} {s s₁ : Shared} {G G₁ : Rdr} {o : Obj} {ds : List PD} {M : Model} (p : PureStep s s₁) (x : GExt s G G₁ s₁) (hf : o.isFreed = false) (y : Yd K M (.ref s₁.heap.objs.size) ds G₁ (one s₁.heap.objs.size o) noG) :
    ItNew s G ds K M (.ref s₁.heap.objs.size) { s₁ with heap := s₁.heap.push o } G₁ (one s₁.heap.objs.size o) noG where
  pure := p.trans (.push _ _ s₁.toks)
  ext := ⟨x.sub, x.new, fun a o e => Heap.get?_push_of_some _ (x.rd a o e)⟩
  h := fun a x e => by obtain ⟨rfl, rfl⟩ := one_some e; exact Heap.get?_push_size _ hf
  gg := fun _ _ e => nomatch e
  hnew := fun a h => by
    have := one_ne h; subst this
    refine ⟨?_, ?_⟩
    · cases q : s.heap.get? s₁.heap.objs.size with
      | none => rfl
      | some o => have := p.heap _ _ q; rw [get_size] at this; cases this
    · cases q : G₁ s₁.heap.objs.size with
      | none => rfl
      | some o => have := x.rd _ _ q; rw [get_size] at this; cases this
  gnew := fun _ h => absurd rfl h
  yd := y

theorem g_size {s₁ : Shared} {G₁ : Rdr} (rd : ∀ a o, G₁ a = some o → s₁.heap.get? a = some o) : G₁ s₁.heap.objs.size = none := by
  cases q : G₁ s₁.heap.objs.size with
  | none => rfl
  | some o => have := rd _ _ q; rw [get_size] at this; cases this

theorem itb_list {e : Expr} {ds : List PD} (he : EV C ρ e (.list ds)) : Itb C ρ e ds := fun X s G ow S => by
  refine wpAny_mono (he s G ow S) (fun v s₁ r => ?_) fun _ _ f => f
  obtain ⟨p, G₁, g, hr⟩ := r
  obtain ⟨a, vs, k, rfl, hg, hl⟩ := hr.list_inv
  refine wpAny_pyIter_list ⟨_, g.rd _ _ hg, rfl, k, rfl⟩ ⟨G₁, _, noG, itNew_push p g rfl ?_⟩
  exact yd_list (rest := ds) (i := 0) rfl (Nat.zero_le _) hg hl (g_size g.rd) rfl rfl

theorem itb_str {e : Expr} {x : Str} (he : EV C ρ e (.str x)) (ha : x.cps.all (· < 128) = true) : Itb C ρ e (x.cps.toList.map fun c => PD.str ⟨#[c]⟩) := fun X s G ow S => by
  refine wpAny_mono (he s G ow S) (fun v s₁ r => ?_) fun _ _ f => f
  obtain ⟨p, G₁, g, hr⟩ := r
  obtain ⟨t, rfl⟩ := hr.str_inv
  refine wpAny_pyIter_ascii ha ⟨G₁, _, noG, itNew_push p g rfl ?_⟩
  exact yd_str (rest := x.cps.toList) (i := 0) rfl (Nat.zero_le _) (g_size g.rd) rfl rfl

theorem itb_range {px pos : Pos} {e : Expr} {m : Int} (hf : EV C ρ (.Name "range" px) (.raw (.type "range"))) (ha : EVs C ρ [e] [.int m]) (hm : m < 2 ^ 40) (h0 : 0 ≤ m) :
    Itb C ρ (.Call (.Name "range" px) [e] [] pos) ((List.range m.toNat).map fun (j : Nat) => PD.int (j : Int)) := fun X s G ow S => by
  show wpAny _ _ (do callWith pos (← eval (.Name "range" px) C.env) [] (backTo pos (starEach [e] C.env)) []) _ _ s
  refine wpAny_bind (wpAny_mono (hf s G ow S) (fun v s₁ r₁ => ?_) fun _ _ f => f.elim)
  obtain ⟨p₁, G₁, x₁, e₁⟩ := r₁
  cases e₁.raw_inv
  have S₁ := S.grow p₁ x₁
  refine PySem.callWith_type (ha.1 pos) (evalArgs_of (ha.1 pos) (wpAny_mono (ha.2 pos s₁ G₁ ow S₁) (fun vs s₂ r₂ => ?_) fun _ _ f => f.elim))
  obtain ⟨p₂, G₂, x₂, e₂⟩ := r₂
  cases e₂ with | cons h r => cases r with | nil =>
  obtain ⟨t, rfl⟩ := h.int_inv
  have hsm : Builtin.Range.small 0 m 1 = true := small_one (by decide) (by decide) (by omega) (by omega)
  show wpAny _ _ (call (.type "range") [.int m t]) _ _ s₂
  refine call_range_1 ?_
  refine wpAny_pyIter_range (IsRange.new s₂.heap 0 m 1 _ t _) hsm ?_
  have x₃ : GExt s₂ G₂ G₂ { s₂ with heap := s₂.heap.push { cls := .type "range", data := .fields #[.int 0 s₂.toks, .int m t, .int 1 (s₂.toks + 1)] }, toks := s₂.toks + 1 + 1 } := .same fun a o e => Heap.get?_push_of_some _ (x₂.rd a o e)
  have p₃ : PureStep s₂ { s₂ with heap := s₂.heap.push { cls := .type "range", data := .fields #[.int 0 s₂.toks, .int m t, .int 1 (s₂.toks + 1)] }, toks := s₂.toks + 1 + 1 } := .push _ _ _
  have p := p₁.trans (p₂.trans p₃)
  have x := x₁.trans p₁ (x₂.trans p₂ x₃)
  refine ⟨G₂, _, noG, itNew_push p x rfl ?_⟩
  obtain ⟨k, rfl⟩ := Int.eq_ofNat_of_zero_le h0
  rw [Int.toNat_natCast, List.range_eq_range']
  refine yd_range (g_size x.rd) ?_
  have : Builtin.Range.rangeSize 0 (k : Int) 1 = (k : Int) := by
    rw [rangeSize_one]; split <;> omega
  rw [this]
  rfl

/-! several names at once -/
theorem draw_list {prog : Program} {w : World} {A : Around} {E : Value → Shared → Prop} {it l : Addr} {items : Array Value} (hne : l ≠ it) : ∀ (n i : Nat) (s : Shared) (Q : List Value → Shared → Prop), s.heap.IsListIter it l i → s.heap.IsList l items → i + n ≤ items.size →
    (∀ h', h'.IsListIter it l (i + n) → Heap.SameBut it s.heap h' → Q ((items.toList.drop i).take n) { s with heap := h' }) → wpAny (model prog w) A (draw (.ref it) n) Q E s
  | 0, i, s, Q, hit, hl, hn, hQ => by
    rw [draw]
    have := hQ s.heap hit (.refl _ _)
    rw [List.take_zero] at this
    exact wpAny_pure this
  | n + 1, i, s, Q, hit, hl, hn, hQ => by
    rw [draw]
    have hlt : i < items.size := by omega
    refine wpAny_bind (wpAny_pyNext_list_item hit hl (x := items[i]) (by simp [hlt]) fun h₁ hit₁ hs₁ => ?_)
    refine wpAny_bind (wpAny_holding (draw_list hne n (i + 1) _ _ hit₁ (hl.extBut hs₁.extBut hne) (by omega) fun h₂ hit₂ hs₂ => wpAny_pure ?_))
    have hd : items.toList.drop i = items[i] :: items.toList.drop (i + 1) := by simp [List.drop_eq_getElem_cons, hlt]
    have := hQ h₂ (by rw [show i + (n + 1) = i + 1 + n by omega]; exact hit₂) (hs₁.trans hs₂)
    rw [hd, List.take_succ_cons] at this
    exact this

theorem unpackItems_list {prog : Program} {w : World} {A : Around} {E : Value → Shared → Prop} {s : Shared} {l : Addr} {items : Array Value} {Q : List Value → Shared → Prop} (hh : A.handled = none) (hl : s.heap.IsList l items)
    (hQ : ∀ h', (∀ b o, s.heap.get? b = some o → h'.get? b = some o) → Q items.toList { s with heap := h' }) : wpAny (model prog w) A (unpackItems (.ref l) items.size none) Q E s := by
  have hlt : l ≠ s.heap.objs.size := by obtain ⟨o, ho, _⟩ := hl; exact Nat.ne_of_lt (Heap.lt_size ho)
  unfold unpackItems
  refine wpAny_bind ?_
  unfold notIterableAtAll
  refine wpAny_bind (wpAny_specialOf hl.typeIs slot_list_iter.lookup ?_)
  refine wpAny_pure ?_
  simp only [Bool.false_eq_true, if_false]
  refine wpAny_bind (wpAny_holding (wpAny_pyIter_list hl ?_))
  refine wpAny_bind (wpAny_holding (draw_list hlt items.size 0 _ _ ⟨_, Heap.get?_push_size _ rfl, rfl, rfl⟩ (hl.push _) (by omega) fun h₁ hit₁ hs₁ => ?_))
  have hall : List.take items.size (List.drop 0 items.toList) = items.toList := by
    rw [List.drop_zero]; exact List.take_of_length_le (by simp)
  rw [hall]
  rw [if_neg (by simp)]
  have hl₁ : h₁.IsList l items := (hl.push _).extBut hs₁.extBut hlt
  refine wpAny_bind (wpAny_holding (wpAny_pyNext_list_end hh hit₁ hl₁ (by simp) fun h₂ he₂ => ?_))
  simp only [Option.isSome_none, Bool.false_eq_true, if_false]
  refine wpAny_pure (hQ h₂ fun b o e => he₂ b o (Nat.ne_of_lt (Heap.lt_size e)) (hs₁.extBut b o (Nat.ne_of_lt (Heap.lt_size e)) (Heap.get?_push_of_some _ e)))

noncomputable def nameExprs (xs : List (Str × Pos)) : List Expr := xs.map fun p => .Name p.1 p.2
noncomputable def bindAll : List (Str × Pos) → List PD → Rho → Rho
  | (x, _) :: xs, d :: ds, ρ => bindAll xs ds ((x, .val d) :: ρ)
  | _, _, ρ => ρ

theorem assignEach_names (env : Env) : ∀ xs : List (Str × Pos), assignEach (nameExprs xs) env = xs.map fun p => (false, assign (.Name p.1 p.2) env)
  | [] => rfl
  | (x, p) :: r => by
    show (false, assign (.Name x p) env) :: assignEach (nameExprs r) env = _
    rw [assignEach_names env r]; rfl

theorem assignNames (hC : COk C n) {A : Around} {X : Ext} {G : Rdr} (xs : List (Str × Pos)) : ∀ (ds : List PD) (vs : List Value) {ρ : Rho} {s : Shared} {ow : Str → Addr}, St C X ρ s G ow → RdL G ds vs → xs.length = ds.length → (∀ p ∈ xs, CanStore C p.1) →
    wpAny C.M A (assignInOrder (xs.map fun p => assign (.Name p.1 p.2) C.env) vs) (fun _ s' => ∃ ow', St C X (bindAll xs ds ρ) s' G ow') NoE s := by
  induction xs with
  | nil =>
    intro ds vs ρ s ow S l hl hk
    cases l with
    | nil => exact wpAny_pure ⟨ow, S⟩
    | cons => simp at hl
  | cons q xs ih =>
    intro ds vs ρ s ow S l hl hk
    cases l with
    | nil => simp at hl
    | cons h l =>
      rename_i d v ds vs
      obtain ⟨x, p⟩ := q
      show wpAny _ _ (do holding vs (assign (.Name x p) C.env v); assignInOrder _ vs) _ _ s
      refine wpAny_bind (wpAny_holding (wpAny_assign_Name (wpAny_mono (S.storeV hC (hk (x, p) (.head _)) h) (fun _ s' h' => ?_) fun _ _ f => f)))
      obtain ⟨ow', S'⟩ := h'
      exact ih ds vs S' l (by simpa using hl) fun q hq => hk q (.tail _ hq)

/-- a, b, c = e, e a list -/
theorem ex_unpack (hC : COk C n) {xs : List (Str × Pos)} {elts : List Expr} {k : Nat} {tpos pos : Pos} {e : Expr} {ds : List PD} (he : EV C ρ e (.list ds)) (hx : elts = nameExprs xs) (hl : xs.length = ds.length) (hk : ∀ p ∈ xs, CanStore C p.1)
    (h : EX C (bindAll xs ds ρ) rest P) (hs : swapsWithSole [.Tuple elts k tpos] e pos.line C.env = pure false := by rfl) (hw : swappedStores [.Tuple elts k tpos] e C.env = pure none := by rfl) :
    EX C ρ (.Assign [.Tuple elts k tpos] e pos :: rest) P := ex_cons fun X s G ow S => by
  subst hx
  refine Assign_Tuple (wpAny_mono (he s G ow S) (fun v s₁ r => ?_) fun _ _ f => f.elim) hs hw
  obtain ⟨p, G₁, g, hr⟩ := r
  obtain ⟨a, vs, m, rfl, hg, hll⟩ := hr.list_inv
  have S₁ := S.grow p g
  have hvl : vs.size = xs.length := by rw [hl, ← hll.length]; simp
  rw [arm_assign_Tuple]
  refine wpAny_bind (wpAny_standAt ?_)
  unfold unpack
  rw [assignEach_names]
  have h1 : (xs.map fun p => ((false, assign (.Name p.1 p.2) C.env) : Bool × (Value → Sem Unit))).length = vs.size := by rw [List.length_map, hvl]
  have h2 : (xs.map fun p => ((false, assign (.Name p.1 p.2) C.env) : Bool × (Value → Sem Unit))).findIdx? (·.1) = none := by
    rw [List.findIdx?_eq_none_iff]; intro x hx
    obtain ⟨p, _, rfl⟩ := List.mem_map.mp hx; rfl
  rw [h1, h2]
  refine wpAny_bind (wpAny_holding (unpackItems_list hC.hnd ⟨_, S₁.rd _ _ hg, rfl, m, rfl⟩ fun h' hk' => ?_))
  have p₂ : PureStep s₁ { s₁ with heap := h' } := ⟨hk', fun _ _ e => e, fun e => e, rfl⟩
  have S₂ := S₁.grow p₂ (.same fun a o e => hk' a o (S₁.rd a o e))
  rw [List.map_map]
  refine wpAny_mono (assignNames hC xs ds vs.toList S₂ hll hl hk) (fun _ s' h' => ?_) fun _ _ f => f
  obtain ⟨ow', S'⟩ := h'
  exact ⟨.next _, h, G₁, ow', S'⟩

/-- x, y = e₁, e₂ -/
theorem ex_pair (hC : COk C n) {x y : Str} {px py tpos vpos pos : Pos} {k k' : Nat} {e₁ e₂ : Expr} {d₁ d₂ : PD} (he : EVs C ρ [e₁, e₂] [d₁, d₂]) (hx : CanStore C x) (hy : CanStore C y)
    (h : EX C ((x, .val d₁) :: (y, .val d₂) :: ρ) rest P) (hw : swappedStores [.Tuple [.Name x px, .Name y py] k tpos] (.Tuple [e₁, e₂] k' vpos) C.env = pure (some [x, y])) :
    EX C ρ (.Assign [.Tuple [.Name x px, .Name y py] k tpos] (.Tuple [e₁, e₂] k' vpos) pos :: rest) P := ex_cons fun X s G ow S => by
  refine Assign_Tuple_swapped (names := [x, y]) (wpAny_mono (ev_tuple he (by show 2 ≤ sizeLine; decide) s G ow S) (fun v s₁ r => ?_) fun _ _ f => f.elim) rfl hw
  obtain ⟨p, G₁, g, hr⟩ := r
  obtain ⟨a, vs, m, rfl, hg, hll⟩ := hr.tup_inv
  have S₁ := S.grow p g
  have hvl : vs.size = 2 := by rw [← Array.length_toList, hll.length]; rfl
  show wpAny _ _ (unpackItems (.ref a) 2 none) _ _ s₁
  have hT : s₁.heap.IsTuple a vs := ⟨_, S₁.rd _ _ hg, rfl, m, rfl⟩
  rw [← hvl]
  refine wpAny_unpackItems_tuple hC.hnd hT fun h' hk' => ?_
  have p₂ : PureStep s₁ { s₁ with heap := h' } := ⟨fun a o e => hk' a o (Nat.ne_of_lt (Heap.lt_size e)) e, fun _ _ e => e, fun e => e, rfl⟩
  have S₂ := S₁.grow p₂ (.same fun a o e => p₂.heap a o (S₁.rd a o e))
  obtain ⟨v1, v2, hvs, h1, h2⟩ : ∃ v1 v2, vs.toList = [v1, v2] ∧ Rd G₁ d₁ v1 ∧ Rd G₁ d₂ v2 := by
    generalize vs.toList = l at hll
    cases hll with | cons h1 r => cases r with | cons h2 r => cases r with | nil => exact ⟨_, _, rfl, h1, h2⟩
  rw [hvs]
  show wpAny _ _ (assignInOrder [fun v => bindName C.env y v, fun v => bindName C.env x v] [v2, v1]) _ _ _
  show wpAny _ _ (do holding [v1] (bindName C.env y v2); assignInOrder [fun v => bindName C.env x v] [v1]) _ _ _
  refine wpAny_bind (wpAny_holding (wpAny_bindName (wpAny_mono (S₂.storeV hC hy h2) (fun _ s' h' => ?_) fun _ _ f => f)))
  obtain ⟨ow', S'⟩ := h'
  show wpAny _ _ (do holding [] (bindName C.env x v1); assignInOrder [] []) _ _ _
  refine wpAny_bind (wpAny_holding (wpAny_bindName (wpAny_mono (S'.storeV hC hx h1) (fun _ s' h' => ?_) fun _ _ f => f)))
  obtain ⟨ow', S'⟩ := h'
  exact wpAny_pure ⟨.next _, h, G₁, ow', S'⟩
end
end Mine
end -- L10

section -- L11
open PySem PySem.W PyProof.Rows PySem.Calls
open Builtin Builtin.Str
set_option maxRecDepth 100000
set_option linter.unusedSectionVars false
set_option linter.unusedVariables false
namespace Mine

noncomputable def ItSelf (K : Frag) (M : Model) (it : Value) (G H : Rdr) (g : Nat → Option GenState) : Prop :=
  ∀ (A : Around) (s : Shared), ItIn K H g G s → wpAny M A (pyIter it) (fun v s' => v = it ∧ s' = s) NoE s

/-- a source of a comprehension: its iterator is its own iterator -/
noncomputable def ItbC (C : Cx) (ρ : Rho) (e : Expr) (ds : List PD) : Prop :=
  ∀ ⦃X : Ext⦄ (s : Shared) (G : Rdr) (ow : Str → Addr), St C X ρ s G ow →
    wpAny C.M C.A (eval e C.env) (fun x s₁ => wpAny C.M C.A (pyIter x) (fun it s₂ => ∃ G' H g, ItNew s G ds C.K C.M it s₂ G' H g ∧ ItSelf C.K C.M it G' H g ∧ ∃ a, it = .ref a) NoE s₁) NoE s

section
variable {C : Cx} {n : Nat} {ρ : Rho}

theorem itbc_list {e : Expr} {ds : List PD} (he : EV C ρ e (.list ds)) : ItbC C ρ e ds := fun X s G ow S => by
  refine wpAny_mono (he s G ow S) (fun v s₁ r => ?_) fun _ _ f => f
  obtain ⟨p, G₁, g, hr⟩ := r
  obtain ⟨a, vs, k, rfl, hg, hl⟩ := hr.list_inv
  refine wpAny_pyIter_list ⟨_, g.rd _ _ hg, rfl, k, rfl⟩ ⟨G₁, _, noG, itNew_push p g rfl ?_, ?_, _, rfl⟩
  · exact yd_list (rest := ds) (i := 0) rfl (Nat.zero_le _) hg hl (g_size g.rd) rfl rfl
  · intro A s' i
    exact wpAny_pyIter_listiter (i := 0) ⟨_, i.h _ _ (one_self _ _), rfl, rfl⟩ ⟨rfl, rfl⟩

theorem itbc_range {px pos : Pos} {e : Expr} {m : Int} (hf : EV C ρ (.Name "range" px) (.raw (.type "range"))) (ha : EVs C ρ [e] [.int m]) (hm : m < 2 ^ 40) (h0 : 0 ≤ m) :
    ItbC C ρ (.Call (.Name "range" px) [e] [] pos) ((List.range m.toNat).map fun (j : Nat) => PD.int (j : Int)) := fun X s G ow S => by
  show wpAny _ _ (do callWith pos (← eval (.Name "range" px) C.env) [] (backTo pos (starEach [e] C.env)) []) _ _ s
  refine wpAny_bind (wpAny_mono (hf s G ow S) (fun v s₁ r₁ => ?_) fun _ _ f => f.elim)
  obtain ⟨p₁, G₁, x₁, e₁⟩ := r₁
  cases e₁.raw_inv
  have S₁ := S.grow p₁ x₁
  refine PySem.callWith_type (ha.1 pos) (evalArgs_of (ha.1 pos) (wpAny_mono (ha.2 pos s₁ G₁ ow S₁) (fun vs s₂ r₂ => ?_) fun _ _ f => f.elim))
  obtain ⟨p₂, G₂, x₂, e₂⟩ := r₂
  cases e₂ with | cons h r => cases r with | nil =>
  obtain ⟨t, rfl⟩ := h.int_inv
  have hsm : Builtin.Range.small 0 m 1 = true := small_one (by decide) (by decide) (by omega) (by omega)
  show wpAny _ _ (call (.type "range") [.int m t]) _ _ s₂
  refine call_range_1 ?_
  refine wpAny_pyIter_range (IsRange.new s₂.heap 0 m 1 _ t _) hsm ?_
  have x₃ : GExt s₂ G₂ G₂ { s₂ with heap := s₂.heap.push { cls := .type "range", data := .fields #[.int 0 s₂.toks, .int m t, .int 1 (s₂.toks + 1)] }, toks := s₂.toks + 1 + 1 } := .same fun a o e => Heap.get?_push_of_some _ (x₂.rd a o e)
  have p₃ : PureStep s₂ { s₂ with heap := s₂.heap.push { cls := .type "range", data := .fields #[.int 0 s₂.toks, .int m t, .int 1 (s₂.toks + 1)] }, toks := s₂.toks + 1 + 1 } := .push _ _ _
  have p := p₁.trans (p₂.trans p₃)
  have x := x₁.trans p₁ (x₂.trans p₂ x₃)
  obtain ⟨k, rfl⟩ := Int.eq_ofNat_of_zero_le h0
  have hrs : Builtin.Range.rangeSize 0 (k : Int) 1 = (k : Int) := by
    rw [rangeSize_one]; split <;> omega
  rw [hrs]
  refine ⟨G₂, _, noG, itNew_push p x rfl ?_, ?_, _, rfl⟩
  · rw [Int.toNat_natCast, List.range_eq_range']
    exact yd_range (g_size x.rd) rfl
  · intro A s' i
    exact wpAny_pyIter_rangeiter (x := 0) (left := k) (step := 1) (i.h _ _ (one_self _ _)) ⟨rfl, rfl⟩

/-- the tests of a clause -/
noncomputable def ETs (C : Cx) (ρ : Rho) (ifs : List Expr) (b : Bool) : Prop :=
  ∀ ⦃X : Ext⦄ (s : Shared) (G : Rdr) (ow : Str → Addr), St C X ρ s G ow →
    wpAny C.M C.A (forIn ifs true fun c r => if r = true then do let ok ← PySem.isTrue c C.env (eval c C.env); pure (ForInStep.yield ok) else pure (ForInStep.yield r)) (fun ok s' => ok = b ∧ PureStep s s') NoE s
theorem ets_nil : ETs C ρ [] true := fun X s G ow S => by rw [List.forIn_nil]; exact wpAny_pure ⟨rfl, .refl s⟩
theorem ets_one {c : Expr} {b : Bool} (h : ET C ρ c b) : ETs C ρ [c] b := fun X s G ow S => by
  rw [List.forIn_cons]
  refine wpAny_bind ?_
  rw [if_pos rfl]
  refine wpAny_bind (wpAny_mono (h s G ow S) (fun ok s' h' => wpAny_pure ?_) fun _ _ f => f.elim)
  dsimp only
  rw [List.forIn_nil]
  exact wpAny_pure h'

/-- a comprehension's own frame -/
structure CompOf (C C' : Cx) (scope : Scope) (n : Nat) : Prop where
  prog : C'.prog = C.prog
  w : C'.w = C.w
  K : C'.K = C.K
  A : C'.A = C.A
  sc : C'.env.scope = relabel scope C.env
  ok : COk C' n

noncomputable def Rdr.less (G : Rdr) (p : Addr → Prop) [DecidablePred p] : Rdr := fun a => if p a then none else G a
mutual
theorem Rd.restrict {G G' : Rdr} (h : ∀ a o, G a = some o → (∀ v, o.data ≠ .cell v) → G' a = some o) : ∀ {d : PD} {v : Value}, Rd G d v → Rd G' d v
  | _, _, .none => .none
  | _, _, .bool b => .bool b
  | _, _, .int i t => .int i t
  | _, _, .str x t => .str x t
  | _, _, .raw v => .raw v
  | _, _, .list e l => .list (h _ _ e (fun _ => nofun)) (RdL.restrict h l)
  | _, _, .tup e l => .tup (h _ _ e (fun _ => nofun)) (RdL.restrict h l)
  | _, _, .dict e l n => .dict (h _ _ e (fun _ => nofun)) (RdE.restrict h l) n
theorem RdL.restrict {G G' : Rdr} (h : ∀ a o, G a = some o → (∀ v, o.data ≠ .cell v) → G' a = some o) : ∀ {ds : List PD} {vs : List Value}, RdL G ds vs → RdL G' ds vs
  | _, _, .nil => .nil
  | _, _, .cons a r => .cons (Rd.restrict h a) (RdL.restrict h r)
theorem RdE.restrict {G G' : Rdr} (h : ∀ a o, G a = some o → (∀ v, o.data ≠ .cell v) → G' a = some o) : ∀ {ds : List (Int × PD)} {vs : List DictEntry}, RdE G ds vs → RdE G' ds vs
  | _, _, .nil => .nil
  | _, _, .cons a r => .cons (Rd.restrict h a) (RdE.restrict h r)
end

theorem list_append_call {C : Cx} {A : Around} {s : Shared} {D : Addr} {ys : Array Value} {k : Nat} {v : Value} {Q : Value → Shared → Prop} {E : Value → Shared → Prop} (hg : s.heap.get? D = some (lstO ys k)) (hsz : ys.size ≤ sizeLine)
    (hQ : ∀ h', h'.get? D = some (lstO (ys.push v) (k + 1)) → Heap.SameBut D s.heap h' → Q .none { s with heap := h' }) : wpAny C.M A (call (.builtin "list.append") [.ref D, v]) Q E s := by
  refine call_meets F.slot_list_append ⟨_, hg, rfl⟩ F.entry_list_append (F.args_list_append_2 _ _) (list_append D ys k v hsz) ⟨hg, ?_⟩
  exact hQ _ (by rw [Heap.get?_update_self _ hg rfl, Obj.mapSeq_push_plain]) (Heap.SameBut.update ..)

theorem ev_comp (hC : COk C n) {elt iter : Expr} {x : Str} {px pos : Pos} {ifs : List Expr} {scope : Scope} {cl : List (Str × Addr)} {ds : List PD} {ρc : Rho} {test : PD → Bool} {f : PD → PD} (hit : ItbC C ρ iter ds)
    (hclos : closureFor scope C.env = pure cl) (hcell : ∀ y ∈ scope.names, y.2 ≠ .cell) (hkind : scope.kind = .function) (hnames : ∀ y ∈ scope.names, y.2 = .local → scope.names.lookup y.1 = some .local) (hx : scope.names.lookup x = some .local)
    (hcl : ∀ y c, cl.lookup y = some c → C.env.cells.lookup y = some c) (hco : C.cown = true) (hxc : ρc.lookup x = none)
    (hcap : ∀ y sl, ρc.lookup y = some sl → ∃ d, sl = .val d ∧ ρ.lookup y = some (.val d) ∧ C.env.kindOf y = some .cell ∧ (relabel scope C.env).names.lookup y = some .cell ∧ (cl.lookup y).isSome = true)
    (htest : ∀ C', CompOf C C' scope n → ∀ d ∈ ds, ETs C' ((x, .val d) :: ρc) ifs (test d))
    (helt : ∀ C', CompOf C C' scope n → ∀ d ∈ ds, test d = true → EV C' ((x, .val d) :: ρc) elt (f d)) (hsz : ds.length ≤ sizeLine)
    (hs : ∀ x, foldedSetIterable iter C.env x = pure x := by intro _; rfl) :
    EV C ρ (.ListComp elt [⟨.Name x px, iter, ifs, 0⟩] scope pos) (.list ((ds.filter test).map f)) := fun X s G ow S => by
  rw [eval_ListComp]
  refine wpAny_comprehension_free (use := none) rfl hs hclos hkind hnames (wpAny_mono (hit s G ow S) (fun xv s₁ h₁ => wpAny_mono h₁ (fun it s₂ h₂ => ?_) fun _ _ f => f.elim) fun _ _ f => f.elim)
  obtain ⟨G₂, H, g, N, self, a, rfl⟩ := h₂
  have S₂ := S.grow N.pure N.ext
  refine wpAny_newList ?_ (by simp)
  refine wpAny_newFunctionEnv hcell (by intro y hy; cases hy) (fun h₄ hns hsb => ?_) hkind
  dsimp only at hns hsb ⊢
  generalize hH3 : s₂.heap.push { cls := .type "list", data := .seq ([] : List Value).toArray } = H3 at hns hsb ⊢
  have hsize : H3.objs.size = s₂.heap.objs.size + 1 := by rw [← hH3, Heap.size_push]
  have hD3 : H3.get? s₂.heap.objs.size = some (lstO #[] 0) := by rw [← hH3]; exact Heap.get?_push_size _ rfl
  have old : ∀ b o, s₂.heap.get? b = some o → h₄.get? b = some o := fun b o e => hsb.extBut b o (Nat.ne_of_lt (by rw [hsize]; exact Nat.lt_succ_of_lt (Heap.lt_size e))) (Heap.get?_push_of_some _ (by rw [← hH3]; exact Heap.get?_push_of_some _ e))
  have hDL : s₂.heap.objs.size ≠ H3.objs.size := by omega
  have hD4 : h₄.get? s₂.heap.objs.size = some (lstO #[] 0) := hsb.extBut _ _ hDL (Heap.get?_push_of_some _ hD3)
  generalize hDd : s₂.heap.objs.size = D at hD3 hDL hD4 ⊢
  generalize hLd : H3.objs.size = L' at hns hsb hDL ⊢
  have fD : s₂.heap.get? D = none := by rw [← hDd]; exact get_size _
  have fL : s₂.heap.get? L' = none := get_ge (by omega)
  have up2 : ∀ b, s₂.heap.get? b = none → s.heap.get? b = none := fun b e => by
    cases q : s.heap.get? b with
    | none => rfl
    | some o => rw [N.pure.heap b o q] at e; cases e
  let C' : Cx := { C with env := compEnvC scope cl L' C.env, cown := false }
  have cellAt : ∀ y c, cl.lookup y = some c → ∃ o v, s.heap.get? c = some o ∧ o.data = .cell v := fun y c e => let ⟨v, o, a, b⟩ := S.cell y c (hcl y c e); ⟨o, v, a, b⟩
  have hC' : COk C' n := {
    fn := hkind, hnd := hC.hnd, globals := hC.globals, builtins := hC.builtins, depth := hC.depth, units := hC.units
    cellL := fun y c e q => by
      obtain ⟨o, v, h, _⟩ := cellAt y c e
      have h' : C'.env.locals = L' := rfl
      rw [q, h'] at h
      rw [up2 L' fL] at h; cases h
    cellI := fun y z c e e' => hC.cellI y z c (hcl y c e) (hcl z c e') }
  have K : CompOf C C' scope n := ⟨rfl, rfl, rfl, rfl, rfl, hC'⟩
  have hkx : CanStore C' x := .inl (lookup_relabel_local hx)
  -- what may be read: and the cells
  let isCell : Addr → Prop := fun b => ∃ y, cl.lookup y = some b
  classical
  let Gc : Rdr := fun b => if isCell b then s.heap.get? b else G₂ b
  let X₀ : Ext := ⟨s.heap.get?, fun i => s.gens[i]?, Gc⟩
  have gcRd : ∀ b o, Gc b = some o → h₄.get? b = some o := fun b o e => by
    dsimp only [Gc] at e
    split at e
    · exact old b o (N.pure.heap b o e)
    · exact old b o (N.ext.rd b o e)
  have gcSub : Sub G₂ Gc := fun b o e => by
    dsimp only [Gc]
    split
    · rename_i hc
      obtain ⟨y, hy⟩ := hc
      have := (S₂.fp b (.inr ⟨hco, y, hcl y b hy⟩)).1
      rw [this] at e; cases e
    · exact e
  have gcD : Gc D = none := by
    cases q : Gc D with
    | none => rfl
    | some o =>
      dsimp only [Gc] at q
      split at q
      · rw [up2 D fD] at q; cases q
      · have := N.ext.rd _ _ q; rw [fD] at this; cases this
  have hH : ∀ b, H b ≠ none → Gc b = none := fun b hb => by
    have := N.hnew b hb
    dsimp only [Gc]
    split
    · exact this.1
    · exact this.2
  have HD : H D = none := by
    cases q : H D with
    | none => rfl
    | some o => have := N.h _ _ q; rw [fD] at this; cases this
  have L₀ : LoopX X₀ (H.or (one D (lstO #[] 0))) g Gc := {
    disj := fun b hb => by
      by_cases q : H b = none
      · have : b = D := one_ne (fun e => hb (Rdr.or_none q e))
        subst this
        exact ⟨up2 _ fD, gcD⟩
      · exact ⟨(N.hnew b q).1, hH b q⟩
    disg := fun i hi => N.gnew i hi
    sub := .refl _
    new := fun b o e => .inl e }
  have S₀ : St C' (joinX X₀ (H.or (one D (lstO #[] 0))) g Gc) ρc { s₂ with heap := h₄, toks := s₂.toks + ([] : List (Str × Value)).length } Gc (fun _ => 0) := {
    keep := fun b o e => by
      rcases Rdr.or_some e with h | ⟨_, h⟩
      · exact old b o (N.pure.heap b o h)
      · rcases Rdr.or_some h with h | ⟨_, h⟩
        · exact old b o (N.h b o h)
        · obtain ⟨rfl, rfl⟩ := one_some h; exact hD4
    keepg := fun i y e => by
      have e' : (s.gens[i]?).or (g i) = some y := e
      cases q : s.gens[i]? with
      | some z => rw [q] at e'; cases e'; exact N.pure.gens i _ q
      | none => rw [q] at e'; exact N.gg i y e'
    bare := S₂.bare
    os := S₂.os
    ok := ⟨s.heap, S.gok, fun b o e => Rdr.or_left _ _ b o e⟩
    rd := gcRd
    g0 := .refl _
    new := fun b o e => .inl e
    fp := fun b hb => by
      rcases hb with hb | ⟨h, _⟩
      · have hl : b = L' := hb
        rw [hl]
        refine ⟨?_, Rdr.or_none (up2 _ fL) (Rdr.or_none ?_ ?_)⟩
        · cases q : Gc L' with
          | none => rfl
          | some o =>
            dsimp only [Gc] at q
            split at q
            · rw [up2 _ fL] at q; cases q
            · have := N.ext.rd _ _ q; rw [fL] at this; cases this
        · cases q : H L' with
          | none => rfl
          | some o => have := N.h _ _ q; rw [fL] at this; cases this
        · cases q : one D (lstO #[] 0) L' with
          | none => rfl
          | some o => exact absurd (one_some q).1.symm hDL
      · cases h
    ns := ⟨_, hns⟩
    cell := fun y c hy => by
      obtain ⟨v, o, e, d⟩ := S.cell y c (hcl y c hy)
      exact ⟨v, o, old c o (N.pure.heap c o e), d⟩
    cellG := fun _ y c hy => by
      obtain ⟨v, o, e, d⟩ := S.cell y c (hcl y c hy)
      exact ⟨o, by dsimp only [Gc]; rw [if_pos ⟨y, hy⟩]; exact e⟩
    loc := fun y sl e => by
      obtain ⟨d, rfl, h1, h2, h3, h4⟩ := hcap y sl e
      obtain ⟨v, hv, hr⟩ := S₂.loc y _ h1
      refine ⟨v, ?_, Rd.mono gcSub hr⟩
      rcases hv with ⟨hk, _⟩ | ⟨_, c, hc, o, ho, hd⟩
      · rw [h2] at hk; cases hk
      · obtain ⟨c', hc'⟩ := Option.isSome_iff_exists.mp h4
        have := hcl y c' hc'
        rw [hc] at this; cases this
        exact .inr ⟨.inl h3, c, hc', o, old c o ho, hd⟩
    own := fun y ⟨sl, e, ho⟩ => by obtain ⟨d, rfl, _⟩ := hcap y sl e; cases ho
    apart := fun y z ⟨sl, e, ho⟩ _ _ => by obtain ⟨d, rfl, _⟩ := hcap y sl e; cases ho }
  -- the end of the loop gives what is wanted
  have fin : ∀ (s' : Shared) (ys : Array Value) (k : Nat) (G₁ : Rdr) (ow₁ : Str → Addr), St C' X₀ ρc s' G₁ ow₁ → s'.heap.get? D = some (lstO ys k) → G₁ D = none → RdL G₁ ((ds.filter test).map f) ys.toList → (∃ m, s'.heap.Ns L' m) →
      ∀ h', Heap.SameBut L' s'.heap h' → Res s G (.list ((ds.filter test).map f)) (.ref D) { s' with heap := h' } := by
    intro s' ys k G₁ ow₁ S₁ hD hG1 hl _ h' hs'
    have kk : ∀ b o, s.heap.get? b = some o → h'.get? b = some o := fun b o e => hs'.extBut b o (fun q => by subst q; rw [up2 _ fL] at e; cases e) (S₁.keep b o e)
    have hGL : G₁ L' = none := (S₁.fp L' (.inl rfl)).1
    let G₃ : Rdr := fun b => if isCell b then none else G₁ b
    have g3 : ∀ b o, G₃ b = some o → G₁ b = some o := fun b o e => by
      dsimp only [G₃] at e; split at e
      · cases e
      · exact e
    have g3D : G₃ D = none := by
      cases q : G₃ D with
      | none => rfl
      | some o => have := g3 _ _ q; rw [hG1] at this; cases this
    refine ⟨⟨kk, fun i y e => S₁.keepg i y e, fun _ => S₁.bare, S₁.os.trans S.os.symm⟩, G₃.put D (lstO ys k), ⟨?_, ?_, ?_⟩, .list (Rdr.put_self _ _ _) ?_⟩
    · refine Sub.trans ?_ (Rdr.put_sub g3D)
      intro b o e
      dsimp only [G₃]
      split
      · rename_i hc
        obtain ⟨y, hy⟩ := hc
        rw [(S.fp b (.inr ⟨hco, y, hcl y b hy⟩)).1] at e; cases e
      · exact S₁.g0 b o (gcSub b o (N.ext.sub b o e))
    · intro b o e
      unfold Rdr.put at e
      split at e
      · rename_i q; subst q; exact .inr (up2 _ fD)
      · dsimp only [G₃] at e
        split at e
        · cases e
        · rename_i hnc
          rcases S₁.new b o e with h | h
          · have h' : Gc b = some o := h
            dsimp only [Gc] at h'
            rw [if_neg hnc] at h'
            exact N.ext.new b o h'
          · exact .inr h
    · intro b o e
      unfold Rdr.put at e
      split at e
      · rename_i q; subst q; cases e; exact hs'.extBut _ _ hDL hD
      · have := g3 b o e
        exact hs'.extBut b o (fun q => by subst q; rw [hGL] at this; cases this) (S₁.rd b o this)
    · refine RdL.mono (Rdr.put_sub g3D) (RdL.restrict (fun b o e hd => ?_) hl)
      dsimp only [G₃]
      rw [if_neg]
      · exact e
      · rintro ⟨y, hy⟩
        obtain ⟨o', v, h1, h2⟩ := cellAt y b hy
        have := S₁.keep b o' h1
        rw [S₁.rd b o e] at this; cases this
        exact hd v h2
  have loop : codeAny C.M C.A (.compLoop (.ListComp elt [⟨.Name x px, iter, ifs, 0⟩] scope pos) 0 (.ref a) (.ref D) C'.env)
      (compPost C.M C.A NoE none (fun v s' => Res s G (.list ((ds.filter test).map f)) v s') (.ref D) L') { s₂ with heap := h₄, toks := s₂.toks + ([] : List (Str × Value)).length } := by
    refine codeAny_compLoop_tests (fun m s' => ∃ pre post ys k G₁ Gk H₁ g₁ ow₁, m = post.length ∧ ds = pre ++ post ∧ RdL G₁ ((pre.filter test).map f) ys.toList ∧ LoopX X₀ (H₁.or (one D (lstO ys k))) g₁ Gk ∧ H₁ D = none ∧
        St C' (joinX X₀ (H₁.or (one D (lstO ys k))) g₁ Gk) ρc s' G₁ ow₁ ∧ Yd C.K C.M (.ref a) post G₁ H₁ g₁) ?_ ds.length
      ⟨[], ds, #[], 0, Gc, Gc, H, g, _, rfl, rfl, .nil, L₀, HD, S₀, N.yd.mono gcSub hH⟩
    rintro m s' ⟨pre, post, ys, k, G₁, Gk, H₁, g₁, ow₁, rfl, hds, hl, L₁, h1D, S₁, Y⟩
    have ii := S₁.itIn L₁
    have ii1 : ItIn C.K H₁ g₁ G₁ s' := { ii with h := (Rdr.or_left _ _).trans ii.h }
    have hD1 : s'.heap.get? D = some (lstO ys k) := ii.h D _ (by unfold Rdr.or; rw [h1D]; exact one_self _ _)
    have g1D : G₁ D = none := S₁.disj L₁ D (by unfold Rdr.or; rw [h1D, one_self]; exact nofun)
    have hysz : ys.size ≤ sizeLine := by
      have e1 := hl.length
      rw [List.length_map] at e1
      have e2 := List.length_filter_le test pre
      have e3 := congrArg List.length hds
      rw [List.length_append] at e3
      rw [Array.length_toList] at e1
      omega
    cases post with
    | nil =>
      refine wpAny_mono (Y.2 C.A s' hC.roomy ii1) (fun r s₄ hr => ?_) fun _ _ f => f.elim
      obtain ⟨rfl, u⟩ := hr
      have u' : Upd (H₁.or (one D (lstO ys k))) g₁ s' s₄ := { u with heap := fun b o e => u.heap b o (or_ne_left e) }
      have S₄ := St.ended (C := C') L₁ ⟨s.heap, S.gok, fun _ _ e => e⟩ S₁ u'
      obtain ⟨mm, hmm⟩ := S₄.ns
      exact ⟨mm, hmm, fun h' hs' => fin s₄ ys k G₁ ow₁ S₄ (u.heap _ _ h1D hD1) g1D (by rw [hds, List.append_nil]; exact hl) ⟨mm, hmm⟩ h' hs'⟩
    | cons d post =>
      refine wpAny_mono (Y.2 C.A s' hC.roomy ii1) (fun r s₄ hr => ?_) fun _ _ f => f.elim
      obtain ⟨v, rfl, u, G₅, H₂, g₂, hv, nx, Y₂⟩ := hr
      have u' : Upd (H₁.or (one D (lstO ys k))) g₁ s' s₄ := { u with heap := fun b o e => u.heap b o (or_ne_left e) }
      have hD4' : s₄.heap.get? D = some (lstO ys k) := u.heap _ _ h1D hD1
      have h2D : H₂ D = none := by
        cases q : H₂ D with
        | none => rfl
        | some o =>
          rcases nx.hnew D (by rw [q]; exact nofun) with h | h
          · exact absurd h1D h
          · rw [hD1] at h; cases h
      have g5D : G₅ D = none := by
        cases q : G₅ D with
        | none => rfl
        | some o =>
          rcases nx.new D o q with h | h
          · rw [g1D] at h; cases h
          · rw [hD1] at h; cases h
      have nx' : Next (H₁.or (one D (lstO ys k))) g₁ G₁ s' (H₂.or (one D (lstO ys k))) g₂ G₅ s₄ := { nx with
        h := fun b o e => by
          rcases Rdr.or_some e with h | ⟨_, h⟩
          · exact nx.h b o h
          · obtain ⟨rfl, rfl⟩ := one_some h; exact hD4'
        hnew := fun b hb => by
          by_cases q : H₂ b = none
          · have : b = D := one_ne (fun e => hb (Rdr.or_none q e))
            subst this
            left; unfold Rdr.or; rw [h1D, one_self]; exact nofun
          · rcases nx.hnew b q with h | h
            · left; intro e; exact h (or_ne_left e)
            · exact .inr h
        disj := fun b hb => by
          by_cases q : H₂ b = none
          · have : b = D := one_ne (fun e => hb (Rdr.or_none q e))
            subst this; exact g5D
          · exact nx.disj b q }
      obtain ⟨L₂, S₂'⟩ := St.step (C := C') L₁ ⟨s.heap, S.gok, fun _ _ e => e⟩ S₁ u' nx'
      have hdm : d ∈ ds := by rw [hds]; simp
      refine wpAny_assign_Name (wpAny_mono (S₂'.storeV hC' hkx hv) (fun _ s₅ h₅ => ?_) fun _ _ f => f.elim)
      obtain ⟨ow₅, S₅⟩ := h₅
      refine wpAny_mono (htest C' K d hdm s₅ G₅ ow₅ S₅) (fun ok s₆ h₆ => ?_) fun _ _ f => f.elim
      obtain ⟨rfl, p₆⟩ := h₆
      have S₆ := S₅.grow p₆ (.same fun b o e => p₆.heap b o (S₅.rd b o e))
      have drop : ∀ y sl, ρc.lookup y = some sl → List.lookup y ((x, Slot.val d) :: ρc) = some sl := fun y sl e => by
        rw [lookup_cons_eq, if_neg]
        · exact e
        · rintro rfl; rw [hxc] at e; cases e
      cases ht : test d with
      | false =>
        rw [if_neg Bool.false_ne_true]
        refine ⟨post.length, Nat.lt_succ_self _, pre ++ [d], post, ys, k, G₅, G₅, H₂, g₂, ow₅, rfl, by rw [hds]; simp, ?_, L₂, h2D, S₆.weaken drop, Y₂⟩
        rw [List.filter_append, List.filter_cons, ht, if_neg Bool.false_ne_true, List.filter_nil, List.append_nil]
        exact hl.mono nx.ext
      | true =>
        rw [if_pos rfl]
        refine wpAny_mono (helt C' K d hdm ht s₆ G₅ ow₅ S₆) (fun v' s₇ r => ?_) fun _ _ f => f.elim
        obtain ⟨p₇, G₇, x₇, hr⟩ := r
        have S₇ := S₆.grow p₇ x₇
        have i7 := S₇.itIn L₂
        have hD7 : s₇.heap.get? D = some (lstO ys k) := i7.h D _ (by unfold Rdr.or; rw [h2D]; exact one_self _ _)
        have g7D : G₇ D = none := S₇.disj L₂ D (by unfold Rdr.or; rw [h2D, one_self]; exact nofun)
        refine list_append_call (C := C) hD7 hysz fun h' hD' hs' => ?_
        have u₈ : Upd (H₂.or (one D (lstO ys k))) g₂ s₇ { s₇ with heap := h' } := {
          heap := fun b o hb e => hs'.extBut b o (fun q => by subst q; unfold Rdr.or at hb; rw [h2D, one_self] at hb; cases hb) e
          gens := fun _ _ _ e => e
          bare := S₇.bare
          os := rfl }
        have nx₈ : Next (H₂.or (one D (lstO ys k))) g₂ G₇ s₇ (H₂.or (one D (lstO (ys.push v') (k + 1)))) g₂ G₇ { s₇ with heap := h' } := {
          ext := .refl _
          new := fun _ _ e => .inl e
          rd := fun b o e => hs'.extBut b o (fun q => by subst q; rw [g7D] at e; cases e) (S₇.rd b o e)
          h := fun b o e => by
            rcases Rdr.or_some e with h | ⟨_, h⟩
            · exact hs'.extBut b o (fun q => by subst q; rw [h2D] at h; cases h) (i7.h b o (Rdr.or_left _ _ b o h))
            · obtain ⟨rfl, rfl⟩ := one_some h; exact hD'
          gg := i7.g
          hnew := fun b hb => .inl fun e => hb (by
            have h1 := or_ne_left e
            have h2 := or_ne_right e
            refine Rdr.or_none h1 ?_
            cases q : one D (lstO (ys.push v') (k + 1)) b with
            | none => rfl
            | some o => obtain ⟨rfl, _⟩ := one_some q; rw [one_self] at h2; cases h2)
          gnew := fun i hi => .inl hi
          disj := fun b hb => by
            by_cases q : H₂ b = none
            · have : b = D := one_ne (fun e => hb (Rdr.or_none q e))
              subst this; exact g7D
            · exact S₇.disj L₂ b (fun e => q (or_ne_left e)) }
        obtain ⟨L₈, S₈⟩ := St.step (C := C') L₂ ⟨s.heap, S.gok, fun _ _ e => e⟩ S₇ u₈ nx₈
        refine ⟨post.length, Nat.lt_succ_self _, pre ++ [d], post, ys.push v', k + 1, G₇, G₇, H₂, g₂, ow₅, rfl, by rw [hds]; simp, ?_, L₈, h2D, S₈.weaken drop, Y₂.mono x₇.sub fun b hb => S₇.disj L₂ b (fun e => hb (or_ne_left e))⟩
        rw [List.filter_append, List.filter_cons, ht, if_pos rfl, List.filter_nil, List.map_append, Array.toList_push]
        exact ((hl.mono nx.ext).mono x₇.sub).append (.cons hr .nil)
  refine codeAny_compStart_list loop ?_
  refine wpAny_mono (self C.A _ ?_) (fun v s' h => ?_) fun _ _ f => f.elim
  · exact { gok := S₀.gok, h := fun b o e => old b o (N.h b o e), g := N.gg, bare := S₂.bare, rd := fun b o e => old b o (N.ext.rd b o e) }
  · obtain ⟨rfl, rfl⟩ := h
    exact loop
end
end Mine
end -- L11

section -- L12
open PySem PySem.W PyProof.Rows PySem.Calls
open Builtin Builtin.Str
set_option maxRecDepth 100000
set_option linter.unusedSectionVars false
set_option linter.unusedVariables false
namespace Mine

/-- what ρ₁ knows, ρ₂ knows -/
noncomputable def LeR (ρ₁ ρ₂ : Rho) : Prop := ∀ x sl, ρ₁.lookup x = some sl → ρ₂.lookup x = some sl
theorem LeR.nil {ρ : Rho} : LeR [] ρ := fun _ _ e => by cases e
theorem LeR.refl (ρ : Rho) : LeR ρ ρ := fun _ _ e => e
theorem LeR.cons {ρ₁ ρ₂ : Rho} {x : Str} {sl : Slot} (h : ρ₂.lookup x = some sl) (r : LeR ρ₁ ρ₂) : LeR ((x, sl) :: ρ₁) ρ₂ := fun y sl' e => by
  rw [lookup_cons_eq] at e
  split at e
  · rename_i q; subst q; cases e; exact h
  · exact r y sl' e
theorem LeR.trans {a b c : Rho} (h : LeR a b) (k : LeR b c) : LeR a c := fun x sl e => k x sl (h x sl e)

noncomputable def joinP (ρ' : Rho) (P : Out → Prop) : Out → Prop
  | .next ρ => LeR ρ' ρ
  | o => P o

section
variable {C : Cx} {n : Nat} {ρ : Rho} {P : Out → Prop} {rest : List Stmt}
/-- the two ways of an if meet in ρ' -/
theorem ex_ifW (ρ' : Rho) {test : Expr} {body orelse : List Stmt} {pos : Pos} {b : Bool} (ht : ET C ρ test b) (h1 : b = true → EX C ρ body (joinP ρ' P)) (h2 : b = false → EX C ρ orelse (joinP ρ' P)) (hk : EX C ρ' rest P) :
    EX C ρ (.If test body orelse pos :: rest) P := by
  have go : ∀ o, joinP ρ' P o → thenP C rest P o := fun o h => by
    cases o with
    | next ρ₁ => exact ex_weaken hk h
    | _ => exact h
  exact ex_if ht (fun e => ex_mono (h1 e) go) (fun e => ex_mono (h2 e) go)

theorem ev_neg {e : Expr} {i : Int} {pos : Pos} (he : EV C ρ e (.int i)) : EV C ρ (.UnaryOp .USub e pos) (.int (-i)) := fun X s G ow S => by
  refine wpAny_UnaryOp (wpAny_mono (he s G ow S) (fun v s₁ r => ?_) fun _ _ f => f)
  obtain ⟨p, G₁, g, hr⟩ := r
  obtain ⟨t, rfl⟩ := hr.int_inv
  exact PySem.P.neg_int ⟨⟨p.heap, p.gens, p.bare, p.os⟩, G₁, ⟨g.sub, g.new, g.rd⟩, .int _ _⟩
theorem swapped_two {env : Env} {x y : Str} {px py tpos vpos : Pos} {k k' : Nat} {e₁ e₂ : Expr} (hfn : env.scope.kind = .function) (hx : env.kindOf x = some .local) (hy : env.kindOf y = some .local) (hl : (py.line == px.line) = true := by rfl) (hne : ([x, y].eraseDups).length = 2 := by decide)
    (hst : ([e₁, e₂].any fun | .Starred .. => true | _ => false) = false := by rfl) (hf : [e₁, e₂].all (foldedForSure 8) = false := by rfl) (hc : [e₁, e₂].all (constantsAlone 8) = false := by decide) :
    swappedStores [.Tuple [.Name x px, .Name y py] k tpos] (.Tuple [e₁, e₂] k' vpos) env = pure (some [x, y]) := by
  have hb : env.blockKind = .function := by unfold Env.blockKind; rw [hfn]; rfl
  unfold swappedStores
  have e1 : (env.kindOf x == some NameKind.local) = true := by rw [hx]; rfl
  have e2 : (env.kindOf y == some NameKind.local) = true := by rw [hy]; rfl
  have hp : (Expr.Name x px).pos = px := rfl
  simp only [hb, hf, hc, List.filterMap_cons, List.filterMap_nil, e1, e2, List.head?_cons, Option.map_some, Option.getD_some, hp, hl, beq_self_eq_true, Bool.and_self, if_true, hne, List.length_cons, List.length_nil]
  refine (if_neg (by decide)).trans ((if_neg fun h => Bool.false_ne_true (hst.symm.trans h)).trans ?_)
  rfl
/-- a loop over what a list of another kind stands for -/
theorem ex_forM (hC : COk C n) {β : Type} {l : List β} {g : β → PD} {target iter : Expr} {body : List Stmt} {pos : Pos} {ds : List PD} {f : PD → Rho → Rho} (hit : Itb C ρ iter ds) (hds : ds = l.map g) (hb : ∀ b, b ∈ l → Binds C target (g b) (f (g b))) (I : List β → Rho → Prop) (h0 : I [] ρ)
    (hbody : ∀ pre b post ρ', l = pre ++ b :: post → I pre ρ' → EX C (f (g b) ρ') body fun o => match o with
      | .next ρ₂ | .cont ρ₂ => ∃ ρ₃, I (pre ++ [b]) ρ₃ ∧ LeR ρ₃ ρ₂
      | .brk ρ₂ => thenP C rest P (.next ρ₂)
      | .ret r => P (.ret r))
    (he : ∀ ρ', I l ρ' → EX C ρ' rest P)
    (hs : ∀ x, foldedSetIterable iter C.env x = pure x := by intro _; rfl) : EX C ρ (.For target iter body [] pos :: rest) P := by
  subst hds
  refine ex_for (f := f) hC hit (fun d hd => ?_) (fun pre ρ' => ∃ qs rs, l = qs ++ rs ∧ pre = qs.map g ∧ I qs ρ') ⟨[], l, rfl, rfl, h0⟩ ?_ ?_ hs
  · obtain ⟨b, hb', rfl⟩ := List.mem_map.mp hd
    exact hb b hb'
  · rintro pre d post ρ' hds ⟨qs, rs, hl, rfl, hI⟩
    rw [hl, List.map_append] at hds
    have := List.append_cancel_left hds
    cases rs with
    | nil => cases this
    | cons b rs =>
      rw [List.map_cons] at this
      cases this
      refine ex_mono (hbody qs b rs ρ' hl hI) fun o ho => ?_
      cases o with
      | next ρ₂ => obtain ⟨ρ₃, h, hw⟩ := ho; exact ⟨ρ₃, ⟨qs ++ [b], rs, by rw [hl]; simp, by simp, h⟩, hw⟩
      | cont ρ₂ => obtain ⟨ρ₃, h, hw⟩ := ho; exact ⟨ρ₃, ⟨qs ++ [b], rs, by rw [hl]; simp, by simp, h⟩, hw⟩
      | brk ρ₂ => exact ho
      | ret r => exact ho
  · rintro ρ' ⟨qs, rs, hl, hq, hI⟩
    have hlen := congrArg List.length hl
    have hlen2 := congrArg List.length hq
    simp only [List.length_map, List.length_append] at hlen hlen2
    have : rs = [] := List.eq_nil_of_length_eq_zero (by omega)
    subst this
    rw [List.append_nil] at hl
    subst hl
    exact he ρ' hI
/-- the same, the state before each turn given -/
theorem ex_forW (hC : COk C n) {β : Type} {l : List β} {g : β → PD} {target iter : Expr} {body : List Stmt} {pos : Pos} {ds : List PD} {f : PD → Rho → Rho} (R : List β → Rho) (hit : Itb C (R []) iter ds) (hds : ds = l.map g) (hb : ∀ b, b ∈ l → Binds C target (g b) (f (g b))) (h0 : LeR (R []) ρ)
    (hbody : ∀ pre b post, l = pre ++ b :: post → EX C (f (g b) (R pre)) body fun o => match o with
      | .next ρ₂ | .cont ρ₂ => LeR (R (pre ++ [b])) ρ₂
      | .brk ρ₂ => thenP C rest P (.next ρ₂)
      | .ret r => P (.ret r))
    (he : EX C (R l) rest P)
    (hs : ∀ x, foldedSetIterable iter C.env x = pure x := by intro _; rfl) : EX C ρ (.For target iter body [] pos :: rest) P :=
  ex_weaken (ex_forM (f := f) hC hit hds hb (fun pre ρ' => ρ' = R pre) rfl (fun pre b post ρ' hl hI => by
    subst hI
    refine ex_mono (hbody pre b post hl) fun o ho => ?_
    cases o with
    | next ρ₂ => exact ⟨_, rfl, ho⟩
    | cont ρ₂ => exact ⟨_, rfl, ho⟩
    | brk ρ₂ => exact ho
    | ret r => exact ho) (fun ρ' hI => by subst hI; exact he) hs) h0

/-- the same for while -/
theorem ex_whileW {test : Expr} {body : List Stmt} {pos : Pos} {α : Type} (I : α → Prop) (R : α → Rho) (μ : α → Nat) (a₀ : α) (h0 : I a₀) (hr : LeR (R a₀) ρ) (b : α → Bool)
    (ht : ∀ a, I a → ET C (R a) test (b a))
    (hb : ∀ a, I a → b a = true → EX C (R a) body fun o => match o with
      | .next ρ₂ | .cont ρ₂ => ∃ a', μ a' < μ a ∧ I a' ∧ LeR (R a') ρ₂
      | .brk ρ₂ => thenP C rest P (.next ρ₂)
      | .ret d => P (.ret d))
    (he : ∀ a, I a → b a = false → EX C (R a) rest P) : EX C ρ (.While test body [] pos :: rest) P :=
  ex_weaken (ex_while (fun a ρ' => I a ∧ ρ' = R a) μ a₀ ⟨h0, rfl⟩ b (fun a ρ' h => by obtain ⟨h, rfl⟩ := h; exact ht a h) (fun a ρ' h hb' => by
    obtain ⟨h, rfl⟩ := h
    refine ex_mono (hb a h hb') fun o ho => ?_
    cases o with
    | next ρ₂ => obtain ⟨a', h1, h2, h3⟩ := ho; exact ⟨a', h1, _, ⟨h2, rfl⟩, h3⟩
    | cont ρ₂ => obtain ⟨a', h1, h2, h3⟩ := ho; exact ⟨a', h1, _, ⟨h2, rfl⟩, h3⟩
    | brk ρ₂ => exact ho
    | ret r => exact ho) (fun a ρ' h hb' => by obtain ⟨h, rfl⟩ := h; exact he a h hb')) hr
end
end Mine
end -- L12

section -- L13
open PySem PySem.W PyProof.Rows PySem.Calls
open Builtin Builtin.Str
set_option maxRecDepth 100000
set_option linter.unusedSectionVars false
set_option linter.unusedVariables false
namespace Mine

/-- a new list of its own comes out of a call -/
noncomputable def NewL (s : Shared) (G : Rdr) (ds : List PD) (v : Value) (s' : Shared) : Prop :=
  PureStep s s' ∧ ∃ a vs k G', v = .ref a ∧ GExt s G G' s' ∧ G' a = none ∧ s.heap.get? a = none ∧ s'.heap.get? a = some (lstO vs k) ∧ RdL G' ds vs.toList
noncomputable def CLo (C : Cx) (f : Value) (ds : List PD) (es : List PD) : Prop :=
  ∀ (s : Shared) (G : Rdr) (vs : List Value), VOk C s G → RdL G ds vs → AllBare s.gens → wpAny C.M C.A (call f vs) (fun v s' => NewL s G es v s') NoE s
noncomputable def EVN (C : Cx) (ρ : Rho) (e : Expr) (ds : List PD) : Prop :=
  ∀ ⦃X : Ext⦄ (s : Shared) (G : Rdr) (ow : Str → Addr), St C X ρ s G ow → wpAny C.M C.A (eval e C.env) (fun v s' => NewL s G ds v s') NoE s

theorem NewL.trans {s s₁ s₂ : Shared} {G G₁ : Rdr} {ds : List PD} {v : Value} (p : PureStep s s₁) (x : GExt s G G₁ s₁) (h : NewL s₁ G₁ ds v s₂) : NewL s G ds v s₂ := by
  obtain ⟨p', a, vs, k, G', rfl, g, h1, h2, h3, h4⟩ := h
  refine ⟨p.trans p', a, vs, k, G', rfl, .trans p x g, h1, ?_, h3, h4⟩
  cases q : s.heap.get? a with
  | none => rfl
  | some o => rw [p.heap a o q] at h2; cases h2

section
variable {C : Cx} {n : Nat} {ρ : Rho} {P : Out → Prop} {rest : List Stmt}

theorem clo_split {x y : Str} (hy : (y.length == 0) = false) (hsz : x.length ≤ sizeLine) (hsz2 : (partsBetween x (occurrences x y 0 x.length (x.length + 1)) y.length).length ≤ sizeLine) :
    CLo C (.builtin "str.split") [.str x, .str y] (pStrs (PySem.Txt.split x y)) := fun s G vs V h _ => by
  cases h with | cons h r => cases r with | cons h' r => cases r with | nil =>
  obtain ⟨t, rfl⟩ := h.str_inv; obtain ⟨u, rfl⟩ := h'.str_inv
  have fin : ∀ (l : List (Str × Tok)) (k : Nat), l.map (·.1) = PySem.Txt.split x y →
      NewL s G (pStrs (PySem.Txt.split x y)) (.ref s.heap.objs.size) { s with heap := s.heap.push { cls := .type "list", data := .seq (strValues l).toArray }, toks := k } := fun l k hl => by
    refine ⟨.push _ _ _, _, (strValues l).toArray, 0, G, rfl, .same fun a o e => Heap.get?_push_of_some _ (V.rd a o e), ?_, get_size _, Heap.get?_push_size _ rfl, ?_⟩
    · cases q : G s.heap.objs.size with
      | none => rfl
      | some o => have := V.rd _ _ q; rw [get_size] at this; cases this
    · rw [← hl]; exact rdl_strValues l
  cases h1 : (decide (x.length < y.length) || decide (strKind x < strKind y))
  · cases hf : (occurrences x y 0 x.length (x.length + 1)).isEmpty
    · refine call_meets F.slot_str_split (typeIs_str _ _ _) F.entry_str_split (F.args_str_split_2 _ _) (meets_str_split_sep x y t u h1 hy hf hsz hsz2) ?_
      show wants _ _ _ { s with toks := _, heap := s.heap.push { cls := .type "list", data := .seq (strsFrom s.toks (partsBetween x (occurrences x y 0 x.length (x.length + 1)) y.length)).toArray } }
      rw [strsFrom_eq]
      exact fin (numbered s.toks _) _ ((numbered_texts _ _).trans ((if_neg (ne_true_of_eq_false h1)).trans (if_neg (ne_true_of_eq_false hf))).symm)
    · exact call_meets F.slot_str_split (typeIs_str _ _ _) F.entry_str_split (F.args_str_split_2 _ _) (meets_str_split_not_found x y t u h1 hy hf)
        (fin [(x, t)] s.toks ((if_neg (ne_true_of_eq_false h1)).trans (if_pos hf)).symm)
  · exact call_meets F.slot_str_split (typeIs_str _ _ _) F.entry_str_split (F.args_str_split_2 _ _) (meets_str_split_cannot_occur x y t u h1)
      (fin [(x, t)] s.toks (if_pos h1).symm)

theorem evn_methS {o : Expr} {name : Str} {apos pos : Pos} {id : String} {args : List Expr} {x : Str} {ds : List PD} {es : List PD} (ho : EV C ρ o (.str x)) (slot : PySem.Slot "str" name id)
    (ty : typeOf (.builtin id) = pure (.type "method_descriptor")) (ha : EVs C ρ args ds) (hc : CLo C (.builtin id) (.str x :: ds) es) {pl : Sem Bool}
    (he : eval (.Call (.Attribute o name apos) args [] pos) C.env = (do
      let ov ← eval o C.env
      standAt apos.atName
      let (f, first) ← holding [ov] (getMethod ov name pl)
      callWith pos f first (backTo pos (starEach args C.env)) []) := by rfl) :
    EVN C ρ (.Call (.Attribute o name apos) args [] pos) es := fun X s G ow S => by
  refine MethodCall_ (pl := pl) (wpAny_mono (ho s G ow S) (fun v s₁ r₁ => ?_) fun _ _ f => f.elim) he
  obtain ⟨p₁, G₁, x₁, e₁⟩ := r₁
  obtain ⟨t, rfl⟩ := e₁.str_inv
  have S₁ := S.grow p₁ x₁
  refine GM.of (.str x t) (typeIs_str _ _ _) slot ty GM.noRef ?_
  refine callWith_builtin (ha.1 pos) (evalArgs_of (ha.1 pos) (wpAny_mono (ha.2 pos s₁ G₁ ow S₁) (fun vs s₂ r₂ => ?_) fun _ _ f => f.elim))
  obtain ⟨p₂, G₂, x₂, e₂⟩ := r₂
  have S₂ := S₁.grow p₂ x₂
  exact wpAny_mono (hc s₂ G₂ _ S₂.vok (.cons (.str x t) e₂) S₂.bare) (fun v s' r => .trans p₁ x₁ (.trans p₂ x₂ r)) fun _ _ f => f.elim

/-- x = e, e a new list: x's own -/
theorem ex_assignN (hC : COk C n) {x : Str} {px pos : Pos} {e : Expr} {ds : List PD} (he : EVN C ρ e ds) (hk : CanStore C x) (h : EX C ((x, .own ds) :: ρ) rest P)
    (hs : swapsWith e (some (.Name x px)) pos.line C.env = pure false := by rfl) : EX C ρ (.Assign [.Name x px] e pos :: rest) P := ex_cons fun X s G ow S => by
  refine wpAny_Assign_Name (wpAny_mono (he s G ow S) (fun v s' r => ?_) fun _ _ f => f.elim) hs
  obtain ⟨p, a, vs, k, G', rfl, g, h1, h2, h3, h4⟩ := r
  have S' := S.grow p g
  have fr : SlotOwn C X ρ G' ow x a (.own ds) := fun ho => by
    obtain ⟨_, q2, q3, q4⟩ := S.freshAt x (.own ds) h2 ho
    exact ⟨h1, q2, q3, q4⟩
  refine wpAny_mono (S'.store hC hk (sl := .own ds) ⟨rfl, vs, k, h3, h4⟩ fr) (fun _ s'' h'' => ?_) fun _ _ f => f
  exact ⟨.next _, h, G', _, h''⟩
theorem et_of {e : Expr} {b c : Bool} (h : ET C ρ e b) (q : b = c) : ET C ρ e c := q ▸ h
theorem ev_of {e : Expr} {d d' : PD} (h : EV C ρ e d) (q : d = d') : EV C ρ e d' := q ▸ h

noncomputable def joinC (K : Prop) (ρ' : Rho) (P : Out → Prop) : Out → Prop
  | .next ρ => K ∧ LeR ρ' ρ
  | o => P o
/-- the two ways of an if meet in ρ', and K is then known -/
theorem ex_ifC (K : Prop) (ρ' : Rho) {test : Expr} {body orelse : List Stmt} {pos : Pos} {b : Bool} (ht : ET C ρ test b) (h1 : b = true → EX C ρ body (joinC K ρ' P)) (h2 : b = false → EX C ρ orelse (joinC K ρ' P)) (hk : K → EX C ρ' rest P) :
    EX C ρ (.If test body orelse pos :: rest) P := by
  have go : ∀ o, joinC K ρ' P o → thenP C rest P o := fun o h => by
    cases o with
    | next ρ₁ => exact ex_weaken (hk h.1) h.2
    | _ => exact h
  exact ex_if ht (fun e => ex_mono (h1 e) go) (fun e => ex_mono (h2 e) go)
end
end Mine
end -- L13

section -- G1
open PySem PySem.W PyProof.Rows PySem.Calls
open Sem (wp)
open Builtin Builtin.Str
set_option maxRecDepth 100000
set_option linter.unusedSectionVars false
set_option linter.unusedVariables false
namespace Mine
/-! generators: the rules that the walk of a generator's body needs -/

noncomputable def Amax : Around := { handled := none, depth := 960, frames := none, guards := none, units := 9600 }

section
variable {M : Model} {A : Around} {R : GenEnd} {Y : Protocol} {n : Nat} {s₀ : Shared} {c : Code} {fs : List Frame} {s : Shared} {env : Env}
  {K : Flow → Sem Fin} {H : Value → Sem Fin} {gd : Bool → Bool} {lv : List Value → List Value}

theorem seg_bind_wrap {α β : Type} {m : Sem α} {f : α → Sem β} {K : β → Sem Fin} (h : wpAny M (A.over c fs) m (fun a s' => Seg M A R Y n s₀ c ((f a).wrap K H gd lv) fs s') NoE s) :
    Seg M A R Y n s₀ c ((m >>= f).wrap K H gd lv) fs s := by
  rw [Sem.bind_eq_wrap', Sem.wrap_wrap]
  exact seg_wrap (wpAny_mono h (fun _ _ h => h) fun _ _ f => f.elim)

theorem seg_stmt {st : Stmt} {rest : List Stmt} (h : wpAny M (A.over c fs) (exec st env) (fun f s' => f = .next ∧ Seg M A R Y n s₀ c ((execs rest env).wrap K H gd lv) fs s') NoE s) :
    Seg M A R Y n s₀ c ((execs (st :: rest) env).wrap K H gd lv) fs s := by
  refine seg_execs_cons (seg_wrap (wpAny_mono h (fun f s' h' => ?_) fun _ _ f => f.elim))
  obtain ⟨rfl, h'⟩ := h'
  exact h'

theorem seg_If {test : Expr} {body orelse : List Stmt} {pos : Pos} {b : Bool} (h : wpAny M (A.over c fs) (PySem.isTrue test env (eval test env)) (fun x s' => x = b ∧ Seg M A R Y n s₀ c ((execs (if b = true then body else orelse) env).wrap K H gd lv) fs s') NoE s) :
    Seg M A R Y n s₀ c ((exec (.If test body orelse pos) env).wrap K H gd lv) fs s := by
  rw [exec_If]
  refine seg_bind_wrap (wpAny_standAt (seg_bind_wrap (wpAny_mono h (fun x s' h' => ?_) fun _ _ f => f)))
  obtain ⟨rfl, h'⟩ := h'
  cases x <;> exact h'

theorem seg_For {target iter : Expr} {body orelse : List Stmt} {pos : Pos} (h : wpAny M (A.over c fs) (eval iter env) (fun x s₁ => wpAny M (A.over c fs) (pyIter x) (fun it s₂ => ∀ p, Seg M A R Y n s₀ (.forLoop target it body orelse env) (M.den (.forLoop target it body orelse env))
      (.ret (fun r => ((match r with | .ok f => (.pure f : Sem Flow) | .error e => .raise e).onRaise fun (x : Value) => do
        if (← field x 1) == Value.none then unsupported "frame.own-activation:exception-without-traceback"
        setFlight x env.frame).wrap K H gd lv) none (gd false) (lv []) c p [] :: fs) s₂) NoE s₁) NoE s)
    (hs : ∀ x, foldedSetIterable iter env x = pure x := by intro _; rfl) :
    Seg M A R Y n s₀ c ((exec (.For target iter body orelse pos) env).wrap K H gd lv) fs s := by
  rw [exec_For]
  refine seg_bind_wrap (wpAny_standAt (seg_bind_wrap (wpAny_mono h (fun x s₁ h₁ => ?_) fun _ _ f => f)))
  refine seg_bind_wrap (wpAny_of_eq (hs x) ?_)
  refine seg_bind_wrap (wpAny_standAt (seg_bind_wrap (wpAny_holding (wpAny_mono h₁ (fun it s₂ h₂ => ?_) fun _ _ f => f))))
  exact seg_call h₂
end

section
variable {prog : Program} {w : World} {A : Around} {R : GenEnd} {Y : Protocol} {n : Nat} {s₀ : Shared} {fs : List Frame} {s : Shared} {env : Env}

theorem seg_forLoop {target : Expr} {it : Value} {body orelse : List Stmt}
    (h : wpAny (model prog w) (A.over (.forLoop target it body orelse env) fs) (pyNext it) (fun r s₁ => match r with
      | none => Seg (model prog w) A R Y n s₀ (.block orelse env) ((model prog w).den (.block orelse env)) fs s₁
      | some v => wpAny (model prog w) (A.over (.forLoop target it body orelse env) fs) (letOwnedTupleGo target it v) (fun _ s₂ => wpAny (model prog w) (A.over (.forLoop target it body orelse env) fs) (assign target env v) (fun _ s₃ =>
          Seg (model prog w) A R Y n s₀ (.forLoop target it body orelse env) ((execs body env).wrap (fun f => match f with
            | .next | .cont => .pure (.again (.forLoop target it body orelse env))
            | .brk => .pure (.done .next)
            | .ret v => .pure (.done (.ret v))) (fun e => (do noteFrame e env; theTreesLotGoes e : Sem Unit).wrap (fun _ => .raise e) .raise id id) id id) fs s₃) NoE s₂) NoE s₁) NoE s) :
    Seg (model prog w) A R Y n s₀ (.forLoop target it body orelse env) ((model prog w).den (.forLoop target it body orelse env)) fs s := by
  show Seg _ A R Y n s₀ _ ((forTurn target it body orelse env).onRaise (fun x => do noteFrame x env; theTreesLotGoes x)) fs s
  unfold forTurn
  rw [Sem.onRaise_eq_wrap]
  refine seg_bind_wrap (wpAny_standAt (seg_bind_wrap (wpAny_onRaise (wpAny_mono h (fun r s₁ h₁ => ?_) fun _ _ f => f.elim))))
  cases r with
  | none => exact seg_again rfl h₁
  | some v =>
    refine seg_bind_wrap (wpAny_mono h₁ (fun _ s₂ h₂ => ?_) fun _ _ f => f)
    refine seg_bind_wrap (wpAny_mono h₂ (fun _ s₃ h₃ => ?_) fun _ _ f => f)
    rw [Sem.bind_eq_wrap', Sem.wrap_wrap]
    rw [Sem.wrap_congr (execs body env) _ _ (K' := fun f => match f with
            | .next | .cont => .pure (.again (.forLoop target it body orelse env))
            | .brk => .pure (.done .next)
            | .ret v => .pure (.done (.ret v))) (H' := (fun e => (do noteFrame e env; theTreesLotGoes e : Sem Unit).wrap (fun _ => .raise e) .raise id id))
        (fun f => by cases f <;> rfl)
        (fun e => by first | exact Sem.bind_eq_wrap _ _ | (show (do noteFrame e env; theTreesLotGoes e : Sem Unit).bind (fun _ => .raise e) = _; rw [Sem.bind_eq_wrap]))]
    exact h₃

theorem seg_block_nil {k h g l c₁ p₁ kp} (hk : Seg (model prog w) A R Y n s₀ c₁ (k (.ok .next)) fs s) :
    Seg (model prog w) A R Y n s₀ (.block [] env) ((model prog w).den (.block [] env)) (.ret k h g l c₁ p₁ kp :: fs) s := by
  show Seg _ A R Y n s₀ _ (leafOf (.ok .next)) _ _
  exact seg_leaf (.ok .next) hk
end

theorem woken_max {Γ : Ctx} {A : Around} (h : Γ.Woken A) (hA : A.handled = none) (hd : A.depth ≤ 960) (hu : A.units ≤ 9600) : Γ.Woken Amax := by
  obtain ⟨⟨h1, h2, h3, h4, h5⟩, h6⟩ := h
  exact ⟨⟨h1.trans hA, Nat.le_trans h2 hd, (fun l e => by cases e), (fun l e => by cases e), Nat.le_trans h5 hu⟩, h6⟩

section
variable {M : Model}
theorem wpAny_resumeM {A : Around} {R : GenEnd} {Y : Protocol} {n : Nat} {E : Value → Shared → Prop} {s : Shared} {g : Nat} {gs : GenState}
    {r : Resume} {l : List Value} {α : Type} {k : GenResult → Sem α} {Q : α → Shared → Prop} (hA : A.handled = none) (hd : A.depth ≤ 960) (hu : A.units ≤ 9600) (hg : s.gens[g]? = some gs)
    (hgo : gs.Goes M Amax R Y n r (s.setGen g .running))
    (hR : ∀ x s₁, R n (s.setGen g .running) x s₁ → wpAny M A (k (End.ret x).result) Q E (s₁.setGen g .finished))
    (hY : ∀ v s₁ gs', gs'.bare = true → Y (n - 1) (s.setGen g .running) v s₁ (fun r' s'' => match n with | 0 => False | m + 1 => gs'.Goes M Amax R Y m r' s'') →
      wpAny M A (k (.yielded v)) Q E (s₁.setGen g gs')) :
    wpAny M A (.resume g r l k) Q E s := by
  intro Γ p hΓ
  rw [Sem.wp_resume]
  have hB : ∀ c, (Γ.wake c p).Woken Amax := fun c => woken_max (hΓ.wake c p) hA hd hu
  have fin : ∀ e₁ s₁, SegEnd R Y n (Seg.next M Amax R Y n) (s.setGen g .running) e₁ s₁ →
      wp M Γ (k e₁.result) (fun a _ s' => Q a s') (fun e _ s' => E e s') p (s₁.setGen g e₁.genState) := by
    intro e₁ s₁ he
    cases e₁ with
    | ret x => exact hR x s₁ he Γ p hΓ
    | susp v g₀ l₀ k₀ c₀ p₀ fs₀ =>
      refine hY v s₁ _ (End.bare_of_quiet he.1) ?_ Γ p hΓ
      cases n with
      | zero => exact he.2
      | succ m => exact he.2
  have hqt : ∀ e₁ s₁, SegEnd R Y n (Seg.next M Amax R Y n) (s.setGen g .running) e₁ s₁ → e₁.quiet = true := by
    intro e₁ s₁ he
    cases e₁ with
    | ret x => rfl
    | susp v g₀ l₀ k₀ c₀ p₀ fs₀ => exact he.1
  cases gs with
  | fresh c =>
    obtain ⟨rfl, hs⟩ := hgo
    obtain ⟨e₁, s₁, hr, he⟩ := seg_iff.mp hs (Γ.wake c p) p rfl (hB c)
    exact ⟨_, _, by unfold Wakes; rw [hg]; exact ⟨e₁, s₁, hr, hqt e₁ s₁ he, rfl, rfl⟩, fin e₁ s₁ he⟩
  | suspended k₀ l₀ c₀ p₀ fs₀ cl =>
    obtain ⟨e₁, s₁, hr, he⟩ := seg_iff.mp hgo (Γ.wake c₀ p) p₀ rfl (hB c₀)
    exact ⟨_, _, by unfold Wakes; rw [hg]; exact ⟨e₁, s₁, hr, hqt e₁ s₁ he, rfl, rfl⟩, fin e₁ s₁ he⟩
  | running => exact hgo.elim
  | finished => exact hgo.elim
end

section
variable {prog : Program} {w : World} {A : Around} {E : Value → Shared → Prop} {s : Shared}
theorem pyNext_gen {a : Addr} {g n : Nat} {gs : GenState} {P : Nat → Shared → Shared → Prop} {Y : Protocol} {Q : Option Value → Shared → Prop} (r : Roomy A)
    (hl : s.heap.NoLimit) (hg : s.heap.IsGen a g) (hgs : s.gens[g]? = some gs)
    (hgo : gs.Goes (model prog w) Amax (fun n s₀ r s₁ => r = .ok (.ret .none) ∧ P n s₀ s₁) Y n (.send .none) (s.setGen g .running))
    (hY : ∀ v s₁ gs', gs'.bare = true → Y (n - 1) (s.setGen g .running) v s₁ (fun r' s'' => match n with
        | 0 => False
        | m + 1 => gs'.Goes (model prog w) Amax (fun n s₀ r s₁ => r = .ok (.ret .none) ∧ P n s₀ s₁) Y m r' s'') → Q (some v) (s₁.setGen g gs'))
    (hP : ∀ s₁, P n (s.setGen g .running) s₁ → ∀ h', (∀ b o, s₁.heap.get? b = some o → h'.get? b = some o) → Q none { s₁.setGen g .finished with heap := h' }) :
    wpAny (model prog w) A (pyNext (.ref a)) Q E s := by
  have hh := r.hnd
  have hroom : A.depth < recursionLimit := Nat.lt_trans r.depth (by decide)
  unfold pyNext
  refine wpAny_bind (wpAny_attempt (wpAny_callSpecial?_slot (name := Str.ofString "__next__") hg.typeIs slot_gen_next
    (wpAny_call_entry slot_gen_next hg.typeIs entry_gen_next ?_ (args_gen_next _))))
  show wpAny _ A.in1 (Builtin.Generator.genWake (.ref a) (.send .none)) _ _ s
  unfold Builtin.Generator.genWake
  refine wpAny_bind (wpAny_holding (wpAny_genNumber hg (wpAny_bind (wpAny_genState hgs ?_))))
  cases gs with
  | running => exact hgo.elim
  | finished => exact hgo.elim
  | _ =>
    refine wpAny_bind (wpAny_roomToWake hl hroom ?_)
    show wpAny _ A.in1 (.resume g (.send .none) [] _) _ _ s
    refine wpAny_resumeM hh (by have := r.depth; show A.depth ≤ 960; omega) (by have := r.units; show A.units + 1 ≤ 9600; omega) hgs hgo (fun x s₁ hx => ?_) (fun v s₁ gs' hb hv => ?_)
    · obtain ⟨rfl, hp⟩ := hx
      show wpAny _ A.in1 (newExc (.type "StopIteration") [] >>= _) _ _ _
      refine wpAny_bind ?_
      simp only [newExc, newTuple]
      refine wpAny_bind (wpAny_newObj_type ?_ (by size_fits))
      refine wpAny_bind (m := firstArgMember _ _) (wpAny_of_eq (a := Value.none) (by first | rfl | (simp only [firstArgMember]; rfl)) ?_)
      refine wpAny_newObj_type ?_ (by size_fits)
      simp only [raiseNew]
      refine wpAny_bind (wpAny_bind (wpAny_handled ?_))
      first | rw [show A.in1.handled = none from hh] | rw [hh]
      refine wpAny_throw ?_
      refine wpAny_bind (wpAny_isInstance (T := "StopIteration") (b := true) ⟨_, Heap.get?_push_size _ rfl, rfl⟩ isSubtype_stop ?_)
      exact wpAny_pure (hP s₁ hp _ fun b o hb => Heap.get?_push_of_some _ (Heap.get?_push_of_some _ hb))
    · exact wpAny_pure ⟨v, rfl, wpAny_pure (hY v s₁ gs' hb hv)⟩
end
end Mine
end -- G1

section -- G2
open PySem PySem.W PyProof.Rows PySem.Calls
open Sem (wp)
open Builtin Builtin.Str
set_option maxRecDepth 100000
set_option linter.unusedSectionVars false
set_option linter.unusedVariables false
namespace Mine

structure Priv (L En It : Addr) (x : Str) (t : Tok) (i : Nat) (h : Heap) : Prop where
  ns : ∃ m, h.Ns L m ∧ m "escape" = some (.bool false)
  en : ∃ old, IsEnum h En It i old
  it : h.IsStrIter It "str_ascii_iterator" x t i
theorem Priv.frame {L En It : Addr} {x : Str} {t : Tok} {i : Nat} {h h' : Heap} (p : Priv L En It x t i h) (k : ∀ b, b = L ∨ b = En ∨ b = It → ∀ o, h.get? b = some o → h'.get? b = some o) : Priv L En It x t i h' :=
  ⟨let ⟨m, a, b⟩ := p.ns; ⟨m, a.at fun o e => k L (.inl rfl) o e, b⟩, let ⟨old, e⟩ := p.en; ⟨old, k En (.inr (.inl rfl)) _ e⟩, let ⟨o, a, r⟩ := p.it; ⟨o, k It (.inr (.inr rfl)) _ a, r⟩⟩

structure Since (L En It : Addr) (s₀ s : Shared) : Prop where
  keep : ∀ b o, b ≠ L → b ≠ En → b ≠ It → s₀.heap.get? b = some o → s.heap.get? b = some o
  gens : s.gens = s₀.gens
  os : s.os = s₀.os
theorem Since.refl (L En It : Addr) (s : Shared) : Since L En It s s := ⟨fun _ _ _ _ _ e => e, rfl, rfl⟩

/-- what stands at a yield, and what it goes on from -/
noncomputable def YP (L En It : Addr) (x : Str) (t : Tok) (n : Nat) : Protocol := fun j s₀ v s₁ kap =>
  ∃ T c t₁ t₂, v = .ref T ∧ x.cps[n - 1 - j]? = some c ∧ s₁.heap.get? T = some (tupO #[.int ((n - 1 - j : Nat) : Int) t₁, .str ⟨#[c]⟩ t₂] 0) ∧ s₀.heap.get? T = none ∧ T ≠ L ∧ T ≠ En ∧ T ≠ It ∧
    Priv L En It x t (n - j) s₁.heap ∧ Since L En It s₀ s₁ ∧ ∀ s'', Priv L En It x t (n - j) s''.heap → kap (.send .none) s''
noncomputable def RP (L En It : Addr) : GenEnd := fun n s₀ r s₁ => r = .ok (.ret .none) ∧ (n = 0 ∧ Since L En It s₀ s₁)

section
variable {prog : Program} {w : World} {env : Env} {L En It : Addr} {x : Str} {t : Tok}
  {p1 p2 p3 q1 q2 q3 q4 q5 q6 q7 q8 q9 q10 q11 r1 r2 : Pos} {k k2 kk : Nat} {B1 B2 B3 : List Stmt}

structure GenEnv (env : Env) (L : Addr) : Prop where
  loc : env.locals = L
  fn : env.scope.kind = .function
  co : env.scope.isCoroutine = false
  pos : env.kindOf "pos" = some .local
  ch : env.kindOf "ch" = some .local
  esc : env.kindOf "escape" = some .local
  addr : env.kindOf "addr" = some .local
  enum : env.kindOf "enumerate" = some .globalImplicit
  glob : env.globals = mainGlobals
  blt : env.builtins = builtinsNs

theorem over_handled {c : Code} {fs : List Frame} (h : (marksOver fs ((none : Option Value), (none : Option Value))).1 = none) : (Amax.over c fs).handled = none := h

theorem esc_false {A : Around} {s : Shared} {m : Str → Option Value} (ge : GenEnv env L) (hn : s.heap.Ns L m) (hm : m "escape" = some (.bool false)) {Q : Bool → Shared → Prop} (hQ : Q false s) {pp : Pos} :
    wpAny (model prog w) A (PySem.isTrue (.Name "escape" pp) env (eval (.Name "escape" pp) env)) Q NoE s := by
  refine isTrue_plain (wpAny_Name (wpAny_loadName_local ge.fn ge.esc (by rw [ge.loc]; exact hn) hm ?_) (by decide))
  exact wpAny_truthy_bool hQ

/-- one run of the loop, from a turn on -/
theorem seg_turns (ge : GenEnv env L) (hLE : L ≠ En) (hLI : L ≠ It) (hEI : En ≠ It) (hx : ∀ c ∈ x.cps.toList, c ≠ 92) {kfr : Result → Sem Fin} {c₀ : Code} {pf : Pos}
    (hend : ∀ s₀ s, Priv L En It x t x.cps.size s.heap ∨ True → (∃ m, s.heap.Ns L m ∧ m "escape" = some (.bool false)) → Since L En It s₀ s → Seg (model prog w) Amax (RP L En It) (YP L En It x t x.cps.size) 0 s₀ c₀ (kfr (.ok .next)) [] s) :
    ∀ (n i : Nat), i + n = x.cps.size → ∀ s₀ s, Priv L En It x t i s.heap → Since L En It s₀ s →
    Seg (model prog w) Amax (RP L En It) (YP L En It x t x.cps.size) n s₀ (.forLoop (.Tuple [.Name "pos" p1, .Name "ch" p2] k p3) (.ref En) [.If (.Name "escape" q1) B1 [.If (.Compare (.Name "ch" q2) [.Eq] [.Constant (.str "\\") kk q3] q4) B2 [.Expr (.Yield (some (.Tuple [.Name "pos" q5, .Name "ch" q6] k2 q7)) q8) q9] q10] q11] [] env)
      ((model prog w).den (.forLoop (.Tuple [.Name "pos" p1, .Name "ch" p2] k p3) (.ref En) [.If (.Name "escape" q1) B1 [.If (.Compare (.Name "ch" q2) [.Eq] [.Constant (.str "\\") kk q3] q4) B2 [.Expr (.Yield (some (.Tuple [.Name "pos" q5, .Name "ch" q6] k2 q7)) q8) q9] q10] q11] [] env)) [.ret kfr none false [] c₀ pf []] s := by
  intro n
  induction n with
  | zero =>
    intro i hi s₀ s P S
    have hi : i = x.cps.size := by omega
    subst hi
    refine seg_forLoop ?_
    obtain ⟨m, hm, hesc⟩ := P.ns
    obtain ⟨old, he⟩ := P.en
    refine wpAny_pyNext_enum_endD (Draws.strAscii rfl It x t) he P.it fun h' hk => ?_
    refine seg_block_nil (hend _ _ (.inr trivial) ⟨m, hm.extBut hk hLI, hesc⟩ ⟨fun b o hbL hbE hbI e => hk b o hbI (S.keep b o hbL hbE hbI e), S.gens, S.os⟩)
  | succ n ih =>
    intro i hi s₀ s P S
    refine seg_forLoop ?_
    obtain ⟨m, hm, hesc⟩ := P.ns
    obtain ⟨old, he⟩ := P.en
    have hlt : i < x.cps.size := by omega
    have hLs : L < s.heap.objs.size := hm.lt
    have hEs : En < s.heap.objs.size := Heap.lt_size he
    have hIs : It < s.heap.objs.size := by obtain ⟨_, a, _⟩ := P.it; exact Heap.lt_size a
    refine wpAny_pyNext_enum_itemD (Draws.strAscii rfl It x t) he P.it hlt hEI (by simpa using hEI) fun v h₁ tk hv heo hit₁ hT hsz hk₁ => ?_
    obtain ⟨c, u, hc, rfl⟩ := hv
    dsimp only
    refine wpAny_letOwnedTupleGo_enum heo fun h₂ he₂ hs₂ => ?_
    replace hs₂ : Heap.SameBut En h₁ h₂ := hs₂
    have hT₂ : h₂.IsTuple s.heap.objs.size #[.int i tk, .str ⟨#[c]⟩ u] := ⟨_, (hs₂.2 _ (Nat.ne_of_gt hEs)).trans hT, rfl, _, rfl⟩
    have hz₂ : h₂.objs.size = s.heap.objs.size + 1 := hs₂.1.trans hsz
    refine wpAny_assign_Tuple rfl hT₂ rfl rfl fun h₃ hx₃ => ?_
    replace hx₃ : Heap.ExtBut h₂.objs.size h₂ h₃ := hx₃
    have old₃ : ∀ b o, b < s.heap.objs.size → h₂.get? b = some o → h₃.get? b = some o := fun b o hb e => hx₃ b o (by rw [hz₂]; exact Nat.ne_of_lt (Nat.lt_succ_of_lt hb)) e
    have hn₃ : h₃.Ns L m := ((hm.at fun o e => hk₁ _ o hLE hLI e).sameBut hs₂ hLE).at fun o e => old₃ _ o hLs e
    have hp : (env.scope.kind == .class || (env.scope.kind == .module && env.locals != env.globals)) = false := by rw [ge.fn]; rfl
    show wpAny _ _ (do holding [.str ⟨#[c]⟩ u] (assign (.Name "pos" p1) env (.int i tk)); do holding [] (assign (.Name "ch" p2) env (.str ⟨#[c]⟩ u)); pure ()) _ _ _
    refine wpAny_bind (wpAny_holding (wpAny_assign_Name (wpAny_storeName_local ge.pos (by rw [ge.loc]; exact hn₃) (fun h₄ hn₄ hs₄ => ?_) hp)))
    refine wpAny_bind (wpAny_holding (wpAny_assign_Name (wpAny_storeName_local ge.ch hn₄ (fun h₅ hn₅ hs₅ => wpAny_pure ?_) hp)))
    rw [ge.loc] at hs₄ hs₅ hn₅
    replace hs₄ : Heap.SameBut L h₃ h₄ := hs₄
    replace hs₅ : Heap.SameBut L h₄ h₅ := hs₅
    have up : ∀ b o, b ≠ L → b < s.heap.objs.size → h₂.get? b = some o → h₅.get? b = some o := fun b o hbL hb e => hs₅.extBut b o hbL (hs₄.extBut b o hbL (old₃ b o hb e))
    have hE₅ : IsEnum h₅ En It ((i : Int) + 1) (.str ⟨#[c]⟩ u) := up En _ (Ne.symm hLE) hEs he₂
    have hI₅ : h₅.IsStrIter It "str_ascii_iterator" x t (i + 1) := by
      obtain ⟨o, a, r⟩ := hit₁
      exact ⟨o, up It o (Ne.symm hLI) hIs (hs₂.extBut _ _ (Ne.symm hEI) a), r⟩
    have keep₅ : ∀ b o, b ≠ L → b ≠ En → b ≠ It → s.heap.get? b = some o → h₅.get? b = some o := fun b o hbL hbE hbI e => up b o hbL (Heap.lt_size e) (hs₂.extBut b o hbE (hk₁ b o hbE hbI e))
    have P₅ : Priv L En It x t (i + 1) h₅ := by
      refine ⟨⟨_, hn₅, ?_⟩, ⟨.str ⟨#[c]⟩ u, ?_⟩, hI₅⟩
      · exact hesc
      · have : ((i + 1 : Nat) : Int) = (i : Int) + 1 := by push_cast; rfl
        rw [this]; exact hE₅
    have S₅ : Since L En It s₀ { s with heap := h₅, toks := tk + 1 + 1 + 1 } := ⟨fun b o hbL hbE hbI e => keep₅ b o hbL hbE hbI (S.keep b o hbL hbE hbI e), S.gens, S.os⟩
    have hc92 : c ≠ 92 := hx c (Array.mem_toList_iff.mpr (Array.mem_of_getElem? hc))
    generalize hm₅ : (fun y => if y = Str.ofString "ch" then some (Value.str ⟨#[c]⟩ u) else if y = Str.ofString "pos" then some (Value.int i tk) else m y) = m₅ at hn₅
    have he₅ : m₅ "escape" = some (.bool false) := by rw [← hm₅]; exact hesc
    have hp₅ : m₅ "pos" = some (.int i tk) := by rw [← hm₅]; rfl
    have hc₅ : m₅ "ch" = some (.str ⟨#[c]⟩ u) := by rw [← hm₅]; rfl
    generalize hs₅' : ({ s with heap := h₅, toks := tk + 1 + 1 + 1 } : Shared) = s₅ at S₅
    have hh₅ : s₅.heap = h₅ := by rw [← hs₅']
    rw [← hh₅] at hn₅
    refine seg_execs_cons (seg_If (b := false) (esc_false ge hn₅ he₅ ⟨rfl, ?_⟩))
    rw [if_neg Bool.false_ne_true]
    refine seg_execs_cons (seg_If (b := false) (wpAny_isTrue_Compare1 (wpAny_Name (wpAny_loadName_local ge.fn ge.ch (by rw [ge.loc]; exact hn₅) (v := .str ⟨#[c]⟩ u) hc₅ ?_) (by decide)) (by with_unfolding_all rfl)))
    show wpAny _ _ (mkText (Str.ofString "\\")) _ _ _
    refine wpAny_mkText (PySem.P.eq_str (wpAny_truthy_bool ⟨?_, ?_⟩))
    · show ([c] == [92]) = false
      simpa using hc92
    rw [if_neg Bool.false_ne_true]
    refine seg_execs_cons (seg_Expr_Yield rfl rfl rfl ?_ ge.co (by unfold interactive; rw [ge.fn]; rfl))
    refine Tuple_ ?_
    show wpAny _ _ (spliced [(false, eval (.Name "pos" q5) env), (false, eval (.Name "ch" q6) env)]) _ _ _
    refine spliced_cons (wpAny_Name (wpAny_loadName_local ge.fn ge.pos (by rw [ge.loc]; exact hn₅) (v := .int i tk) hp₅ ?_) (by decide))
    refine spliced_cons (wpAny_Name (wpAny_loadName_local ge.fn ge.ch (by rw [ge.loc]; exact hn₅) (v := .str ⟨#[c]⟩ u) hc₅ ?_) (by decide))
    refine spliced_nil ?_
    refine wpAny_newTuple ?_ (by show 2 ≤ sizeLine; decide)
    intro kap hkap
    rw [hh₅] at hn₅
    have hidx : x.cps.size - 1 - n = i := by omega
    have hidx2 : x.cps.size - n = i + 1 := by omega
    have hL₅ : L < h₅.objs.size := hn₅.lt
    have hEz : En < h₅.objs.size := Heap.lt_size hE₅
    have hIz : It < h₅.objs.size := by obtain ⟨_, a, _⟩ := hI₅; exact Heap.lt_size a
    refine ⟨h₅.objs.size, c, tk, u, by rw [← hh₅], by rw [hidx]; exact hc, ?_, ?_, (Nat.ne_of_gt hL₅), (Nat.ne_of_gt hEz), (Nat.ne_of_gt hIz), ?_, ?_, ?_⟩
    · rw [hidx]; show (s₅.heap.push _).get? _ = _; rw [hh₅]; exact Heap.get?_push_size _ rfl
    · cases q : s₀.heap.get? h₅.objs.size with
      | none => rfl
      | some o =>
        have := S₅.keep _ o (Nat.ne_of_gt hL₅) (Nat.ne_of_gt hEz) (Nat.ne_of_gt hIz) q
        rw [hh₅, get_size] at this; cases this
    · rw [hidx2]; show Priv _ _ _ _ _ _ (s₅.heap.push _); rw [hh₅]; exact P₅.frame fun b _ o e => Heap.get?_push_of_some _ e
    · exact ⟨fun b o hbL hbE hbI e => Heap.get?_push_of_some _ (S₅.keep b o hbL hbE hbI e), S₅.gens, S₅.os⟩
    · intro s'' P''
      rw [hidx2] at P''
      refine hkap .none s'' ?_
      exact seg_again rfl (ih (i + 1) (by omega) s'' s'' P'' (.refl _ _ _ _))

theorem GOk.off {K : Frag} {h₀ h h' : Heap} {L : Addr} (g₀ : GOk K h₀) (hL : h₀.get? L = none) (g : GOk K h) (k : ∀ b o, b ≠ L → h.get? b = some o → h'.get? b = some o) : GOk K h' := by
  have ne : ∀ b o, h₀.get? b = some o → b ≠ L := fun b o e q => by rw [q, hL] at e; cases e
  have gl : mainGlobals ≠ L := by obtain ⟨m, o, _, _, q, _⟩ := g₀.g; exact ne _ _ q
  have bl : builtinsNs ≠ L := by obtain ⟨m, ⟨o, _, _, q, _⟩, _⟩ := g₀.b; exact ne _ _ q
  have cl : cStatics ≠ L := by obtain ⟨m, ⟨o, _, _, q, _⟩, _⟩ := g₀.lim; exact ne _ _ q
  refine ⟨fun a o e => k a o (ne a o (g₀.kin a o e)) (g.kin a o e), ?_, ?_, ?_⟩
  · obtain ⟨m, hm, r⟩ := g.lim; exact ⟨m, hm.at' fun o e => k _ o cl e, r⟩
  · obtain ⟨m, hm⟩ := g.g; exact ⟨m, hm.at fun o e => k _ o gl e⟩
  · obtain ⟨m, hm, r⟩ := g.b; exact ⟨m, hm.at fun o e => k _ o bl e, r⟩

theorem boot_enum : bootBuiltins "enumerate" = some (.type "enumerate") := by decide +kernel

theorem gen_start (ge : GenEnv env L) (ha : x.cps.all (· < 128) = true) (hx : ∀ c ∈ x.cps.toList, c ≠ 92) {K : Frag} (hK : nsIn K mainGlobals "enumerate" = some none) {h₀ : Heap} (g₀ : GOk K h₀) (hL₀ : h₀.get? L = none) {s : Shared} (hg : GOk K s.heap)
    {m : Str → Option Value} (hn : s.heap.Ns L m) (hm : m "addr" = some (.str x t)) {a1 a2 a3 a4 a5 a6 f1 f2 f3 f4 : Pos} {k3 k4 : Nat} :
    Seg (model prog w) Amax (RP L (s.heap.objs.size + 1) s.heap.objs.size) (YP L (s.heap.objs.size + 1) s.heap.objs.size x t x.cps.size) x.cps.size s
      (.func [.Assign [.Name "pos" a1] (.Constant (.int 0) k3 a2) a3, .Assign [.Name "escape" a4] (.Constant (.bool false) k4 a5) a6,
        .For (.Tuple [.Name "pos" p1, .Name "ch" p2] k p3) (.Call (.Name "enumerate" f1) [.Name "addr" f2] [] f3) [.If (.Name "escape" q1) B1 [.If (.Compare (.Name "ch" q2) [.Eq] [.Constant (.str "\\") kk q3] q4) B2 [.Expr (.Yield (some (.Tuple [.Name "pos" q5, .Name "ch" q6] k2 q7)) q8) q9] q10] q11] [] f4,
        .If (.Name "escape" r1) B3 [] r2] env)
      ((model prog w).den (.func [.Assign [.Name "pos" a1] (.Constant (.int 0) k3 a2) a3, .Assign [.Name "escape" a4] (.Constant (.bool false) k4 a5) a6,
        .For (.Tuple [.Name "pos" p1, .Name "ch" p2] k p3) (.Call (.Name "enumerate" f1) [.Name "addr" f2] [] f3) [.If (.Name "escape" q1) B1 [.If (.Compare (.Name "ch" q2) [.Eq] [.Constant (.str "\\") kk q3] q4) B2 [.Expr (.Yield (some (.Tuple [.Name "pos" q5, .Name "ch" q6] k2 q7)) q8) q9] q10] q11] [] f4,
        .If (.Name "escape" r1) B3 [] r2] env)) [] s := by
  have hp : (env.scope.kind == .class || (env.scope.kind == .module && env.locals != env.globals)) = false := by rw [ge.fn]; rfl
  have hLs : L < s.heap.objs.size := hn.lt
  refine seg_func (seg_stmt (wpAny_Assign_Name (wpAny_Constant_int (wpAny_storeName_local ge.pos (by rw [ge.loc]; exact hn) (fun h₁ hn₁ hs₁ => ⟨rfl, ?_⟩) hp)) rfl))
  refine seg_stmt (wpAny_Assign_Name (Constant_bool (wpAny_storeName_local ge.esc hn₁ (fun h₂ hn₂ hs₂ => ⟨rfl, ?_⟩) hp)) rfl)
  rw [ge.loc] at hn₁ hn₂ hs₁ hs₂
  replace hs₁ : Heap.SameBut L s.heap h₁ := hs₁
  replace hs₂ : Heap.SameBut L h₁ h₂ := hs₂
  have sz : h₂.objs.size = s.heap.objs.size := hs₂.1.trans hs₁.1
  have k₂ : ∀ b o, b ≠ L → s.heap.get? b = some o → h₂.get? b = some o := fun b o hb e => hs₂.extBut b o hb (hs₁.extBut b o hb e)
  have g₂ : GOk K h₂ := g₀.off hL₀ hg k₂
  generalize hm₂ : (fun y => if y = Str.ofString "escape" then some (Value.bool false) else if y = Str.ofString "pos" then some (Value.int 0 s.toks) else m y) = m₂ at hn₂
  have he₂ : m₂ "escape" = some (.bool false) := by rw [← hm₂]; rfl
  have ha₂ : m₂ "addr" = some (.str x t) := by rw [← hm₂]; exact hm
  generalize hs₂' : ({ s with heap := h₂, toks := s.toks + 1 + 1 + 1 } : Shared) = s₂
  have hh₂ : s₂.heap = h₂ := by rw [← hs₂']
  have hg₂ : s₂.gens = s.gens := by rw [← hs₂']
  have ho₂ : s₂.os = s.os := by rw [← hs₂']
  rw [← hh₂] at hn₂ g₂ k₂ sz
  clear hs₁ hs₂ hn₁ hh₂ hs₂' hm₂
  obtain ⟨mg, hmg⟩ := g₂.g
  obtain ⟨mb, hmb, hmb'⟩ := g₂.b
  refine seg_execs_cons (seg_For ?_)
  show wpAny _ _ (do callWith f3 (← eval (.Name "enumerate" f1) env) [] (backTo f3 (starEach [.Name "addr" f2] env)) []) _ _ _
  refine wpAny_bind (Name_function_global ge.fn ge.enum (loadGlobal_builtin (ge.glob ▸ hmg) (mg_none_of g₂.kin hmg hK) (ge.blt ▸ hmb) ((hmb' _ (by decide)).trans boot_enum) ?_) (by decide))
  refine PySem.callWith_type rfl (evalArgs_of rfl ?_)
  show wpAny _ _ (spliced [(false, eval (.Name "addr" f2) env)]) _ _ _
  refine spliced_cons (wpAny_Name (wpAny_loadName_local ge.fn ge.addr (by rw [ge.loc]; exact hn₂) ha₂ ?_) (by decide))
  refine spliced_nil ?_
  refine call_enumerate_str fun h₃ hen hit hz₃ hk₃ => ?_
  refine wpAny_pyIter_enum hen fun pf => ?_
  have hst : strIterType x = "str_ascii_iterator" := by unfold strIterType; rw [ha]; rfl
  rw [hst] at hit
  rw [sz] at hen hit hz₃
  rw [sz]
  refine seg_turns ge (Nat.ne_of_lt (Nat.lt_succ_of_lt hLs)) (Nat.ne_of_lt hLs) (Nat.succ_ne_self _) hx ?_ x.cps.size 0 (by omega) s _ ⟨⟨_, hn₂.at fun o e => hk₃ _ o e, he₂⟩, ⟨_, hen⟩, hit⟩ ⟨fun b o hbL _ _ e => hk₃ b o (k₂ b o hbL e), hg₂, ho₂⟩
  rintro s₀ s' - ⟨m', hn', he'⟩ S'
  show Seg _ _ _ _ _ _ _ ((execs [.If (.Name "escape" r1) B3 [] r2] env).wrap _ _ _ _) _ _
  refine seg_execs_cons (seg_If (b := false) (esc_false ge hn' he' ⟨rfl, ?_⟩))
  rw [if_neg Bool.false_ne_true]
  exact seg_end (.ok (.ret .none)) ⟨rfl, rfl, S'⟩
end
end Mine
end -- G2

section -- G3
open PySem PySem.W PyProof.Rows PySem.Calls
open Sem (wp)
open Builtin Builtin.Str
set_option maxRecDepth 100000
set_option linter.unusedSectionVars false
set_option linter.unusedVariables false
namespace Mine

noncomputable def pairsFrom : Nat → List Nat → List PD
  | _, [] => []
  | i, c :: r => .tup [.int (i : Nat), .str ⟨#[c]⟩] :: pairsFrom (i + 1) r

noncomputable def four (h : Heap) (ga L En It : Addr) : Rdr := fun a => if a = ga ∨ a = L ∨ a = En ∨ a = It then h.get? a else none
noncomputable def oneG (gi : Nat) (gs : GenState) : Nat → Option GenState := fun j => if j = gi then some gs else none
theorem four_some {h : Heap} {ga L En It a : Addr} {o : Obj} (e : four h ga L En It a = some o) : (a = ga ∨ a = L ∨ a = En ∨ a = It) ∧ h.get? a = some o := by
  unfold four at e
  split at e
  · rename_i q; exact ⟨q, e⟩
  · cases e
theorem four_in {h : Heap} {ga L En It a : Addr} (q : a = ga ∨ a = L ∨ a = En ∨ a = It) : four h ga L En It a = h.get? a := if_pos q
theorem four_ne {h : Heap} {ga L En It a : Addr} (e : four h ga L En It a ≠ none) : a = ga ∨ a = L ∨ a = En ∨ a = It := by
  cases q : four h ga L En It a with
  | none => exact absurd q e
  | some o => exact (four_some q).1
theorem oneG_some {gi j : Nat} {gs y : GenState} (e : oneG gi gs j = some y) : j = gi ∧ gs = y := by
  unfold oneG at e
  split at e
  · rename_i q; cases e; exact ⟨q, rfl⟩
  · cases e
theorem oneG_ne {gi j : Nat} {gs : GenState} (e : oneG gi gs j ≠ none) : j = gi := by
  cases q : oneG gi gs j with
  | none => exact absurd q e
  | some y => exact (oneG_some q).1
theorem gens_setGen_ne {s : Shared} {g i : Nat} {y : GenState} (h : i ≠ g) : (s.setGen g y).gens[i]? = s.gens[i]? := by
  unfold Shared.setGen
  simp [Array.getElem?_setIfInBounds, Ne.symm h]
theorem gens_setGen_self {s : Shared} {g : Nat} {y z : GenState} (h : s.gens[g]? = some z) : (s.setGen g y).gens[g]? = some y := setGen_self h
theorem bare_setGen {s : Shared} {g : Nat} {y : GenState} (h : AllBare s.gens) (hy : y.bare = true) : AllBare (s.setGen g y).gens := by
  intro z hz
  unfold Shared.setGen at hz
  rcases Array.mem_or_eq_of_mem_setIfInBounds hz with h' | rfl
  · exact h z h'
  · exact hy

section
variable {prog : Program} {w : World} {L En It ga : Addr} {gi : Nat} {x : Str} {t : Tok}

noncomputable def Susp (prog : Program) (w : World) (L En It : Addr) (x : Str) (t : Tok) (i : Nat) (gs : GenState) : Prop :=
  gs.bare = true ∧ ∀ s'', Priv L En It x t i s''.heap → gs.Goes (model prog w) Amax (RP L En It) (YP L En It x t x.cps.size) (x.cps.size - i) (.send .none) s''

structure Moved1 (L En It : Addr) (gi : Nat) (s s' : Shared) : Prop where
  keep : ∀ b o, b ≠ L → b ≠ En → b ≠ It → s.heap.get? b = some o → s'.heap.get? b = some o
  gens : ∀ j, j ≠ gi → s'.gens[j]? = s.gens[j]?
  bare : AllBare s'.gens
  os : s'.os = s.os

theorem gen_next {A : Around} {s : Shared} {gs : GenState} (r : Roomy A) (hl : s.heap.NoLimit) (hga : s.heap.IsGen ga gi) (hgs : s.gens[gi]? = some gs) (hb : AllBare s.gens) {i : Nat} : ∀ {m : Nat}, i + m = x.cps.size →
    gs.Goes (model prog w) Amax (RP L En It) (YP L En It x t x.cps.size) m (.send .none) (s.setGen gi .running) →
    wpAny (model prog w) A (pyNext (.ref ga)) (fun res s' => Moved1 L En It gi s s' ∧ (m = 0 ∧ res = none ∨ ∃ m' T c t₁ t₂ gs', m = m' + 1 ∧ res = some (.ref T) ∧ x.cps[i]? = some c ∧ s'.heap.get? T = some (tupO #[.int (i : Int) t₁, .str ⟨#[c]⟩ t₂] 0) ∧ s.heap.get? T = none ∧
      T ≠ L ∧ T ≠ En ∧ T ≠ It ∧ Priv L En It x t (i + 1) s'.heap ∧ s'.gens[gi]? = some gs' ∧ Susp prog w L En It x t (i + 1) gs')) NoE s
  | 0, him, hgo => by
    refine pyNext_gen (P := fun n s₀ s₁ => n = 0 ∧ Since L En It s₀ s₁) r hl hga hgs hgo (fun v s₁ gs' hb' hv => ?_) fun s₁ hp h' hk => ?_
    · obtain ⟨T, c, t₁, t₂, _, _, _, _, _, _, _, hP, _, hkap⟩ := hv
      exact (hkap s₁ hP).elim
    · obtain ⟨_, S⟩ := hp
      refine ⟨⟨fun b o h1 h2 h3 e => hk b o (S.keep b o h1 h2 h3 e), fun j hj => ?_, ?_, ?_⟩, .inl ⟨rfl, rfl⟩⟩
      · show (s₁.setGen gi .finished).gens[j]? = _
        rw [gens_setGen_ne hj, S.gens, gens_setGen_ne hj]
      · exact bare_setGen (s := s₁) (by rw [S.gens]; exact bare_setGen hb rfl) rfl
      · exact S.os
  | m + 1, him, hgo => by
    refine pyNext_gen (P := fun n s₀ s₁ => n = 0 ∧ Since L En It s₀ s₁) r hl hga hgs hgo (fun v s₁ gs' hb' hv => ?_) fun s₁ hp h' hk => ?_
    · obtain ⟨T, c, t₁, t₂, rfl, hc, hT, hTn, h1, h2, h3, hP, S, hkap⟩ := hv
      have e1 : x.cps.size - 1 - (m + 1 - 1) = i := by omega
      have e2 : x.cps.size - (m + 1 - 1) = i + 1 := by omega
      rw [e1] at hc hT
      rw [e2] at hP hkap
      refine ⟨⟨S.keep, fun j hj => ?_, bare_setGen (by rw [S.gens]; exact bare_setGen hb rfl) hb', S.os⟩, .inr ⟨m, T, c, t₁, t₂, gs', rfl, rfl, hc, hT, hTn, h1, h2, h3, hP, ?_, hb', fun s'' P'' => ?_⟩⟩
      · rw [gens_setGen_ne hj, S.gens, gens_setGen_ne hj]
      · refine gens_setGen_self (z := .running) ?_
        rw [S.gens]; exact gens_setGen_self hgs
      · have e3 : x.cps.size - (i + 1) = m := by omega
        rw [e3]; exact hkap s'' P''
    · exact absurd hp.1 (Nat.succ_ne_zero m)

theorem Priv.L_ne {i : Nat} {h : Heap} (p : Priv L En It x t i h) : h.get? L ≠ none := by
  obtain ⟨m, ⟨o, _, _, e, _⟩, _⟩ := p.ns; rw [e]; exact nofun
theorem Priv.En_ne {i : Nat} {h : Heap} (p : Priv L En It x t i h) : h.get? En ≠ none := by
  obtain ⟨m, e⟩ := p.en; rw [e]; exact nofun
theorem Priv.It_ne {i : Nat} {h : Heap} (p : Priv L En It x t i h) : h.get? It ≠ none := by
  obtain ⟨o, e, _⟩ := p.it; rw [e]; exact nofun

theorem isIt_gen {h : Heap} (hga : h.IsGen ga gi) {H : Rdr} (hH : H ga = h.get? ga) : IsIt H (.ref ga) := by
  obtain ⟨o, nm, qn, ho, hc, _⟩ := hga
  exact ⟨ga, o, "generator", rfl, hH.trans ho, hc, by decide⟩

/-- what a turn leaves, put as an iterator's next -/
theorem gen_out {K : Frag} {H G : Rdr} {gs gs' : GenState} {s s' : Shared} {i : Nat} {T c : Nat} {t₁ t₂ : Tok} {ds : List PD} (I : ItIn K H (oneG gi gs) G s) (M1 : Moved1 L En It gi s s')
    (h3 : ∀ a, H a ≠ none → a = ga ∨ a = L ∨ a = En ∨ a = It) (hga : H ga ≠ none) (hL : H L ≠ none) (hEn : H En ≠ none ∨ s.heap.get? En = none) (hIt : H It ≠ none ∨ s.heap.get? It = none)
    (hd : ∀ a, a = ga ∨ a = L ∨ a = En ∨ a = It → G a = none) (hdn : ga ≠ L ∧ ga ≠ En ∧ ga ≠ It)
    (hT : s'.heap.get? T = some (tupO #[.int (i : Int) t₁, .str ⟨#[c]⟩ t₂] 0)) (hTn : s.heap.get? T = none) (hTne : T ≠ L ∧ T ≠ En ∧ T ≠ It) (hP : Priv L En It x t (i + 1) s'.heap) (hg' : s'.gens[gi]? = some gs')
    (yd : Yd K (model prog w) (.ref ga) ds (G.put T (tupO #[.int (i : Int) t₁, .str ⟨#[c]⟩ t₂] 0)) (four s'.heap ga L En It) (oneG gi gs')) :
    ∃ v, some (Value.ref T) = some v ∧ Upd H (oneG gi gs) s s' ∧ ∃ G' H' g', Rd G' (.tup [.int (i : Nat), .str ⟨#[c]⟩]) v ∧ Next H (oneG gi gs) G s H' g' G' s' ∧ Yd K (model prog w) (.ref ga) ds G' H' g' := by
  have hsub : Sub G (G.put T (tupO #[.int (i : Int) t₁, .str ⟨#[c]⟩ t₂] 0)) := Rdr.put_sub (by
    cases q : G T with
    | none => rfl
    | some o => rw [I.rd _ _ q] at hTn; cases hTn)
  have hTga : T ≠ ga := fun e => by
    cases q : H ga with
    | none => exact hga q
    | some o => have := I.h _ _ q; rw [← e, hTn] at this; cases this
  refine ⟨_, rfl, ⟨fun a o e e' => M1.keep a o ?_ ?_ ?_ e', fun j y e e' => ?_, M1.bare, M1.os⟩, _, _, _, .tup (Rdr.put_self _ _ _) (.cons (.int _ _) (.cons (.str _ _) .nil)), ⟨hsub, fun a o e => ?_, fun a o e => ?_, fun a o e => (four_some e).2, fun j y e => ?_, fun a e => ?_, fun j e => ?_, fun a e => ?_⟩, yd⟩
  · rintro rfl; exact hL e
  · rintro rfl
    rcases hEn with h | h
    · exact h e
    · rw [h] at e'; cases e'
  · rintro rfl
    rcases hIt with h | h
    · exact h e
    · rw [h] at e'; cases e'
  · have hj : j ≠ gi := by rintro rfl; rw [oneG, if_pos rfl] at e; cases e
    rw [M1.gens j hj]; exact e'
  · unfold Rdr.put at e
    split at e
    · rename_i q; subst q; exact .inr hTn
    · exact .inl e
  · unfold Rdr.put at e
    split at e
    · rename_i q; subst q; cases e; exact hT
    · have ne : a ≠ L ∧ a ≠ En ∧ a ≠ It := by
        refine ⟨?_, ?_, ?_⟩ <;> rintro rfl
        · rw [hd _ (.inr (.inl rfl))] at e; cases e
        · rw [hd _ (.inr (.inr (.inl rfl)))] at e; cases e
        · rw [hd _ (.inr (.inr (.inr rfl)))] at e; cases e
      exact M1.keep a o ne.1 ne.2.1 ne.2.2 (I.rd a o e)
  · obtain ⟨rfl, rfl⟩ := oneG_some e; exact hg'
  · rcases four_ne e with rfl | rfl | rfl | rfl
    · exact .inl hga
    · exact .inl hL
    · exact hEn
    · exact hIt
  · have := oneG_ne e; subst this
    exact .inl (by rw [oneG, if_pos rfl]; exact nofun)
  · have q := four_ne e
    unfold Rdr.put
    rw [if_neg]
    · exact hd a q
    · rintro rfl
      rcases q with q | q | q | q
      · exact hTga q
      · exact hTne.1 q
      · exact hTne.2.1 q
      · exact hTne.2.2 q

theorem yd_susp {K : Frag} : ∀ (rest : List Nat) (i : Nat), rest = x.cps.toList.drop i → i ≤ x.cps.size → ∀ (G : Rdr) (h : Heap) (gs : GenState), Priv L En It x t i h → h.IsGen ga gi → (ga ≠ L ∧ ga ≠ En ∧ ga ≠ It) → (∀ a, a = ga ∨ a = L ∨ a = En ∨ a = It → G a = none) →
    Susp prog w L En It x t i gs → Yd K (model prog w) (.ref ga) (pairsFrom i rest) G (four h ga L En It) (oneG gi gs)
  | [], i, hr, hi, G, h, gs, hP, hga, hne, hd, hs => And.intro (isIt_gen hga (four_in (.inl rfl))) fun A s r I => by
    have hi' : i = x.cps.size := by
      have := congrArg List.length hr
      rw [List.length_drop] at this
      simp at this; omega
    have hPs : Priv L En It x t i s.heap := hP.frame fun b hb o e => I.h _ _ ((four_in (.inr hb)).trans e)
    have hgs : s.gens[gi]? = some gs := I.g _ _ (if_pos rfl)
    have hgas : s.heap.IsGen ga gi := by obtain ⟨o, nm, qn, e, r⟩ := hga; exact ⟨o, nm, qn, I.h _ _ ((four_in (.inl rfl)).trans e), r⟩
    have hgo := hs.2 (s.setGen gi .running) hPs
    rw [show x.cps.size - i = 0 by omega] at hgo
    refine wpAny_mono (gen_next (m := 0) (i := i) r I.gok.lim hgas hgs I.bare (by omega) hgo) (fun res s' hr => ?_) fun _ _ f => f
    obtain ⟨M1, ⟨_, rfl⟩ | ⟨m', _, _, _, _, _, e, _⟩⟩ := hr
    · refine ⟨rfl, fun a o e e' => M1.keep a o ?_ ?_ ?_ e', fun j y e e' => ?_, M1.bare, M1.os⟩
      · rintro rfl; rw [four_in (.inr (.inl rfl))] at e; exact hP.L_ne e
      · rintro rfl; rw [four_in (.inr (.inr (.inl rfl)))] at e; exact hP.En_ne e
      · rintro rfl; rw [four_in (.inr (.inr (.inr rfl)))] at e; exact hP.It_ne e
      · have hj : j ≠ gi := by rintro rfl; rw [oneG, if_pos rfl] at e; cases e
        rw [M1.gens j hj]; exact e'
    · cases e
  | c :: rest, i, hr, hi, G, h, gs, hP, hga, hne, hd, hs => And.intro (isIt_gen hga (four_in (.inl rfl))) fun A s r I => by
    have hlt : i < x.cps.toList.length := by
      have := congrArg List.length hr
      rw [List.length_drop] at this
      simp at this; simp; omega
    have hdi : x.cps[i]? = some c ∧ rest = x.cps.toList.drop (i + 1) := by
      rw [List.drop_eq_getElem_cons hlt] at hr
      obtain ⟨a, b⟩ := List.cons_eq_cons.mp hr
      refine ⟨?_, b⟩
      rw [← Array.getElem?_toList, List.getElem?_eq_getElem hlt, a]
    rw [Array.length_toList] at hlt
    have hPs : Priv L En It x t i s.heap := hP.frame fun b hb o e => I.h _ _ ((four_in (.inr hb)).trans e)
    have hgs : s.gens[gi]? = some gs := I.g _ _ (if_pos rfl)
    have hgas : s.heap.IsGen ga gi := by obtain ⟨o, nm, qn, e, r⟩ := hga; exact ⟨o, nm, qn, I.h _ _ ((four_in (.inl rfl)).trans e), r⟩
    have hgo := hs.2 (s.setGen gi .running) hPs
    refine wpAny_mono (gen_next (m := x.cps.size - i) (i := i) r I.gok.lim hgas hgs I.bare (by omega) hgo) (fun res s' hr => ?_) fun _ _ f => f
    obtain ⟨M1, ⟨e, _⟩ | ⟨m', T, c', t₁, t₂, gs', hm, rfl, hc, hT, hTn, h1, h2, h3, hP', hg', hs'⟩⟩ := hr
    · exact absurd e (by omega)
    · rw [hdi.1] at hc; cases hc
      have hga' : s'.heap.IsGen ga gi := by obtain ⟨o, nm, qn, e, r⟩ := hgas; exact ⟨o, nm, qn, M1.keep _ _ hne.1 hne.2.1 hne.2.2 e, r⟩
      have n1 : four h ga L En It ga ≠ none := by rw [four_in (.inl rfl)]; obtain ⟨o, _, _, e, _⟩ := hga; rw [e]; exact nofun
      have n2 : four h ga L En It L ≠ none := by rw [four_in (.inr (.inl rfl))]; exact hP.L_ne
      have n3 : four h ga L En It En ≠ none := by rw [four_in (.inr (.inr (.inl rfl)))]; exact hP.En_ne
      have n4 : four h ga L En It It ≠ none := by rw [four_in (.inr (.inr (.inr rfl)))]; exact hP.It_ne
      refine gen_out I M1 (fun a => four_ne) n1 n2 (.inl n3) (.inl n4) hd hne hT hTn ⟨h1, h2, h3⟩ hP' hg' (yd_susp rest (i + 1) hdi.2 hlt _ s'.heap gs' hP' hga' hne (fun a q => ?_) hs')
      unfold Rdr.put
      rw [if_neg]
      · exact hd a q
      · rintro rfl
        rcases q with rfl | q | q | q
        · obtain ⟨o, _, _, e, _⟩ := hgas; rw [e] at hTn; cases hTn
        · exact h1 q
        · exact h2 q
        · exact h3 q
end
end Mine
end -- G3

section -- F1
open PySem PySem.W PyProof.Rows PySem.Calls
set_option maxRecDepth 100000
set_option linter.unusedSectionVars false
set_option linter.unusedVariables false
namespace Mine

noncomputable abbrev KK (w : World) : Frag := hd.heap_39 w.params
noncomputable abbrev PG : Program := PySem.Challenge.rw_sr0055_01.row.prog

/-- what is known of a frame of a def with the names nm -/
structure FO (C : Cx) (w : World) (n : Nat) (nm : List (Str × NameKind)) : Prop where
  prog : C.prog = PG
  hw : C.w = w
  K : C.K = KK w
  ok : COk C n
  kind : ∀ x k, nm.lookup x = some k → C.env.kindOf x = some k
  cell : ∀ x, nm.lookup x = some .cell → (C.env.cells.lookup x).isSome = true
  cown : ∀ x, nm.lookup x = some .cell → C.cown = true

theorem fst_lookup {α β : Type} : ∀ {l : List (Str × α)} {r : List (Str × β)}, l.map (·.1) = r.map (·.1) → ∀ x, (l.lookup x).isSome = (r.lookup x).isSome
  | [], [], _, _ => rfl
  | [], _ :: _, h, _ => by simp at h
  | _ :: _, [], h, _ => by simp at h
  | (a, v) :: l, (b, u) :: r, h, x => by
    obtain ⟨h1, h2⟩ := List.cons_eq_cons.mp h
    dsimp only at h1; subst h1
    rw [List.lookup_cons, List.lookup_cons]
    cases x == a
    · exact fst_lookup h2 x
    · rfl

theorem fn_body {w : World} {n : Nat} {a : Addr} {oc : Value} {od : Option Addr} {osl : Array (Option Value)} {fd : FuncData} {body : List Stmt} {nm : List (Str × NameKind)} (names : List Str) {ds : List PD} {d : PD}
    (hk : (KK w).lookup a = some ⟨oc, od, .func fd, osl⟩) (hbody : fd.body = .stmts body) (hnm : fd.scope.names = nm) (hcode : codeIn (KK w) fd.code fd.qualname = true) (hg : fd.globals = mainGlobals) (hb : fd.builtins = builtinsNs) (hclo : fd.closure = [])
    (hco : fd.scope.isCoroutine = false) (hgen : fd.scope.isGenerator = false) (hkind : fd.scope.kind = .function)
    (hbind : ∀ vs : List Value, vs.length = names.length → bindArgs fd ⟨vs, []⟩ = pure (names.zip vs)) (hlen : names.length = ds.length)
    (hnames : (names.all fun x => nm.lookup x == some .local || nm.lookup x == some .cell) = true) (hnd : names.Nodup)
    (hcells : (nm.all fun p => p.2 != .cell || ((cellsFrom 0 nm []).lookup p.1).isSome) = true)
    (h : ∀ C : Cx, FO C w n nm → EX C (params names ds) body fun o => o = .ret d) :
    Fn PG w (KK w) (n + 1) (.ref a) ds d := by
  subst hnm
  refine fn_of_body hk hbody hcode hg hb hclo hco hgen hkind hbind hlen hnames hnd fun C hp hw hK hC hsc hcl _ _ hco => h C ⟨hp, hw, hK, hC, fun x k e => by unfold Env.kindOf; rw [hsc]; exact e, fun x e => ?_, fun _ _ => hco⟩
  rw [fst_lookup hcl]
  have := List.all_eq_true.mp hcells _ (mem_of_lookup e)
  simpa using this

section
variable {C : Cx} {w : World} {n : Nat} {nm : List (Str × NameKind)} {ρ : Rho}
theorem FO.sl (h : FO C w n nm) {x : Str} (e : nm.lookup x = some .local) : CanStore C x := .inl (h.kind x _ e)
theorem FO.sc (h : FO C w n nm) {x : Str} (e : nm.lookup x = some .cell) : CanStore C x := .inr ⟨h.kind x _ e, h.cell x e, h.cown x e⟩
/-- a global of the text -/
theorem FO.gd (h : FO C w n nm) {x : Str} {pos : Pos} {v : Value} {d : PD} (e1 : nm.lookup x = some .globalImplicit) (e2 : nsIn (KK w) mainGlobals x = some (some v)) (hr : ∀ G, Rd G d v)
    (hd : (x == ("__debug__" : Str)) = false := by decide) : EV C ρ (.Name x pos) d := fun X s G ow S => by
  obtain ⟨mg, hg⟩ := S.gok.g
  exact Name_function_global h.ok.fn (h.kind x _ e1) (loadGlobal_global (h.ok.globals ▸ hg) (mg_of S.gok.kin hg (h.K ▸ e2)) (Res.refl S.rd (hr G))) hd
theorem FO.gr (h : FO C w n nm) {x : Str} {pos : Pos} {v : Value} (e1 : nm.lookup x = some .globalImplicit) (e2 : nsIn (KK w) mainGlobals x = some (some v))
    (hd : (x == ("__debug__" : Str)) = false := by decide) : EV C ρ (.Name x pos) (.raw v) := h.gd e1 e2 (fun _ => .raw v) hd
/-- a built-in name -/
theorem FO.gb (h : FO C w n nm) {x : Str} {pos : Pos} {v : Value} (e1 : nm.lookup x = some .globalImplicit) (e2 : nsIn (KK w) mainGlobals x = some none) (hv : bootBuiltins x = some v)
    (hn : x ≠ "__name__" := by decide) (hd : (x == ("__debug__" : Str)) = false := by decide) : EV C ρ (.Name x pos) (.raw v) :=
  ev_builtin h.ok (h.kind x _ e1) (h.K ▸ e2) hv hn hd
theorem FO.fn (h : FO C w n nm) {m : Nat} {f : Value} {ds : List PD} {d : PD} (F : Fn PG w (KK w) m f ds d) (hm : m ≤ n := by decide) : CL C f ds d :=
  F C h.prog h.hw h.K h.ok.hnd (by have := h.ok.depth; omega) (by have := h.ok.units; omega)
/-- a call of a def of the text -/
theorem FO.call (h : FO C w n nm) {x : Str} {px pos : Pos} {a : Addr} {oc : Value} {od : Option Addr} {fd : FuncData} {osl : Array (Option Value)} {args : List Expr} {ds : List PD} {d : PD} {m : Nat}
    (e1 : nm.lookup x = some .globalImplicit) (e2 : nsIn (KK w) mainGlobals x = some (some (.ref a))) (hk : (KK w).lookup a = some ⟨oc, od, .func fd, osl⟩) (F : Fn PG w (KK w) m (.ref a) ds d) (ha : EVs C ρ args ds) (hm : m ≤ n := by decide)
    (hd : (x == ("__debug__" : Str)) = false := by decide) : EV C ρ (.Call (.Name x px) args [] pos) d :=
  ev_callF (h.gr e1 e2 hd) (h.K ▸ hk) ha (h.fn F hm)
end

theorem boot_len : bootBuiltins "len" = some (.builtin "len") := by decide +kernel
theorem boot_min : bootBuiltins "min" = some (.builtin "min") := by decide +kernel
theorem boot_range : bootBuiltins "range" = some (.type "range") := by decide +kernel

set_option maxHeartbeats 4000000 in
theorem fn_steps (w : World) (a b c d : Int) : Fn PG w (KK w) 1 (.ref 122) [.list [.int a, .int b], .list [.int c, .int d]] (.list [.int (a + c), .int (min b (a + d))]) := by
  refine fn_body ["first", "second"] rfl rfl rfl rfl rfl rfl rfl rfl rfl rfl ?_ rfl rfl (by decide) rfl ?_
  · intro vs h
    match vs, h with
    | [x, y], _ => rfl
  · intro C F
    exact ex_ret (ev_list (evs_cons (ev_binop (ev_sub (ev_name F.ok rfl) (ev_int _ _ _) (op_item (by decide) rfl)) (ev_sub (ev_name F.ok rfl) (ev_int _ _ _) (op_item (by decide) rfl)) op_add)
      (evs_cons (ev_callB (F.gb rfl rfl boot_min) (evs_cons (ev_sub (ev_name F.ok rfl) (ev_int _ _ _) (op_item (by decide) rfl)) (evs_cons (ev_binop (ev_sub (ev_name F.ok rfl) (ev_int _ _ _) (op_item (by decide) rfl)) (ev_sub (ev_name F.ok rfl) (ev_int _ _ _) (op_item (by decide) rfl)) op_add) evs_nil)) (cl_min F.ok.hnd)) evs_nil))) rfl
end Mine
end -- F1

section -- F2
open PySem PySem.W PyProof.Rows PySem.Calls
set_option maxRecDepth 100000
set_option linter.unusedSectionVars false
set_option linter.unusedVariables false
namespace Mine

noncomputable def stp (a : Step) : PD := .list [.int a.1, .int a.2]
noncomputable def pcD (p : Piece) : PD := .list [.int p.m, stp p.e, stp p.o, stp p.l]

theorem fn_term (w : World) (x : Int) : Fn PG w (KK w) 1 (.ref 59) [.int x] (.bool (decide (x < 256))) := by
  refine fn_body ["x"] rfl rfl rfl rfl rfl rfl rfl rfl rfl rfl ?_ rfl rfl (by decide) rfl ?_
  · intro vs h
    match vs, h with
    | [x], _ => rfl
  · intro C F
    exact ex_ret (ev_cmp (ev_name F.ok rfl) (F.gd rfl rfl (fun _ => .int _ _)) op_lt) rfl
theorem fn_nonterm (w : World) (x : Int) : Fn PG w (KK w) 1 (.ref 66) [.int x] (.bool (decide (x ≥ 256))) := by
  refine fn_body ["x"] rfl rfl rfl rfl rfl rfl rfl rfl rfl rfl ?_ rfl rfl (by decide) rfl ?_
  · intro vs h
    match vs, h with
    | [x], _ => rfl
  · intro C F
    exact ex_ret (ev_cmp (ev_name F.ok rfl) (F.gd rfl rfl (fun _ => .int _ _)) op_ge) rfl
theorem fn_eof (w : World) (x : Int) : Fn PG w (KK w) 1 (.ref 73) [.int x] (.bool (x == 0)) := by
  refine fn_body ["x"] rfl rfl rfl rfl rfl rfl rfl rfl rfl rfl ?_ rfl rfl (by decide) rfl ?_
  · intro vs h
    match vs, h with
    | [x], _ => rfl
  · intro C F
    exact ex_ret (ev_cmp (ev_name F.ok rfl) (F.gd rfl rfl (fun _ => .int _ _)) op_eq) rfl

theorem fn_stp (w : World) (a b : Step) : Fn PG w (KK w) 1 (.ref 122) [stp a, stp b] (stp (stepsF a b)) := fn_steps w a.1 a.2 b.1 b.2


noncomputable def swapO (p q : Piece) : Step × Step := if p.m % 2 = 1 then (q.o, q.e) else (q.e, q.o)

set_option maxHeartbeats 4000000 in
theorem fn_both (w : World) (p q : Piece) : Fn PG w (KK w) 2 (.ref 129) [pcD p, pcD q] (pcD (bothF p q)) := by
  refine fn_body ["first", "second"] rfl rfl rfl rfl rfl rfl rfl rfl rfl rfl ?_ rfl rfl (by decide) rfl ?_
  · intro vs h
    match vs, h with
    | [x, y], _ => rfl
  · intro C F
    refine ex_unpack F.ok (xs := [(_, _), (_, _), (_, _), (_, _)]) (ev_name F.ok rfl) rfl rfl ?_ ?_
    · intro p hp
      simp only [List.mem_cons, List.not_mem_nil, or_false] at hp
      rcases hp with rfl | rfl | rfl | rfl <;> exact F.sl rfl
    refine ex_unpack F.ok (xs := [(_, _), (_, _), (_, _), (_, _)]) (ev_name F.ok rfl) rfl rfl ?_ ?_
    · intro p hp
      simp only [List.mem_cons, List.not_mem_nil, or_false] at hp
      rcases hp with rfl | rfl | rfl | rfl <;> exact F.sl rfl
    --have base : ∀ {ρ : Rho} {rest : List Stmt} {P : Out → Prop} (a b : Step), EX C (("others", Slot.val (.int q.m)) :: ("end", .val (stp q.l)) :: ("ahead", .val (stp a)) :: ("behind", .val (stp b)) :: ("even", .val (stp p.e)) :: ("odd", .val (stp p.o)) :: ("last", .val (stp p.l)) :: ("marks", .val (.int p.m)) :: []) rest P → True := fun _ _ _ => trivial
    refine ex_ifW (("others", Slot.val (.int q.m)) :: ("end", .val (stp q.l)) :: ("ahead", .val (stp (swapO p q).1)) :: ("behind", .val (stp (swapO p q).2)) :: ("even", .val (stp p.e)) :: ("odd", .val (stp p.o)) :: ("last", .val (stp p.l)) :: ("marks", .val (.int p.m)) :: [])
      (et_cmp (ev_binop (ev_name F.ok rfl) (ev_int _ _ _) (op_mod (by decide))) (ev_int _ _ _) op_eq) (fun h1 => ?_) (fun h1 => ?_) ?_
    · refine ex_pair F.ok (evs_cons (ev_name F.ok rfl) (evs_cons (ev_name F.ok rfl) evs_nil)) (F.sl rfl) (F.sl rfl) (ex_nil ?_) ?_
      · have : swapO p q = (q.o, q.e) := if_pos (by simpa using h1)
        rw [this]
        repeat (first | exact LeR.nil | refine LeR.cons rfl ?_)
      · exact swapped_two F.ok.fn (F.kind _ _ rfl) (F.kind _ _ rfl)
    · refine ex_nil ?_
      have : swapO p q = (q.e, q.o) := if_neg (by simpa using h1)
      rw [this]
      repeat (first | exact LeR.nil | refine LeR.cons rfl ?_)
    refine ex_ifW (("others", Slot.val (.int q.m)) :: ("end", .val (stp (if q.m = 0 then stepsF p.l q.l else q.l))) :: ("ahead", .val (stp (swapO p q).1)) :: ("behind", .val (stp (swapO p q).2)) :: ("even", .val (stp p.e)) :: ("odd", .val (stp p.o)) :: ("last", .val (stp p.l)) :: ("marks", .val (.int p.m)) :: [])
      (et_cmp (ev_name F.ok rfl) (ev_int _ _ _) op_eq) (fun h2 => ?_) (fun h2 => ?_) ?_
    · refine ex_assign F.ok (F.call rfl rfl rfl (fn_stp w _ _) (evs_cons (ev_name F.ok rfl) (evs_cons (ev_name F.ok rfl) evs_nil))) (F.sl rfl) (ex_nil ?_)
      rw [if_pos (by simpa using h2)]
      repeat (first | exact LeR.nil | refine LeR.cons rfl ?_)
    · refine ex_nil ?_
      rw [if_neg (by simpa using h2)]
      repeat (first | exact LeR.nil | refine LeR.cons rfl ?_)
    refine ex_ret (ev_list (evs_cons (ev_binop (ev_name F.ok rfl) (ev_name F.ok rfl) op_add) (evs_cons (F.call rfl rfl rfl (fn_stp w _ _) (evs_cons (ev_name F.ok rfl) (evs_cons (ev_name F.ok rfl) evs_nil)))
          (evs_cons (F.call rfl rfl rfl (fn_stp w _ _) (evs_cons (ev_name F.ok rfl) (evs_cons (ev_name F.ok rfl) evs_nil))) (evs_cons (ev_name F.ok rfl) evs_nil))))) ?_
    unfold swapO bothF pcD
    split <;> rfl
end Mine
end -- F2

section -- F3
open PySem PySem.W PyProof.Rows PySem.Calls
set_option maxRecDepth 100000
set_option linter.unusedSectionVars false
set_option linter.unusedVariables false
namespace Mine


theorem ev_z2 {C : Cx} {ρ : Rho} {p q r : Pos} {k₁ k₂ : Nat} : EV C ρ (.List [.Constant (.int 0) k₁ p, .Constant (.int 0) k₂ q] r) (.list [.int 0, .int 0]) := ev_list (evs_cons (ev_int _ _ _) (evs_cons (ev_int _ _ _) evs_nil))
set_option maxHeartbeats 4000000 in
theorem fn_one (w : World) (a : Int) : Fn PG w (KK w) 1 (.ref 136) [.int a] (pcD (oneF a)) := by
  refine fn_body ["symbol"] rfl rfl rfl rfl rfl rfl rfl rfl rfl rfl ?_ rfl rfl (by decide) rfl ?_
  · intro vs h
    match vs, h with
    | [x], _ => rfl
  · intro C F
    refine ex_if (et_cmp (ev_name F.ok rfl) (ev_int _ _ _) op_eq) (fun h1 => ?_) (fun h1 => ex_nil ?_)
    · refine ex_ret (d := .list [.int 1, .list [.int 0, .int 0], .list [.int 0, .int 0], .list [.int 0, .int 0]]) (ev_list (evs_cons (ev_int _ _ _) (evs_cons ev_z2 (evs_cons ev_z2 (evs_cons ev_z2 evs_nil))))) ?_
      rw [oneF, if_pos (by simpa using h1)]; rfl
    refine ex_assign F.ok (ev_list (evs_cons (ev_int _ _ _) (evs_cons (ev_int _ _ _) evs_nil))) (F.sl rfl) ?_
    refine ex_ifW (("step", .val (stp (if a = 7 then (1, 0) else (0, 0)))) :: ("symbol", .val (.int a)) :: []) (et_cmp (ev_name F.ok rfl) (ev_int _ _ _) op_eq) (fun h2 => ?_) (fun h2 => ex_nil ?_) ?_
    · refine ex_assign F.ok (ev_list (evs_cons (ev_int _ _ _) (evs_cons (ev_int _ _ _) evs_nil))) (F.sl rfl) (ex_nil ?_)
      rw [if_pos (by simpa using h2)]
      repeat (first | exact LeR.nil | refine LeR.cons rfl ?_)
    · rw [if_neg (by simpa using h2)]
      repeat (first | exact LeR.nil | refine LeR.cons rfl ?_)
    refine ex_ifW (("step", .val (stp (oneStep a))) :: ("symbol", .val (.int a)) :: []) (et_cmp (ev_name F.ok rfl) (ev_int _ _ _) op_eq) (fun h2 => ?_) (fun h2 => ex_nil ?_) ?_
    · refine ex_assign F.ok (ev_list (evs_cons (ev_neg (ev_int _ _ _)) (evs_cons (ev_neg (ev_int _ _ _)) evs_nil))) (F.sl rfl) (ex_nil ?_)
      rw [oneStep, if_pos (by simpa using h2)]
      repeat (first | exact LeR.nil | refine LeR.cons rfl ?_)
    · rw [oneStep, if_neg (by simpa using h2)]
      repeat (first | exact LeR.nil | refine LeR.cons rfl ?_)
    refine ex_ret (d := .list [.int 0, stp (oneStep a), .list [.int 0, .int 0], stp (oneStep a)]) (ev_list (evs_cons (ev_int _ _ _) (evs_cons (ev_name F.ok rfl) (evs_cons (ev_list (evs_cons (ev_int _ _ _) (evs_cons (ev_int _ _ _) evs_nil))) (evs_cons (ev_name F.ok rfl) evs_nil))))) ?_
    rw [oneF, if_neg (by simpa using h1)]; rfl

set_option maxHeartbeats 4000000 in
theorem fn_closes (w : World) (p : Piece) : Fn PG w (KK w) 2 (.ref 143) [pcD p] (.bool (closesF p)) := by
  refine fn_body ["piece"] rfl rfl rfl rfl rfl rfl rfl rfl rfl rfl ?_ rfl rfl (by decide) rfl ?_
  · intro vs h
    match vs, h with
    | [x], _ => rfl
  · intro C F
    refine ex_assign F.ok (ev_sub (ev_name F.ok rfl) (ev_int _ _ _) (op_item (by decide) rfl)) (F.sl rfl) ?_
    refine ex_ifW (("walk", .val (stp (if p.m % 2 = 1 then stepsF p.e p.l else p.e))) :: []) (et_cmp (ev_binop (ev_sub (ev_name F.ok rfl) (ev_int _ _ _) (op_item (by decide) rfl)) (ev_int _ _ _) (op_mod (by decide))) (ev_int _ _ _) op_eq) (fun h2 => ?_) (fun h2 => ex_nil ?_) ?_
    · refine ex_assign F.ok (F.call rfl rfl rfl (fn_stp w _ _) (evs_cons (ev_name F.ok rfl) (evs_cons (ev_sub (ev_name F.ok rfl) (ev_int _ _ _) (op_item (by decide) rfl)) evs_nil))) (F.sl rfl) (ex_nil ?_)
      rw [if_pos (by simpa using h2)]
      repeat (first | exact LeR.nil | refine LeR.cons rfl ?_)
    · rw [if_neg (by simpa using h2)]
      repeat (first | exact LeR.nil | refine LeR.cons rfl ?_)
    refine ex_ret (ev_and (ev_cmp (ev_sub (ev_name F.ok rfl) (ev_int _ _ _) (op_item (by decide) rfl)) (ev_int _ _ _) op_eq) fun _ => (ev_cmp (ev_sub (ev_name F.ok rfl) (ev_int _ _ _) (op_item (by decide) rfl)) (ev_int _ _ _) op_ge)) ?_
    rfl
end Mine
end -- F3

section -- TX
open PySem PySem.W PyProof.Rows PySem.Calls
open Builtin Builtin.Str
set_option linter.unusedSectionVars false
set_option linter.unusedVariables false
namespace Mine

theorem idx_clamp (l : Option Int) {b n : Nat} (h : n ≤ b) : strSliceIndices l (some (b : Int)) 1 n = strSliceIndices l (some (n : Int)) 1 n := by
  have h1 : ¬ ((b : Int) < 0) := by omega
  have h2 : ¬ ((n : Int) < 0) := by omega
  have e : min (b : Int) (n : Int) = n := by omega
  simp only [strSliceIndices, h1, h2, if_false, e, Int.min_self, show ((1 : Int) > 0) = True from by simp, if_true]
theorem slice_list (x : Str) {a b : Nat} (hab : a ≤ b) (ha : a ≤ x.length) : (PySem.Txt.slice x (some (a : Int)) (some (b : Int))).cps.toList = (x.cps.toList.drop a).take (b - a) := by
  have key : (strSliceIndices (some (a : Int)) (some (b : Int)) 1 x.length).filterMap (x.cps[·]?) = (x.cps.toList.drop a).take (b - a) := by
    by_cases hb : b ≤ x.length
    · exact StrLaws.sliced_plain x hab hb
    · rw [idx_clamp _ (by omega), StrLaws.sliced_plain x ha (Nat.le_refl _), List.take_of_length_le (by simp [Str.length]), List.take_of_length_le]
      simp only [Str.length] at hb
      simp; omega
  unfold PySem.Txt.slice
  split
  · rename_i h
    have h : (strSliceIndices (some (a : Int)) (some (b : Int)) 1 x.length).length = x.length := by simpa using h
    by_cases hb : b ≤ x.length
    · rw [StrLaws.strSliceIndices_plain hab hb, List.length_map, List.length_range] at h
      have ea : a = 0 := by omega
      subst ea
      rw [List.drop_zero, List.take_of_length_le]
      simp only [Str.length] at h
      simp; omega
    · rw [idx_clamp _ (by omega), StrLaws.strSliceIndices_plain ha (Nat.le_refl _), List.length_map, List.length_range] at h
      by_cases e : a = 0
      · subst e
        rw [List.drop_zero, List.take_of_length_le]
        simp only [Str.length] at hb
        simp; omega
      · have : x.length = 0 := by omega
        have hx : x.cps.toList = [] := by
          simp only [Str.length] at this
          exact List.eq_nil_of_length_eq_zero (by simpa using this)
        rw [hx]; simp
  · exact key
theorem slice_from (x : Str) {a : Nat} (ha : a ≤ x.length) : (PySem.Txt.slice x (some (a : Int)) none).cps.toList = x.cps.toList.drop a := by
  have : PySem.Txt.slice x (some (a : Int)) none = PySem.Txt.slice x (some (a : Int)) (some (x.length : Int)) := by
    unfold PySem.Txt.slice; rw [StrLaws.sliceIdx_none_hi]
  rw [this, slice_list x ha ha, List.take_of_length_le]
  simp [Str.length]
theorem str_ext {x y : Str} (h : x.cps.toList = y.cps.toList) : x = y := Str.ext' (Array.toList_inj.mp h)
end Mine
end -- TX

section -- F4
open PySem PySem.W PyProof.Rows PySem.Calls
set_option maxRecDepth 100000
set_option linter.unusedSectionVars false
set_option linter.unusedVariables false
namespace Mine

noncomputable def itD : Item → PD
  | none => .str (Str.ofString "")
  | some c => .str ⟨#[c]⟩
noncomputable def itsD (items : List Item) : PD := .list (items.map itD)
noncomputable def pNats (l : List Nat) : List PD := pInts (l.map fun (n : Nat) => (n : Int))
noncomputable def natsD (l : List Nat) : PD := .list (pNats l)

theorem itemsF_dots (r : List Nat) (l : List Nat) (h : l.take 3 = [46, 46, 46]) : itemsF l = none :: itemsF (l.drop 3) := by
  match l, h with
  | a :: b :: c :: r, h =>
    simp only [List.take_succ_cons, List.take_zero, List.cons.injEq, and_true] at h
    obtain ⟨rfl, rfl, rfl⟩ := h
    rw [itemsF, if_pos ⟨rfl, rfl, rfl⟩]; rfl
theorem itemsF_sign (a : Nat) (l : List Nat) (h : (a :: l).take 3 ≠ [46, 46, 46]) : itemsF (a :: l) = some a :: itemsF l := by
  match l, h with
  | [], _ => rfl
  | [b], _ => rfl
  | b :: c :: r, h =>
    rw [itemsF, if_neg]
    rintro ⟨rfl, rfl, rfl⟩
    exact h rfl

theorem itemsF_len : ∀ (n : Nat) (l : List Nat), l.length ≤ n → (itemsF l).length ≤ l.length
  | _, [], _ => Nat.zero_le _
  | 0, _ :: _, h => by simp at h
  | n + 1, a :: l, h => by
    by_cases q : (a :: l).take 3 = [46, 46, 46]
    · rw [itemsF_dots [] _ q]
      have := itemsF_len n ((a :: l).drop 3) (by rw [List.length_drop]; simp only [List.length_cons] at h ⊢; omega)
      rw [List.length_drop] at this
      simp only [List.length_cons] at this ⊢
      match l, q with
      | b :: c :: r, _ => simp only [List.length_cons] at this ⊢; omega
    · rw [itemsF_sign a l q]
      have := itemsF_len n l (by simpa using h)
      simp only [List.length_cons]; omega

set_option maxHeartbeats 4000000 in
theorem fn_items (w : World) (x : Str) (hx : x.length ≤ 1000) : Fn PG w (KK w) 1 (.ref 150) [.str x] (itsD (itemsF x.cps.toList)) := by
  refine fn_body ["want"] rfl rfl rfl rfl rfl rfl rfl rfl rfl rfl ?_ rfl rfl (by decide) rfl ?_
  · intro vs h
    match vs, h with
    | [x], _ => rfl
  · intro C F
    have hxl : x.cps.toList.length = x.length := by simp [Str.length]
    have hline : 1000 ≤ sizeLine := by rw [sizeLine_eq]; decide
    refine ex_newList F.ok evs_nil (F.sl rfl) ?_
    refine ex_assign F.ok (ev_int _ _ _) (F.sl rfl) ?_
    refine ex_while (α := Nat × List Item) (fun a ρ' => a.1 ≤ x.length ∧ a.2.length ≤ a.1 ∧ a.2 ++ itemsF (x.cps.toList.drop a.1) = itemsF x.cps.toList ∧ ρ' = ([("place", .val (.int (a.1 : Nat))), ("items", .own (a.2.map itD)), ("want", .val (.str x))] : Rho))
      (fun a => x.length - a.1) (0, []) ⟨Nat.zero_le _, Nat.zero_le _, rfl, rfl⟩ (fun a => decide ((a.1 : Int) < x.length)) ?_ ?_ ?_
    · rintro ⟨p, pre⟩ ρ' ⟨h1, h2, h3, rfl⟩
      exact et_cmp (ev_name F.ok rfl) (ev_callB (F.gb rfl rfl boot_len) (evs_cons (ev_name F.ok rfl) evs_nil) (cl_len_str (by omega))) op_lt
    · rintro ⟨p, pre⟩ ρ' ⟨h1, h2, h3, rfl⟩ hb
      dsimp only at h1 h2 h3 hb
      have hp : p < x.length := by simpa using hb
      have hs := slice_list x (a := p) (b := p + 3) (by omega) (by omega)
      rw [show p + 3 - p = 3 by omega] at hs
      obtain ⟨c, hc⟩ : ∃ c, x.cps.toList[p]? = some c := ⟨_, List.getElem?_eq_getElem (by omega)⟩
      have hd : x.cps.toList.drop p = c :: x.cps.toList.drop (p + 1) := by
        obtain ⟨hlt, e⟩ := List.getElem?_eq_some_iff.mp hc
        rw [List.drop_eq_getElem_cons hlt, e]
      refine ex_if (et_cmp (ev_slice (i := some (p : Nat)) (j := some ((p + 3 : Nat) : Int)) (ev_name F.ok rfl) (ev_name F.ok rfl) (ev_binop (ev_name F.ok rfl) (ev_int _ _ _) op_add) (by omega)) (ev_str _ _ _) op_eqStr) (fun h => ?_) (fun h => ?_)
      · have hd3 : (x.cps.toList.drop p).take 3 = [46, 46, 46] := by
          rw [← hs]; exact beq_iff_eq.mp h
        refine ex_append F.ok rfl (ev_str _ _ _) ?_ (by rw [List.length_map]; dsimp only; omega)
        refine ex_assign F.ok (ev_binop (ev_name F.ok rfl) (ev_int _ _ _) op_add) (F.sl rfl) (ex_nil ?_)
        refine ex_nil ⟨(p + 3, pre ++ [none]), ?_, _, ⟨?_, ?_, ?_, rfl⟩, ?_⟩
        · dsimp only; omega
        · have := congrArg List.length hd3
          rw [List.length_take, List.length_drop] at this
          simp only [List.length_cons, List.length_nil] at this
          dsimp only; omega
        · dsimp only; rw [List.length_append]; simp only [List.length_cons, List.length_nil]; omega
        · dsimp only
          rw [← h3, itemsF_dots [] _ hd3, List.append_assoc, List.drop_drop]; rfl
        · refine LeR.cons rfl (LeR.cons ?_ (LeR.cons rfl LeR.nil))
          rw [List.map_append]; rfl
      · have hd3 : (x.cps.toList.drop p).take 3 ≠ [46, 46, 46] := fun e => by
          rw [← hs] at e
          exact absurd (beq_iff_eq.mpr e) (by rw [Bool.not_eq_true]; exact h)
        refine ex_append F.ok rfl (ev_sub (ev_name F.ok rfl) (ev_name F.ok rfl) (op_sign (c := c) (by omega) (by simpa using hc))) ?_ (by rw [List.length_map]; dsimp only; omega)
        refine ex_assign F.ok (ev_binop (ev_name F.ok rfl) (ev_int _ _ _) op_add) (F.sl rfl) (ex_nil ?_)
        refine ex_nil ⟨(p + 1, pre ++ [some c]), ?_, _, ⟨?_, ?_, ?_, rfl⟩, ?_⟩
        · dsimp only; omega
        · dsimp only; omega
        · dsimp only; rw [List.length_append]; simp only [List.length_cons, List.length_nil]; omega
        · dsimp only
          rw [hd] at h3 hd3
          rw [← h3, itemsF_sign _ _ hd3, List.append_assoc]; rfl
        · refine LeR.cons rfl (LeR.cons ?_ (LeR.cons rfl LeR.nil))
          rw [List.map_append]; rfl
    · rintro ⟨p, pre⟩ ρ' ⟨h1, h2, h3, rfl⟩ hb
      dsimp only at h1 h2 h3 hb
      have hp : p = x.length := by
        have : ¬ ((p : Int) < x.length) := by simpa using hb
        omega
      refine ex_freeze (x := "items") rfl (ex_ret (ev_name F.ok rfl) ?_)
      rw [hp, List.drop_of_length_le (by omega)] at h3
      rw [← h3]
      show _ = Out.ret (itsD (pre ++ []))
      rw [List.append_nil]; rfl
end Mine
end -- F4

section -- F5
open PySem PySem.W PyProof.Rows PySem.Calls
set_option maxRecDepth 100000
set_option linter.unusedSectionVars false
set_option linter.unusedVariables false
namespace Mine

theorem contains_cast (l : List Nat) (p : Nat) : (l.map fun (n : Nat) => (n : Int)).contains (p : Int) = decide (p ∈ l) := by
  rw [Bool.eq_iff_iff]
  simp only [List.contains_iff_mem, List.mem_map, decide_eq_true_eq]
  constructor
  · rintro ⟨q, hq, e⟩
    have : q = p := by omega
    exact this ▸ hq
  · exact fun h => ⟨p, h, rfl⟩
theorem pNats_snoc (l : List Nat) (p : Nat) : pNats (l ++ [p]) = pNats l ++ [.int (p : Nat)] := by unfold pNats pInts; simp
theorem pNats_len (l : List Nat) : (pNats l).length = l.length := by unfold pNats pInts; simp
theorem reach1_in {items : List Item} {found : List Nat} {p : Nat} (h : p ∈ found) : reach1 items found p = found := by rw [reach1_eq, if_pos h]

/-- items[place] == '' and what stands before it -/
theorem itD_str (i : Item) : ∃ x : Str, itD i = .str x ∧ ((x.cps.toList == (Str.ofString "").cps.toList) = (i == none)) ∧ ∀ c : Nat, (x.cps.toList == [c]) = (i == some c) := by
  cases i with
  | none => exact ⟨_, rfl, rfl, fun c => rfl⟩
  | some a => exact ⟨_, rfl, rfl, fun c => by simp⟩

theorem pNats_map (l : List Nat) : pNats l = l.map fun (n : Nat) => PD.int (n : Nat) := by unfold pNats pInts; rw [List.map_map]; rfl

theorem et_dots {C : Cx} {n : Nat} {ρ : Rho} {w : World} {nm : List (Str × NameKind)} (F : FO C w n nm) {items : List Item} {p : Nat} {q₀ q₁ q₂ q₃ q₄ q₅ q₆ q₇ q₈ q₉ : Pos} (hsz : items.length ≤ 2000) (hp : ρ.lookup ("place" : Str) = some (Slot.val (.int (p : Nat)))) (hi : ρ.lookup ("items" : Str) = some (Slot.val (itsD items)))
    (e1 : nm.lookup ("len" : Str) = some .globalImplicit) {x : Expr} {y : Str} {i : Item} (hx : EV C ρ x (.str y)) (hy : ∀ j : Item, ∀ z, itD j = .str z → (z.cps.toList == y.cps.toList) = (j == i)) (hm : behindInMarks .Eq x = false := by with_unfolding_all rfl) :
    ET C ρ (.BoolOp .And [.Compare (.Name "place" q₀) [.Lt] [.Call (.Name "len" q₁) [.Name "items" q₂] [] q₃] q₄, .Compare (.Subscript (.Name "items" q₅) (.Name "place" q₆) q₇) [.Eq] [x] q₈] q₉) (items[p]? == some i) := by
  have hline : 3000 ≤ sizeLine := by rw [sizeLine_eq]; decide
  have := et_and (C := C) (ρ := ρ) (x := .Compare (.Name "place" q₀) [.Lt] [.Call (.Name "len" q₁) [.Name "items" q₂] [] q₃] q₄) (y := .Compare (.Subscript (.Name "items" q₅) (.Name "place" q₆) q₇) [.Eq] [x] q₈) (pos := q₉)
    (et_cmp (ev_name F.ok hp) (ev_callB (F.gb e1 rfl boot_len) (evs_cons (ev_name F.ok hi) evs_nil) (cl_len_list (by rw [List.length_map]; omega))) op_lt) (c := items[p]? == some i) fun h => by
      rw [decide_eq_true_eq, List.length_map] at h
      have hlt : p < items.length := by omega
      have e : items[p]? = some items[p] := List.getElem?_eq_getElem hlt
      have e2 : (items.map itD)[((p : Nat) : Int).toNat]? = some (itD items[p]) := by rw [Int.toNat_natCast, List.getElem?_map, e]; rfl
      obtain ⟨z, hz, _⟩ := itD_str items[p]
      rw [hz] at e2
      have := et_cmp (C := C) (ρ := ρ) (pos := q₈) (op := .Eq) (ev_sub (pos := q₇) (ev_name (pos := q₅) F.ok hi) (ev_name (pos := q₆) F.ok hp) (op_item (by omega) e2 (by omega))) hx op_eqStr hm
      rw [hy _ _ hz] at this
      rw [e]
      exact this
  refine Eq.mp (congrArg (ET C ρ _) ?_) this
  rw [List.length_map, Bool.eq_iff_iff]
  simp only [Bool.and_eq_true, decide_eq_true_eq, beq_iff_eq]
  constructor
  · exact fun h => h.2
  · exact fun h => ⟨by have := (List.getElem?_eq_some_iff.mp h).1; omega, h⟩

theorem itD_eq_dots (j : Item) (z : Str) (h : itD j = .str z) : (z.cps.toList == (Str.ofString "").cps.toList) = (j == none) := by
  obtain ⟨x, hx, h1, _⟩ := itD_str j
  rw [hx] at h; cases h; exact h1
theorem itD_eq_sign (c : Nat) (j : Item) (z : Str) (h : itD j = .str z) : (z.cps.toList == (⟨#[c]⟩ : Str).cps.toList) = (j == some c) := by
  obtain ⟨x, hx, _, h1⟩ := itD_str j
  rw [hx] at h; cases h; exact h1 c

set_option maxHeartbeats 4000000 in
theorem fn_reach (w : World) (items : List Item) (places : List Nat) (hsz : items.length ≤ 2000) (hp : ∀ p ∈ places, p ≤ items.length) : Fn PG w (KK w) 1 (.ref 157) [itsD items, natsD places] (natsD (reachF items places)) := by
  refine fn_body ["items", "places"] rfl rfl rfl rfl rfl rfl rfl rfl rfl rfl ?_ rfl rfl (by decide) rfl ?_
  · intro vs h
    match vs, h with
    | [x, y], _ => rfl
  · intro C F
    have hline : 3000 ≤ sizeLine := by rw [sizeLine_eq]; decide
    refine ex_newList F.ok evs_nil (F.sl rfl) ?_
    refine ex_forM (f := fun d ρ => ("place", .val d) :: ρ) F.ok (itb_list (ev_name F.ok rfl)) (pNats_map places) (fun d _ => binds_name F.ok (F.sl rfl))
      (fun qs ρ' => ρ' = ([("found", .own (pNats (qs.foldl (reach1 items) []))), ("items", .val (itsD items)), ("places", .val (natsD places))] : Rho)) rfl ?_ ?_
    · rintro pre b post ρ' hds rfl
      have hG : Good items.length (pre.foldl (reach1 items) []) := reachFold_good items pre [] (.nil _) fun p h => hp p (by rw [hds]; simp [h])
      have hb : b ≤ items.length := hp b (by rw [hds]; simp)
      rw [List.foldl_append]
      dsimp only [List.foldl_cons, List.foldl_nil]
      generalize pre.foldl (reach1 items) [] = found₀ at hG
      refine ex_while (α := List Nat × Nat) (fun a ρ' => Good items.length a.1 ∧ a.2 ≤ items.length ∧ reach1 items a.1 a.2 = reach1 items found₀ b ∧ ρ' = ([("place", .val (.int (a.2 : Nat))), ("found", .own (pNats a.1)), ("items", .val (itsD items)), ("places", .val (natsD places))] : Rho))
        (fun a => items.length + 1 - a.1.length) (found₀, b) ⟨hG, hb, rfl, rfl⟩ (fun a => !decide (a.2 ∈ a.1)) ?_ ?_ ?_
      · rintro ⟨f, p⟩ ρ' ⟨h1, h2, h3, rfl⟩
        rw [← contains_cast]
        exact et_borrow (x := "found") rfl (et_cmp (ev_name F.ok rfl) (ev_name F.ok rfl) op_notIn)
      · rintro ⟨f, p⟩ ρ' ⟨h1, h2, h3, rfl⟩ hb
        dsimp only at h1 h2 h3 hb
        have hn : p ∉ f := by simpa using hb
        have hl := h1.len
        have hG' := h1.snoc h2 hn
        have hl' := hG'.len
        rw [List.length_append, List.length_singleton] at hl'
        refine ex_append F.ok rfl (ev_name F.ok rfl) ?_ (by rw [pNats_len]; dsimp only; omega)
        rw [reach1_eq, if_neg hn] at h3
        refine ex_if (et_dots (i := none) F hsz rfl rfl rfl (ev_str _ _ _) itD_eq_dots) (fun h => ?_) (fun h => ?_)
        · have hi : items[p]? = some none := beq_iff_eq.mp h
          rw [if_pos hi] at h3
          refine ex_assign F.ok (ev_binop (ev_name F.ok rfl) (ev_int _ _ _) op_add) (F.sl rfl) (ex_nil (ex_nil ⟨(f ++ [p], p + 1), ?_, _, ⟨hG', ?_, h3, rfl⟩, ?_⟩))
          · simp only [List.length_append, List.length_singleton]; omega
          · exact (List.getElem?_eq_some_iff.mp hi).1
          · refine LeR.cons rfl (LeR.cons ?_ (LeR.cons rfl (LeR.cons rfl LeR.nil)))
            rw [pNats_snoc]; rfl
        · have hi : ¬ items[p]? = some none := fun e => by rw [beq_eq_false_iff_ne] at h; exact h e
          rw [if_neg hi] at h3
          refine ex_nil (ex_nil ⟨(f ++ [p], p), ?_, _, ⟨hG', h2, ?_, rfl⟩, ?_⟩)
          · simp only [List.length_append, List.length_singleton]; omega
          · dsimp only
            rw [reach1_in (by simp)]; exact h3
          · refine LeR.cons rfl (LeR.cons ?_ (LeR.cons rfl (LeR.cons rfl LeR.nil)))
            rw [pNats_snoc]; rfl
      · rintro ⟨f, p⟩ ρ' ⟨h1, h2, h3, rfl⟩ hb
        have hn : p ∈ f := by simpa using hb
        refine ex_nil ⟨_, rfl, ?_⟩
        rw [← h3, reach1_in hn]
        repeat (first | exact LeR.nil | refine LeR.cons rfl ?_)
    · rintro ρ' rfl
      exact ex_freeze (x := "found") rfl (ex_ret (ev_name F.ok rfl) rfl)
end Mine
end -- F5

section -- F6
open PySem PySem.W PyProof.Rows PySem.Calls
set_option maxRecDepth 100000
set_option linter.unusedSectionVars false
set_option linter.unusedVariables false
namespace Mine

noncomputable def mvD (mv : Moves) : PD := .list (mv.map natsD)
theorem line3 : 3000 ≤ sizeLine := by rw [sizeLine_eq]; decide
theorem adv_dots {items : List Item} {c p : Nat} (h : items[p]? = some none) : adv items c p = some p := by unfold adv; rw [h]
theorem adv_sign {items : List Item} {c p : Nat} (h : items[p]? = some (some c)) : adv items c p = some (p + 1) := by unfold adv; rw [h]; exact if_pos rfl
theorem adv_none {items : List Item} {c p : Nat} (h1 : items[p]? ≠ some none) (h2 : items[p]? ≠ some (some c)) : adv items c p = none := by
  unfold adv
  split
  · rename_i h; exact absurd h h1
  · rename_i c' h; refine if_neg ?_; rintro rfl; exact h2 h
  · rfl

set_option maxHeartbeats 4000000 in
theorem fn_moves (w : World) (items : List Item) (c : Nat) (hsz : items.length ≤ 2000) : Fn PG w (KK w) 2 (.ref 164) [itsD items, .str ⟨#[c]⟩] (mvD (movesF items c)) := by
  refine fn_body ["items", "sign"] rfl rfl rfl rfl rfl rfl rfl rfl rfl rfl ?_ rfl rfl (by decide) rfl ?_
  · intro vs h
    match vs, h with
    | [x, y], _ => rfl
  · intro C F
    have line := line3
    refine ex_newList F.ok evs_nil (F.sl rfl) ?_
    have hr : (((items.length : Nat) : Int) + 1).toNat = items.length + 1 := by omega
    refine ex_forM (l := List.range (items.length + 1)) (g := fun (n : Nat) => PD.int (n : Nat)) (f := fun d ρ => ("start", .val d) :: ρ) F.ok (itb_range (m := ((items.length : Nat) : Int) + 1) (F.gb rfl rfl boot_range)
        (evs_cons (ev_binop (ev_callB (F.gb rfl rfl boot_len) (evs_cons (ev_name F.ok rfl) evs_nil) (by have := cl_len_list (C := C) (ds := items.map itD) (by rw [List.length_map]; omega); rwa [List.length_map] at this)) (ev_int _ _ _) op_add) evs_nil) (by omega) (by omega)) (by rw [hr]) (fun d _ => binds_name F.ok (F.sl rfl))
      (fun qs ρ' => ρ' = ([("moves", .own ((qs.map fun s => reachF items ((reachF items [s]).filterMap (adv items c))).map natsD)), ("items", .val (itsD items)), ("sign", .val (.str ⟨#[c]⟩))] : Rho)) rfl ?_ ?_
    · rintro pre b post ρ' hds rfl
      have hlen : pre.length + 1 + post.length = items.length + 1 := by
        have := congrArg List.length hds
        rw [List.length_range, List.length_append, List.length_cons] at this; omega
      have hb : b ≤ items.length := by
        have : b ∈ List.range (items.length + 1) := by rw [hds]; simp
        exact Nat.lt_succ_iff.mp (List.mem_range.mp this)
      have hb1 : ∀ p ∈ [b], p ≤ items.length := fun p hp => by rw [List.mem_singleton.mp hp]; exact hb
      refine ex_newList F.ok evs_nil (F.sl rfl) ?_
      refine ex_forM (l := reachF items [b]) (f := fun d ρ => ("place", .val d) :: ρ) F.ok (itb_list (F.call rfl rfl rfl (fn_reach w items [b] hsz hb1) (evs_cons (ev_name F.ok rfl) (evs_cons (ev_list (ds := [.int (b : Nat)]) (evs_cons (ev_name F.ok rfl) evs_nil)) evs_nil)))) (pNats_map _) (fun d _ => binds_name F.ok (F.sl rfl))
        (fun qs ρ' => ρ' = ([("ahead", .own (pNats (qs.filterMap (adv items c)))), ("start", .val (.int (b : Nat))), ("moves", .own ((pre.map fun s => reachF items ((reachF items [s]).filterMap (adv items c))).map natsD)), ("items", .val (itsD items)), ("sign", .val (.str ⟨#[c]⟩))] : Rho)) rfl ?_ ?_
      · rintro pre' p post' ρ' hds' rfl
        have hl' : (reachF items [b]).length ≤ items.length + 1 := (reachF_good items [b] hb1).len
        have hl2 : (pre'.filterMap (adv items c)).length ≤ items.length + 1 := by
          refine Nat.le_trans (List.length_filterMap_le ..) ?_
          rw [hds', List.length_append] at hl'; omega
        rw [List.filterMap_append]
        refine ex_if (et_dots (i := none) F hsz rfl rfl rfl (ev_str _ _ _) itD_eq_dots) (fun h => ?_) (fun h => ?_)
        · have hi : items[p]? = some none := beq_iff_eq.mp h
          refine ex_append F.ok rfl (ev_name F.ok rfl) (ex_nil (ex_nil ⟨_, rfl, ?_⟩)) (by rw [pNats_len]; omega)
          simp only [List.filterMap_cons, List.filterMap_nil, adv_dots hi, pNats_snoc]
          repeat (first | exact LeR.nil | refine LeR.cons rfl ?_)
        · have hi : items[p]? ≠ some none := beq_eq_false_iff_ne.mp h
          refine ex_if (et_dots (i := some c) F hsz rfl rfl rfl (ev_name F.ok rfl) (itD_eq_sign c)) (fun h2 => ?_) (fun h2 => ?_)
          · have hi2 : items[p]? = some (some c) := beq_iff_eq.mp h2
            refine ex_append F.ok rfl (ev_binop (ev_name F.ok rfl) (ev_int _ _ _) op_add) (ex_nil (ex_nil (ex_nil ⟨_, rfl, ?_⟩))) (by rw [pNats_len]; omega)
            simp only [List.filterMap_cons, List.filterMap_nil, adv_sign hi2, pNats_snoc]
            repeat (first | exact LeR.nil | refine LeR.cons rfl ?_)
          · have hi2 : items[p]? ≠ some (some c) := beq_eq_false_iff_ne.mp h2
            refine ex_nil (ex_nil (ex_nil ⟨_, rfl, ?_⟩))
            simp only [List.filterMap_cons, List.filterMap_nil, adv_none hi hi2, List.append_nil]
            repeat (first | exact LeR.nil | refine LeR.cons rfl ?_)
      · rintro ρ' rfl
        refine ex_freeze (x := "ahead") rfl ?_
        refine ex_append F.ok rfl (F.call rfl rfl rfl (fn_reach w items _ hsz (ahead_le items c _)) (evs_cons (ev_name F.ok rfl) (evs_cons (ev_name F.ok rfl) evs_nil))) (ex_nil ⟨_, rfl, ?_⟩) (by rw [List.length_map, List.length_map]; omega)
        rw [List.map_append, List.map_append]
        repeat (first | exact LeR.nil | refine LeR.cons rfl ?_)
    · rintro ρ' rfl
      exact ex_freeze (x := "moves") rfl (ex_ret (ev_name F.ok rfl) rfl)
end Mine
end -- F6

section -- F7
open PySem PySem.W PyProof.Rows PySem.Calls
set_option maxRecDepth 100000
set_option linter.unusedSectionVars false
set_option linter.unusedVariables false
namespace Mine

theorem relabel_lookup (env : Env) (x : Str) : ∀ names : List (Str × NameKind), (names.map fun (n, k) => if (k == NameKind.free && env.scope.kind == .function && env.kindOf n == some .cell) then (n, NameKind.cell) else (n, k)).lookup x =
    (names.lookup x).map fun k => if (k == NameKind.free && env.scope.kind == .function && env.kindOf x == some .cell) then NameKind.cell else k
  | [] => rfl
  | (n, k) :: r => by
    have ih := relabel_lookup env x r
    rw [List.map_cons]
    dsimp only
    have hp : ∀ b : Bool, (if b = true then (n, NameKind.cell) else (n, k)) = (n, if b = true then NameKind.cell else k) := fun b => by cases b <;> rfl
    rw [hp, List.lookup_cons, List.lookup_cons (as := r)]
    by_cases q : x = n
    · subst q
      rw [beq_self_eq_true]; rfl
    · have hq : (x == n) = false := beq_eq_false_iff_ne.mpr q
      rw [hq]; exact ih

section
variable {C C' : Cx} {w : World} {n : Nat} {nm nmc nm' : List (Str × NameKind)} {ρ : Rho}
theorem FO.comp (F : FO C w n nm) {scope : Scope} (hc : CompOf C C' scope n) (hs : scope.names = nmc) (nm' : List (Str × NameKind)) (h : (nm'.all fun p => nmc.lookup p.1 == some p.2 && p.2 != .free && p.2 != .cell) = true) : FO C' w n nm' := by
  have key : ∀ x k, nm'.lookup x = some k → nmc.lookup x = some k ∧ k ≠ .free ∧ k ≠ .cell := fun x k e => by
    have := List.all_eq_true.mp h _ (mem_of_lookup e)
    simp only [Bool.and_eq_true, beq_iff_eq, bne_iff_ne] at this
    exact ⟨this.1.1, this.1.2, this.2⟩
  refine { prog := hc.prog.trans F.prog, hw := hc.w.trans F.hw, K := hc.K.trans F.K, ok := hc.ok, kind := fun x k e => ?_, cell := fun x e => absurd rfl (key x _ e).2.2, cown := fun x e => absurd rfl (key x _ e).2.2 }
  obtain ⟨h1, h2, h3⟩ := key x k e
  unfold Env.kindOf
  rw [hc.sc]
  unfold relabel
  dsimp only
  rw [relabel_lookup, hs, h1]
  have hk : (k == NameKind.free) = false := beq_eq_false_iff_ne.mpr h2
  rw [Option.map_some, hk, Bool.false_and, Bool.false_and, if_neg Bool.false_ne_true]

/-- a comprehension that captures one name -/
theorem ev_comp1 (F : FO C w n nm) {elt iter : Expr} {x y : Str} {px pos : Pos} {ifs : List Expr} {scope : Scope} {ds : List PD} {dy : PD} {test : PD → Bool} {f : PD → PD} (hit : ItbC C ρ iter ds) (hy : ρ.lookup y = some (.val dy)) (hyk : nm.lookup y = some .cell)
    (hsn : scope.names = nmc) (hyn : nmc.lookup y = some .free)
    (nm' : List (Str × NameKind)) (hnm' : (nm'.all fun p => nmc.lookup p.1 == some p.2 && p.2 != .free && p.2 != .cell) = true)
    (htest : ∀ C', FO C' w n nm' → ∀ d ∈ ds, ETs C' [(x, .val d), (y, .val dy)] ifs (test d))
    (helt : ∀ C', FO C' w n nm' → ∀ d ∈ ds, test d = true → EV C' [(x, .val d), (y, .val dy)] elt (f d)) (hsz : ds.length ≤ sizeLine)
    (hclos : ∀ c, C.env.cells.lookup y = some c → closureFor scope C.env = pure [(y, c)])
    (hx : nmc.lookup x = some .local) (hcell : ∀ y ∈ nmc, y.2 ≠ .cell := by decide) (hnames : ∀ y ∈ nmc, y.2 = .local → nmc.lookup y.1 = some .local := by decide) (hxy : (y == x) = false := by decide) (hkind : scope.kind = .function := by rfl)
    (hs : ∀ x, foldedSetIterable iter C.env x = pure x := by intro _; rfl) :
    EV C ρ (.ListComp elt [⟨.Name x px, iter, ifs, 0⟩] scope pos) (.list ((ds.filter test).map f)) := by
  subst hsn
  obtain ⟨c, hc⟩ := Option.isSome_iff_exists.mp (F.cell y hyk)
  have lk : ∀ z sl, ([(y, Slot.val dy)] : Rho).lookup z = some sl → z = y ∧ sl = .val dy := fun z sl e => by
    rw [lookup_cons_eq] at e
    split at e
    · rename_i q; cases e; exact ⟨q, rfl⟩
    · cases e
  refine ev_comp F.ok (cl := [(y, c)]) (ρc := [(y, .val dy)]) hit (hclos c hc) hcell hkind hnames hx (fun z a e => ?_) (F.cown y hyk) ?_ (fun z sl e => ?_) (fun C' hC' => htest C' (F.comp hC' rfl nm' hnm')) (fun C' hC' => helt C' (F.comp hC' rfl nm' hnm')) hsz hs
  · rw [List.lookup_cons] at e
    split at e
    · rename_i q; cases e; rw [beq_iff_eq.mp q]; exact hc
    · cases e
  · rw [List.lookup_cons]
    have : (x == y) = false := by rw [beq_eq_false_iff_ne] at hxy ⊢; exact fun q => hxy q.symm
    rw [this]; rfl
  · obtain ⟨rfl, rfl⟩ := lk z sl e
    refine ⟨dy, rfl, hy, F.kind z _ hyk, ?_, ?_⟩
    · unfold relabel
      dsimp only
      rw [relabel_lookup, hyn, F.ok.fn, F.kind z _ hyk]; rfl
    · rw [List.lookup_cons, beq_self_eq_true]; rfl
end

end Mine
end -- F7

section -- F8
open PySem PySem.W PyProof.Rows PySem.Calls
set_option maxRecDepth 100000
set_option linter.unusedSectionVars false
set_option linter.unusedVariables false
namespace Mine

theorem mv_get {mv : Moves} {p : Nat} (h : p < mv.length) : (mv.map natsD)[((p : Nat) : Int).toNat]? = some (natsD (mv.getD p [])) := by
  rw [Int.toNat_natCast, List.getElem?_map, List.getD_eq_getElem?_getD, List.getElem?_eq_getElem h]; rfl
noncomputable def notIn (found : List Nat) : PD → Bool
  | .int i => !(found.map fun (n : Nat) => (n : Int)).contains i
  | _ => false
theorem notIn_filter (found row : List Nat) : (pNats row).filter (notIn found) = pNats (row.filter fun o => !found.contains o) := by
  rw [pNats_map, pNats_map, List.filter_map]
  congr 1
  refine List.filter_congr fun o _ => ?_
  show (!(found.map fun (n : Nat) => (n : Int)).contains (o : Int)) = _
  rw [contains_cast]; simp [List.contains_eq_mem]
theorem mem_pNats {l : List Nat} {d : PD} (h : d ∈ pNats l) : ∃ o, o ∈ l ∧ d = .int (o : Nat) := by
  rw [pNats_map] at h
  obtain ⟨o, ho, rfl⟩ := List.mem_map.mp h
  exact ⟨o, ho, rfl⟩

set_option maxHeartbeats 4000000 in
theorem fn_joined (w : World) (first second : Moves) (n : Nat) (hf : MGood n first) (hs : MGood n second) (hn : n ≤ 2000) : Fn PG w (KK w) 1 (.ref 169) [mvD first, mvD second] (mvD (joinedF first second)) := by
  refine fn_body ["first", "second"] rfl rfl rfl rfl rfl rfl rfl rfl rfl rfl ?_ rfl rfl (by decide) rfl ?_
  · intro vs h
    match vs, h with
    | [x, y], _ => rfl
  · intro C F
    have line := line3
    refine ex_newList F.ok evs_nil (F.sl rfl) ?_
    refine ex_forW (l := first) (g := natsD) (f := fun d ρ => ("places", .val d) :: ρ) F.ok
      (fun qs => [("moves", .own ((qs.map (joinRow second)).map natsD)), ("second", .val (mvD second)), ("first", .val (mvD first))]) (itb_list (ev_name F.ok rfl)) rfl (fun d _ => binds_name F.ok (F.sl rfl)) ?_ ?_ ?_
    · repeat (first | exact LeR.nil | refine LeR.cons rfl ?_)
    · rintro pre b post hds
      have hlen : pre.length + 1 + post.length = n + 1 := by
        have := congrArg List.length hds
        rw [hf.len, List.length_append, List.length_cons] at this; omega
      have hb : Good n b := hf.row b (by rw [hds]; simp)
      refine ex_assign F.ok (ev_list evs_nil) (F.sc rfl) ?_
      refine ex_forW (l := b) (g := fun (n : Nat) => PD.int (n : Nat)) (f := fun d ρ => ("place", .val d) :: ρ) F.ok
        (fun qs => [("found", .val (natsD (joinRow second qs))), ("moves", .own ((pre.map (joinRow second)).map natsD)), ("second", .val (mvD second)), ("first", .val (mvD first)), ("places", .val (natsD b))]) (itb_list (ev_name F.ok rfl)) (pNats_map _) (fun d _ => binds_name F.ok (F.sl rfl)) ?_ ?_ ?_
      · repeat (first | exact LeR.nil | refine LeR.cons rfl ?_)
      · rintro pre' p post' hds'
        have hp : p ≤ n := hb.le p (by rw [hds']; simp)
        have hrow := hs.getD p
        have hfd : Good n (joinRow second pre') := joinRow_good hs pre'
        have hl1 := hrow.len
        have hl2 := hfd.len
        have hl3 := (join_good hfd hrow).len
        rw [List.length_append] at hl3
        refine ex_assign F.ok (d := .list (pNats (joinRow second pre') ++ pNats ((second.getD p []).filter fun o => !(joinRow second pre').contains o))) (ev_binop (ev_name F.ok rfl) (d₂ := .list (pNats ((second.getD p []).filter fun o => !(joinRow second pre').contains o))) ?_ (op_cat (by rw [pNats_len, pNats_len]; omega))) (F.sc rfl) (ex_nil ?_)
        · have key : ∀ (l : List PD), l.map (fun d => d) = l := fun l => List.map_id' l
          rw [← notIn_filter, ← key ((pNats _).filter _)]
          refine ev_comp1 F (y := "found") (ds := pNats (second.getD p [])) (dy := natsD (joinRow second pre')) (itbc_list (ev_sub (ev_name F.ok rfl) (ev_name F.ok rfl) (op_item (by omega) (mv_get (by rw [hs.len]; omega)) (by omega)))) rfl rfl rfl rfl [("other", .local)] rfl ?_ ?_ (by rw [pNats_len]; omega) (fun c h => by simp [closureFor, cellOf, h]) rfl
          · intro C' F' d hd
            obtain ⟨o, ho, rfl⟩ := mem_pNats hd
            exact ets_one (et_cmp (ev_name F'.ok rfl) (ev_name F'.ok rfl) op_notIn)
          · intro C' F' d hd ht
            exact ev_name F'.ok rfl
        · refine LeR.cons ?_ (LeR.cons rfl (LeR.cons rfl (LeR.cons rfl (LeR.cons rfl LeR.nil))))
          have : natsD (joinRow second (pre' ++ [p])) = .list (pNats (joinRow second pre') ++ pNats ((second.getD p []).filter fun o => !(joinRow second pre').contains o)) := by
            unfold natsD joinRow
            rw [List.foldl_append, pNats_map, pNats_map, pNats_map, ← List.map_append]; rfl
          rw [this]; rfl
      · refine ex_append F.ok rfl (ev_name F.ok rfl) (ex_nil ?_) (by rw [List.length_map, List.length_map]; omega)
        rw [List.map_append, List.map_append]
        repeat (first | exact LeR.nil | refine LeR.cons rfl ?_)
    · exact ex_freeze (x := "moves") rfl (ex_ret (ev_name F.ok rfl) rfl)

set_option maxHeartbeats 4000000 in
theorem fn_stays (w : World) (items : List Item) (hsz : items.length ≤ 2000) : Fn PG w (KK w) 2 (.ref 174) [itsD items] (mvD (staysF items)) := by
  refine fn_body ["items"] rfl rfl rfl rfl rfl rfl rfl rfl rfl rfl ?_ rfl rfl (by decide) rfl ?_
  · intro vs h
    match vs, h with
    | [x], _ => rfl
  · intro C F
    have line := line3
    have hr : (((items.length : Nat) : Int) + 1).toNat = items.length + 1 := by omega
    refine ex_ret (d := .list (((((List.range (((items.length : Nat) : Int) + 1).toNat).map fun (j : Nat) => PD.int (j : Int))).filter fun _ => true).map fun d => match d with | .int s => natsD (reachF items [s.toNat]) | d => d)) ?_ ?_
    · refine ev_comp1 F (y := "items") (dy := itsD items) (itbc_range (m := ((items.length : Nat) : Int) + 1) (F.gb rfl rfl boot_range)
        (evs_cons (ev_binop (ev_callB (F.gb rfl rfl boot_len) (evs_cons (ev_name F.ok rfl) evs_nil) (by have := cl_len_list (C := C) (ds := items.map itD) (by rw [List.length_map]; omega); rwa [List.length_map] at this)) (ev_int _ _ _) op_add) evs_nil) (by omega) (by omega)) rfl rfl rfl rfl [("start", .local), ("_law_reach", .globalImplicit)] rfl ?_ ?_ ?_ (fun c h => by simp [closureFor, cellOf, h]) rfl
      · intro C' F' d hd
        exact ets_nil
      · intro C' F' d hd ht
        obtain ⟨s, hs, rfl⟩ := List.mem_map.mp hd
        rw [hr] at hs
        have hle : s ≤ items.length := Nat.lt_succ_iff.mp (List.mem_range.mp hs)
        dsimp only
        rw [Int.toNat_natCast]
        exact F'.call rfl rfl rfl (fn_reach w items [s] hsz (fun p hp => by rw [List.mem_singleton.mp hp]; exact hle)) (evs_cons (ev_name F'.ok rfl) (evs_cons (ev_list (ds := [.int (s : Nat)]) (evs_cons (ev_name F'.ok rfl) evs_nil)) evs_nil))
      · rw [List.length_map, List.length_range, hr]; omega
    · rw [hr, List.filter_eq_self.mpr fun _ _ => rfl]
      unfold mvD staysF
      rw [List.map_map, List.map_map]; rfl
end Mine
end -- F8

section -- F9
open PySem PySem.W PyProof.Rows PySem.Calls
set_option maxRecDepth 100000
set_option linter.unusedSectionVars false
set_option linter.unusedVariables false
namespace Mine

noncomputable def txt (l : List Nat) : Str := ⟨l.toArray⟩
noncomputable def partD (p : Part) : PD := .list [.str (txt p.text), pcD p.piece, mvD p.moves]

theorem toldFold_snoc (items : List Item) (t : List Nat) (c : Nat) : (toldF items 0 (t ++ [c])).moves = joinedF (toldF items 0 t).moves (movesF items c) := by
  simp [toldF, List.foldl_append]

set_option maxHeartbeats 4000000 in
theorem fn_told (w : World) (items : List Item) (signs made : List (Int × PD)) (symbol : Int) (part : Part) (hsz : items.length ≤ 2000) (hfit : -(2 ^ 60) < symbol ∧ symbol < 2 ^ 60)
    (hm : symbol ≥ 256 → made.lookup symbol = some (partD part)) (hs : symbol < 256 → signs.lookup symbol = some (.str (txt part.text)) ∧ part.text.all (· < 128) = true ∧ part = toldF items symbol part.text) :
    Fn PG w (KK w) 3 (.ref 181) [itsD items, .dict signs, .dict made, .int symbol] (partD part) := by
  refine fn_body ["items", "signs", "made", "symbol"] rfl rfl rfl rfl rfl rfl rfl rfl rfl rfl ?_ rfl rfl (by decide) rfl ?_
  · intro vs h
    match vs, h with
    | [x, y, z, u], _ => rfl
  · intro C F
    have line := line3
    refine ex_if (et_not (et_plain (F.call rfl rfl rfl (fn_term w symbol) (evs_cons (ev_name F.ok rfl) evs_nil)) tr_bool)) (fun h => ?_) (fun h => ex_nil ?_)
    · have hge : symbol ≥ 256 := by
        have : ¬ symbol < 256 := by simpa using h
        omega
      exact ex_ret (ev_sub (ev_name F.ok rfl) (ev_name F.ok rfl) (op_ditem (hm hge))) rfl
    · have hlt : symbol < 256 := by simpa using h
      obtain ⟨h1, h2, h3⟩ := hs hlt
      refine ex_assign F.ok (F.call rfl rfl rfl (fn_stays w items hsz) (evs_cons (ev_name F.ok rfl) evs_nil)) (F.sl rfl) ?_
      refine ex_forW (l := part.text) (g := fun c => PD.str ⟨#[c]⟩) (f := fun d ρ => ("sign", .val d) :: ρ) F.ok
        (fun qs => [("moves", .val (mvD (toldF items symbol qs).moves)), ("items", .val (itsD items)), ("signs", .val (.dict signs)), ("symbol", .val (.int symbol))]) (itb_str (ev_sub (ev_name F.ok rfl) (ev_name F.ok rfl) (op_ditem h1)) (by rw [← h2]; simp [txt])) (by simp [txt]) (fun d _ => binds_name F.ok (F.sl rfl)) ?_ ?_ ?_
      · repeat (first | exact LeR.nil | refine LeR.cons rfl ?_)
      · intro pre c post hds
        refine ex_assign F.ok (F.call rfl rfl rfl (fn_joined w _ _ items.length (toldF_mgood items symbol pre) (movesF_mgood items c) hsz) (evs_cons (ev_name F.ok rfl) (evs_cons (F.call rfl rfl rfl (fn_moves w items c hsz) (evs_cons (ev_name F.ok rfl) (evs_cons (ev_name F.ok rfl) evs_nil))) evs_nil))) (F.sl rfl) (ex_nil ?_)
        have : (toldF items symbol (pre ++ [c])).moves = joinedF (toldF items symbol pre).moves (movesF items c) := by simp [toldF, List.foldl_append]
        refine LeR.cons (by rw [this]; rfl) ?_
        repeat (first | exact LeR.nil | refine LeR.cons rfl ?_)
      · refine ex_ret (ev_list (evs_cons (ev_sub (ev_name F.ok rfl) (ev_name F.ok rfl) (op_ditem h1)) (evs_cons (F.call rfl rfl rfl (fn_one w symbol) (evs_cons (ev_name F.ok rfl) evs_nil)) (evs_cons (ev_name F.ok rfl) evs_nil)))) ?_
        have e1 : part.piece = oneF symbol := by rw [h3]; rfl
        unfold partD
        rw [e1]
        have e2 : part.moves = (toldF items symbol part.text).moves := by rw [← h3]
        rw [e2]
end Mine
end -- F9

section -- F10
open PySem PySem.W PyProof.Rows PySem.Calls
open Builtin Builtin.Str
set_option maxRecDepth 100000
set_option linter.unusedSectionVars false
set_option linter.unusedVariables false
namespace Mine

noncomputable abbrev dotsS : Str := Str.ofString "..."
noncomputable def ellLoop (got : Str) (e : Int) : List Str → Int → Bool
  | [], _ => true
  | w :: r, s => let s' := find4 got w s e; if s' < 0 then false else ellLoop got e r (s' + w.length)
noncomputable def ellMid (got : Str) (ws : List Str) (s e : Int) : Bool := if s > e then false else ellLoop got e ws s
noncomputable def ellTail (got : Str) (ws : List Str) (s : Int) : Bool :=
  if ((ws.getLastD (txt [])).length ≠ 0) then (if PySem.Txt.endswith got (ws.getLastD (txt [])) = true then ellMid got ws.dropLast s (got.length - (ws.getLastD (txt [])).length) else false) else ellMid got ws s got.length
noncomputable def ellHead (got : Str) (ws : List Str) : Bool :=
  if (ws.headD (txt [])).length ≠ 0 then (if PySem.Txt.startswith got (ws.headD (txt [])) = true then ellTail got ws.tail (ws.headD (txt [])).length else false) else ellTail got ws 0
noncomputable def ellF (want got : Str) : Bool := if (occurrences want dotsS 0 want.length 1).isEmpty then want.cps.toList == got.cps.toList else ellHead got (PySem.Txt.split want dotsS)

theorem ps_get (ws : List Str) (k : Nat) (h : k < ws.length) : (pStrs ws)[k]? = some (.str (ws[k]'h)) := by
  unfold pStrs; rw [List.getElem?_map, List.getElem?_eq_getElem h]; rfl

set_option maxHeartbeats 8000000 in
theorem fn_ell (w : World) (want got : Str) (hw : want.length ≤ 1000) (hg : got.length ≤ 1000) (h2 : (occurrences want dotsS 0 want.length 1).isEmpty = false → 2 ≤ (PySem.Txt.split want dotsS).length)
    (hn : (PySem.Txt.split want dotsS).length ≤ 2000) (hl : ∀ y ∈ PySem.Txt.split want dotsS, y.length ≤ 1000) (hpn : (partsBetween want (occurrences want dotsS 0 want.length (want.length + 1)) dotsS.length).length ≤ 2000) :
    Fn PG w (KK w) 1 (.ref 21) [.str want, .str got] (.bool (ellF want got)) := by
  refine fn_body ["want", "got"] rfl rfl rfl rfl rfl rfl rfl rfl rfl rfl ?_ rfl rfl (by decide) rfl ?_
  · intro vs h
    match vs, h with
    | [x, y], _ => rfl
  · intro C Fo
    have line := line3
    unfold ellF
    refine ex_if (et_cmp (Fo.gd (d := .str dotsS) rfl rfl (fun _ => .str _ _)) (ev_name Fo.ok rfl) op_notInStr) (fun h => ?_) (fun h => ex_nil ?_)
    · rw [if_pos h]
      exact ex_ret (ev_cmp (ev_name Fo.ok rfl) (ev_name Fo.ok rfl) op_eqStr) rfl
    rw [if_neg (by rw [h]; exact Bool.false_ne_true)]
    have hlen := h2 h
    refine ex_assignN Fo.ok (evn_methS (ev_name Fo.ok rfl) F.slot_str_split rfl (evs_cons (Fo.gd (d := .str dotsS) rfl rfl (fun _ => .str _ _)) evs_nil) (clo_split (y := dotsS) rfl (by omega) (by omega))) (Fo.sl rfl) ?_
    generalize PySem.Txt.split want dotsS = ws at hn hl hlen
    have hpl : (pStrs ws).length = ws.length := by unfold pStrs; rw [List.length_map]
    refine ex_assert (et_borrow (x := "ws") rfl ?_) ?_
    · refine et_of (et_cmp (ev_callB (Fo.gb rfl rfl boot_len) (evs_cons (ev_name Fo.ok rfl) evs_nil) (cl_len_list (ds := pStrs ws) (by omega))) (ev_int _ _ _) op_ge) ?_
      rw [hpl, decide_eq_true_eq]; omega
    refine ex_pair Fo.ok (d₁ := .int 0) (d₂ := .int got.length) (evs_cons (ev_int _ _ _) (evs_cons (ev_callB (Fo.gb rfl rfl boot_len) (evs_cons (ev_name Fo.ok rfl) evs_nil) (cl_len_str (by omega))) evs_nil)) (Fo.sl rfl) (Fo.sl rfl) ?_ (swapped_two Fo.ok.fn (Fo.kind _ _ rfl) (Fo.kind _ _ rfl))
    obtain ⟨a, r, rfl⟩ : ∃ a r, ws = a :: r := by
      cases ws with
      | nil => simp at hlen
      | cons a r => exact ⟨a, r, rfl⟩
    have ha := hl a (.head _)
    refine ex_assign Fo.ok (ev_borrow (x := "ws") rfl (ev_sub (ev_name Fo.ok rfl) (ev_int _ _ _) (op_item (d := .str a) (by decide) rfl)) rfl) (Fo.sl rfl) ?_
    refine ex_ifC (a.length ≠ 0 → PySem.Txt.startswith got a = true) [("startpos", .val (.int (if a.length ≠ 0 then a.length else 0))), ("ws", .own (pStrs (if a.length ≠ 0 then r else a :: r))), ("endpos", .val (.int got.length)), ("got", .val (.str got))]
      (et_plain (ev_name Fo.ok rfl) (tr_str (by omega))) (fun h1 => ?_) (fun h1 => ?_) (fun hk1 => ?_)
    · have h1 : a.length ≠ 0 := by simpa using h1
      refine ex_if (et_plain (ev_methS (ev_name Fo.ok rfl) F.slot_str_startswith rfl (evs_cons (ev_name Fo.ok rfl) evs_nil) cl_startswith) tr_bool) (fun h3 => ?_) (fun h3 => ?_)
      · refine ex_assign Fo.ok (ev_callB (Fo.gb rfl rfl boot_len) (evs_cons (ev_name Fo.ok rfl) evs_nil) (cl_len_str (by omega))) (Fo.sl rfl) ?_
        refine ex_delItem Fo.ok (ds := pStrs (a :: r)) (j := 0) rfl (ev_int _ _ _) (StrLaws.seqIndex_nonneg (by decide) (by omega)) rfl (ex_nil (ex_nil ⟨fun _ => h3, ?_⟩)) (by omega)
        rw [if_pos h1, if_pos h1]
        repeat (first | exact LeR.nil | refine LeR.cons rfl ?_)
      · refine ex_ret (ev_bool _ _ _) (?_ : Out.ret (.bool false) = Out.ret (.bool (ellHead got (a :: r))))
        rw [ellHead, List.headD_cons, if_pos h1, if_neg (show ¬ PySem.Txt.startswith got a = true by rw [h3]; exact Bool.false_ne_true)]
    · have h1 : ¬ a.length ≠ 0 := by simpa using h1
      refine ex_nil ⟨fun q => absurd q h1, ?_⟩
      rw [if_neg h1, if_neg h1]
      repeat (first | exact LeR.nil | refine LeR.cons rfl ?_)
    have e1 : ellHead got (a :: r) = ellTail got (if a.length ≠ 0 then r else a :: r) (if a.length ≠ 0 then a.length else 0) := by
      unfold ellHead
      rw [List.headD_cons, List.tail_cons]
      by_cases q : a.length ≠ 0
      · rw [if_pos q, if_pos q, if_pos q, if_pos (hk1 q)]
      · rw [if_neg q, if_neg q, if_neg q]
    rw [e1]
    have hws1 : ∃ ws1, (if a.length ≠ 0 then r else a :: r) = ws1 ∧ ws1 ≠ [] ∧ ws1.length ≤ 2000 ∧ ∀ y ∈ ws1, y.length ≤ 1000 := by
      by_cases q : a.length ≠ 0
      · rw [if_pos q]
        rw [List.length_cons] at hn hlen
        exact ⟨r, rfl, fun e => by rw [e] at hlen; simp at hlen, by omega, fun y hy => hl y (.tail _ hy)⟩
      · rw [if_neg q]; exact ⟨_, rfl, nofun, hn, hl⟩
    obtain ⟨ws1, hws1, hne, hn1, hl1⟩ := hws1
    rw [hws1]
    generalize (if a.length ≠ 0 then (a.length : Int) else 0) = s1
    clear hws1 e1 hk1
    have hp1 : (pStrs ws1).length = ws1.length := by unfold pStrs; rw [List.length_map]
    have hpos : 0 < ws1.length := List.length_pos_iff.mpr hne
    obtain ⟨b, hb⟩ : ∃ b, ws1[ws1.length - 1]? = some b := ⟨_, List.getElem?_eq_getElem (by omega)⟩
    have hlast : ws1.getLastD (txt []) = b := by
      rw [List.getLastD_eq_getLast?, List.getLast?_eq_getElem?, hb]; rfl
    have hbm := hl1 b (List.mem_of_getElem? hb)
    have hb' : (pStrs ws1)[((-1 : Int) + ((pStrs ws1).length : Nat)).toNat]? = some (.str b) := by
      rw [hp1, show ((-1 : Int) + (ws1.length : Nat)).toNat = ws1.length - 1 by omega]
      unfold pStrs; rw [List.getElem?_map, hb]; rfl
    refine ex_assign Fo.ok (ev_borrow (x := "ws") rfl (ev_sub (ev_name Fo.ok rfl) (ev_neg (ev_int _ _ _)) (op_itemNeg (by decide) (by rw [hp1]; omega) hb')) rfl) (Fo.sl rfl) ?_
    refine ex_ifC (b.length ≠ 0 → PySem.Txt.endswith got b = true) [("endpos", .val (.int (if b.length ≠ 0 then got.length - b.length else got.length))), ("ws", .own (pStrs (if b.length ≠ 0 then ws1.dropLast else ws1))), ("startpos", .val (.int s1)), ("got", .val (.str got))]
      (et_plain (ev_name Fo.ok rfl) (tr_str (by omega))) (fun h1 => ?_) (fun h1 => ?_) (fun hk1 => ?_)
    · have h1 : b.length ≠ 0 := by simpa using h1
      refine ex_if (et_plain (ev_methS (ev_name Fo.ok rfl) F.slot_str_endswith rfl (evs_cons (ev_name Fo.ok rfl) evs_nil) cl_endswith) tr_bool) (fun h3 => ?_) (fun h3 => ?_)
      · refine ex_aug Fo.ok rfl (ev_callB (Fo.gb rfl rfl boot_len) (evs_cons (ev_name Fo.ok rfl) evs_nil) (cl_len_str (by omega))) op_isub (Fo.sl rfl) ?_
        refine ex_delItem Fo.ok (ds := pStrs ws1) (j := ws1.length - 1) rfl (ev_neg (ev_int _ _ _)) ?_ rfl (ex_nil (ex_nil ⟨fun _ => h3, ?_⟩)) (by omega)
        · rw [StrLaws.seqIndex_neg (by decide) (by omega), hp1]; congr 1; omega
        · have : (pStrs ws1).eraseIdx (ws1.length - 1) = pStrs ws1.dropLast := by
            unfold pStrs
            rw [List.map_dropLast, ← List.eraseIdx_length_sub_one, List.length_map]
          rw [if_pos h1, if_pos h1, this]
          repeat (first | exact LeR.nil | refine LeR.cons rfl ?_)
      · refine ex_ret (ev_bool _ _ _) (?_ : Out.ret (.bool false) = Out.ret (.bool (ellTail got ws1 s1)))
        rw [ellTail, hlast, if_pos h1, if_neg (show ¬ PySem.Txt.endswith got b = true by rw [h3]; exact Bool.false_ne_true)]
    · have h1 : ¬ b.length ≠ 0 := by simpa using h1
      refine ex_nil ⟨fun q => absurd q h1, ?_⟩
      rw [if_neg h1, if_neg h1]
      repeat (first | exact LeR.nil | refine LeR.cons rfl ?_)
    have e2 : ellTail got ws1 s1 = ellMid got (if b.length ≠ 0 then ws1.dropLast else ws1) s1 (if b.length ≠ 0 then got.length - b.length else got.length) := by
      unfold ellTail
      rw [hlast]
      by_cases q : b.length ≠ 0
      · rw [if_pos q, if_pos q, if_pos q, if_pos (hk1 q)]
      · rw [if_neg q, if_neg q, if_neg q]
    rw [e2]
    have hl2 : ∀ y ∈ (if b.length ≠ 0 then ws1.dropLast else ws1), y.length ≤ 1000 := by
      split
      · exact fun y hy => hl1 y (List.dropLast_subset _ hy)
      · exact hl1
    generalize (if b.length ≠ 0 then ws1.dropLast else ws1) = ws2 at hl2
    generalize (if b.length ≠ 0 then (got.length : Int) - b.length else got.length) = en
    refine ex_if (et_cmp (ev_name Fo.ok rfl) (ev_name Fo.ok rfl) op_gt) (fun h => ?_) (fun h => ex_nil ?_)
    · refine ex_ret (ev_bool _ _ _) ?_
      rw [ellMid, if_pos (by simpa using h)]; rfl
    rw [ellMid, if_neg (by simpa using h)]
    refine ex_freeze (x := "ws") rfl ?_
    refine ex_weaken (ρ' := [("startpos", .val (.int s1)), ("endpos", .val (.int en)), ("ws", .val (.list (pStrs ws2))), ("got", .val (.str got))]) ?_ (by show LeR _ _; repeat (first | exact LeR.nil | refine LeR.cons rfl ?_))
    refine ex_forM (l := ws2) (g := PD.str) (f := fun d ρ => ("w", .val d) :: ρ) Fo.ok (itb_list (ev_name Fo.ok rfl)) rfl (fun d _ => binds_name Fo.ok (Fo.sl rfl))
      (fun qs ρ' => ∃ s', ρ' = ([("startpos", .val (.int s')), ("endpos", .val (.int en)), ("ws", .val (.list (pStrs ws2))), ("got", .val (.str got))] : Rho) ∧ ∀ rest, ellLoop got en (qs ++ rest) s1 = ellLoop got en rest s') ⟨s1, rfl, fun _ => rfl⟩ ?_ ?_
    · rintro pre y post ρ' hds ⟨s', rfl, hs'⟩
      have hy := hl2 y (by rw [hds]; simp)
      have hs2 := hs' (y :: post)
      rw [← hds, ellLoop] at hs2
      refine ex_assign Fo.ok (ev_methS (ev_name Fo.ok rfl) F.slot_str_find rfl (evs_cons (ev_name Fo.ok rfl) (evs_cons (ev_name Fo.ok rfl) (evs_cons (ev_name Fo.ok rfl) evs_nil))) cl_find4) (Fo.sl rfl) ?_
      refine ex_if (et_cmp (ev_name Fo.ok rfl) (ev_int _ _ _) op_lt) (fun h => ?_) (fun h => ex_nil ?_)
      · refine ex_ret (ev_bool _ _ _) ?_
        rw [hs2, if_pos (by simpa using h)]; rfl
      · refine ex_aug Fo.ok rfl (ev_callB (Fo.gb rfl rfl boot_len) (evs_cons (ev_name Fo.ok rfl) evs_nil) (cl_len_str (by omega))) op_iadd (Fo.sl rfl) (ex_nil ⟨_, ⟨find4 got y s' en + y.length, rfl, fun rest => ?_⟩, ?_⟩)
        · rw [List.append_assoc, hs']
          show ellLoop got en (y :: rest) s' = _
          rw [ellLoop]
          exact if_neg (by simpa using h)
        · repeat (first | exact LeR.nil | refine LeR.cons rfl ?_)
    · rintro ρ' ⟨s', rfl, hs'⟩
      refine ex_ret (ev_bool _ _ _) ?_
      have := hs' []
      rw [List.append_nil] at this
      rw [this]; rfl
end Mine
end -- F10

section -- G4
open PySem PySem.W PyProof.Rows PySem.Calls
open Sem (wp)
open Builtin Builtin.Str
set_option maxRecDepth 100000
set_option linter.unusedSectionVars false
set_option linter.unusedVariables false
namespace Mine

section
variable {prog : Program} {w : World} {env : Env} {L En It ga : Addr} {gi : Nat} {x : Str} {t : Tok}
  {p1 p2 p3 q1 q2 q3 q4 q5 q6 q7 q8 q9 q10 q11 r1 r2 : Pos} {k k2 kk : Nat} {B1 B2 B3 : List Stmt} {a1 a2 a3 a4 a5 a6 f1 f2 f3 f4 : Pos} {k3 k4 : Nat}

noncomputable def two (h : Heap) (ga L : Addr) : Rdr := fun a => if a = ga ∨ a = L then h.get? a else none
theorem two_in {h : Heap} {ga L a : Addr} (q : a = ga ∨ a = L) : two h ga L a = h.get? a := if_pos q
theorem two_some {h : Heap} {ga L a : Addr} {o : Obj} (e : two h ga L a = some o) : (a = ga ∨ a = L) ∧ h.get? a = some o := by
  unfold two at e
  split at e
  · rename_i q; exact ⟨q, e⟩
  · cases e
theorem two_ne {h : Heap} {ga L a : Addr} (e : two h ga L a ≠ none) : a = ga ∨ a = L := by
  cases q : two h ga L a with
  | none => exact absurd q e
  | some o => exact (two_some q).1

theorem yd_fresh {K : Frag} {h : Heap} {m : Str → Option Value} {gs : GenState} (hgo : ∀ s : Shared, GOk K s.heap → s.heap.Ns L m → gs.Goes (model prog w) Amax (RP L (s.heap.objs.size + 1) s.heap.objs.size) (YP L (s.heap.objs.size + 1) s.heap.objs.size x t x.cps.size) x.cps.size (.send .none) s)
    (hn : h.Ns L m) (hga : h.IsGen ga gi) (hne : ga ≠ L) {G : Rdr} (hd : ∀ a, a = ga ∨ a = L → G a = none) :
    Yd K (model prog w) (.ref ga) (pairsFrom 0 x.cps.toList) G (two h ga L) (oneG gi gs) := by
  have step : ∀ (A : Around) (s : Shared), Roomy A → ItIn K (two h ga L) (oneG gi gs) G s → wpAny (model prog w) A (pyNext (.ref ga)) (fun res s' => Moved1 L (s.heap.objs.size + 1) s.heap.objs.size gi s s' ∧ (x.cps.size = 0 ∧ res = none ∨ ∃ m' T c t₁ t₂ gs', x.cps.size = m' + 1 ∧ res = some (.ref T) ∧ x.cps[0]? = some c ∧ s'.heap.get? T = some (tupO #[.int ((0 : Nat) : Int) t₁, .str ⟨#[c]⟩ t₂] 0) ∧ s.heap.get? T = none ∧
      T ≠ L ∧ T ≠ s.heap.objs.size + 1 ∧ T ≠ s.heap.objs.size ∧ Priv L (s.heap.objs.size + 1) s.heap.objs.size x t (0 + 1) s'.heap ∧ s'.gens[gi]? = some gs' ∧ Susp prog w L (s.heap.objs.size + 1) s.heap.objs.size x t (0 + 1) gs')) NoE s := fun A s r I => by
    have hgs := I.g gi _ (if_pos rfl)
    have hgas : s.heap.IsGen ga gi := by obtain ⟨o, nm, qn, e, r⟩ := hga; exact ⟨o, nm, qn, I.h _ _ ((two_in (.inl rfl)).trans e), r⟩
    have hns : s.heap.Ns L m := hn.at fun o e => I.h _ _ ((two_in (.inr rfl)).trans e)
    exact gen_next (i := 0) (m := x.cps.size) (x := x) (t := t) (L := L) (En := s.heap.objs.size + 1) (It := s.heap.objs.size) r I.gok.lim hgas hgs I.bare (Nat.zero_add _) (hgo (s.setGen gi .running) I.gok hns)
  have n1 : two h ga L ga ≠ none := by rw [two_in (.inl rfl)]; obtain ⟨o, _, _, e, _⟩ := hga; rw [e]; exact nofun
  have n2 : two h ga L L ≠ none := by rw [two_in (.inr rfl)]; obtain ⟨o, _, _, e, _⟩ := hn; rw [e]; exact nofun
  cases hl : x.cps.toList with
  | nil =>
    refine And.intro (isIt_gen hga (two_in (.inl rfl))) fun A s r I => wpAny_mono (step A s r I) (fun res s' hr => ?_) fun _ _ f => f
    have hsz : x.cps.size = 0 := by rw [← Array.length_toList, hl]; rfl
    obtain ⟨M1, ⟨_, rfl⟩ | ⟨m', _, _, _, _, _, e, _⟩⟩ := hr
    · refine ⟨rfl, fun a o e e' => M1.keep a o ?_ ?_ ?_ e', fun j y e e' => ?_, M1.bare, M1.os⟩
      · rintro rfl; exact n2 e
      · rintro rfl; rw [get_ge (Nat.le_succ _)] at e'; cases e'
      · rintro rfl; rw [get_size] at e'; cases e'
      · have hj : j ≠ gi := by rintro rfl; rw [oneG, if_pos rfl] at e; cases e
        rw [M1.gens j hj]; exact e'
    · rw [hsz] at e; cases e
  | cons c rest =>
    refine And.intro (isIt_gen hga (two_in (.inl rfl))) fun A s r I => wpAny_mono (step A s r I) (fun res s' hr => ?_) fun _ _ f => f
    have hsz : x.cps.size = rest.length + 1 := by rw [← Array.length_toList, hl]; rfl
    have hgas : s.heap.IsGen ga gi := by obtain ⟨o, nm, qn, e, r⟩ := hga; exact ⟨o, nm, qn, I.h _ _ ((two_in (.inl rfl)).trans e), r⟩
    have hns : s.heap.Ns L m := hn.at fun o e => I.h _ _ ((two_in (.inr rfl)).trans e)
    have hgl : ga < s.heap.objs.size := by obtain ⟨o, _, _, e, _⟩ := hgas; exact Heap.lt_size e
    have hLl : L < s.heap.objs.size := hns.lt
    have hGn : ∀ a, s.heap.get? a = none → G a = none := fun a e => by
      cases q : G a with
      | none => rfl
      | some o => rw [I.rd _ _ q] at e; cases e
    have hd' : ∀ a, a = ga ∨ a = L ∨ a = s.heap.objs.size + 1 ∨ a = s.heap.objs.size → G a = none := fun a q => by
      rcases q with q | q | q | q
      · exact hd a (.inl q)
      · exact hd a (.inr q)
      · exact hGn a (q ▸ get_ge (Nat.le_succ _))
      · exact hGn a (q ▸ get_size _)
    have hne' : ga ≠ L ∧ ga ≠ s.heap.objs.size + 1 ∧ ga ≠ s.heap.objs.size := ⟨hne, Nat.ne_of_lt (Nat.lt_succ_of_lt hgl), Nat.ne_of_lt hgl⟩
    obtain ⟨M1, ⟨e, _⟩ | ⟨m', T, c', t₁, t₂, gs', hm', rfl, hc, hT, hTn, h1, h2, h3, hP', hg', hs'⟩⟩ := hr
    · rw [hsz] at e; cases e
    · have hcc : c' = c := by
        rw [← Array.getElem?_toList, hl] at hc
        cases hc; rfl
      subst hcc
      have hga' : s'.heap.IsGen ga gi := by obtain ⟨o, nm, qn, e, r⟩ := hgas; exact ⟨o, nm, qn, M1.keep _ _ hne'.1 hne'.2.1 hne'.2.2 e, r⟩
      refine gen_out I M1 (fun a e => ?_) n1 n2 (.inr (get_ge (Nat.le_succ _))) (.inr (get_size _)) hd' hne' hT hTn ⟨h1, h2, h3⟩ hP' hg' (yd_susp rest 1 (by rw [hl]; rfl) (by omega) _ s'.heap gs' hP' hga' hne' (fun a q => ?_) hs')
      · rcases two_ne e with q | q
        · exact .inl q
        · exact .inr (.inl q)
      · unfold Rdr.put
        rw [if_neg]
        · exact hd' a q
        · rintro rfl
          rcases q with rfl | q | q | q
          · obtain ⟨o, _, _, e, _⟩ := hgas; rw [e] at hTn; cases hTn
          · exact h1 q
          · exact h2 q
          · exact h3 q
end

/-- a call of the generator function, as a loop's source -/
theorem itb_gen_of {C : Cx} {w : World} {n : Nat} {nm : List (Str × NameKind)} (F : FO C w n nm) {ρ : Rho} {e : Expr} {px pos : Pos} {x : Str} (e1 : nm.lookup ("_iter_escaped_chars" : Str) = some .globalImplicit) (he : EVs C ρ [e] [.str x]) (ha : x.cps.all (· < 128) = true) (hx : ∀ c ∈ x.cps.toList, c ≠ 92)
    {a : Addr} {oc : Value} {od : Option Addr} {osl : Array (Option Value)} {fd : FuncData} {nf : List (Str × NameKind)}
    {p1 p2 p3 q1 q2 q3 q4 q5 q6 q7 q8 q9 q10 q11 r1 r2 : Pos} {k k2 kk : Nat} {B1 B2 B3 : List Stmt} {a1 a2 a3 a4 a5 a6 f1 f2 f3 f4 : Pos} {k3 k4 : Nat}
    (e2 : nsIn (KK w) mainGlobals "_iter_escaped_chars" = some (some (.ref a)))
    (hk : (KK w).lookup a = some ⟨oc, od, .func fd, osl⟩) (hbody : fd.body = .stmts [.Assign [.Name "pos" a1] (.Constant (.int 0) k3 a2) a3, .Assign [.Name "escape" a4] (.Constant (.bool false) k4 a5) a6,
        .For (.Tuple [.Name "pos" p1, .Name "ch" p2] k p3) (.Call (.Name "enumerate" f1) [.Name "addr" f2] [] f3) [.If (.Name "escape" q1) B1 [.If (.Compare (.Name "ch" q2) [.Eq] [.Constant (.str "\\") kk q3] q4) B2 [.Expr (.Yield (some (.Tuple [.Name "pos" q5, .Name "ch" q6] k2 q7)) q8) q9] q10] q11] [] f4,
        .If (.Name "escape" r1) B3 [] r2]) (hnm : fd.scope.names = nf) (hcode : codeIn (KK w) fd.code fd.qualname = true) (hg : fd.globals = mainGlobals) (hb : fd.builtins = builtinsNs) (hclo : fd.closure = [])
    (hco : fd.scope.isCoroutine = false) (hgen : fd.scope.isGenerator = true) (hkind : fd.scope.kind = .function)
    (hbind : ∀ v : Value, bindArgs fd ⟨[v], []⟩ = pure [(("addr" : Str), v)])
    (n1 : nf.lookup ("pos" : Str) = some .local) (n2 : nf.lookup ("ch" : Str) = some .local) (n3 : nf.lookup ("escape" : Str) = some .local) (n4 : nf.lookup ("addr" : Str) = some .local) (n5 : nf.lookup ("enumerate" : Str) = some .globalImplicit) (n6 : ∀ y ∈ nf, y.2 ≠ .cell)
    (hK : nsIn (KK w) mainGlobals "enumerate" = some none) :
    Itb C ρ (.Call (.Name "_iter_escaped_chars" px) [e] [] pos) (pairsFrom 0 x.cps.toList) := fun X s G ow S => by
  subst hnm
  show wpAny _ _ (do callWith pos (← eval (.Name "_iter_escaped_chars" px) C.env) [] (backTo pos (starEach [e] C.env)) []) _ _ s
  refine wpAny_bind (wpAny_mono ((F.gr e1 e2 : EV C ρ (.Name "_iter_escaped_chars" px) (.raw (.ref a))) s G ow S) (fun v s₁ r₁ => ?_) fun _ _ f => f.elim)
  obtain ⟨p₁, G₁, x₁, e₁⟩ := r₁
  cases e₁.raw_inv
  have S₁ := S.grow p₁ x₁
  refine callWith_function (o := ⟨oc, od, .func fd, osl⟩) (fd := fd) (evalArgs_of (he.1 pos) (wpAny_mono (he.2 pos s₁ G₁ ow S₁) (fun vs s₂ r₂ => ?_) fun _ _ f => f.elim))
  obtain ⟨p₂, G₂, x₂, e₂⟩ := r₂
  have S₂ := S₁.grow p₂ x₂
  have hf := S₂.gok.kin _ _ (F.K ▸ hk)
  refine ⟨⟨hf, rfl⟩, ?_⟩
  cases e₂ with | cons h r => cases r with | nil =>
  obtain ⟨t, rfl⟩ := h.str_inv
  have hroom : C.A.depth < recursionLimit := Nat.lt_trans F.ok.roomy.depth (by decide)
  refine wpAny_call (codeAny_call_generator (fd := fd) hroom hf rfl hco hgen hbody (codeRec_of S₂.gok.kin (F.K ▸ hcode)) ?_)
  refine wpAny_of_eq (hbind _) ?_
  refine (wpAny_newFunctionEnv n6 (fun y hy => by rw [List.mem_singleton.mp hy]; exact n4) (fun h' hn' hs' => ?_) hkind)
  replace hs' : Heap.SameBut s₂.heap.objs.size (s₂.heap.push { cls := .type "frame", data := .dict #[] }) h' := hs'
  have k' : ∀ b o, s₂.heap.get? b = some o → h'.get? b = some o := fun b o q => hs'.extBut b o (Nat.ne_of_lt (Heap.lt_size q)) (Heap.get?_push_of_some _ q)
  have sz' : h'.objs.size = s₂.heap.objs.size + 1 := hs'.1.trans (Heap.size_push ..)
  refine ⟨S₂.gok.lim.keeps k', ?_⟩
  dsimp only
  generalize hog : ({ cls := .type "generator", data := .fields #[.int s₂.gens.size 0, .str fd.name (s₂.toks + 1), .str fd.qualname (s₂.toks + 1 + 1)] } : Obj) = og
  have hogg : og.isFreed = false := by rw [← hog]; rfl
  have k3 : ∀ b o, h'.get? b = some o → (h'.push og).get? b = some o := fun b o q => Heap.get?_push_of_some _ q
  have hIs : (h'.push og).IsGen h'.objs.size s₂.gens.size := ⟨og, _, _, Heap.get?_push_size _ hogg, by rw [← hog], by rw [← hog], by rw [← hog]⟩
  refine wpAny_pyIter_gen hIs ?_
  generalize henv : newEnv fd.scope s₂.heap.objs.size fd.globals fd.closure (fd.qualname ++ ".<locals>.") (some a) fd.code none fd.builtins = env
  have ge : GenEnv env s₂.heap.objs.size := by
    rw [← henv]
    exact ⟨rfl, hkind, hco, n1, n2, n3, n4, n5, hg, hb⟩
  have p₃ : ∀ (gs : GenState) (tk : Nat), gs.bare = true → PureStep s₂ { s₂ with gens := s₂.gens.push gs, toks := tk, heap := h'.push og } := fun gs tk hbr => ⟨fun b o q => k3 b o (k' b o q), fun i y q => by
      show (s₂.gens.push gs)[i]? = some y
      have hlt : i < s₂.gens.size := by
        rcases Nat.lt_or_ge i s₂.gens.size with h | h
        · exact h
        · rw [Array.getElem?_eq_none h] at q; cases q
      rw [Array.getElem?_push_lt hlt, ← Array.getElem?_eq_getElem hlt]; exact q, fun hb => hb.push hbr, rfl⟩
  have none_of : ∀ b, s₂.heap.objs.size ≤ b → s.heap.get? b = none ∧ G₂ b = none := fun b hb => by
    refine ⟨?_, ?_⟩
    · cases q : s.heap.get? b with
      | none => rfl
      | some o => have := (p₁.trans p₂).heap b o q; rw [get_ge hb] at this; cases this
    · cases q : G₂ b with
      | none => rfl
      | some o => have := S₂.rd b o q; rw [get_ge hb] at this; cases this
  suffices key : ∀ (gs : GenState) (tk : Nat), gs.bare = true → (∀ s₄ : Shared, GOk C.K s₄.heap → s₄.heap.Ns s₂.heap.objs.size (fun y => [(Str.ofString "addr", Value.str x t)].reverse.lookup y) → gs.Goes (model C.prog C.w) Amax (RP s₂.heap.objs.size (s₄.heap.objs.size + 1) s₄.heap.objs.size) (YP s₂.heap.objs.size (s₄.heap.objs.size + 1) s₄.heap.objs.size x t x.cps.size) x.cps.size (.send .none) s₄) →
      ∃ G' H g, ItNew s G (pairsFrom 0 x.cps.toList) C.K C.M (.ref h'.objs.size) { s₂ with gens := s₂.gens.push gs, toks := tk, heap := h'.push og } G' H g from key _ _ rfl fun s₄ hg₄ hn₄ => ⟨rfl, gen_start (s := s₄) ge ha hx (F.K ▸ hK) S₂.gok (get_size _) hg₄ hn₄ rfl⟩
  intro gs tk hbr hgo
  refine ⟨G₂, two (h'.push og) h'.objs.size s₂.heap.objs.size, oneG s₂.gens.size gs, { pure := p₁.trans (p₂.trans (p₃ _ _ hbr)), ext := x₁.trans p₁ (x₂.trans p₂ (.same fun b o q => k3 b o (k' b o (S₂.rd b o q)))), h := fun b o q => (two_some q).2, gg := fun i y q => ?_, hnew := fun b q => ?_, gnew := fun i q => ?_, yd := ?_ }⟩
  · obtain ⟨rfl, rfl⟩ := oneG_some q
    exact Array.getElem?_push_size ..
  · rcases two_ne q with rfl | rfl
    · exact none_of _ (by rw [sz']; exact Nat.le_succ _)
    · exact none_of _ (Nat.le_refl _)
  · have := oneG_ne q; subst this
    cases q : s.gens[s₂.gens.size]? with
    | none => rfl
    | some y => have := (p₁.trans p₂).gens _ _ q; rw [Array.getElem?_eq_none (Nat.le_refl _)] at this; cases this
  · refine yd_fresh (x := x) (t := t) hgo (hn'.push _) hIs (by rw [sz']; exact Nat.succ_ne_self _) ?_
    rintro b (rfl | rfl)
    · exact (none_of _ (by rw [sz']; exact Nat.le_succ _)).2
    · exact (none_of _ (Nat.le_refl _)).2
end Mine
end -- G4

section -- F11
open PySem PySem.W PyProof.Rows PySem.Calls
open Builtin Builtin.Str
set_option maxRecDepth 100000
set_option linter.unusedSectionVars false
set_option linter.unusedVariables false
namespace Mine

theorem letGo_isIt {M : Model} {A : Around} {s : Shared} {target : Expr} {it : Value} {T : Addr} {Q : Unit → Shared → Prop} (h : IsIt s.heap.get? it) (hQ : Q () s) : wpAny M A (letOwnedTupleGo target it (.ref T)) Q NoE s := by
  obtain ⟨a, o, n, rfl, ho, hc, hn⟩ := h
  have go : wpAny M A (do
      let o ← load a
      match o.cls, o.data with
      | .type n, .fields vs =>
        if ["enumerate", "zip", "dict_itemiterator", "dict_reverseitemiterator", "odict_iterator", "itertools.zip_longest", "itertools.pairwise"].contains n && vs[0]? == some (rawInt T) then
          rule "for.unpacks-the-owned-tuple"
          updateField a 0 .none
      | _, _ => pure ()) Q NoE s := by
    refine wpAny_bind (wpAny_load ho ?_)
    rw [hc]
    cases o.data with
    | fields vs => dsimp only; rw [hn, Bool.false_and, if_neg Bool.false_ne_true]; exact wpAny_pure hQ
    | _ => exact wpAny_pure hQ
  cases target with
  | Tuple => exact go
  | List => exact go
  | _ => exact wpAny_pure hQ

section
variable {C : Cx} {n : Nat} {ρ : Rho}
theorem binds_pair (hC : COk C n) {x y : Str} {px py p : Pos} {k : Nat} {d₁ d₂ : PD} (hx : CanStore C x) (hy : CanStore C y) {f : Rho → Rho} (hf : f = fun ρ => (y, .val d₂) :: (x, .val d₁) :: ρ) : Binds C (.Tuple [.Name x px, .Name y py] k p) (.tup [d₁, d₂]) f := fun X ρ s G ow it v S hit hr => by
  subst hf
  obtain ⟨T, vs, m, rfl, hg, hl⟩ := hr.tup_inv
  refine letGo_isIt hit ?_
  have hvl : vs.size = 2 := by rw [← Array.length_toList, hl.length]; rfl
  have hT : s.heap.IsTuple T vs := ⟨_, S.rd _ _ hg, rfl, m, rfl⟩
  refine wpAny_assign_Tuple hC.hnd hT (by rw [hvl]; rfl) rfl fun h' hk' => ?_
  have p₂ : PureStep s { s with heap := h' } := ⟨fun a o e => hk' a o (Nat.ne_of_lt (Heap.lt_size e)) e, fun _ _ e => e, fun e => e, rfl⟩
  have S₂ := S.grow p₂ (.same fun a o e => p₂.heap a o (S.rd a o e))
  have := assignNames hC (A := C.A) [(x, px), (y, py)] [d₁, d₂] vs.toList S₂ hl rfl (by
    intro q hq
    simp only [List.mem_cons, List.not_mem_nil, or_false] at hq
    rcases hq with rfl | rfl
    · exact hx
    · exact hy)
  refine wpAny_mono this (fun _ s' h => ?_) fun _ _ f => f
  obtain ⟨ow', S'⟩ := h
  exact ⟨G, ow', S'⟩

theorem op_is_none {d : PD} {b : Bool} (h : d = .none ∧ b = true ∨ (∃ i, d = .int i) ∧ b = false) : OP2 C (compareOp .Is) d .none (.bool b) := fun A s G v₁ v₂ V h1 h2 => by
  cases h2
  rcases h with ⟨rfl, rfl⟩ | ⟨⟨i, rfl⟩, rfl⟩
  · cases h1; exact wpAny_is_self rfl (Res.refl V.rd (.bool _))
  · obtain ⟨t, rfl⟩ := h1.int_inv
    exact wpAny_is_other rfl nofun (Res.refl V.rd (.bool _))
end

noncomputable def stripF.Step := Nat × Option Nat × List (List Nat)
noncomputable def stripStep (x : List Nat) (st : Nat × Option Nat × List (List Nat)) (p : Nat × Nat) : Nat × Option Nat × List (List Nat) :=
  if p.1 = 34 then (match st.2.1 with
    | none => (st.1, some p.2, st.2.2)
    | some o => (p.2 + 1, none, if st.1 ≠ o then st.2.2 ++ [(x.drop st.1).take (o - st.1)] else st.2.2)) else st
noncomputable def stripRun (x : List Nat) (l : List (Nat × Nat)) : Nat × Option Nat × List (List Nat) := l.foldl (stripStep x) (0, none, [])
noncomputable def stripF (x : List Nat) : List Nat := if 34 ∈ x then
  (let st := stripRun x (x.zipIdx); (if st.1 < x.length then st.2.2 ++ [x.drop st.1] else st.2.2).flatten) else x
noncomputable def parenF : List Nat → Int → Bool
  | [], k => k == 0
  | c :: r, k => if c = 40 then parenF r (k + 1) else if c = 41 then (if k - 1 < 0 then false else parenF r (k - 1)) else parenF r k

theorem pairs_map : ∀ (l : List Nat) (i : Nat), pairsFrom i l = (l.zipIdx i).map fun p => PD.tup [.int (p.2 : Nat), .str ⟨#[p.1]⟩]
  | [], _ => rfl
  | c :: r, i => by rw [pairsFrom, List.zipIdx_cons, List.map_cons, pairs_map r (i + 1)]

theorem itb_gen {C : Cx} {w : World} {n : Nat} {nm : List (Str × NameKind)} (Fo : FO C w n nm) {ρ : Rho} {e : Expr} {px pos : Pos} {x : Str} (e1 : nm.lookup ("_iter_escaped_chars" : Str) = some .globalImplicit) (he : EVs C ρ [e] [.str x]) (ha : x.cps.all (· < 128) = true) (hx : ∀ c ∈ x.cps.toList, c ≠ 92) :
    Itb C ρ (.Call (.Name "_iter_escaped_chars" px) [e] [] pos) (pairsFrom 0 x.cps.toList) :=
  itb_gen_of Fo e1 he ha hx rfl rfl rfl rfl rfl rfl rfl rfl rfl rfl rfl (fun v => rfl) rfl rfl rfl rfl rfl (by decide) rfl

noncomputable def openD : Option Nat → PD
  | none => .none
  | some o => .int (o : Nat)
structure StOk (n : Nat) (st : Nat × Option Nat × List (List Nat)) : Prop where
  le : st.1 ≤ n
  op : ∀ o, st.2.1 = some o → st.1 ≤ o ∧ o < n
  len : st.2.2.length ≤ n
  each : ∀ y ∈ st.2.2, y.length ≤ 1000
theorem zip_at {l : List Nat} {pre post : List (Nat × Nat)} {b : Nat × Nat} (h : l.zipIdx = pre ++ b :: post) : b.2 = pre.length ∧ l[pre.length]? = some b.1 := by
  have h1 : (l.zipIdx)[pre.length]? = some b := by rw [h]; simp
  rw [List.getElem?_zipIdx] at h1
  cases q : l[pre.length]? with
  | none => rw [q] at h1; cases h1
  | some c => rw [q] at h1; cases h1; exact ⟨by simp, rfl⟩

noncomputable def stripRho (x : Str) (st : Nat × Option Nat × List (List Nat)) : Rho := [("result", .own (pStrs (st.2.2.map txt))), ("open_pos", .val (openD st.2.1)), ("start", .val (.int (st.1 : Nat))), ("addr", .val (.str x))]
theorem txt_toList (l : List Nat) : (txt l).cps.toList = l := rfl
theorem txt_of (x : Str) : txt x.cps.toList = x := by cases x; simp [txt]
theorem txt_len (l : List Nat) : (txt l).length = l.length := by simp [txt, Str.length]

theorem flat_join : ∀ l : List (List Nat), (PySem.Txt.join (Str.ofString "") (l.map txt)) = txt l.flatten := by
  intro l
  show glued _ _ = _
  rw [StrLaws.glued_eq_join]
  induction l with
  | nil => rfl
  | cons a r ih =>
    cases r with
    | nil => 
      show txt a = _
      rw [List.flatten_cons, List.flatten_nil, List.append_nil]
    | cons b r =>
      show txt a ++ Str.ofString "" ++ Str.join (Str.ofString "") ((b :: r).map txt) = _
      rw [ih, List.flatten_cons]
      refine str_ext ?_
      show ((txt a).cps ++ (Str.ofString "").cps ++ (txt (b :: r).flatten).cps).toList = _
      rw [Array.toList_append, Array.toList_append]
      show (a ++ []) ++ (b :: r).flatten = _
      rw [List.append_nil]; rfl

theorem strip_sub (x : List Nat) : ∀ (l : List (Nat × Nat)) (st : Nat × Option Nat × List (List Nat)), (∀ y ∈ st.2.2, ∀ c ∈ y, c ∈ x) → ∀ y ∈ (l.foldl (stripStep x) st).2.2, ∀ c ∈ y, c ∈ x
  | [], _, h => h
  | p :: l, st, h => strip_sub x l _ (by
    unfold stripStep
    split
    · split
      · exact h
      · dsimp only
        split
        · intro y hy
          rcases List.mem_append.mp hy with q | q
          · exact h y q
          · rw [List.mem_singleton.mp q]
            exact fun c hc => List.mem_of_mem_drop (List.mem_of_mem_take hc)
        · exact h
    · exact h)
theorem stripF_sub (x : List Nat) : ∀ c ∈ stripF x, c ∈ x := by
  unfold stripF
  split
  · intro c hc
    obtain ⟨y, hy, hcy⟩ := List.mem_flatten.mp hc
    have key := strip_sub x x.zipIdx (0, none, []) nofun
    split at hy
    · rcases List.mem_append.mp hy with q | q
      · exact key y q c hcy
      · rw [List.mem_singleton.mp q] at hcy
        exact List.mem_of_mem_drop hcy
    · exact key y hy c hcy
  · exact fun c h => h

set_option maxHeartbeats 8000000 in
theorem fn_strip (w : World) (x : Str) (hx : x.length ≤ 1000) (ha : x.cps.all (· < 128) = true) (hb : ∀ c ∈ x.cps.toList, c ≠ 92) : Fn PG w (KK w) 1 (.ref 42) [.str x] (.str (txt (stripF x.cps.toList))) := by
  refine fn_body ["addr"] rfl rfl rfl rfl rfl rfl rfl rfl rfl rfl ?_ rfl rfl (by decide) rfl ?_
  · intro vs h
    match vs, h with
    | [x], _ => rfl
  · intro C Fo
    have line := line3
    have hxl : x.cps.toList.length = x.length := by simp [Str.length]
    have hin : (occurrences x ⟨#[34]⟩ 0 x.length 1).isEmpty = !decide (34 ∈ x.cps.toList) := by rw [← StrLaws.found_one, Bool.not_not]
    refine ex_if (et_cmp (ev_str _ _ _) (ev_name Fo.ok rfl) op_notInStr) (fun h => ?_) (fun h => ex_nil ?_)
    · refine ex_ret (ev_name Fo.ok rfl) ?_
      have h' : 34 ∉ x.cps.toList := by
        have := hin.symm.trans h
        simpa using this
      rw [stripF, if_neg h', txt_of]; rfl
    have h' : 34 ∈ x.cps.toList := by
      have := hin.symm.trans h
      simpa using this
    rw [stripF, if_pos h']
    refine ex_assign Fo.ok (ev_int _ _ _) (Fo.sl rfl) ?_
    refine ex_assign Fo.ok (ev_none _ _) (Fo.sl rfl) ?_
    refine ex_newList Fo.ok evs_nil (Fo.sl rfl) ?_
    refine ex_weaken (ρ' := stripRho x (0, none, [])) ?_ (by show LeR _ _; unfold stripRho; repeat (first | exact LeR.nil | refine LeR.cons rfl ?_))
    refine ex_forM (l := x.cps.toList.zipIdx) (g := fun p => PD.tup [.int (p.2 : Nat), .str ⟨#[p.1]⟩]) (f := fun d ρ => match d with | .tup [d₁, d₂] => ("ch", .val d₂) :: ("pos", .val d₁) :: ρ | _ => ρ) Fo.ok (itb_gen Fo rfl (evs_cons (ev_name Fo.ok rfl) evs_nil) ha hb) (pairs_map _ _) (fun b _ => binds_pair Fo.ok (Fo.sl rfl) (Fo.sl rfl) rfl)
      (fun qs ρ' => ∃ st, stripRun x.cps.toList qs = st ∧ ρ' = stripRho x st ∧ StOk qs.length st) ⟨_, rfl, rfl, Nat.zero_le _, nofun, Nat.zero_le _, nofun⟩ ?_ ?_
    · rintro pre ⟨c, i⟩ post ρ' hds ⟨⟨a, o, res⟩, hst, rfl, ok⟩
      obtain ⟨hi, hc⟩ := zip_at hds
      dsimp only at hi hc; subst hi
      have hlt : pre.length < x.length := by rw [← hxl]; exact (List.getElem?_eq_some_iff.mp hc).1
      have hnext : stripRun x.cps.toList (pre ++ [(c, pre.length)]) = stripStep x.cps.toList (a, o, res) (c, pre.length) := by unfold stripRun at hst ⊢; rw [List.foldl_append, hst]; rfl
      have hplen : (pre ++ [(c, pre.length)]).length = pre.length + 1 := by simp
      have ok1 := ok.le
      have ok2 := ok.len
      dsimp only at ok1 ok2
      unfold stripRho
      refine ex_if (et_cmp (ev_name Fo.ok rfl) (ev_str _ _ _) op_eqStr) (fun h => ?_) (fun h => ?_)
      · have hc34 : c = 34 := by
          have h2 : [c] = [34] := beq_iff_eq.mp h
          exact (List.cons_eq_cons.mp h2).1
        subst hc34
        cases o with
        | none =>
          refine ex_if (b := true) (et_cmp (ev_name Fo.ok rfl) (ev_none _ _) (op_is_none (.inl ⟨rfl, rfl⟩))) (fun _ => ?_) (fun h => nomatch h)
          refine ex_assign Fo.ok (ev_name Fo.ok rfl) (Fo.sl rfl) (ex_nil (ex_nil (ex_nil ⟨_, ⟨_, hnext, rfl, ?_⟩, ?_⟩)))
          · rw [hplen]
            exact ⟨by show a ≤ _; omega, fun o e => by cases e; exact ⟨ok1, Nat.lt_succ_self _⟩, by show res.length ≤ _; omega, ok.each⟩
          · show LeR (stripRho _ _) _
            unfold stripRho; repeat (first | exact LeR.nil | refine LeR.cons rfl ?_)
        | some o =>
          obtain ⟨ho1, ho2⟩ := ok.op o rfl
          dsimp only at ho1
          refine ex_if (b := false) (et_cmp (ev_name Fo.ok rfl) (ev_none _ _) (op_is_none (.inr ⟨⟨_, rfl⟩, rfl⟩))) (fun h => nomatch h) (fun _ => ?_)
          have hsl := slice_list x (a := a) (b := o) ho1 (by omega)
          have hsl' : PySem.Txt.slice x (some (a : Int)) (some (o : Int)) = txt ((x.cps.toList.drop a).take (o - a)) := str_ext (hsl.trans rfl)
          refine ex_ifW [("result", .own (pStrs ((if a ≠ o then res ++ [(x.cps.toList.drop a).take (o - a)] else res).map txt))), ("pos", .val (.int (pre.length : Nat))), ("addr", .val (.str x))] (et_cmp (ev_name Fo.ok rfl) (ev_name Fo.ok rfl) op_ne) (fun h => ?_) (fun h => ex_nil ?_) ?_
          · refine ex_append Fo.ok rfl (ev_slice (i := some (a : Nat)) (j := some (o : Nat)) (ev_name Fo.ok rfl) (ev_name Fo.ok rfl) (ev_name Fo.ok rfl) (by omega)) (ex_nil ?_) (by unfold pStrs; rw [List.length_map, List.length_map]; dsimp only; omega)
            have hne : a ≠ o := by
              have : ((a : Int) != o) = true := h
              rw [bne_iff_ne] at this
              intro e; exact this (congrArg _ e)
            rw [if_pos hne, hsl']
            refine LeR.cons ?_ (LeR.cons rfl (LeR.cons rfl LeR.nil))
            unfold pStrs; rw [List.map_append, List.map_append]; rfl
          · have hne : ¬ a ≠ o := by
              have : ((a : Int) != o) = false := h
              intro q
              rw [bne_eq_false_iff_eq] at this
              omega
            rw [if_neg hne]
            repeat (first | exact LeR.nil | refine LeR.cons rfl ?_)
          · refine ex_assign Fo.ok (ev_binop (ev_name Fo.ok rfl) (ev_int _ _ _) op_add) (Fo.sl rfl) ?_
            refine ex_assign Fo.ok (ev_none _ _) (Fo.sl rfl) (ex_nil (ex_nil (ex_nil ⟨_, ⟨_, hnext, rfl, ?_⟩, ?_⟩)))
            · rw [hplen]
              refine ⟨Nat.le_refl _, nofun, ?_, ?_⟩
              · show (if a ≠ o then res ++ [(x.cps.toList.drop a).take (o - a)] else res).length ≤ _
                split
                · rw [List.length_append, List.length_singleton]; omega
                · omega
              · show ∀ y ∈ (if a ≠ o then res ++ [(x.cps.toList.drop a).take (o - a)] else res), _
                split
                · intro y hy
                  rcases List.mem_append.mp hy with h | h
                  · exact ok.each y h
                  · rw [List.mem_singleton.mp h, List.length_take, List.length_drop]; omega
                · exact ok.each
            · show LeR (stripRho _ _) _
              unfold stripRho; repeat (first | exact LeR.nil | refine LeR.cons rfl ?_)
      · have hc34 : c ≠ 34 := by
          intro e; subst e
          have h2 : ([34] == [34]) = false := h
          exact absurd h2 (by decide)
        refine ex_nil (ex_nil ⟨_, ⟨_, hnext, rfl, ?_⟩, ?_⟩)
        · rw [hplen, stripStep, if_neg hc34]
          exact ⟨by show a ≤ _; omega, fun o e => ⟨(ok.op o e).1, Nat.lt_succ_of_lt (ok.op o e).2⟩, by show res.length ≤ _; omega, ok.each⟩
        · rw [stripStep, if_neg hc34]
          show LeR (stripRho _ _) _
          unfold stripRho; repeat (first | exact LeR.nil | refine LeR.cons rfl ?_)
    · rintro ρ' ⟨⟨a, o, res⟩, hst, rfl, ok⟩
      have ok1 := ok.le
      have ok2 := ok.len
      dsimp only at ok1 ok2
      rw [List.length_zipIdx, hxl] at ok1 ok2
      rw [hst]
      dsimp only
      unfold stripRho
      have hsl' : PySem.Txt.slice x (some (a : Int)) none = txt (x.cps.toList.drop a) := str_ext ((slice_from x ok1).trans rfl)
      refine ex_ifW [("result", .own (pStrs ((if a < x.length then res ++ [x.cps.toList.drop a] else res).map txt)))] (et_cmp (ev_name Fo.ok rfl) (ev_callB (Fo.gb rfl rfl boot_len) (evs_cons (ev_name Fo.ok rfl) evs_nil) (cl_len_str (by omega))) op_lt) (fun h => ?_) (fun h => ex_nil ?_) ?_
      · refine ex_append Fo.ok rfl (ev_slice (i := some (a : Nat)) (j := none) (ev_name Fo.ok rfl) (ev_name Fo.ok rfl) trivial (by omega)) (ex_nil ?_) (by unfold pStrs; rw [List.length_map, List.length_map]; dsimp only; omega)
        rw [if_pos (by simpa using h), hsl']
        refine LeR.cons ?_ LeR.nil
        unfold pStrs; rw [List.map_append, List.map_append]; rfl
      · rw [if_neg (by simpa using h)]
        repeat (first | exact LeR.nil | refine LeR.cons rfl ?_)
      · refine ex_freeze (x := "result") rfl (ex_ret (ev_methS (ev_str _ _ _) F.slot_str_join rfl (evs_cons (ev_name Fo.ok rfl) evs_nil) (cl_join ?_)) ?_)
        · unfold JoinOk
          rw [StrLaws.joinFits (B := 1000)]
          · rfl
          · intro y hy
            obtain ⟨z, hz, rfl⟩ := List.mem_map.mp hy
            rw [txt_len]
            split at hz
            · rcases List.mem_append.mp hz with h | h
              · exact ok.each z h
              · rw [List.mem_singleton.mp h, List.length_drop]; omega
            · exact ok.each z hz
          · rw [List.length_map]
            have : (if a < x.length then res ++ [x.cps.toList.drop a] else res).length ≤ 1001 := by
              split
              · rw [List.length_append, List.length_singleton]; omega
              · omega
            have h0 : (Str.ofString "").length = 0 := rfl
            rw [h0]; omega
        · rw [flat_join, hxl]

set_option maxHeartbeats 8000000 in
theorem fn_check (w : World) (x : Str) (hx : x.length ≤ 1000) (ha : x.cps.all (· < 128) = true) (hb : ∀ c ∈ x.cps.toList, c ≠ 92) : Fn PG w (KK w) 2 (.ref 49) [.str x] (.bool (parenF (stripF x.cps.toList) 0)) := by
  refine fn_body ["addr"] rfl rfl rfl rfl rfl rfl rfl rfl rfl rfl ?_ rfl rfl (by decide) rfl ?_
  · intro vs h
    match vs, h with
    | [x], _ => rfl
  · intro C Fo
    refine ex_assign Fo.ok (Fo.call rfl rfl rfl (fn_strip w x hx ha hb) (evs_cons (ev_name Fo.ok rfl) evs_nil)) (Fo.sl rfl) ?_
    have hsub := stripF_sub x.cps.toList
    generalize stripF x.cps.toList = y at hsub
    have ha' : (txt y).cps.all (· < 128) = true := by
      rw [← Array.all_toList, txt_toList, List.all_eq_true]
      intro c hc
      rw [← Array.all_toList, List.all_eq_true] at ha
      exact ha c (hsub c hc)
    have hb' : ∀ c ∈ (txt y).cps.toList, c ≠ 92 := fun c hc => hb c (hsub c hc)
    refine ex_assign Fo.ok (ev_int _ _ _) (Fo.sl rfl) ?_
    refine ex_weaken (ρ' := [("opens", .val (.int 0)), ("addr", .val (.str (txt y)))]) ?_ (by show LeR _ _; repeat (first | exact LeR.nil | refine LeR.cons rfl ?_))
    refine ex_forM (l := y.zipIdx) (g := fun p => PD.tup [.int (p.2 : Nat), .str ⟨#[p.1]⟩]) (f := fun d ρ => match d with | .tup [d₁, d₂] => ("ch", .val d₂) :: ("pos", .val d₁) :: ρ | _ => ρ) Fo.ok (itb_gen Fo rfl (evs_cons (ev_name Fo.ok rfl) evs_nil) ha' hb') (pairs_map _ _) (fun b _ => binds_pair Fo.ok (Fo.sl rfl) (Fo.sl rfl) rfl)
      (fun qs ρ' => ∃ k : Int, ρ' = ([("opens", .val (.int k)), ("addr", .val (.str (txt y)))] : Rho) ∧ ∀ r, y = qs.map (·.1) ++ r → parenF y 0 = parenF r k) ⟨0, rfl, fun r e => by rw [e]; rfl⟩ ?_ ?_
    · rintro pre ⟨c, i⟩ post ρ' hds ⟨k, rfl, hk⟩
      have hy : y = pre.map (·.1) ++ c :: post.map (·.1) := by
        have := congrArg (List.map (·.1)) hds
        rw [List.map_append, List.map_cons] at this
        rw [← this]
        exact (List.zipIdx_map_fst 0 y).symm
      have hk := hk _ hy
      rw [parenF] at hk
      have hkey : ∀ k', parenF y 0 = parenF (post.map (·.1)) k' → ∀ r, y = (pre ++ [(c, i)]).map (·.1) ++ r → parenF y 0 = parenF r k' := fun k' e r hr => by
        rw [hy, List.map_append, List.append_assoc] at hr
        have := List.append_cancel_left hr
        rw [e]
        have h2 := (List.cons_eq_cons.mp (this : c :: post.map (·.1) = c :: r)).2
        rw [h2]; rfl
      refine ex_if (et_cmp (ev_name Fo.ok rfl) (ev_str _ _ _) op_eqStr) (fun h => ?_) (fun h => ?_)
      · have hc : c = 40 := by
          have h2 : [c] = [40] := beq_iff_eq.mp h
          exact (List.cons_eq_cons.mp h2).1
        rw [if_pos hc] at hk
        refine ex_aug Fo.ok rfl (ev_int _ _ _) op_iadd (Fo.sl rfl) (ex_nil (ex_nil ⟨_, ⟨k + 1, rfl, hkey _ hk⟩, ?_⟩))
        repeat (first | exact LeR.nil | refine LeR.cons rfl ?_)
      · have hc : c ≠ 40 := by
          rintro rfl
          have h2 : ([40] == [40]) = false := h
          exact absurd h2 (by decide)
        rw [if_neg hc] at hk
        refine ex_if (et_cmp (ev_name Fo.ok rfl) (ev_str _ _ _) op_eqStr) (fun h => ?_) (fun h => ?_)
        · have hc : c = 41 := by
            have h2 : [c] = [41] := beq_iff_eq.mp h
            exact (List.cons_eq_cons.mp h2).1
          rw [if_pos hc] at hk
          refine ex_aug Fo.ok rfl (ev_int _ _ _) op_isub (Fo.sl rfl) ?_
          refine ex_if (et_cmp (ev_name Fo.ok rfl) (ev_int _ _ _) op_lt) (fun h3 => ?_) (fun h3 => ?_)
          · refine ex_ret (ev_bool _ _ _) (?_ : Out.ret (.bool false) = Out.ret (.bool (parenF y 0)))
            rw [hk, if_pos (by simpa using h3)]
          · rw [if_neg (by simpa using h3)] at hk
            refine ex_nil (ex_nil (ex_nil (ex_nil ⟨_, ⟨k - 1, rfl, hkey _ hk⟩, ?_⟩)))
            repeat (first | exact LeR.nil | refine LeR.cons rfl ?_)
        · have hc : c ≠ 41 := by
            rintro rfl
            have h2 : ([41] == [41]) = false := h
            exact absurd h2 (by decide)
          rw [if_neg hc] at hk
          refine ex_nil (ex_nil (ex_nil ⟨_, ⟨k, rfl, hkey _ hk⟩, ?_⟩))
          repeat (first | exact LeR.nil | refine LeR.cons rfl ?_)
    · rintro ρ' ⟨k, rfl, hk⟩
      refine ex_ret (ev_cmp (ev_name Fo.ok rfl) (ev_int _ _ _) op_eq) ?_
      have := hk [] (by rw [List.append_nil]; exact (List.zipIdx_map_fst 0 y).symm)
      rw [this, parenF]
end Mine
end -- F11

section -- M6
open PySem PySem.W PyProof.Rows PySem.Calls
open Builtin Builtin.Str
set_option linter.unusedSectionVars false
set_option linter.unusedVariables false
namespace Mine

theorem splitL_dots : ∀ l : List Nat, l.take 3 = [46, 46, 46] → splitL l = [] :: splitL (l.drop 3)
  | a :: b :: c :: r, h => by
    simp only [List.take_succ_cons, List.take_zero, List.cons.injEq, and_true] at h
    rw [splitL, if_pos h]; rfl
theorem splitL_sign (a : Nat) : ∀ l : List Nat, (a :: l).take 3 ≠ [46, 46, 46] → ∃ p ps, splitL l = p :: ps ∧ splitL (a :: l) = (a :: p) :: ps
  | [], _ => ⟨[], [], rfl, rfl⟩
  | [b], _ => ⟨[b], [], rfl, rfl⟩
  | b :: c :: r, h => by
    obtain ⟨p, ps, e⟩ := splitL_ne _ (b :: c :: r) (Nat.le_refl _)
    refine ⟨p, ps, e, ?_⟩
    rw [splitL, if_neg, e]
    rintro ⟨rfl, rfl, rfl⟩
    exact h rfl
theorem splitL_free : ∀ l : List Nat, (∀ k, (l.drop k).take 3 ≠ [46, 46, 46]) → splitL l = [l]
  | [], _ => rfl
  | a :: l, h => by
    obtain ⟨p, ps, e1, e2⟩ := splitL_sign a l (h 0)
    rw [splitL_free l fun k => h (k + 1)] at e1
    cases e1; exact e2
theorem splitL_cut : ∀ (k : Nat) (l : List Nat), (∀ j, j < k → (l.drop j).take 3 ≠ [46, 46, 46]) → (l.drop k).take 3 = [46, 46, 46] → splitL l = l.take k :: splitL (l.drop (k + 3))
  | 0, l, _, h => splitL_dots l h
  | k + 1, [], _, h => by simp at h
  | k + 1, a :: l, hn, h => by
    obtain ⟨p, ps, e1, e2⟩ := splitL_sign a l (hn 0 (Nat.succ_pos k))
    rw [splitL_cut k l (fun j hj => hn (j + 1) (Nat.succ_lt_succ hj)) h] at e1
    obtain ⟨rfl, rfl⟩ := List.cons_eq_cons.mp e1
    rw [e2, show k + 1 + 3 = (k + 3) + 1 by omega]; rfl

section
variable {x : Str}
theorem at_dots {k : Nat} : StrLaws.At x dotsS x.length k ↔ (x.cps.toList.drop k).take 3 = [46, 46, 46] := by
  unfold StrLaws.At
  rw [StrLaws.subAt_eq]
  show k + 3 ≤ x.length ∧ ((x.cps.toList.drop k).take 3 == [46, 46, 46]) = true ↔ _
  rw [beq_iff_eq]
  constructor
  · exact fun h => h.2
  · intro h
    have := congrArg List.length h
    rw [List.length_take, List.length_drop] at this
    simp only [List.length_cons, List.length_nil, Array.length_toList] at this
    exact ⟨by show k + 3 ≤ x.cps.size; omega, h⟩
theorem parts_split : ∀ (cuts : List Nat) (a f : Nat), StrLaws.ChainG x dotsS x.length a cuts f → (∀ k, f ≤ k → ¬ StrLaws.At x dotsS x.length k) → (StrLaws.partsFrom x 3 a cuts).map (·.cps.toList) = splitL (x.cps.toList.drop a)
  | [], a, f, h, hn => by
    have h : f = a := h
    subst h
    rw [splitL_free]
    · show [(strSub x f x.length).cps.toList] = _
      rw [StrLaws.strSub_toList, List.take_of_length_le (by rw [List.length_drop]; show _ ≤ x.cps.size - f; simp)]
    · intro k hk
      rw [List.drop_drop] at hk
      exact hn (f + k) (by omega) (at_dots.mpr hk)
  | c :: r, a, f, h, hn => by
    obtain ⟨h1, h2, h3, h4⟩ := h
    have ih := parts_split r (c + 3) f h4 hn
    rw [splitL_cut (c - a) (x.cps.toList.drop a)]
    · show (strSub x a c).cps.toList :: (StrLaws.partsFrom x 3 (c + 3) r).map (·.cps.toList) = _
      rw [ih, StrLaws.strSub_toList, List.drop_drop, show a + (c - a + 3) = c + 3 by omega]
    · intro j hj hk
      rw [List.drop_drop] at hk
      exact h3 (a + j) (by omega) (by omega) (at_dots.mpr hk)
    · rw [List.drop_drop, show a + (c - a) = c by omega]; exact at_dots.mp h2

theorem split_eq (x : Str) : PySem.Txt.split x dotsS = (splitL x.cps.toList).map txt := by
  have back : ∀ l : List Str, (l.map (·.cps.toList)).map txt = l := fun l => by
    rw [List.map_map]
    exact (List.map_congr_left fun y _ => txt_of y).trans (List.map_id l)
  obtain ⟨f, hG, hn⟩ := StrLaws.occ_tight x dotsS (by decide)
  have hp := parts_split _ 0 f hG hn
  rw [List.drop_zero] at hp
  have one : (∀ k, ¬ StrLaws.At x dotsS x.length k) → [x] = (splitL x.cps.toList).map txt := fun h => by
    rw [splitL_free _ fun k hk => h k (at_dots.mpr hk), List.map_cons, List.map_nil, txt_of]
  unfold PySem.Txt.split
  split
  · rename_i hc
    refine one fun k hk => ?_
    rw [Bool.or_eq_true, decide_eq_true_eq, decide_eq_true_eq] at hc
    have h3 : dotsS.length = 3 := rfl
    rcases hc with h | h
    · have := hk.1; omega
    · have h1 : Builtin.Str.strKind dotsS = 1 := by decide +kernel
      rw [h1] at h
      unfold Builtin.Str.strKind at h
      split at h
      · omega
      · split at h <;> omega
  · split
    · rename_i he
      refine one fun k hk => ?_
      rw [List.isEmpty_iff.mp he] at hG
      have hG : f = 0 := hG
      exact hn k (by omega) hk
    · rw [StrLaws.partsBetween_eq, ← hp, back]; rfl
theorem isEmpty_iff (x : Str) : (occurrences x dotsS 0 x.length 1).isEmpty = true ↔ splitL x.cps.toList = [x.cps.toList] := by
  obtain ⟨f, hG, hn⟩ := StrLaws.occ_tight x dotsS (by decide)
  have hp := parts_split _ 0 f hG hn
  rw [List.drop_zero] at hp
  have hf := StrLaws.found_iff x dotsS
  constructor
  · intro h
    refine splitL_free _ fun k hk => ?_
    have := hf.mpr ⟨k, at_dots.mpr hk⟩
    rw [h] at this; cases this
  · intro h
    cases q : occurrences x dotsS 0 x.length (x.length + 1) with
    | nil =>
      rw [q] at hG
      have hG : f = 0 := hG
      cases e : (occurrences x dotsS 0 x.length 1).isEmpty with
      | true => rfl
      | false =>
        obtain ⟨i, hi⟩ := hf.mp (by rw [e]; rfl)
        exact absurd hi (hn i (by omega))
    | cons c r =>
      rw [q, h] at hp
      obtain ⟨p, ps, e⟩ := StrLaws.partsFrom_ne x 3 (c + 3) r
      have : StrLaws.partsFrom x 3 0 (c :: r) = strSub x 0 c :: p :: ps := by rw [← e]; rfl
      rw [this] at hp
      simp at hp
end
end Mine
end -- M6

section -- M7
open PySem PySem.W PyProof.Rows PySem.Calls
open Builtin Builtin.Str
set_option linter.unusedSectionVars false
set_option linter.unusedVariables false
namespace Mine

theorem occ_head_hi (x y : Str) (lo hi : Nat) : (occurrences x y lo hi 1 = [] ∧ ∀ i, lo ≤ i → ¬ StrLaws.At x y hi i) ∨
    ∃ i r, occurrences x y lo hi 1 = i :: r ∧ lo ≤ i ∧ StrLaws.At x y hi i ∧ ∀ k, lo ≤ k → k < i → ¬ StrLaws.At x y hi k := by
  rw [StrLaws.occ_eq]
  rcases StrLaws.occ_first x y hi 1 (Nat.le_refl 1) (List.range' lo (hi + 1 - lo)) lo (fun i hi => by have := List.mem_range'_1.mp hi; omega) with ⟨h0, hn⟩ | ⟨pre, a, post, e, h0, ha, hn⟩
  · refine .inl ⟨by rw [h0], fun i hlo hi' => ?_⟩
    exact hn i (by have := hi'.1; rw [List.mem_range'_1]; omega) hi'
  · have hs := StrLaws.range'_split_from e
    refine .inr ⟨a, ((forIn (List.range' lo (hi + 1 - lo)) ((#[] : Array Nat), lo) (StrLaws.occBody x y hi 1)).run.fst.toList).tail, ?_, hs.1, ha, fun k hk0 hk => hn k (hs.2 k hk0 hk)⟩
    generalize (forIn (List.range' lo (hi + 1 - lo)) ((#[] : Array Nat), lo) (StrLaws.occBody x y hi 1)).run.fst = arr at h0
    have h1 : arr.toList[0]? = some a := by simpa using h0
    cases hL : arr.toList with
    | nil => rw [hL] at h1; cases h1
    | cons b t => rw [hL] at h1; simp at h1; rw [h1]; rfl

section
variable {got : Str}
theorem at_L {w : List Nat} {e i : Nat} : StrLaws.At got (txt w) e i ↔ AtL got.cps.toList w e i := by
  unfold StrLaws.At AtL
  rw [StrLaws.subAt_eq, txt_len, txt_toList, beq_iff_eq]
theorem find_nat {w : List Nat} {s e : Nat} (he : e ≤ got.length) : find4 got (txt w) (s : Int) (e : Int) = match occurrences got (txt w) s e 1 with | k :: _ => (k : Int) | [] => -1 := by
  unfold find4
  have h1 : fromIndex got.length (s : Int) = s := by unfold fromIndex; rw [if_neg (by omega)]; omega
  have h2 : min (fromIndex got.length (e : Int)) got.length = e := by
    have : fromIndex got.length (e : Int) = e := by unfold fromIndex; rw [if_neg (by omega)]; omega
    omega
  rw [h1, h2]
  all_goals rfl
theorem loop_fits {e : Nat} (he : e ≤ got.length) : ∀ (ws : List (List Nat)) (s : Nat), s ≤ e → (ellLoop got (e : Int) (ws.map txt) (s : Int) = true ↔ Fits got.cps.toList e ws s)
  | [], s, hs => ⟨fun _ => hs, fun _ => rfl⟩
  | w :: ws, s, hs => by
    rw [List.map_cons, ellLoop, find_nat he]
    rcases occ_head_hi got (txt w) s e with ⟨h0, hn⟩ | ⟨i, r, h0, hi, ha, hn⟩
    · rw [h0]
      dsimp only
      rw [if_pos (by decide)]
      exact ⟨nofun, fun ⟨k, h1, h2, _⟩ => absurd (at_L.mpr h2) (hn k h1)⟩
    · rw [h0]
      dsimp only
      rw [if_neg (by omega), txt_len]
      have ha' := at_L.mp ha
      have : (i : Int) + (w.length : Nat) = ((i + w.length : Nat) : Int) := by push_cast; rfl
      rw [this, loop_fits he ws (i + w.length) ha'.1]
      constructor
      · exact fun h => ⟨i, hi, ha', h⟩
      · rintro ⟨k, h1, h2, h3⟩
        refine h3.mono ?_
        have : i ≤ k := by
          rcases Nat.lt_or_ge k i with h | h
          · exact absurd (at_L.mpr h2) (hn k h1 h)
          · exact h
        omega
theorem mid_fits {e : Nat} (he : e ≤ got.length) (ws : List (List Nat)) (s : Nat) : ellMid got (ws.map txt) (s : Int) (e : Int) = true ↔ Fits got.cps.toList e ws s := by
  unfold ellMid
  by_cases h : s ≤ e
  · rw [if_neg (by omega)]; exact loop_fits he ws s h
  · rw [if_pos (by omega)]; exact ⟨nofun, fun q => absurd q.le h⟩
theorem ends_iff (p : List Nat) : PySem.Txt.endswith got (txt p) = true ↔ p.length ≤ got.cps.toList.length ∧ got.cps.toList.drop (got.cps.toList.length - p.length) = p := by
  unfold PySem.Txt.endswith
  rw [StrLaws.subAt_eq, txt_len, txt_toList, Bool.and_eq_true, decide_eq_true_eq, beq_iff_eq, Nat.zero_add]
  have hl : got.length = got.cps.toList.length := by simp [Str.length]
  rw [hl]
  constructor
  · rintro ⟨a, b⟩
    refine ⟨a, ?_⟩
    rwa [List.take_of_length_le (by rw [List.length_drop]; omega)] at b
  · rintro ⟨a, b⟩
    exact ⟨a, by rw [List.take_of_length_le (by rw [List.length_drop]; omega)]; exact b⟩
theorem starts_iff (p : List Nat) : PySem.Txt.startswith got (txt p) = true ↔ got.cps.toList.take p.length = p := by
  unfold PySem.Txt.startswith
  rw [StrLaws.subAt_eq, txt_len, txt_toList, Bool.and_eq_true, decide_eq_true_eq, beq_iff_eq, Nat.zero_add, List.drop_zero]
  have hl : got.length = got.cps.toList.length := by simp [Str.length]
  rw [hl]
  constructor
  · exact fun h => h.2
  · intro h
    refine ⟨?_, h⟩
    have := congrArg List.length h
    rw [List.length_take] at this
    omega

theorem tail_fits (ms : List (List Nat)) (pk : List Nat) (s : Nat) : ellTail got ((ms ++ [pk]).map txt) (s : Int) = true ↔ pk.length ≤ got.cps.toList.length ∧ got.cps.toList.drop (got.cps.toList.length - pk.length) = pk ∧ Fits got.cps.toList (got.cps.toList.length - pk.length) ms s := by
  have hl : got.length = got.cps.toList.length := by simp [Str.length]
  unfold ellTail
  have hlast : ((ms ++ [pk]).map txt).getLastD (txt []) = txt pk := by rw [List.map_append]; simp
  have hdrop : ((ms ++ [pk]).map txt).dropLast = ms.map txt := by rw [List.map_append]; simp
  rw [hlast, hdrop, txt_len]
  by_cases h0 : pk.length ≠ 0
  · rw [if_pos h0]
    by_cases he : PySem.Txt.endswith got (txt pk) = true
    · rw [if_pos he]
      have h := (ends_iff pk).mp he
      have e : (got.length : Int) - (pk.length : Nat) = ((got.cps.toList.length - pk.length : Nat) : Int) := by rw [hl]; omega
      rw [e, mid_fits (by rw [hl]; omega)]
      exact ⟨fun q => ⟨h.1, h.2, q⟩, fun q => q.2.2⟩
    · rw [if_neg he]
      exact ⟨nofun, fun q => absurd ((ends_iff pk).mpr ⟨q.1, q.2.1⟩) he⟩
  · rw [if_neg h0]
    have hp : pk = [] := List.eq_nil_of_length_eq_zero (by omega)
    subst hp
    rw [mid_fits (Nat.le_refl _), fits_snoc_nil]
    simp [hl]
theorem head_mat (p0 : List Nat) (ms : List (List Nat)) (pk : List Nat) : ellHead got ((p0 :: (ms ++ [pk])).map txt) = true ↔ Mat (p0 :: (ms ++ [pk])) got.cps.toList := by
  rw [mat_fits]
  unfold ellHead
  rw [List.map_cons, List.headD_cons, List.tail_cons, txt_len]
  by_cases h0 : p0.length ≠ 0
  · rw [if_pos h0]
    by_cases he : PySem.Txt.startswith got (txt p0) = true
    · rw [if_pos he, tail_fits]
      have h := (starts_iff p0).mp he
      exact ⟨fun q => ⟨h, q⟩, fun q => q.2⟩
    · rw [if_neg he]
      exact ⟨nofun, fun q => absurd ((starts_iff p0).mpr q.1) he⟩
  · rw [if_neg h0]
    have hp : p0 = [] := List.eq_nil_of_length_eq_zero (by omega)
    subst hp
    have := tail_fits (got := got) ([] :: ms) pk 0
    rw [show (([] : List Nat) :: ms ++ [pk]) = [] :: (ms ++ [pk]) from rfl, List.map_cons] at this
    rw [show ((0 : Nat) : Int) = 0 from rfl] at this
    rw [this, fits_nil_cons]
    simp
end
theorem splitL_single : ∀ (l p : List Nat), splitL l = [p] → l = p
  | [], p, h => by cases h; rfl
  | a :: l, p, h => by
    by_cases q : (a :: l).take 3 = [46, 46, 46]
    · rw [splitL_dots _ q] at h
      obtain ⟨p', ps, e⟩ := splitL_ne _ ((a :: l).drop 3) (Nat.le_refl _)
      rw [e] at h; cases h
    · obtain ⟨p', ps, e1, e2⟩ := splitL_sign a l q
      rw [e2] at h
      obtain ⟨rfl, rfl⟩ := List.cons_eq_cons.mp h
      rw [← splitL_single l p' e1]
theorem ell_mat (want got : Str) : ellF want got = true ↔ Mat (splitL want.cps.toList) got.cps.toList := by
  unfold ellF
  cases e : (occurrences want dotsS 0 want.length 1).isEmpty with
  | true =>
    rw [if_pos rfl, (isEmpty_iff want).mp e, beq_iff_eq]
    exact eq_comm
  | false =>
    rw [if_neg Bool.false_ne_true, split_eq]
    obtain ⟨p0, ps, e2⟩ := splitL_ne _ want.cps.toList (Nat.le_refl _)
    cases ps with
    | nil =>
      exfalso
      have := splitL_single _ _ e2
      rw [← this] at e2
      rw [(isEmpty_iff want).mpr e2] at e
      cases e
    | cons q r =>
      obtain ⟨ms, pk, e3⟩ : ∃ ms pk, q :: r = ms ++ [pk] := ⟨(q :: r).dropLast, (q :: r).getLast nofun, (List.dropLast_concat_getLast _).symm⟩
      rw [e2, e3]
      exact head_mat p0 ms pk
end Mine
end -- M7

section -- M3
namespace Mine
/-! brackets outside quotation marks -/
noncomputable def stC (c : Nat) : Step := if c = 40 then (1, 0) else if c = 41 then (-1, -1) else (0, 0)
noncomputable def walk : List Nat → Step
  | [] => (0, 0)
  | c :: r => stepsF (stC c) (walk r)
theorem stepsF_assoc (a b c : Step) : stepsF (stepsF a b) c = stepsF a (stepsF b c) := by
  unfold stepsF
  refine Prod.ext ?_ ?_ <;> dsimp only <;> omega
theorem walk_low : ∀ t, (walk t).2 ≤ 0
  | [] => Int.le_refl 0
  | c :: r => by
    have := walk_low r
    rw [walk, stepsF]
    dsimp only
    unfold stC
    split
    · dsimp only; omega
    · split <;> (dsimp only; omega)
theorem steps_zero {b : Step} (h : b.2 ≤ 0) : stepsF (0, 0) b = b := by
  unfold stepsF
  refine Prod.ext ?_ ?_ <;> dsimp only <;> omega
theorem walk_append : ∀ s t, walk (s ++ t) = stepsF (walk s) (walk t)
  | [], t => (steps_zero (walk_low t)).symm
  | c :: s, t => by rw [List.cons_append, walk, walk, walk_append s t, stepsF_assoc]

noncomputable def marks (t : List Nat) : Nat := t.count 34
/-- the stretches of one parity -/
noncomputable def str : Bool → List Nat → List Nat
  | _, [] => []
  | b, c :: r => if c = 34 then str (!b) r else if b = true then c :: str b r else str b r
noncomputable def lastS : List Nat → List Nat
  | [] => []
  | c :: r => if c = 34 ∨ 34 ∈ r then lastS r else c :: r
theorem marks_append (s t : List Nat) : marks (s ++ t) = marks s + marks t := List.count_append ..
theorem str_append : ∀ (s : List Nat) (b : Bool) (t : List Nat), str b (s ++ t) = str b s ++ str (if marks s % 2 = 1 then !b else b) t
  | [], b, t => rfl
  | c :: s, b, t => by
    rw [List.cons_append, str, str]
    by_cases h : c = 34
    · subst h
      rw [if_pos rfl, if_pos rfl, str_append s]
      have hm : marks (34 :: s) = marks s + 1 := by unfold marks; rw [List.count_cons]; simp
      rw [hm]
      congr 2
      by_cases e : marks s % 2 = 1
      · rw [if_pos e, if_neg (by omega), Bool.not_not]
      · rw [if_neg e, if_pos (by omega)]
    · rw [if_neg h, if_neg h]
      have hm : marks (c :: s) = marks s := by unfold marks; rw [List.count_cons]; simp [h]
      rw [hm]
      cases b
      · simp only [Bool.false_eq_true, if_false]; exact str_append s false t
      · simp only [if_true]; rw [str_append s true t]; rfl
theorem lastS_none : ∀ {t : List Nat}, 34 ∉ t → lastS t = t
  | [], _ => rfl
  | c :: r, h => by
    rw [lastS, if_neg]
    rintro (rfl | h')
    · exact h (.head _)
    · exact h (.tail _ h')
theorem lastS_append : ∀ (s t : List Nat), lastS (s ++ t) = if 34 ∈ t then lastS t else lastS s ++ t
  | [], t => by
    rw [List.nil_append]
    split
    · rfl
    · rename_i h; rw [lastS_none h]; rfl
  | c :: s, t => by
    rw [List.cons_append, lastS, lastS, lastS_append s t]
    by_cases ht : 34 ∈ t
    · rw [if_pos ht, if_pos ht, if_pos (.inr (List.mem_append_right _ ht))]
    · rw [if_neg ht, if_neg ht]
      by_cases h : c = 34 ∨ 34 ∈ s
      · rw [if_pos h, if_pos]
        rcases h with h | h
        · exact .inl h
        · exact .inr (List.mem_append_left _ h)
      · rw [if_neg h, if_neg]
        · rfl
        · rintro (h' | h')
          · exact h (.inl h')
          · rcases List.mem_append.mp h' with h' | h'
            · exact h (.inr h')
            · exact ht h'
theorem marks_zero {t : List Nat} : marks t = 0 ↔ 34 ∉ t := List.count_eq_zero

noncomputable def pieceT (t : List Nat) : Piece := ⟨marks t, walk (str true t), walk (str false t), walk (lastS t)⟩
theorem pieceT_nil : pieceT [] = .unit := rfl
theorem pieceT_append (s t : List Nat) : bothF (pieceT s) (pieceT t) = pieceT (s ++ t) := by
  have hodd : ((marks s : Nat) : Int) % 2 = 1 ↔ marks s % 2 = 1 := by omega
  unfold bothF pieceT
  dsimp only
  rw [marks_append, str_append, str_append, lastS_append, walk_append, walk_append]
  refine congr (congr (congr (congrArg Piece.mk ?_) ?_) ?_) ?_
  · push_cast; rfl
  · by_cases h : marks s % 2 = 1
    · rw [if_pos (hodd.mpr h), if_pos h]; rfl
    · rw [if_neg (fun e => h (hodd.mp e)), if_neg h]
  · by_cases h : marks s % 2 = 1
    · rw [if_pos (hodd.mpr h), if_pos h]; rfl
    · rw [if_neg (fun e => h (hodd.mp e)), if_neg h]
  · by_cases h : 34 ∈ t
    · rw [if_pos h, if_neg]
      intro e
      have : marks t = 0 := by omega
      exact marks_zero.mp this h
    · rw [if_neg h, if_pos (by rw [marks_zero.mpr h]; rfl), walk_append, lastS_none h]

theorem pieceT_one (c : Nat) : pieceT [c] = if c = 34 then ⟨1, (0, 0), (0, 0), (0, 0)⟩ else ⟨0, stepsF (stC c) (0, 0), (0, 0), stepsF (stC c) (0, 0)⟩ := by
  unfold pieceT
  by_cases h : c = 34
  · subst h; rfl
  · rw [if_neg h]
    have h1 : marks [c] = 0 := marks_zero.mpr (by simp [Ne.symm h])
    rw [h1, lastS_none (by simp [Ne.symm h])]
    simp only [str, if_neg h]
    rfl
end Mine
end -- M3

section -- M4
namespace Mine
theorem paren_walk : ∀ (u : List Nat) (k : Int), 0 ≤ k → parenF u k = ((k + (walk u).1 == 0) && decide (k + (walk u).2 ≥ 0))
  | [], k, h => by
    rw [parenF, walk]
    dsimp only
    rw [Int.add_zero, decide_eq_true (show k ≥ 0 from h), Bool.and_true]
  | c :: r, k, h => by
    have hl := walk_low r
    rw [parenF, walk]
    unfold stC
    by_cases h1 : c = 40
    · rw [if_pos h1, if_pos h1, paren_walk r (k + 1) (by omega)]
      unfold stepsF
      dsimp only
      congr 1
      · rw [Int.add_assoc]
      · rw [decide_eq_decide]; omega
    · rw [if_neg h1, if_neg h1]
      by_cases h2 : c = 41
      · rw [if_pos h2, if_pos h2]
        unfold stepsF
        dsimp only
        by_cases h3 : k - 1 < 0
        · rw [if_pos h3]
          symm
          rw [Bool.and_eq_false_iff]
          exact .inr (decide_eq_false (by omega))
        · rw [if_neg h3, paren_walk r (k - 1) (by omega)]
          congr 1
          · congr 1; omega
          · rw [decide_eq_decide]; omega
      · rw [if_neg h2, if_neg h2, steps_zero hl, paren_walk r k h]

structure SInv (pre : List Nat) (st : Nat × Option Nat × List (List Nat)) : Prop where
  none : st.2.1 = none → marks pre % 2 = 0 ∧ st.1 ≤ pre.length ∧ st.2.2.flatten ++ pre.drop st.1 = str true pre
  some : ∀ o, st.2.1 = some o → marks pre % 2 = 1 ∧ st.1 ≤ o ∧ o < pre.length ∧ st.2.2.flatten ++ (pre.drop st.1).take (o - st.1) = str true pre ∧ pre.drop o = 34 :: lastS pre

theorem sinv_step {x pre : List Nat} {c : Nat} {post : List Nat} (hx : x = pre ++ c :: post) {st : Nat × Option Nat × List (List Nat)} (h : SInv pre st) : SInv (pre ++ [c]) (stripStep x st (c, pre.length)) := by
  obtain ⟨a, o, res⟩ := st
  unfold stripStep
  dsimp only
  have hlen : (pre ++ [c]).length = pre.length + 1 := by simp
  by_cases hc : c = 34
  · subst hc
    rw [if_pos rfl]
    have hm : marks (pre ++ [34]) = marks pre + 1 := by rw [marks_append]; rfl
    have hs : str true (pre ++ [34]) = str true pre := by
      rw [str_append, str, if_pos rfl]; simp [str]
    cases o with
    | none =>
      obtain ⟨h1, h2, h3⟩ := h.none rfl
      dsimp only at h1 h2 h3 ⊢
      refine ⟨nofun, fun o e => ?_⟩
      cases e
      refine ⟨by rw [hm]; omega, h2, by rw [hlen]; omega, ?_, ?_⟩
      · rw [hs, ← h3, List.drop_append_of_le_length h2, List.take_append_of_le_length (by simp), List.take_of_length_le (by simp)]
      · rw [List.drop_append_of_le_length (Nat.le_refl _), List.drop_length, lastS_append, if_pos (by simp)]; rfl
    | some o =>
      obtain ⟨h1, h2, h3, h4, h5⟩ := h.some o rfl
      dsimp only at h1 h2 h3 h4 h5 ⊢
      refine ⟨fun _ => ⟨by rw [hm]; omega, by rw [hlen]; exact Nat.le_refl _, ?_⟩, nofun⟩
      dsimp only
      have hdz : (pre ++ [34]).drop (pre.length + 1) = [] := List.drop_of_length_le (by rw [hlen]; exact Nat.le_refl _)
      rw [hdz, List.append_nil, hs, ← h4]
      have hxs : (x.drop a).take (o - a) = (pre.drop a).take (o - a) := by
        rw [hx, List.drop_append_of_le_length (by omega), List.take_append_of_le_length (by rw [List.length_drop]; omega)]
      rw [hxs]
      by_cases e : a ≠ o
      · rw [if_pos e]; simp
      · have : a = o := by omega
        subst this
        rw [if_neg e]; simp
  · rw [if_neg hc]
    have hm : marks (pre ++ [c]) = marks pre := by rw [marks_append, show marks [c] = 0 from marks_zero.mpr (by simp [Ne.symm hc])]; rfl
    refine ⟨fun e => ?_, fun o e => ?_⟩
    · obtain ⟨h1, h2, h3⟩ := h.none e
      dsimp only at h1 h2 h3 e ⊢
      refine ⟨by rw [hm]; exact h1, by rw [hlen]; omega, ?_⟩
      rw [List.drop_append_of_le_length h2, ← List.append_assoc, h3, str_append, if_neg (by omega)]
      simp [str, hc]
    · obtain ⟨h1, h2, h3, h4, h5⟩ := h.some o e
      dsimp only at h1 h2 h3 h4 h5 e ⊢
      refine ⟨by rw [hm]; exact h1, h2, by rw [hlen]; omega, ?_, ?_⟩
      · rw [List.drop_append_of_le_length (by omega), List.take_append_of_le_length (by rw [List.length_drop]; omega), h4, str_append, if_pos h1]
        simp [str, hc]
      · rw [List.drop_append_of_le_length (by omega), h5, lastS_append, if_neg (by simp [Ne.symm hc])]; rfl

theorem sinv_run (x : List Nat) : ∀ (post pre : List Nat) (st : Nat × Option Nat × List (List Nat)), x = pre ++ post → SInv pre st → SInv x ((post.zipIdx pre.length).foldl (stripStep x) st)
  | [], pre, st, hx, h => by rw [List.append_nil] at hx; subst hx; exact h
  | c :: post, pre, st, hx, h => by
    rw [List.zipIdx_cons, List.foldl_cons]
    have := sinv_run x post (pre ++ [c]) _ (by rw [hx]; simp) (sinv_step hx h)
    rwa [List.length_append, List.length_singleton] at this

theorem strip_eq (x : List Nat) : stripF x = str true x ++ (if marks x % 2 = 1 then 34 :: lastS x else []) := by
  unfold stripF
  by_cases hm : 34 ∈ x
  · rw [if_pos hm]
    have h := sinv_run x x [] (0, none, []) rfl ⟨fun _ => ⟨rfl, Nat.le_refl _, rfl⟩, nofun⟩
    rw [List.length_nil] at h
    unfold stripRun
    generalize x.zipIdx.foldl (stripStep x) (0, none, []) = st at h
    obtain ⟨a, o, res⟩ := st
    dsimp only
    have hfl : (if a < x.length then res ++ [x.drop a] else res).flatten = res.flatten ++ x.drop a := by
      split
      · simp
      · rw [List.drop_of_length_le (by omega), List.append_nil]
    rw [hfl]
    cases o with
    | none =>
      obtain ⟨h1, h2, h3⟩ := h.none rfl
      rw [if_neg (by omega), List.append_nil]; exact h3
    | some o =>
      obtain ⟨h1, h2, h3, h4, h5⟩ := h.some o rfl
      dsimp only at h1 h2 h3 h4 h5
      rw [if_pos h1, ← h4, ← h5, List.append_assoc]
      congr 1
      have : x.drop o = (x.drop a).drop (o - a) := by rw [List.drop_drop]; congr 1; omega
      rw [this, List.take_append_drop]
  · rw [if_neg hm, if_neg (by rw [marks_zero.mpr hm]; decide), List.append_nil]
    have key : ∀ t : List Nat, 34 ∉ t → str true t = t := by
      intro t
      induction t with
      | nil => intro _; rfl
      | cons c r ih =>
        intro h
        rw [str, if_neg (by rintro rfl; exact h (.head _)), if_pos rfl, ih fun e => h (.tail _ e)]
    exact (key x hm).symm

theorem check_closes (x : List Nat) : parenF (stripF x) 0 = closesF (pieceT x) := by
  rw [strip_eq, paren_walk _ 0 (Int.le_refl 0)]
  unfold closesF pieceT
  dsimp only
  have hodd : ((marks x : Nat) : Int) % 2 = 1 ↔ marks x % 2 = 1 := by omega
  by_cases h : marks x % 2 = 1
  · rw [if_pos h, if_pos (hodd.mpr h), walk_append, walk]
    have : stC 34 = (0, 0) := rfl
    rw [this, steps_zero (walk_low _)]
    simp
  · rw [if_neg h, if_neg (fun e => h (hodd.mp e)), List.append_nil]
    simp
end Mine
end -- M4

section -- F12
open PySem PySem.W PyProof.Rows PySem.Calls
open Builtin Builtin.Str
set_option maxRecDepth 100000
set_option linter.unusedSectionVars false
set_option linter.unusedVariables false
namespace Mine

noncomputable def numStep (ns nums : List Int) (p : Nat) : List Int := nums.set (p % 5) ((nums.getD (p % 5) 0 + ns.getD p 0) % 100003)
noncomputable def numbersF (ns : List Int) : List Int := (List.range (min ns.length 60)).foldl (numStep ns) [377, 136, 698, 31, 222]
structure NumsOk (l : List Int) : Prop where
  len : l.length = 5
  bd : ∀ n ∈ l, 0 ≤ n ∧ n < 100003
theorem numStep_ok {ns nums : List Int} (p : Nat) (h : NumsOk nums) : NumsOk (numStep ns nums p) := by
  refine ⟨by rw [numStep, List.length_set, h.len], fun n hn => ?_⟩
  rcases List.mem_or_eq_of_mem_set hn with h' | rfl
  · exact h.bd n h'
  · exact ⟨Int.emod_nonneg _ (by decide), Int.emod_lt_of_pos _ (by decide)⟩
theorem numFold_ok (ns : List Int) : ∀ (l : List Nat) (nums : List Int), NumsOk nums → NumsOk (l.foldl (numStep ns) nums)
  | [], _, h => h
  | p :: l, _, h => numFold_ok ns l _ (numStep_ok p h)
theorem nums0_ok : NumsOk [377, 136, 698, 31, 222] := ⟨rfl, by decide⟩
theorem numbersF_ok (ns : List Int) : NumsOk (numbersF ns) := numFold_ok ns _ _ nums0_ok
theorem pInts_get {l : List Int} {i : Nat} (h : i < l.length) : (pInts l)[i]? = some (.int (l.getD i 0)) := by
  unfold pInts
  rw [List.getElem?_map, List.getD_eq_getElem?_getD, List.getElem?_eq_getElem h]; rfl
theorem pInts_len (l : List Int) : (pInts l).length = l.length := by unfold pInts; rw [List.length_map]

set_option maxHeartbeats 8000000 in
theorem fn_numbers (w : World) (ns : List Int) (hn : ns.length ≤ 63) : Fn PG w (KK w) 1 (.ref 80) [.list (pInts ns)] (.list (pInts (numbersF ns))) := by
  refine fn_body ["script"] rfl rfl rfl rfl rfl rfl rfl rfl rfl rfl ?_ rfl rfl (by decide) rfl ?_
  · intro vs h
    match vs, h with
    | [x], _ => rfl
  · intro C Fo
    have line := line3
    refine ex_newList Fo.ok (ds := pInts [377, 136, 698, 31, 222]) (evs_cons (ev_int _ _ _) (evs_cons (ev_int _ _ _) (evs_cons (ev_int _ _ _) (evs_cons (ev_int _ _ _) (evs_cons (ev_int _ _ _) evs_nil))))) (Fo.sl rfl) ?_ (by rw [pInts_len]; show 5 ≤ _; omega)
    have hr : (min ((ns.length : Nat) : Int) 60).toNat = min ns.length 60 := by omega
    refine ex_forW (l := List.range (min ns.length 60)) (g := fun (n : Nat) => PD.int (n : Nat)) (f := fun d ρ => ("place", .val d) :: ρ) Fo.ok
      (fun qs => [("numbers", .own (pInts (qs.foldl (numStep ns) [377, 136, 698, 31, 222]))), ("script", .val (.list (pInts ns)))])
      (itb_range (m := min ((ns.length : Nat) : Int) 60) (Fo.gb rfl rfl boot_range) (evs_cons (ev_callB (Fo.gb rfl rfl boot_min) (evs_cons (ev_callB (Fo.gb rfl rfl boot_len) (evs_cons (ev_name Fo.ok rfl) evs_nil) (by have := cl_len_list (C := C) (ds := pInts ns) (by rw [pInts_len]; omega); rwa [pInts_len] at this)) (evs_cons (ev_int _ _ _) evs_nil)) (cl_min Fo.ok.hnd)) evs_nil) (by omega) (by omega)) (by rw [hr]) (fun d _ => binds_name Fo.ok (Fo.sl rfl)) ?_ ?_ ?_
    · repeat (first | exact LeR.nil | refine LeR.cons rfl ?_)
    · intro pre p post hds
      have hp : p < min ns.length 60 := by
        have : p ∈ List.range (min ns.length 60) := by rw [hds]; simp
        exact List.mem_range.mp this
      have hok := numFold_ok ns pre _ nums0_ok
      rw [List.foldl_append]
      dsimp only [List.foldl_cons, List.foldl_nil]
      generalize pre.foldl (numStep ns) [377, 136, 698, 31, 222] = nums at hok
      have h5 : p % 5 < nums.length := by rw [hok.len]; omega
      have hpi : (((p : Nat) : Int) % 5).toNat = p % 5 := by omega
      have e1 : (pInts nums)[(((p : Nat) : Int) % 5).toNat]? = some (.int (nums.getD (p % 5) 0)) := by rw [hpi]; exact pInts_get h5
      have e2 : (pInts ns)[((p : Nat) : Int).toNat]? = some (.int (ns.getD p 0)) := by rw [Int.toNat_natCast]; exact pInts_get (by omega)
      refine ex_setItem Fo.ok (i := ((p : Nat) : Int) % 5) rfl (ev_borrow (x := "numbers") rfl (ev_binop (ev_binop (ev_sub (ev_name Fo.ok rfl) (ev_binop (ev_name Fo.ok rfl) (ev_int _ _ _) (op_mod (by decide))) (op_item (by omega) e1 (by omega))) (ev_sub (ev_name Fo.ok rfl) (ev_name Fo.ok rfl) (op_item (by omega) e2 (by omega))) op_add) (ev_int _ _ _) (op_mod (by decide))) rfl)
        (ev_binop (ev_name Fo.ok rfl) (ev_int _ _ _) (op_mod (by decide))) (by omega) (by rw [pInts_len, hok.len]; omega) (ex_nil ?_) (by rw [pInts_len, hok.len]; omega)
      refine LeR.cons ?_ (LeR.cons rfl LeR.nil)
      rw [hpi]
      unfold numStep pInts
      rw [List.map_set]; rfl
    · exact ex_freeze (x := "numbers") rfl (ex_ret (ev_name Fo.ok rfl) rfl)
end Mine
end -- F12

section -- F13
open PySem PySem.W PyProof.Rows PySem.Calls
open Builtin Builtin.Str
set_option maxRecDepth 100000
set_option linter.unusedSectionVars false
set_option linter.unusedVariables false
namespace Mine

noncomputable def symOf (place figure : Int) : Int := if figure < 5 then [7, 8, 3, 23, 52].getD figure.toNat 0 else if place + figure - 4 < 4 then 252 + place + figure else [7, 8, 3].getD (figure - 5).toNat 0
noncomputable def bodyOf (place : Int) : Nat → Int → List Int
  | 0, _ => []
  | k + 1, rest => symOf place (rest % 8) :: bodyOf place k (rest / 8)
noncomputable def wantOf : Nat → Int → List Int
  | 0, _ => []
  | k + 1, rest => [7, 8, 23, 52].getD (rest % 4).toNat 0 :: wantOf k (rest / 4)
noncomputable def ruleOf (nums : List Int) (place : Nat) : List Int := (256 + (place : Int)) :: (bodyOf place (1 + nums.getD place 0 % 3).toNat (nums.getD place 0 / 3) ++ [0])
noncomputable def symbolsF (nums : List Int) : List Int := (List.range 4).flatMap (ruleOf nums) ++ (260 :: (wantOf (1 + nums.getD 4 0 % 5).toNat (nums.getD 4 0 / 5) ++ [0]))
theorem bodyOf_len (p : Int) : ∀ k r, (bodyOf p k r).length = k
  | 0, _ => rfl
  | k + 1, r => by rw [bodyOf, List.length_cons, bodyOf_len p k]
theorem wantOf_len : ∀ k r, (wantOf k r).length = k
  | 0, _ => rfl
  | k + 1, r => by rw [wantOf, List.length_cons, wantOf_len k]
theorem ruleOf_len (nums : List Int) (p : Nat) : (ruleOf nums p).length ≤ 5 := by
  rw [ruleOf, List.length_cons, List.length_append, bodyOf_len, List.length_singleton]
  have := Int.emod_lt_of_pos (nums.getD p 0) (b := 3) (by decide)
  omega
theorem rules_len (nums : List Int) : ∀ l : List Nat, (l.flatMap (ruleOf nums)).length ≤ 5 * l.length
  | [] => Nat.zero_le _
  | p :: l => by
    rw [List.flatMap_cons, List.length_append, List.length_cons]
    have := ruleOf_len nums p
    have := rules_len nums l
    omega
theorem pInts_app (a b : List Int) : pInts (a ++ b) = pInts a ++ pInts b := by unfold pInts; rw [List.map_append]
theorem own_pInts {a b : List Int} {x : Str} {ρ : Rho} {d : Int} (h : ρ.lookup x = some (.own (pInts a ++ [.int d]))) (e : b = a ++ [d]) : ρ.lookup x = some (.own (pInts b)) := by rw [e, pInts_app]; exact h

set_option maxHeartbeats 8000000 in
theorem fn_symbols (w : World) (nums : List Int) (hok : NumsOk nums) : Fn PG w (KK w) 1 (.ref 87) [.list (pInts nums)] (.list (pInts (symbolsF nums))) := by
  refine fn_body ["numbers"] rfl rfl rfl rfl rfl rfl rfl rfl rfl rfl ?_ rfl rfl (by decide) rfl ?_
  · intro vs h
    match vs, h with
    | [x], _ => rfl
  · intro C Fo
    have line := line3
    refine ex_newList Fo.ok evs_nil (Fo.sl rfl) ?_
    refine ex_forW (l := List.range 4) (g := fun (n : Nat) => PD.int (n : Nat)) (f := fun d ρ => ("place", .val d) :: ρ) Fo.ok
      (fun qs => [("row", .own (pInts (qs.flatMap (ruleOf nums)))), ("numbers", .val (.list (pInts nums)))])
      (itb_range (m := 4) (Fo.gb rfl rfl boot_range) (evs_cons (ev_int _ _ _) evs_nil) (by omega) (by omega)) rfl (fun d _ => binds_name Fo.ok (Fo.sl rfl)) ?_ ?_ ?_
    · repeat (first | exact LeR.nil | refine LeR.cons rfl ?_)
    · intro pre p post hds
      have hp : p < 4 := by
        have : p ∈ List.range 4 := by rw [hds]; simp
        exact List.mem_range.mp this
      have hpl : pre.length < 4 := by
        have := congrArg List.length hds
        rw [List.length_range, List.length_append, List.length_cons] at this; omega
      have hrl := rules_len nums pre
      rw [List.flatMap_append, List.flatMap_cons, List.flatMap_nil, List.append_nil]
      generalize pre.flatMap (ruleOf nums) = row₀ at hrl
      have hpi : (pInts nums)[((p : Nat) : Int).toNat]? = some (.int (nums.getD p 0)) := by rw [Int.toNat_natCast]; exact pInts_get (by rw [hok.len]; omega)
      unfold ruleOf
      generalize nums.getD p 0 = n at hpi
      have hn3 : 0 ≤ n % 3 ∧ n % 3 < 3 := ⟨Int.emod_nonneg _ (by decide), Int.emod_lt_of_pos _ (by decide)⟩
      refine ex_append Fo.ok rfl (ev_binop (ev_int _ _ _) (ev_name Fo.ok rfl) op_add) ?_ (by rw [pInts_len]; omega)
      refine ex_assign Fo.ok (ev_binop (ev_sub (ev_name Fo.ok rfl) (ev_name Fo.ok rfl) (op_item (by omega) hpi (by omega))) (ev_int _ _ _) (op_div (by decide) (by decide))) (Fo.sl rfl) ?_
      refine ex_weaken (ρ' := [("rest", .val (.int (n / 3))), ("row", .own (pInts (row₀ ++ [256 + (p : Int)] ++ []))), ("place", .val (.int (p : Nat))), ("numbers", .val (.list (pInts nums)))]) ?_
        (by show LeR _ _; refine LeR.cons rfl (LeR.cons (own_pInts (d := 256 + (p : Int)) rfl (by simp)) (LeR.cons rfl (LeR.cons rfl LeR.nil))))
      refine ex_forM (l := List.range (1 + n % 3).toNat) (g := fun (n : Nat) => PD.int (n : Nat)) (f := fun d ρ => ("turn", .val d) :: ρ) Fo.ok
        (itb_range (m := 1 + n % 3) (Fo.gb rfl rfl boot_range) (evs_cons (ev_binop (ev_int _ _ _) (ev_binop (ev_sub (ev_name Fo.ok rfl) (ev_name Fo.ok rfl) (op_item (by omega) hpi (by omega))) (ev_int _ _ _) (op_mod (by decide))) op_add) evs_nil) (by omega) (by omega)) rfl (fun d _ => binds_name Fo.ok (Fo.sl rfl))
        (fun qs ρ' => ∃ done rest', done.length = qs.length ∧ ρ' = ([("rest", .val (.int rest')), ("row", .own (pInts (row₀ ++ [256 + (p : Int)] ++ done))), ("place", .val (.int (p : Nat))), ("numbers", .val (.list (pInts nums)))] : Rho) ∧ ∀ j, bodyOf p (qs.length + j) (n / 3) = done ++ bodyOf p j rest')
        ⟨[], n / 3, rfl, rfl, fun j => by rw [List.length_nil, Nat.zero_add]; rfl⟩ ?_ ?_
      · rintro pre' t post' ρ' hds' ⟨done, rest', hdl, rfl, hj⟩
        have hql : pre'.length < 3 := by
          have := congrArg List.length hds'
          rw [List.length_range, List.length_append, List.length_cons] at this; omega
        have hstep := fun j => hj (j + 1)
        have hf8 : 0 ≤ rest' % 8 ∧ rest' % 8 < 8 := ⟨Int.emod_nonneg _ (by decide), Int.emod_lt_of_pos _ (by decide)⟩
        have fin : ∀ {ρ₂ : Rho}, ρ₂.lookup ("rest" : Str) = some (.val (.int (rest' / 8))) → ρ₂.lookup ("row" : Str) = some (.own (pInts (row₀ ++ [256 + (p : Int)] ++ done) ++ [.int (symOf p (rest' % 8))])) → ρ₂.lookup ("place" : Str) = some (.val (.int (p : Nat))) → ρ₂.lookup ("numbers" : Str) = some (.val (.list (pInts nums))) →
            ∃ ρ₃, (∃ done rest', done.length = (pre' ++ [t]).length ∧ ρ₃ = ([("rest", .val (.int rest')), ("row", .own (pInts (row₀ ++ [256 + (p : Int)] ++ done))), ("place", .val (.int (p : Nat))), ("numbers", .val (.list (pInts nums)))] : Rho) ∧ ∀ j, bodyOf p ((pre' ++ [t]).length + j) (n / 3) = done ++ bodyOf p j rest') ∧ LeR ρ₃ ρ₂ := fun h1 h2 h3 h4 => by
          refine ⟨_, ⟨done ++ [symOf p (rest' % 8)], rest' / 8, by simp [hdl], rfl, fun j => ?_⟩, LeR.cons h1 (LeR.cons (own_pInts h2 (by simp)) (LeR.cons h3 (LeR.cons h4 LeR.nil)))⟩
          have := hj (1 + j)
          rw [show (pre' ++ [t]).length + j = pre'.length + (1 + j) by simp; omega, this, show 1 + j = j + 1 by omega, bodyOf, List.append_assoc]; rfl
        have hsz : (pInts (row₀ ++ [256 + (p : Int)] ++ done)).length ≤ sizeLine := by rw [pInts_len, List.length_append, List.length_append, List.length_singleton]; omega
        refine ex_assign Fo.ok (ev_binop (ev_name Fo.ok rfl) (ev_int _ _ _) (op_mod (by decide))) (Fo.sl rfl) ?_
        refine ex_assign Fo.ok (ev_binop (ev_name Fo.ok rfl) (ev_int _ _ _) (op_div (by decide) (by decide))) (Fo.sl rfl) ?_
        refine ex_if (et_cmp (ev_name Fo.ok rfl) (ev_int _ _ _) op_lt) (fun h => ?_) (fun h => ?_)
        · have h5 : rest' % 8 < 5 := by simpa using h
          have hs : symOf p (rest' % 8) = [7, 8, 3, 23, 52].getD (rest' % 8).toNat 0 := if_pos h5
          refine ex_append Fo.ok rfl (ev_sub (ev_list (ds := pInts [7, 8, 3, 23, 52]) (evs_cons (ev_int _ _ _) (evs_cons (ev_int _ _ _) (evs_cons (ev_int _ _ _) (evs_cons (ev_int _ _ _) (evs_cons (ev_int _ _ _) evs_nil))))) (by rw [pInts_len]; show 5 ≤ _; omega)) (ev_name Fo.ok rfl) (op_item hf8.1 (pInts_get (by show _ < 5; omega)) (by omega))) (ex_nil (ex_nil (fin rfl ?_ rfl rfl))) hsz
          rw [hs]; rfl
        · have h5 : ¬ rest' % 8 < 5 := by simpa using h
          refine ex_if (et_cmp (ev_binop (ev_binop (ev_name Fo.ok rfl) (ev_name Fo.ok rfl) op_add) (ev_int _ _ _) op_sub) (ev_int _ _ _) op_lt) (fun h => ?_) (fun h => ?_)
          · have hs : symOf p (rest' % 8) = 252 + p + rest' % 8 := (if_neg h5).trans (if_pos (by simpa using h))
            refine ex_append Fo.ok rfl (ev_binop (ev_binop (ev_int _ _ _) (ev_name Fo.ok rfl) op_add) (ev_name Fo.ok rfl) op_add) (ex_nil (ex_nil (ex_nil (fin rfl ?_ rfl rfl)))) hsz
            rw [hs]; rfl
          · have hs : symOf p (rest' % 8) = [7, 8, 3].getD (rest' % 8 - 5).toNat 0 := (if_neg h5).trans (if_neg (by simpa using h))
            refine ex_append Fo.ok rfl (ev_sub (ev_list (ds := pInts [7, 8, 3]) (evs_cons (ev_int _ _ _) (evs_cons (ev_int _ _ _) (evs_cons (ev_int _ _ _) evs_nil))) (by rw [pInts_len]; show 3 ≤ _; omega)) (ev_binop (ev_name Fo.ok rfl) (ev_int _ _ _) op_sub) (op_item (by omega) (pInts_get (by show _ < 3; omega)) (by omega))) (ex_nil (ex_nil (ex_nil (fin rfl ?_ rfl rfl)))) hsz
            rw [hs]; rfl
      · rintro ρ' ⟨done, rest', hdl, rfl, hj⟩
        have h0 := hj 0
        rw [List.length_range] at h0 hdl
        rw [Nat.add_zero] at h0
        rw [h0, bodyOf, List.append_nil]
        refine ex_append Fo.ok rfl (ev_int _ _ _) (ex_nil (LeR.cons (own_pInts (d := 0) rfl ?_) (LeR.cons rfl LeR.nil))) (by rw [pInts_len, List.length_append, List.length_append, List.length_singleton]; omega)
        simp
    · have hrl := rules_len nums (List.range 4)
      unfold symbolsF
      generalize (List.range 4).flatMap (ruleOf nums) = row₀ at hrl
      rw [List.length_range] at hrl
      have hpi : (pInts nums)[(4 : Int).toNat]? = some (.int (nums.getD 4 0)) := pInts_get (by rw [hok.len]; decide)
      generalize nums.getD 4 0 = n at hpi
      have hn5 : 0 ≤ n % 5 ∧ n % 5 < 5 := ⟨Int.emod_nonneg _ (by decide), Int.emod_lt_of_pos _ (by decide)⟩
      refine ex_append Fo.ok rfl (ev_int _ _ _) ?_ (by rw [pInts_len]; omega)
      refine ex_assign Fo.ok (ev_binop (ev_sub (ev_name Fo.ok rfl) (ev_int _ _ _) (op_item (by decide) hpi (by decide))) (ev_int _ _ _) (op_div (by decide) (by decide))) (Fo.sl rfl) ?_
      refine ex_weaken (ρ' := [("rest", .val (.int (n / 5))), ("row", .own (pInts (row₀ ++ [260] ++ []))), ("numbers", .val (.list (pInts nums)))]) ?_
        (by show LeR _ _; refine LeR.cons rfl (LeR.cons (own_pInts (d := 260) rfl (by simp)) (LeR.cons rfl LeR.nil)))
      refine ex_forM (l := List.range (1 + n % 5).toNat) (g := fun (n : Nat) => PD.int (n : Nat)) (f := fun d ρ => ("turn", .val d) :: ρ) Fo.ok
        (itb_range (m := 1 + n % 5) (Fo.gb rfl rfl boot_range) (evs_cons (ev_binop (ev_int _ _ _) (ev_binop (ev_sub (ev_name Fo.ok rfl) (ev_int _ _ _) (op_item (by decide) hpi (by decide))) (ev_int _ _ _) (op_mod (by decide))) op_add) evs_nil) (by omega) (by omega)) rfl (fun d _ => binds_name Fo.ok (Fo.sl rfl))
        (fun qs ρ' => ∃ done rest', done.length = qs.length ∧ ρ' = ([("rest", .val (.int rest')), ("row", .own (pInts (row₀ ++ [260] ++ done))), ("numbers", .val (.list (pInts nums)))] : Rho) ∧ ∀ j, wantOf (qs.length + j) (n / 5) = done ++ wantOf j rest')
        ⟨[], n / 5, rfl, rfl, fun j => by rw [List.length_nil, Nat.zero_add]; rfl⟩ ?_ ?_
      · rintro pre' t post' ρ' hds' ⟨done, rest', hdl, rfl, hj⟩
        have hql : pre'.length < 5 := by
          have := congrArg List.length hds'
          rw [List.length_range, List.length_append, List.length_cons] at this; omega
        have hf4 : 0 ≤ rest' % 4 ∧ rest' % 4 < 4 := ⟨Int.emod_nonneg _ (by decide), Int.emod_lt_of_pos _ (by decide)⟩
        have hsz : (pInts (row₀ ++ [260] ++ done)).length ≤ sizeLine := by rw [pInts_len, List.length_append, List.length_append, List.length_singleton]; omega
        refine ex_append Fo.ok rfl (ev_sub (ev_list (ds := pInts [7, 8, 23, 52]) (evs_cons (ev_int _ _ _) (evs_cons (ev_int _ _ _) (evs_cons (ev_int _ _ _) (evs_cons (ev_int _ _ _) evs_nil)))) (by rw [pInts_len]; show 4 ≤ _; omega)) (ev_binop (ev_name Fo.ok rfl) (ev_int _ _ _) (op_mod (by decide))) (op_item hf4.1 (pInts_get (by show _ < 4; omega)) (by omega))) ?_ hsz
        refine ex_assign Fo.ok (ev_binop (ev_name Fo.ok rfl) (ev_int _ _ _) (op_div (by decide) (by decide))) (Fo.sl rfl) (ex_nil ⟨_, ⟨done ++ [[7, 8, 23, 52].getD (rest' % 4).toNat 0], rest' / 4, by simp [hdl], rfl, fun j => ?_⟩, LeR.cons rfl (LeR.cons (own_pInts rfl (by simp)) (LeR.cons rfl LeR.nil))⟩)
        have := hj (1 + j)
        rw [show (pre' ++ [t]).length + j = pre'.length + (1 + j) by simp; omega, this, show 1 + j = j + 1 by omega, wantOf, List.append_assoc]; rfl
      · rintro ρ' ⟨done, rest', hdl, rfl, hj⟩
        have h0 := hj 0
        rw [List.length_range] at h0 hdl
        rw [Nat.add_zero] at h0
        rw [h0, wantOf, List.append_nil]
        refine ex_append Fo.ok rfl (ev_int _ _ _) (ex_freeze (x := "row") rfl (ex_ret (ev_name Fo.ok rfl) ?_)) (by rw [pInts_len, List.length_append, List.length_append, List.length_singleton]; omega)
        rw [show row₀ ++ 260 :: (done ++ [0]) = row₀ ++ [260] ++ done ++ [0] by simp, pInts_app (row₀ ++ [260] ++ done)]; rfl
end Mine
end -- F13

section -- F14
open PySem PySem.W PyProof.Rows PySem.Calls
open Builtin Builtin.Str
set_option maxRecDepth 100000
set_option linter.unusedSectionVars false
set_option linter.unusedVariables false
namespace Mine

noncomputable def oct1 (n : Int) : List Int := if n > 63 then [64 + n / 64, n % 64] else [n % 64]
noncomputable def octetsF (row : List Int) : List Int := row.flatMap oct1
theorem oct1_len (n : Int) : (oct1 n).length ≤ 2 := by unfold oct1; split <;> simp
theorem octetsF_len : ∀ row : List Int, (octetsF row).length ≤ 2 * row.length
  | [] => Nat.zero_le _
  | n :: r => by
    unfold octetsF
    rw [List.flatMap_cons, List.length_append, List.length_cons]
    have := oct1_len n
    have := octetsF_len r
    unfold octetsF at this
    omega
theorem pInts_map (l : List Int) : pInts l = l.map PD.int := rfl

set_option maxHeartbeats 8000000 in
theorem fn_octets (w : World) (row : List Int) (hl : row.length ≤ 100) (hb : ∀ n ∈ row, 0 ≤ n ∧ n ≤ 4095) : Fn PG w (KK w) 1 (.ref 94) [.list (pInts row)] (.list (pInts (octetsF row))) := by
  refine fn_body ["row"] rfl rfl rfl rfl rfl rfl rfl rfl rfl rfl ?_ rfl rfl (by decide) rfl ?_
  · intro vs h
    match vs, h with
    | [x], _ => rfl
  · intro C Fo
    have line := line3
    refine ex_assign Fo.ok (ev_list (ds := []) evs_nil) (Fo.sl rfl) ?_
    refine ex_forW (l := row) (g := PD.int) (f := fun d ρ => ("number", .val d) :: ρ) Fo.ok
      (fun qs => [("octets", .val (.list (pInts (octetsF qs)))), ("row", .val (.list (pInts row)))]) (itb_list (ev_name Fo.ok rfl)) rfl (fun d _ => binds_name Fo.ok (Fo.sl rfl)) ?_ ?_ ?_
    · repeat (first | exact LeR.nil | refine LeR.cons rfl ?_)
    · intro pre n post hds
      have hn := hb n (by rw [hds]; simp)
      have hpl : pre.length < 100 := by
        have := congrArg List.length hds
        rw [List.length_append, List.length_cons] at this; omega
      have hol := octetsF_len pre
      have ho1 := oct1_len n
      have happ : octetsF (pre ++ [n]) = octetsF pre ++ oct1 n := by unfold octetsF; simp
      rw [happ]
      generalize octetsF pre = os at hol
      refine ex_assign Fo.ok (ev_list (ds := pInts [n % 64]) (evs_cons (ev_binop (ev_name Fo.ok rfl) (ev_int _ _ _) (op_mod (by decide))) evs_nil) (by rw [pInts_len]; show 1 ≤ _; omega)) (Fo.sl rfl) ?_
      refine ex_whileW (α := Bool) (fun b => b = true → n > 63) (fun b => [("number", .val (.int (if b = true then n / 64 else n))), ("some", .val (.list (pInts (if b = true then [64 + n / 64 % 64, n % 64] else [n % 64])))), ("octets", .val (.list (pInts os))), ("row", .val (.list (pInts row)))])
        (fun b => if b = true then 0 else 1) false nofun ?_ (fun b => decide ((if b = true then n / 64 else n) > 63)) ?_ ?_ ?_
      · show LeR _ _; repeat (first | exact LeR.nil | refine LeR.cons rfl ?_)
      · intro b _
        exact et_cmp (ev_name Fo.ok rfl) (ev_int _ _ _) op_gt
      · intro b _ hb
        cases b with
        | true =>
          have : n / 64 > 63 := by simpa using hb
          omega
        | false =>
          have h63 : n > 63 := by simpa using hb
          refine ex_assign Fo.ok (ev_binop (ev_name Fo.ok rfl) (ev_int _ _ _) (op_div (by decide) (by decide))) (Fo.sl rfl) ?_
          refine ex_assign Fo.ok (d := .list (pInts [64 + n / 64 % 64] ++ pInts [n % 64])) (ev_binop (ev_list (ds := pInts [64 + n / 64 % 64]) (evs_cons (ev_binop (ev_int _ _ _) (ev_binop (ev_name Fo.ok rfl) (ev_int _ _ _) (op_mod (by decide))) op_add) evs_nil) (by rw [pInts_len]; show 1 ≤ _; omega)) (ev_name Fo.ok rfl) (op_cat (by rw [pInts_len]; show 1 + 1 ≤ _; omega))) (Fo.sl rfl) (ex_nil ⟨true, Nat.zero_lt_one, fun _ => h63, ?_⟩)
          show LeR _ _; repeat (first | exact LeR.nil | refine LeR.cons rfl ?_)
      · intro b hb1 hb
        have e : (if b = true then [64 + n / 64 % 64, n % 64] else [n % 64]) = oct1 n := by
          cases b with
          | true =>
            have := hb1 rfl
            have h2 : n / 64 % 64 = n / 64 := by omega
            rw [if_pos rfl, oct1, if_pos this, h2]
          | false =>
            have : ¬ n > 63 := by simpa using hb
            rw [if_neg (by decide), oct1, if_neg this]
        rw [e]
        refine ex_assign Fo.ok (d := .list (pInts os ++ pInts (oct1 n))) (ev_binop (ev_name Fo.ok rfl) (ev_name Fo.ok rfl) (op_cat (by rw [pInts_len, pInts_len]; omega))) (Fo.sl rfl) (ex_nil ?_)
        rw [pInts_app]
        repeat (first | exact LeR.nil | refine LeR.cons rfl ?_)
    · exact ex_ret (ev_name Fo.ok rfl) rfl
end Mine
end -- F14

section -- L14
open PySem PySem.W PyProof.Rows PySem.Calls
open Builtin Builtin.Str
set_option maxRecDepth 100000
set_option linter.unusedSectionVars false
set_option linter.unusedVariables false
namespace Mine

/-- a new dict of its own -/
noncomputable def NewD (s : Shared) (G : Rdr) (ps : List (Int × PD)) (v : Value) (s' : Shared) : Prop :=
  PureStep s s' ∧ ∃ a es k G', v = .ref a ∧ GExt s G G' s' ∧ G' a = none ∧ s.heap.get? a = none ∧ s'.heap.get? a = some (dctO es k) ∧ RdE G' ps es.toList ∧ (ps.map (·.1)).Nodup
noncomputable def EVD (C : Cx) (ρ : Rho) (e : Expr) (ps : List (Int × PD)) : Prop :=
  ∀ ⦃X : Ext⦄ (s : Shared) (G : Rdr) (ow : Str → Addr), St C X ρ s G ow → wpAny C.M C.A (eval e C.env) (fun v s' => NewD s G ps v s') NoE s

section
variable {C : Cx} {n : Nat} {ρ : Rho} {P : Out → Prop} {rest : List Stmt}
theorem evd_empty {pos : Pos} : EVD C ρ (.Dict [] [] pos) [] := fun X s G ow S => by
  refine wpAny_Dict_empty ?_
  have hg := g_size S.rd
  exact ⟨.push _ _ s.toks, _, #[], _, G, rfl, .same fun a o e => Heap.get?_push_of_some _ (S.rd a o e), hg, get_size _, Heap.get?_push_size _ rfl, .nil, .nil⟩

theorem evd_one {k : Int} {x : Str} {c₁ c₂ : Nat} {p₁ p₂ pos : Pos} : EVD C ρ (.Dict [some (.Constant (.int k) c₁ p₁)] [.Constant (.str x) c₂ p₂] pos) [(k, .str x)] := fun X s G ow S => by
  refine wpAny_Dict_walk (knd := intKind C.prog C.w) rfl rfl (List.cons_ne_nil _ _) (by show 1 ≤ 15; decide) ?_
  refine evalPairs_cons (wpAny_Constant_int (wpAny_bind ?_))
  show wpAny _ _ (mkText x) _ _ _
  refine wpAny_mkText (wpAny_bind (wpAny_standAt (wpAny_pure (evalPairs_nil ?_))))
  have hg := g_size S.rd
  refine ⟨[(k, .str x _)], ⟨by simp [intKind, Value.isInt], rfl, trivial⟩, ⟨_, #[], 0, Heap.get?_push_size _ rfl, ⟨rfl, rfl, rfl⟩, rfl, (fun e he => absurd he (Array.not_mem_empty e)), .nil, .nil⟩, fun h' hd hs => ?_⟩
  have hm : merged ([] : List (Int × Value)) [(k, .str x (s.toks + 1))] = [(k, .str x (s.toks + 1))] := rfl
  obtain ⟨es, n, c1, c2, c3⟩ := RdE.of_dictOf (G := G) (ps := [(k, .str x)]) hd rfl (.cons (.str _ _) .nil)
  have keep : ∀ b o, s.heap.get? b = some o → h'.get? b = some o := fun b o e => hs.extBut b o (Nat.ne_of_lt (Heap.lt_size e)) (Heap.get?_push_of_some _ e)
  exact ⟨⟨keep, fun _ _ e => e, fun e => e, rfl⟩, _, es, n, G, rfl, .same fun a o e => keep a o (S.rd a o e), hg, get_size _, c1, c2, c3⟩

/-- x = e, e a new dict: x's own -/
theorem ex_assignD (hC : COk C n) {x : Str} {px pos : Pos} {e : Expr} {ps : List (Int × PD)} (he : EVD C ρ e ps) (hk : CanStore C x) (h : EX C ((x, .ownd ps) :: ρ) rest P)
    (hs : swapsWith e (some (.Name x px)) pos.line C.env = pure false := by rfl) : EX C ρ (.Assign [.Name x px] e pos :: rest) P := ex_cons fun X s G ow S => by
  refine wpAny_Assign_Name (wpAny_mono (he s G ow S) (fun v s' r => ?_) fun _ _ f => f.elim) hs
  obtain ⟨p, a, es, k, G', rfl, g, h1, h2, h3, h4, h5⟩ := r
  have S' := S.grow p g
  have fr : SlotOwn C X ρ G' ow x a (.ownd ps) := fun ho => by
    obtain ⟨_, q2, q3, q4⟩ := S.freshAt x (.ownd ps) h2 ho
    exact ⟨h1, q2, q3, q4⟩
  refine wpAny_mono (S'.store hC hk (sl := .ownd ps) ⟨rfl, es, k, h3, h4, h5⟩ fr) (fun _ s'' h'' => ?_) fun _ _ f => f
  exact ⟨.next _, h, G', _, h''⟩
end
end Mine
end -- L14

section -- F15
open PySem PySem.W PyProof.Rows PySem.Calls
open Builtin Builtin.Str
set_option maxRecDepth 100000
set_option linter.unusedSectionVars false
set_option linter.unusedVariables false
namespace Mine

noncomputable abbrev tk (s : Str) (t : Tok) (n : Int) (u : Tok) : Str × Tok × Int × Tok := (s, t, n, u)
noncomputable def exactToks : List (Str × Tok × Int × Tok) := [tk "!" 350 54 346, tk "!=" 352 28 294, tk "%" 354 24 286, tk "%=" 356 40 318, tk "&" 358 19 276, tk "&=" 360 41 320, tk "(" 362 7 252, tk ")" 364 8 254, tk "*" 366 16 270, tk "**" 368 35 308, tk "**=" 370 46 330, tk "*=" 372 38 314, tk "+" 374 14 266, tk "+=" 376 36 310, tk "," 378 12 262, tk "-" 380 15 268, tk "-=" 382 37 312, tk "->" 384 51 340, tk "." 386 23 284, tk "..." 388 52 342, tk "/" 390 17 272, tk "//" 392 47 332, tk "//=" 394 48 334, tk "/=" 396 39 316, tk ":" 398 11 260, tk ":=" 400 53 344, tk ";" 402 13 264, tk "<" 404 20 278, tk "<<" 406 33 304, tk "<<=" 408 44 326, tk "<=" 410 29 296, tk "=" 412 22 282, tk "==" 414 27 292, tk ">" 416 21 280, tk ">=" 418 30 298, tk ">>" 419 34 306, tk ">>=" 420 45 328, tk "@" 421 49 336, tk "@=" 422 50 338, tk "[" 423 9 256, tk "]" 424 10 258, tk "^" 425 32 302, tk "^=" 426 43 324, tk "{" 427 25 288, tk "|" 428 18 274, tk "|=" 429 42 322, tk "}" 430 26 290, tk "~" 431 31 300]
noncomputable def exactKvs : List (Str × Value) := exactToks.map fun e => (e.1, .int e.2.2.1 e.2.2.2)
noncomputable def exactEs (w : World) : Array DictEntry := (exactToks.map fun e => (⟨PyData.keyHash w.params e.1, .str e.1 e.2.1, .int e.2.2.1 e.2.2.2⟩ : DictEntry)).toArray
set_option maxRecDepth 1000000 in
theorem exact_obj (w : World) : ∃ ep, (KK w).lookup 50 = some ⟨.type "dict", none, .dict (exactEs w) ep, #[]⟩ := ⟨_, rfl⟩

theorem exact_pairs {prog : Program} {w : World} : ∀ l : List (Str × Tok × Int × Tok), Pairs (PySem.strKind prog w) (l.map fun e => (⟨PyData.keyHash w.params e.1, .str e.1 e.2.1, .int e.2.2.1 e.2.2.2⟩ : DictEntry)) (l.map fun e => (e.1, Value.int e.2.2.1 e.2.2.2))
  | [] => .nil
  | e :: l => .cons (by simp [PySem.strKind, Value.isStrOf]) rfl (exact_pairs l)
theorem exact_nodup : (exactKvs.map (·.1)).Nodup := by decide +kernel
theorem exact_at (prog : Program) (w : World) : ∃ ep, ∀ h : Heap, GOk (KK w) h → h.DictAt (PySem.strKind prog w) 50 exactKvs ep := by
  obtain ⟨ep, e⟩ := exact_obj w
  refine ⟨ep, fun h g => ⟨_, exactEs w, g.kin _ _ e, ⟨rfl, rfl, rfl⟩, rfl, ?_, ?_, exact_nodup⟩⟩
  · intro x hx
    obtain ⟨y, hy, rfl⟩ := List.mem_map.mp (List.mem_toArray.mp hx)
    exact ⟨y.1, by simp [PySem.strKind, Value.isStrOf], rfl⟩
  · exact exact_pairs exactToks

theorem yd_keys {prog : Program} {w : World} {it : Addr} {ep : Nat} (hat : ∀ h : Heap, GOk (KK w) h → h.DictAt (PySem.strKind prog w) 50 exactKvs ep) : ∀ {rest : List (Str × Value)} {i : Nat} {G : Rdr} {o : Obj}, rest = exactKvs.drop i → i ≤ exactKvs.length → G it = none → o.cls = .type "dict_keyiterator" → o.data = .fields #[.ref 50, .int i 0, .int exactKvs.length 0, .int ep 0] →
    Yd (KK w) (model prog w) (.ref it) (rest.map fun kv => PD.str kv.1) G (one it o) noG
  | [], i, G, o, hr, hi, hg, hc, hf => And.intro (isIt_one hc (by decide)) fun A s r y => by
    have hi' : i = exactKvs.length := by
      have := congrArg List.length hr
      rw [List.length_drop] at this
      simp at this; omega
    subst hi'
    exact wpAny_pyNext_dict_end r.hnd ⟨o, y.h _ _ (one_self _ _), hc, hf⟩ (hat _ y.gok) (by simp) fun h' he => ⟨rfl, upd_one (t := s.toks) y.bare he⟩
  | kv :: rest, i, G, o, hr, hi, hg, hc, hf => And.intro (isIt_one hc (by decide)) fun A s r y => by
    have hlt : i < exactKvs.length := by
      have := congrArg List.length hr
      rw [List.length_drop] at this
      simp at this; omega
    have hdi : exactKvs[i]? = some kv ∧ rest = exactKvs.drop (i + 1) := by
      rw [List.drop_eq_getElem_cons hlt] at hr
      obtain ⟨a, b⟩ := List.cons_eq_cons.mp hr
      exact ⟨by rw [List.getElem?_eq_getElem hlt, a], b⟩
    refine wpAny_pyNext_dict_item (k := kv.1) (v := kv.2) ⟨o, y.h _ _ (one_self _ _), hc, hf⟩ (hat _ y.gok) hdi.1 fun key h' hkey hit hs => ?_
    obtain ⟨t, rfl⟩ := Value.isStrOf_shape hkey
    obtain ⟨o', e1, e2, e3⟩ := hit
    exact ⟨_, rfl, upd_one (t := s.toks) y.bare hs.extBut, G, one it o', noG, .str _ _, next_one (t := s.toks) y hg hs.extBut e1, yd_keys hat hdi.2 hlt hg e2 e3⟩

section
variable {C : Cx} {w : World} {n : Nat} {nm : List (Str × NameKind)} {ρ : Rho}
theorem itb_keys (F : FO C w n nm) {px : Pos} (e1 : nm.lookup ("EXACT_TOKEN_TYPES" : Str) = some .globalImplicit) : Itb C ρ (.Name "EXACT_TOKEN_TYPES" px) (exactKvs.map fun kv => PD.str kv.1) := fun X s G ow S => by
  have hv : EV C ρ (.Name "EXACT_TOKEN_TYPES" px) (.raw (.ref 50)) := F.gr e1 rfl
  refine wpAny_mono (hv s G ow S) (fun v s₁ r => ?_) fun _ _ f => f
  obtain ⟨p, G₁, g, hr⟩ := r
  cases hr.raw_inv
  obtain ⟨ep, hat⟩ := exact_at C.prog C.w
  have S₁ := S.grow p g
  have hK : C.K = KK C.w := by rw [F.K, F.hw]
  refine wpAny_pyIter_dict (by decide) (hat _ (hK ▸ S₁.gok)) ⟨G₁, _, noG, itNew_push p g rfl ?_⟩
  rw [hK]
  exact yd_keys hat (rest := exactKvs) (i := 0) rfl (Nat.zero_le _) (g_size g.rd) rfl rfl

theorem op_exact (F : FO C w n nm) {value slice : Expr} {k : Str} {i : Int} (hi : ∃ t, valueAt exactKvs k = some (.int i t)) (hs : noSlice slice := by intro _ _; with_unfolding_all rfl) :
    OP2 C (subscriptTail value slice) (.raw (.ref 50)) (.str k) (.int i) := fun A s G v₁ v₂ V h1 h2 => by
  obtain ⟨t, rfl⟩ := h2.str_inv
  cases h1.raw_inv
  obtain ⟨u, hu⟩ := hi
  obtain ⟨ep, hat⟩ := exact_at C.prog C.w
  have hK : C.K = KK C.w := by rw [F.K, F.hw]
  have hm := (hat _ (hK ▸ V.gok)).dictOf.mapOf
  exact tail_any hm.typeIs slot_dict_getitem.lookup (wpAny_getItem_of (by simp [PySem.strKind, Value.isStrOf]) hm hu (Res.toks V.rd (.int _ _))) (hs _ _)
end

noncomputable def signStep (ps : List (Int × PD)) (e : Str × Tok × Int × Tok) : List (Int × PD) := storeD ps e.2.2.1 (.str e.1)
noncomputable def signsD : List (Int × PD) := exactToks.foldl signStep [(3, .str (Str.ofString "\""))]

theorem valueAt_mem : ∀ (l : List (Str × Tok × Int × Tok)), (l.map (·.1)).Nodup → ∀ e ∈ l, valueAt (l.map fun e => (e.1, Value.int e.2.2.1 e.2.2.2)) e.1 = some (.int e.2.2.1 e.2.2.2)
  | [], _, e, h => nomatch h
  | a :: l, nd, e, h => by
    rw [List.map_cons, List.nodup_cons] at nd
    unfold valueAt
    rw [List.map_cons, List.find?_cons]
    rcases List.mem_cons.mp h with rfl | h
    · rw [decide_eq_true rfl]; rfl
    · have : decide ((a.1, Value.int a.2.2.1 a.2.2.2).1 = e.1) = false := decide_eq_false fun q => nd.1 (by
        have q : a.1 = e.1 := q
        rw [q]; exact List.mem_map.mpr ⟨e, h, rfl⟩)
      rw [this]
      exact valueAt_mem l nd.2 e h
theorem exact_val (e : Str × Tok × Int × Tok) (h : e ∈ exactToks) : ∃ t, valueAt exactKvs e.1 = some (.int e.2.2.1 t) := by
  have nd : (exactToks.map (·.1)).Nodup := by
    have := exact_nodup
    unfold exactKvs at this
    rw [List.map_map] at this
    exact this
  exact ⟨_, valueAt_mem exactToks nd e h⟩
theorem storeD_len (ps : List (Int × PD)) (k : Int) (d : PD) : (storeD ps k d).length ≤ ps.length + 1 := by
  unfold storeD
  split
  · rw [List.length_map]; omega
  · rw [List.length_append]; exact Nat.le_refl _
theorem signs_len : ∀ (l : List (Str × Tok × Int × Tok)) (ps : List (Int × PD)), (l.foldl signStep ps).length ≤ ps.length + l.length
  | [], _ => Nat.le_refl _
  | e :: l, ps => by
    have h1 := signs_len l (signStep ps e)
    have h2 := storeD_len ps e.2.2.1 (.str e.1)
    rw [List.foldl_cons, List.length_cons]
    unfold signStep at h1 ⊢
    omega

set_option maxHeartbeats 8000000 in
theorem fn_spelled (w : World) : Fn PG w (KK w) 1 (.ref 115) [] (.dict signsD) := by
  refine fn_body [] rfl rfl rfl rfl rfl rfl rfl rfl rfl rfl ?_ rfl rfl (by decide) rfl ?_
  · intro vs h
    match vs, h with
    | [], _ => rfl
  · intro C Fo
    have line := line3
    refine ex_assignD Fo.ok evd_one (Fo.sl rfl) ?_
    refine ex_forW (l := exactToks) (g := fun e => PD.str e.1) (f := fun d ρ => ("sign", .val d) :: ρ) Fo.ok
      (fun qs => [("signs", .ownd (qs.foldl signStep [(3, .str (Str.ofString "\""))]))]) (itb_keys Fo rfl) (by unfold exactKvs; rw [List.map_map]; rfl) (fun d _ => binds_name Fo.ok (Fo.sl rfl)) ?_ ?_ ?_
    · repeat (first | exact LeR.nil | refine LeR.cons rfl ?_)
    · intro pre e post hds
      refine ex_setItemD Fo.ok rfl (ev_name Fo.ok rfl) (ev_sub (Fo.gr rfl rfl) (ev_name Fo.ok rfl) (op_exact Fo (exact_val e (by rw [hds]; simp)))) (ex_nil ?_) ?_
      · rw [List.foldl_append]
        refine LeR.cons rfl LeR.nil
      · have h1 := signs_len pre [(3, .str (Str.ofString "\""))]
        have h2 : pre.length ≤ 48 := by
          have := congrArg List.length hds
          rw [List.length_append] at this
          have h48 : exactToks.length = 48 := rfl
          omega
        rw [List.length_singleton] at h1
        omega
    · exact ex_freezeD (x := "signs") rfl (ex_ret (ev_name Fo.ok rfl) rfl)
end Mine
end -- F15

section -- F16a
open PySem PySem.W PyProof.Rows PySem.Calls
open Builtin Builtin.Str
set_option maxRecDepth 100000
set_option linter.unusedSectionVars false
set_option linter.unusedVariables false
namespace Mine
theorem want_text {syms : List Int} {T : Int → List Nat} {want : List Nat} (hw : syms.flatMap T = want) : PySem.Txt.join (Str.ofString "") ((syms.map T).map txt) = txt want := by rw [flat_join, ← hw, List.flatMap]
theorem want_fits {syms : List Int} {T : Int → List Nat} (hl : syms.length ≤ 1000) (ht : ∀ s ∈ syms, (T s).length ≤ 1000) : JoinOk (Str.ofString "") ((syms.map T).map txt) = true := by
  unfold JoinOk
  rw [StrLaws.joinFits (B := 1000)]
  · rfl
  · intro y hy
    obtain ⟨z, hz, rfl⟩ := List.mem_map.mp hy
    obtain ⟨s, hs, rfl⟩ := List.mem_map.mp hz
    rw [txt_len]; exact ht s hs
  · rw [List.length_map, List.length_map]
    have h0 : (Str.ofString "").length = 0 := rfl
    rw [h0]; omega
set_option maxHeartbeats 8000000 in
theorem ev_wants {C : Cx} {w : World} {n : Nat} {nm : List (Str × NameKind)} {ρ : Rho} (Fo : FO C w n nm) (hk : nm.lookup ("signs" : Str) = some .cell) {rules signs : List (Int × PD)} {syms : List Int} {T : Int → List Nat}
    (h1 : ρ.lookup ("rules" : Str) = some (Slot.val (.dict rules))) (h2 : ρ.lookup ("signs" : Str) = some (Slot.val (.dict signs))) (hR : rules.lookup 260 = some (.list (pInts syms))) (hS : ∀ s ∈ syms, signs.lookup s = some (.str (txt (T s))))
    (hl : syms.length ≤ 1000) {k1 : Nat} {p2 p3 p4 p5 p6 p7 p8 p9 : Pos} {scope : Scope} (hsn : scope.names = [((".0" : Str), NameKind.local), (("symbol" : Str), NameKind.local), (("signs" : Str), NameKind.free)]) (hkind : scope.kind = .function) :
    EV C ρ (.ListComp (.Subscript (.Name "signs" p2) (.Name "symbol" p3) p4) [⟨.Name "symbol" p5, .Subscript (.Name "rules" p6) (.Constant (.int 260) k1 p7) p8, [], 0⟩] scope p9) (.list (pStrs ((syms.map T).map txt))) := by
  have line := line3
  have e2 : pStrs ((syms.map T).map txt) = ((pInts syms).filter fun _ => true).map fun d => match d with | .int s => .str (txt (T s)) | d => d := by
    rw [List.filter_eq_self.mpr fun _ _ => rfl]
    unfold pStrs pInts
    rw [List.map_map, List.map_map, List.map_map]; rfl
  rw [e2]
  refine ev_comp1 Fo (y := "signs") (dy := .dict signs) (itbc_list (ev_sub (ev_name Fo.ok h1) (ev_int _ _ _) (op_ditem hR))) h2 hk hsn rfl [("symbol", .local)] rfl ?_ ?_ (by rw [pInts_len]; omega) (fun c h => by simp [closureFor, cellOf, h, hsn]) rfl (hkind := hkind)
  · intro C' F' d hd
    exact ets_nil
  · intro C' F' d hd ht
    obtain ⟨s, hs, rfl⟩ := List.mem_map.mp hd
    exact ev_sub (ev_name F'.ok rfl) (ev_name F'.ok rfl) (op_ditem (hS s hs))
end Mine
end -- F16a

section -- F16
open PySem PySem.W PyProof.Rows PySem.Calls
open Builtin Builtin.Str
set_option maxRecDepth 100000
set_option linter.unusedSectionVars false
set_option linter.unusedVariables false
namespace Mine

section
variable {C : Cx}
theorem op_neBool {a b : Bool} : OP2 C (compareOp .NotEq) (.bool a) (.bool b) (.bool (!(a == b))) := fun A s G v₁ v₂ V h1 h2 => by
  cases h1.bool_inv; cases h2.bool_inv
  exact SeqAt.RcNeAt.bool_bool a b C.prog C.w NoE _ (Res.refl V.rd (.bool _))
end
theorem boot_isi : bootBuiltins "isinstance" = some (.builtin "isinstance") := by decide +kernel
theorem boot_bool : bootBuiltins "bool" = some (.type "bool") := by decide +kernel

/-- what is told of a head's symbols -/
noncomputable def tellOne (items : List Item) (T : Int → List Nat) (made : List (Int × Part)) (s : Int) : Part := if s < 256 then toldF items s (T s) else (made.lookup s).getD ⟨[], .unit, []⟩
noncomputable def tellHead (items : List Item) (T : Int → List Nat) (made : List (Int × Part)) (syms : List Int) : Part := syms.foldl (fun acc s => addPart acc (tellOne items T made s)) ⟨[], .unit, staysF items⟩
noncomputable def tellAll (items : List Item) (T : Int → List Nat) (R : Int → List Int) (heads : List Int) : List (Int × Part) := heads.foldl (fun made h => made ++ [(h, tellHead items T made (R h))]) []
noncomputable def madeD (made : List (Int × Part)) : List (Int × PD) := made.map fun e => (e.1, partD e.2)

theorem ndL_all : ∀ l : List PD, (∀ d ∈ l, d.nd = true) → PD.ndL l = true
  | [], _ => rfl
  | d :: l, h => by
    rw [PD.ndL, h d (.head _), ndL_all l fun x hx => h x (.tail _ hx)]; rfl
theorem nd_ints (l : List Int) : (PD.list (pInts l)).nd = true := ndL_all _ fun d hd => by
  obtain ⟨i, _, rfl⟩ := List.mem_map.mp hd; rfl
theorem nd_part (p : Part) : (partD p).nd = true := ndL_all _ fun d hd => by
  simp only [List.mem_cons, List.not_mem_nil, or_false] at hd
  rcases hd with rfl | rfl | rfl
  · rfl
  · rfl
  · exact ndL_all _ fun d hd => by
      obtain ⟨r, _, rfl⟩ := List.mem_map.mp hd
      exact nd_ints _

theorem made_lookup (made : List (Int × Part)) (s : Int) : (madeD made).lookup s = (made.lookup s).map partD := by
  unfold madeD
  induction made with
  | nil => rfl
  | cons e r ih =>
    rw [List.map_cons, List.lookup_cons, List.lookup_cons]
    cases s == e.1
    · exact ih
    · rfl

/-- what a head's told part must be -/
structure HeadOk (want : Str) (items : List Item) (p : Part) : Prop where
  len : p.text.length ≤ 1000
  ascii : p.text.all (· < 128) = true
  bs : ∀ c ∈ p.text, c ≠ 92
  mg : MGood items.length p.moves
  closes : parenF (stripF p.text) 0 = closesF p.piece
  fits : ellF want (txt p.text) = decide (items.length ∈ p.moves.getD 0 [])

/-- the parts on the way -/
structure WayOk (items : List Item) (T : Int → List Nat) (made : List (Int × Part)) (syms : List Int) : Prop where
  one : ∀ s ∈ syms, s < 256 → (T s).all (· < 128) = true
  told : ∀ s ∈ syms, s ≥ 256 → ∃ p, made.lookup s = some p
  big : ∀ s ∈ syms, -(2 ^ 60) < s ∧ s < 2 ^ 60
  len : ∀ pre s post, syms = pre ++ s :: post → (tellHead items T made (pre ++ [s])).text.length ≤ 1000
  mg : ∀ s ∈ syms, MGood items.length (tellOne items T made s).moves

theorem tellHead_snoc (items : List Item) (T : Int → List Nat) (made : List (Int × Part)) (pre : List Int) (s : Int) : tellHead items T made (pre ++ [s]) = addPart (tellHead items T made pre) (tellOne items T made s) := by
  unfold tellHead; rw [List.foldl_append]; rfl
theorem tellHead_mg {items : List Item} {T : Int → List Nat} {made : List (Int × Part)} : ∀ (syms : List Int), (∀ s ∈ syms, MGood items.length (tellOne items T made s).moves) → ∀ acc : Part, MGood items.length acc.moves → MGood items.length (syms.foldl (fun acc s => addPart acc (tellOne items T made s)) acc).moves
  | [], _, _, h => h
  | s :: syms, hs, acc, h => tellHead_mg syms (fun x hx => hs x (.tail _ hx)) _ (joinedF_mgood h (hs s (.head _)))

section
variable {C : Cx} {w : World} {n : Nat} {nm : List (Str × NameKind)} {ρ : Rho}
/-- one more symbol -/
theorem ev_told (Fo : FO C w n nm) (hn : 3 ≤ n) {items : List Item} {T : Int → List Nat} {made : List (Int × Part)} {signs : List (Int × PD)} {s : Int} {f p1 p2 p3 p4 p5 : Pos} (hsz : items.length ≤ 2000) (hbig : -(2 ^ 60) < s ∧ s < 2 ^ 60) (e1 : nm.lookup ("_law_told" : Str) = some .globalImplicit)
    (h1 : ρ.lookup ("items" : Str) = some (Slot.val (itsD items))) (h2 : ρ.lookup ("signs" : Str) = some (Slot.val (.dict signs))) (h3 : ρ.lookup ("made" : Str) = some (Slot.ownd (madeD made))) (h4 : ρ.lookup ("symbol" : Str) = some (Slot.val (.int s)))
    (hs : s < 256 → signs.lookup s = some (.str (txt (T s))) ∧ (T s).all (· < 128) = true) (hm : s ≥ 256 → ∃ p, made.lookup s = some p) :
    EV C ρ (.Call (.Name "_law_told" f) [.Name "items" p1, .Name "signs" p2, .Name "made" p3, .Name "symbol" p4] [] p5) (partD (tellOne items T made s)) := by
  refine ev_borrowD (x := "made") h3 (Fo.call e1 rfl rfl (fn_told w items signs (madeD made) s (tellOne items T made s) hsz hbig (fun hge => ?_) (fun hlt => ?_)) ?_ hn) (nd_part _)
  · obtain ⟨p, hp⟩ := hm hge
    rw [made_lookup, tellOne, if_neg (by omega), hp]; rfl
  · obtain ⟨a, b⟩ := hs hlt
    rw [tellOne, if_pos hlt]
    exact ⟨a, b, rfl⟩
  · exact evs_cons (ev_name Fo.ok (by rw [lookup_cons_eq, if_neg (by decide)]; exact h1)) (evs_cons (ev_name Fo.ok (by rw [lookup_cons_eq, if_neg (by decide)]; exact h2)) (evs_cons (ev_name Fo.ok (by rw [lookup_cons_eq, if_pos rfl])) (evs_cons (ev_name Fo.ok (by rw [lookup_cons_eq, if_neg (by decide)]; exact h4)) evs_nil)))
end

theorem tellAll_keys (items : List Item) (T : Int → List Nat) (R : Int → List Int) (l : List Int) : (tellAll items T R l).map (·.1) = l := by
  have key : ∀ (l : List Int) (made : List (Int × Part)), (l.foldl (fun made h => made ++ [(h, tellHead items T made (R h))]) made).map (·.1) = made.map (·.1) ++ l := by
    intro l
    induction l with
    | nil => intro made; simp
    | cons h l ih => intro made; rw [List.foldl_cons, ih]; simp
  exact key l []

set_option maxHeartbeats 8000000 in
theorem fn_holds (w : World) (rules signs : List (Int × PD)) (R : Int → List Int) (T : Int → List Nat) (want : List Nat)
    (hR : ∀ h ∈ [260, 259, 258, 257, 256], rules.lookup h = some (.list (pInts (R h))))
    (hS : ∀ h ∈ [260, 259, 258, 257, 256], ∀ s ∈ R h, s < 256 → signs.lookup s = some (.str (txt (T s))))
    (hW0 : ∀ s ∈ R 260, s < 256) (hWl : (R 260).length ≤ 1000) (hWt : ∀ s ∈ R 260, (T s).length ≤ 1000) (hw : (R 260).flatMap T = want) (hwl : want.length ≤ 1000)
    (hE2 : (occurrences (txt want) dotsS 0 (txt want).length 1).isEmpty = false → 2 ≤ (PySem.Txt.split (txt want) dotsS).length)
    (hE3 : (PySem.Txt.split (txt want) dotsS).length ≤ 2000) (hE4 : ∀ y ∈ PySem.Txt.split (txt want) dotsS, y.length ≤ 1000) (hE5 : (partsBetween (txt want) (occurrences (txt want) dotsS 0 (txt want).length ((txt want).length + 1)) dotsS.length).length ≤ 2000)
    (hway : ∀ pre h post, [260, 259, 258, 257, 256] = pre ++ h :: post → WayOk (itemsF want) T (tellAll (itemsF want) T R pre) (R h))
    (hhead : ∀ pre h post, [260, 259, 258, 257, 256] = pre ++ h :: post → HeadOk (txt want) (itemsF want) (tellHead (itemsF want) T (tellAll (itemsF want) T R pre) (R h))) :
    Fn PG w (KK w) 4 (.ref 186) [.dict rules, .dict signs] (.bool true) := by
  refine fn_body ["rules", "signs"] rfl rfl rfl rfl rfl rfl rfl rfl rfl rfl ?_ rfl rfl (by decide) rfl ?_
  · intro vs h
    match vs, h with
    | [x, y], _ => rfl
  · intro C Fo
    have line := line3
    have hitems : (itemsF want).length ≤ 1000 := Nat.le_trans (itemsF_len _ _ (Nat.le_refl _)) hwl
    refine ex_assign Fo.ok (ev_of (ev_methS (ev_str _ _ _) F.slot_str_join rfl (evs_cons (ev_wants Fo rfl (T := T) rfl rfl (hR 260 (.head _)) (fun s hs => hS 260 (.head _) s hs (hW0 s hs)) hWl rfl rfl) evs_nil) (cl_join (want_fits hWl hWt))) (congrArg PD.str (want_text hw))) (Fo.sl rfl) ?_
    refine ex_assign Fo.ok (Fo.call rfl rfl rfl (fn_items w (txt want) (by rw [txt_len]; exact hwl)) (evs_cons (ev_name Fo.ok rfl) evs_nil)) (Fo.sl rfl) ?_
    rw [txt_toList]
    generalize hit : itemsF want = items at hitems hway hhead
    refine ex_assignD Fo.ok evd_empty (Fo.sl rfl) ?_
    refine ex_forW (l := [260, 259, 258, 257, 256]) (g := PD.int) (f := fun d ρ => ("head", .val d) :: ρ) Fo.ok
      (fun qs => [("made", .ownd (madeD (tellAll items T R qs))), ("items", .val (itsD items)), ("want", .val (.str (txt want))), ("rules", .val (.dict rules)), ("signs", .val (.dict signs))])
      (itb_list (ev_list (ds := pInts [260, 259, 258, 257, 256]) (evs_cons (ev_int _ _ _) (evs_cons (ev_int _ _ _) (evs_cons (ev_int _ _ _) (evs_cons (ev_int _ _ _) (evs_cons (ev_int _ _ _) evs_nil))))) (by rw [pInts_len]; show 5 ≤ _; omega))) rfl (fun d _ => binds_name Fo.ok (Fo.sl rfl)) ?_ ?_ ?_
    · repeat (first | exact LeR.nil | refine LeR.cons rfl ?_)
    · intro pre h post hds
      have hmem : h ∈ [260, 259, 258, 257, 256] := by rw [hds]; simp
      have hW := hway pre h post hds
      have hH := hhead pre h post hds
      have hRh := hR h hmem
      have hSh := hS h hmem
      have hall : tellAll items T R (pre ++ [h]) = tellAll items T R pre ++ [(h, tellHead items T (tellAll items T R pre) (R h))] := by unfold tellAll; rw [List.foldl_append]; rfl
      rw [hall]
      have hk0 := tellAll_keys items T R pre
      have hnk : h ∉ (tellAll items T R pre).map (·.1) := by
        rw [hk0]
        have nd : ([260, 259, 258, 257, 256] : List Int).Nodup := by decide
        rw [hds] at nd
        have := (List.nodup_append.mp nd).2.2
        exact fun hx => this h hx h (.head _) rfl
      have hml : (tellAll items T R pre).length ≤ 5 := by
        have h1 := congrArg List.length hk0
        have h2 := congrArg List.length hds
        rw [List.length_map] at h1
        rw [List.length_append] at h2
        have h3 : ([260, 259, 258, 257, 256] : List Int).length = 5 := rfl
        omega
      generalize tellAll items T R pre = made at hW hH hnk hml
      generalize R h = syms at hW hH hRh hSh
      refine ex_assign Fo.ok (d := .str (txt [])) (ev_str _ _ _) (Fo.sl rfl) ?_
      refine ex_assign Fo.ok (d := pcD .unit) (ev_list (ds := [.int 0, .list [.int 0, .int 0], .list [.int 0, .int 0], .list [.int 0, .int 0]]) (evs_cons (ev_int _ _ _) (evs_cons (ev_list (evs_cons (ev_int _ _ _) (evs_cons (ev_int _ _ _) evs_nil))) (evs_cons (ev_list (evs_cons (ev_int _ _ _) (evs_cons (ev_int _ _ _) evs_nil))) (evs_cons (ev_list (evs_cons (ev_int _ _ _) (evs_cons (ev_int _ _ _) evs_nil))) evs_nil))))) (Fo.sl rfl) ?_
      refine ex_assign Fo.ok (Fo.call rfl rfl rfl (fn_stays w items (by omega)) (evs_cons (ev_name Fo.ok rfl) evs_nil)) (Fo.sl rfl) ?_
      have hkeys : h ∉ made.map (·.1) := hnk
      refine ex_forW (l := syms) (g := PD.int) (f := fun d ρ => ("symbol", .val d) :: ρ) Fo.ok
        (fun qs => [("moves", .val (mvD (tellHead items T made qs).moves)), ("piece", .val (pcD (tellHead items T made qs).piece)), ("text", .val (.str (txt (tellHead items T made qs).text))), ("head", .val (.int h)), ("made", .ownd (madeD made)), ("items", .val (itsD items)), ("want", .val (.str (txt want))), ("rules", .val (.dict rules)), ("signs", .val (.dict signs))])
        (itb_list (ev_sub (ev_name Fo.ok rfl) (ev_name Fo.ok rfl) (op_ditem hRh))) rfl (fun d _ => binds_name Fo.ok (Fo.sl rfl)) ?_ ?_ ?_
      · repeat (first | exact LeR.nil | refine LeR.cons rfl ?_)
      · intro pre' s post' hds'
        have hs : s ∈ syms := by rw [hds']; simp
        have hmg1 := tellHead_mg pre' (fun x hx => hW.mg x (by rw [hds']; exact List.mem_append_left _ hx)) ⟨[], .unit, staysF items⟩ (staysF_mgood items)
        have hmg2 := hW.mg s hs
        have hlen := hW.len pre' s post' hds'
        rw [tellHead_snoc] at hlen
        refine ex_assign Fo.ok (ev_told Fo (by decide) (by omega) (hW.big s hs) rfl rfl rfl rfl rfl (fun hlt => ⟨hSh s hs hlt, hW.one s hs hlt⟩) (hW.told s hs)) (Fo.sl rfl) ?_
        rw [tellHead_snoc]
        change MGood _ (tellHead items T made pre').moves at hmg1
        generalize tellHead items T made pre' = acc at hlen hmg1
        generalize tellOne items T made s = p at hlen hmg2
        have hlen' : acc.text.length + p.text.length ≤ 1000 := by
          have : (acc.text ++ p.text).length ≤ 1000 := hlen
          rwa [List.length_append] at this
        refine ex_assign Fo.ok (ev_binop (ev_name Fo.ok rfl) (ev_sub (ev_name Fo.ok rfl) (ev_int _ _ _) (op_item (by decide) rfl)) (op_addStr (by rw [Str.length_append, txt_len, txt_len]; omega))) (Fo.sl rfl) ?_
        refine ex_assign Fo.ok (Fo.call rfl rfl rfl (fn_both w acc.piece p.piece) (evs_cons (ev_name Fo.ok rfl) (evs_cons (ev_sub (ev_name Fo.ok rfl) (ev_int _ _ _) (op_item (by decide) rfl)) evs_nil))) (Fo.sl rfl) ?_
        refine ex_assign Fo.ok (Fo.call rfl rfl rfl (fn_joined w acc.moves p.moves items.length hmg1 hmg2 (by omega)) (evs_cons (ev_name Fo.ok rfl) (evs_cons (ev_sub (ev_name Fo.ok rfl) (ev_int _ _ _) (op_item (by decide) rfl)) evs_nil))) (Fo.sl rfl) (ex_nil ?_)
        have htx : txt (addPart acc p).text = txt acc.text ++ txt p.text := str_ext (by
          show acc.text ++ p.text = ((txt acc.text).cps ++ (txt p.text).cps).toList
          rw [Array.toList_append]; rfl)
        refine LeR.cons rfl (LeR.cons rfl (LeR.cons (by rw [htx]; rfl) ?_))
        repeat (first | exact LeR.nil | refine LeR.cons rfl ?_)
      · generalize tellHead items T made syms = p at hH
        have hm0 : 0 < p.moves.length := by rw [hH.mg.len]; omega
        refine ex_setItemD Fo.ok rfl (ev_list (ds := [.str (txt p.text), pcD p.piece, mvD p.moves]) (evs_cons (ev_name Fo.ok rfl) (evs_cons (ev_name Fo.ok rfl) (evs_cons (ev_name Fo.ok rfl) evs_nil)))) (ev_name Fo.ok rfl) ?_ ?_
        · refine ex_assign Fo.ok (Fo.call rfl rfl rfl (fn_check w (txt p.text) (by rw [txt_len]; exact hH.len) (by rw [← hH.ascii]; simp [txt]) hH.bs) (evs_cons (ev_name Fo.ok rfl) evs_nil)) (Fo.sl rfl) ?_
          rw [txt_toList, hH.closes]
          refine ex_assign Fo.ok (Fo.call rfl rfl rfl (fn_ell w (txt want) (txt p.text) (by rw [txt_len]; exact hwl) (by rw [txt_len]; exact hH.len) hE2 hE3 hE4 hE5) (evs_cons (ev_name Fo.ok rfl) (evs_cons (ev_name Fo.ok rfl) evs_nil))) (Fo.sl rfl) ?_
          rw [hH.fits]
          refine ex_if (b := false) (et_of (et_or (et_not (et_plain (ev_callB (Fo.gb rfl rfl boot_isi) (evs_cons (ev_name Fo.ok rfl) (evs_cons (Fo.gb rfl rfl boot_bool) evs_nil)) cl_isbool) tr_bool)) fun _ => et_not (et_plain (ev_callB (Fo.gb rfl rfl boot_isi) (evs_cons (ev_name Fo.ok rfl) (evs_cons (Fo.gb rfl rfl boot_bool) evs_nil)) cl_isbool) tr_bool)) rfl) nofun (fun _ => ex_nil ?_)
          have hin : ((p.moves.getD 0 []).map fun (n : Nat) => (n : Int)).contains (items.length : Int) = decide (items.length ∈ p.moves.getD 0 []) := contains_cast _ _
          have hmv : (p.moves.map natsD)[(0 : Int).toNat]? = some (natsD (p.moves.getD 0 [])) := mv_get (p := 0) hm0
          refine ex_if (b := false) (et_of (et_or (et_cmp (ev_name Fo.ok rfl) (Fo.call rfl rfl rfl (fn_closes w p.piece) (evs_cons (ev_name Fo.ok rfl) evs_nil)) op_neBool) fun _ => et_cmp (ev_name Fo.ok rfl) (ev_cmp (ev_callB (Fo.gb rfl rfl boot_len) (evs_cons (ev_name Fo.ok rfl) evs_nil) (by have := cl_len_list (C := C) (ds := items.map itD) (by rw [List.length_map]; omega); rwa [List.length_map] at this)) (ev_sub (ev_name Fo.ok rfl) (ev_int _ _ _) (op_item (by decide) hmv)) op_in) op_neBool) ?_) nofun (fun _ => ex_nil (ex_nil ?_))
          · rw [hin]; simp
          · refine LeR.cons ?_ ?_
            · have : madeD (made ++ [(h, p)]) = storeD (madeD made) h (.list [.str (txt p.text), pcD p.piece, mvD p.moves]) := by
                unfold storeD
                rw [if_neg]
                · unfold madeD; rw [List.map_append]; rfl
                · intro hany
                  obtain ⟨x, hx, he⟩ := List.any_eq_true.mp hany
                  obtain ⟨y, hy, rfl⟩ := List.mem_map.mp hx
                  exact hkeys (List.mem_map.mpr ⟨y, hy, by simpa using he⟩)
              rw [this]; rfl
            · repeat (first | exact LeR.nil | refine LeR.cons rfl ?_)
        · rw [madeD, List.length_map]; omega
    · exact ex_ret (ev_bool _ _ _) rfl
end Mine
end -- F16

section -- M8
open PySem PySem.W PyProof.Rows PySem.Calls
open Builtin Builtin.Str
set_option linter.unusedSectionVars false
set_option linter.unusedVariables false
namespace Mine

/-- a told part says the truth of its text -/
structure PartOk (items : List Item) (B : Nat) (p : Part) : Prop where
  piece : p.piece = pieceT p.text
  mv : MvOk items p.moves p.text
  mg : MGood items.length p.moves
  len : p.text.length ≤ B
  ch : ∀ c ∈ p.text, c = 34 ∨ c = 40 ∨ c = 41 ∨ c = 46
theorem part_start (items : List Item) : PartOk items 0 ⟨[], .unit, staysF items⟩ := ⟨rfl, stays_ok, staysF_mgood items, Nat.le_refl _, nofun⟩
theorem part_add {items : List Item} {B B' : Nat} {p q : Part} (h : PartOk items B p) (k : PartOk items B' q) : PartOk items (B + B') (addPart p q) := by
  refine ⟨?_, h.mv.join k.mv, joinedF_mgood h.mg k.mg, ?_, ?_⟩
  · show bothF p.piece q.piece = pieceT (p.text ++ q.text)
    rw [h.piece, k.piece, pieceT_append]
  · show (p.text ++ q.text).length ≤ _
    rw [List.length_append]
    have := h.len
    have := k.len
    omega
  · intro c hc
    rcases List.mem_append.mp hc with h' | h'
    · exact h.ch c h'
    · exact k.ch c h'
theorem part_mono {items : List Item} {B B' : Nat} {p : Part} (h : PartOk items B p) (hb : B ≤ B') : PartOk items B' p := { h with len := Nat.le_trans h.len hb }

noncomputable def TT (s : Int) : List Nat := if s = 7 then [40] else if s = 8 then [41] else if s = 3 then [34] else if s = 23 then [46] else if s = 52 then [46, 46, 46] else []
noncomputable def Term (s : Int) : Prop := s = 7 ∨ s = 8 ∨ s = 3 ∨ s = 23 ∨ s = 52
theorem part_term {items : List Item} {s : Int} (h : Term s) : PartOk items 3 (toldF items s (TT s)) := by
  refine ⟨?_, told_ok s (TT s), toldF_mgood items s (TT s), ?_, ?_⟩
  · show oneF s = pieceT (TT s)
    rcases h with rfl | rfl | rfl | rfl | rfl <;> rfl
  · show (TT s).length ≤ 3
    rcases h with rfl | rfl | rfl | rfl | rfl <;> decide
  · show ∀ c ∈ TT s, _
    rcases h with rfl | rfl | rfl | rfl | rfl <;> decide
theorem part_fold {items : List Item} {made : List (Int × Part)} {B : Nat} : ∀ (syms : List Int) (acc : Part) (A : Nat), PartOk items A acc → (∀ s ∈ syms, PartOk items B (tellOne items TT made s)) → PartOk items (A + syms.length * B) (syms.foldl (fun acc s => addPart acc (tellOne items TT made s)) acc)
  | [], _, A, h, _ => part_mono h (by simp)
  | s :: syms, acc, A, h, hs => by
    have := part_fold syms _ (A + B) (part_add h (hs s (.head _))) fun x hx => hs x (.tail _ hx)
    refine part_mono this ?_
    rw [List.length_cons, Nat.succ_mul]; omega
theorem part_head {items : List Item} {made : List (Int × Part)} {B : Nat} {syms : List Int} (hs : ∀ s ∈ syms, PartOk items B (tellOne items TT made s)) : PartOk items (syms.length * B) (tellHead items TT made syms) := by
  have := part_fold syms _ 0 (part_start items) hs
  rwa [Nat.zero_add] at this

theorem headOk_of {want : List Nat} {p : Part} {B : Nat} (h : PartOk (itemsF want) B p) (hB : B ≤ 1000) : HeadOk (txt want) (itemsF want) p := by
  refine ⟨Nat.le_trans h.len hB, ?_, ?_, h.mg, ?_, ?_⟩
  · rw [List.all_eq_true]
    intro c hc
    rcases h.ch c hc with rfl | rfl | rfl | rfl <;> decide
  · intro c hc
    rcases h.ch c hc with rfl | rfl | rfl | rfl <;> decide
  · rw [h.piece, check_closes]
  · have e := ell_mat (txt want) (txt p.text)
    rw [txt_toList, txt_toList, ← runs_mat, ← h.mv.iff 0 (Nat.zero_le _)] at e
    rw [Bool.eq_iff_iff, e, decide_eq_true_eq]
end Mine
end -- M8

section -- M9
open PySem PySem.W PyProof.Rows PySem.Calls
open Builtin Builtin.Str
set_option linter.unusedSectionVars false
set_option linter.unusedVariables false
namespace Mine

noncomputable def RR (nums : List Int) (h : Int) : List Int := if h = 260 then wantOf (1 + nums.getD 4 0 % 5).toNat (nums.getD 4 0 / 5) else bodyOf (h - 256) (1 + nums.getD (h - 256).toNat 0 % 3).toNat (nums.getD (h - 256).toNat 0 / 3)

theorem symOf_ok {p f : Int} (hp : 0 ≤ p ∧ p < 4) (hf : 0 ≤ f ∧ f < 8) : Term (symOf p f) ∨ (256 + p < symOf p f ∧ symOf p f ≤ 259) := by
  unfold symOf
  by_cases h : f < 5
  · rw [if_pos h]
    left
    have : f = 0 ∨ f = 1 ∨ f = 2 ∨ f = 3 ∨ f = 4 := by omega
    unfold Term
    rcases this with rfl | rfl | rfl | rfl | rfl <;> decide
  · rw [if_neg h]
    by_cases h2 : p + f - 4 < 4
    · rw [if_pos h2]; right; omega
    · rw [if_neg h2]
      left
      have : f = 5 ∨ f = 6 ∨ f = 7 := by omega
      unfold Term
      rcases this with rfl | rfl | rfl <;> decide
theorem bodyOf_ok {p : Int} (hp : 0 ≤ p ∧ p < 4) : ∀ (k : Nat) (r : Int), ∀ s ∈ bodyOf p k r, Term s ∨ (256 + p < s ∧ s ≤ 259)
  | 0, _ => nofun
  | k + 1, r => fun s hs => by
    rcases List.mem_cons.mp hs with rfl | h
    · exact symOf_ok hp ⟨Int.emod_nonneg _ (by decide), Int.emod_lt_of_pos _ (by decide)⟩
    · exact bodyOf_ok hp k _ s h
theorem wantOf_ok : ∀ (k : Nat) (r : Int), ∀ s ∈ wantOf k r, Term s
  | 0, _ => nofun
  | k + 1, r => fun s hs => by
    rcases List.mem_cons.mp hs with rfl | h
    · have h0 := Int.emod_nonneg r (b := 4) (by decide)
      have h1 := Int.emod_lt_of_pos r (b := 4) (by decide)
      have : r % 4 = 0 ∨ r % 4 = 1 ∨ r % 4 = 2 ∨ r % 4 = 3 := by omega
      unfold Term
      rcases this with e | e | e | e <;> rw [e] <;> decide
    · exact wantOf_ok k _ s h
theorem RR_len (nums : List Int) (h : Int) (hh : h ≠ 260) : (RR nums h).length ≤ 3 := by
  unfold RR
  rw [if_neg hh, bodyOf_len]
  have := Int.emod_lt_of_pos (nums.getD (h - 256).toNat 0) (b := 3) (by decide)
  omega
theorem RR_len260 (nums : List Int) : (RR nums 260).length ≤ 5 := by
  unfold RR
  rw [if_pos rfl, wantOf_len]
  have := Int.emod_lt_of_pos (nums.getD 4 0) (b := 5) (by decide)
  omega
theorem RR_ok (nums : List Int) {h : Int} (hh : 256 ≤ h ∧ h ≤ 259) : ∀ s ∈ RR nums h, Term s ∨ (h < s ∧ s ≤ 259) := by
  unfold RR
  rw [if_neg (by omega)]
  intro s hs
  have := bodyOf_ok (p := h - 256) (by omega) _ _ s hs
  rcases this with h' | h'
  · exact .inl h'
  · exact .inr (by omega)
theorem RR_ok260 (nums : List Int) : ∀ s ∈ RR nums 260, Term s := by
  unfold RR
  rw [if_pos rfl]
  exact wantOf_ok _ _

theorem Term.lt {s : Int} (h : Term s) : s < 256 ∧ 0 < s := by rcases h with rfl | rfl | rfl | rfl | rfl <;> decide
theorem one_term {items : List Item} {made : List (Int × Part)} {s : Int} (h : Term s) : PartOk items 3 (tellOne items TT made s) := by
  unfold tellOne
  rw [if_pos h.lt.1]
  exact part_term h
theorem one_made {items : List Item} {made : List (Int × Part)} {s : Int} {p : Part} {B : Nat} (hs : s ≥ 256) (hm : made.lookup s = some p) (h : PartOk items B p) : PartOk items B (tellOne items TT made s) := by
  unfold tellOne
  rw [if_neg (by omega), hm]; exact h

/-- what holds of a head's symbols when `made` is known -/
structure Ready (items : List Item) (made : List (Int × Part)) (syms : List Int) (B k : Nat) : Prop where
  each : ∀ s ∈ syms, PartOk items B (tellOne items TT made s)
  sym : ∀ s ∈ syms, Term s ∨ (256 ≤ s ∧ s ≤ 260 ∧ ∃ p, made.lookup s = some p)
  len : syms.length ≤ k
theorem Ready.way {items : List Item} {made : List (Int × Part)} {syms : List Int} {B k : Nat} (h : Ready items made syms B k) (hb : k * B ≤ 1000) : WayOk items TT made syms := by
  refine ⟨fun s hs hlt => ?_, fun s hs hge => ?_, fun s hs => ?_, fun pre s post e => ?_, fun s hs => (h.each s hs).mg⟩
  · rcases h.sym s hs with h' | h'
    · rcases h' with rfl | rfl | rfl | rfl | rfl <;> decide
    · omega
  · rcases h.sym s hs with h' | h'
    · have := h'.lt; omega
    · exact h'.2.2
  · rcases h.sym s hs with h' | h'
    · have := h'.lt; omega
    · omega
  · have := (part_head (items := items) (made := made) (syms := pre ++ [s]) (B := B) (fun x hx => h.each x (by rw [e]; rcases List.mem_append.mp hx with q | q; exact List.mem_append_left _ q; rw [List.mem_singleton.mp q]; simp))).len
    have hl := h.len
    rw [e, List.length_append, List.length_cons] at hl
    rw [List.length_append, List.length_singleton] at this
    refine Nat.le_trans this (Nat.le_trans (Nat.mul_le_mul_right B (by omega)) hb)
theorem Ready.head {items : List Item} {made : List (Int × Part)} {syms : List Int} {B k : Nat} (h : Ready items made syms B k) : PartOk items (k * B) (tellHead items TT made syms) :=
  part_mono (part_head h.each) (Nat.mul_le_mul_right B h.len)

theorem lookup_snoc (made : List (Int × Part)) (h : Int) (p : Part) (s : Int) (hn : h ∉ made.map (·.1)) : (made ++ [(h, p)]).lookup s = if s = h then some p else made.lookup s := by
  induction made with
  | nil =>
    rw [List.nil_append, List.lookup_cons]
    by_cases e : s = h
    · rw [if_pos e, e, beq_self_eq_true]
    · rw [if_neg e, beq_eq_false_iff_ne.mpr e]
  | cons a r ih =>
    rw [List.map_cons, List.mem_cons] at hn
    rw [List.cons_append, List.lookup_cons, List.lookup_cons]
    by_cases e : s = a.1
    · rw [e, beq_self_eq_true, if_neg]
      exact fun q => hn (.inl q.symm)
    · rw [beq_eq_false_iff_ne.mpr e]
      exact ih fun q => hn (.inr q)

noncomputable def Has (items : List Item) (made : List (Int × Part)) (h : Int) (B : Nat) : Prop := ∀ s, h < s → s ≤ 259 → ∃ p, made.lookup s = some p ∧ PartOk items B p
theorem ready_of {items : List Item} {made : List (Int × Part)} {nums : List Int} {h : Int} {B : Nat} (hh : 256 ≤ h ∧ h ≤ 259) (hB : 3 ≤ B) (hm : Has items made h B) : Ready items made (RR nums h) B 3 := by
  refine ⟨fun s hs => ?_, fun s hs => ?_, RR_len nums h (by omega)⟩
  · rcases RR_ok nums hh s hs with h' | ⟨h1, h2⟩
    · exact part_mono (one_term h') hB
    · obtain ⟨p, hp, ok⟩ := hm s h1 h2
      exact one_made (by omega) hp ok
  · rcases RR_ok nums hh s hs with h' | ⟨h1, h2⟩
    · exact .inl h'
    · obtain ⟨p, hp, ok⟩ := hm s h1 h2
      exact .inr ⟨by omega, by omega, p, hp⟩
theorem ready_260 {items : List Item} {made : List (Int × Part)} {nums : List Int} : Ready items made (RR nums 260) 3 5 :=
  ⟨fun s hs => one_term (RR_ok260 nums s hs), fun s hs => .inl (RR_ok260 nums s hs), RR_len260 nums⟩
theorem has_next {items : List Item} {made : List (Int × Part)} {h : Int} {B : Nat} {p : Part} (hm : Has items made h B) (hp : PartOk items (3 * B) p) (hn : h ∉ made.map (·.1)) : Has items (made ++ [(h, p)]) (h - 1) (3 * B) := fun s h1 h2 => by
  rw [lookup_snoc _ _ _ _ hn]
  by_cases e : s = h
  · rw [if_pos e]; exact ⟨p, rfl, hp⟩
  · rw [if_neg e]
    obtain ⟨q, hq, ok⟩ := hm s (by omega) h2
    exact ⟨q, hq, part_mono ok (by omega)⟩
theorem tellAll_snoc (items : List Item) (T : Int → List Nat) (R : Int → List Int) (pre : List Int) (h : Int) : tellAll items T R (pre ++ [h]) = tellAll items T R pre ++ [(h, tellHead items T (tellAll items T R pre) (R h))] := by unfold tellAll; rw [List.foldl_append]; rfl
theorem has_step {items : List Item} {nums : List Int} {pre : List Int} {h : Int} {B : Nat} (hh : 256 ≤ h ∧ h ≤ 259) (hB : 3 ≤ B) (hm : Has items (tellAll items TT (RR nums) pre) h B) (hn : h ∉ pre) : Has items (tellAll items TT (RR nums) (pre ++ [h])) (h - 1) (3 * B) := by
  rw [tellAll_snoc]
  exact has_next hm (ready_of hh hB hm).head (by rw [tellAll_keys]; exact hn)

theorem all_ready (items : List Item) (nums : List Int) (pre : List Int) (h : Int) (post : List Int) (e : ([260, 259, 258, 257, 256] : List Int) = pre ++ h :: post) :
    ∃ B k, k * B ≤ 1000 ∧ Ready items (tellAll items TT (RR nums) pre) (RR nums h) B k := by
  have h1 : Has items (tellAll items TT (RR nums) [260]) 259 3 := fun s a b => by omega
  have h2 : Has items (tellAll items TT (RR nums) [260, 259]) 258 9 := has_step (pre := [260]) (by decide) (by decide) h1 (by decide)
  have h3 : Has items (tellAll items TT (RR nums) [260, 259, 258]) 257 27 := has_step (pre := [260, 259]) (by decide) (by decide) h2 (by decide)
  have h4 : Has items (tellAll items TT (RR nums) [260, 259, 258, 257]) 256 81 := has_step (pre := [260, 259, 258]) (by decide) (by decide) h3 (by decide)
  rcases pre with _ | ⟨a, _ | ⟨b, _ | ⟨c, _ | ⟨d, _ | ⟨f, pre⟩⟩⟩⟩⟩
  · cases e; exact ⟨3, 5, by decide, ready_260⟩
  · cases e; exact ⟨3, 3, by decide, ready_of (by decide) (by decide) h1⟩
  · cases e; exact ⟨9, 3, by decide, ready_of (by decide) (by decide) h2⟩
  · cases e; exact ⟨27, 3, by decide, ready_of (by decide) (by decide) h3⟩
  · cases e; exact ⟨81, 3, by decide, ready_of (by decide) (by decide) h4⟩
  · have := congrArg List.length e
    simp at this
theorem all_way (items : List Item) (nums : List Int) (pre : List Int) (h : Int) (post : List Int) (e : ([260, 259, 258, 257, 256] : List Int) = pre ++ h :: post) : WayOk items TT (tellAll items TT (RR nums) pre) (RR nums h) := by
  obtain ⟨B, k, hb, r⟩ := all_ready items nums pre h post e
  exact r.way hb
theorem all_heads (want : List Nat) (nums : List Int) (pre : List Int) (h : Int) (post : List Int) (e : ([260, 259, 258, 257, 256] : List Int) = pre ++ h :: post) : HeadOk (txt want) (itemsF want) (tellHead (itemsF want) TT (tellAll (itemsF want) TT (RR nums) pre) (RR nums h)) := by
  obtain ⟨B, k, hb, r⟩ := all_ready (itemsF want) nums pre h post e
  exact headOk_of r.head hb
end Mine
end -- M9

section -- F17
open PySem PySem.W PyProof.Rows PySem.Calls
open Builtin Builtin.Str
set_option maxRecDepth 100000
set_option linter.unusedSectionVars false
set_option linter.unusedVariables false
namespace Mine

theorem signs_get : ∀ s, Term s → signsD.lookup s = some (.str (txt (TT s))) := by
  intro s hs
  rcases hs with rfl | rfl | rfl | rfl | rfl
  · rfl
  · rfl
  · rfl
  · rfl
  · rfl
theorem splitL_len : ∀ (n : Nat) (l : List Nat), l.length ≤ n → (splitL l).length ≤ l.length + 1 ∧ ∀ y ∈ splitL l, y.length ≤ l.length
  | _, [], _ => ⟨Nat.le_refl _, by decide⟩
  | 0, _ :: _, h => by simp at h
  | n + 1, a :: l, h => by
    have hl : l.length ≤ n := by simpa using h
    by_cases q : (a :: l).take 3 = [46, 46, 46]
    · rw [splitL_dots _ q]
      have hd : ((a :: l).drop 3).length ≤ n := by rw [List.length_drop, List.length_cons]; omega
      obtain ⟨h1, h2⟩ := splitL_len n _ hd
      rw [List.length_drop] at h1
      refine ⟨by rw [List.length_cons, List.length_cons] at *; omega, fun y hy => ?_⟩
      rcases List.mem_cons.mp hy with rfl | hy
      · exact Nat.zero_le _
      · have := h2 y hy; rw [List.length_drop] at this; omega
    · obtain ⟨p, ps, e1, e2⟩ := splitL_sign a l q
      obtain ⟨h1, h2⟩ := splitL_len n l hl
      rw [e2]
      rw [e1] at h1 h2
      simp only [List.length_cons] at h1 ⊢
      refine ⟨by omega, fun y hy => ?_⟩
      rcases List.mem_cons.mp hy with rfl | hy
      · have := h2 p (.head _); simp only [List.length_cons]; omega
      · have := h2 y (.tail _ hy); omega
noncomputable def wantT (nums : List Int) : List Nat := (RR nums 260).flatMap TT
theorem TT_len {s : Int} (h : Term s) : (TT s).length ≤ 3 := by rcases h with rfl | rfl | rfl | rfl | rfl <;> decide
theorem wantT_len (nums : List Int) : (wantT nums).length ≤ 15 := by
  have key : ∀ l : List Int, (∀ s ∈ l, Term s) → (l.flatMap TT).length ≤ 3 * l.length := by
    intro l
    induction l with
    | nil => intro _; exact Nat.le_refl _
    | cons a l ih =>
      intro h
      rw [List.flatMap_cons, List.length_append, List.length_cons]
      have h1 := TT_len (h a (.head _))
      have h2 := ih fun s hs => h s (.tail _ hs)
      omega
  have h1 := key _ (RR_ok260 nums)
  have h2 := RR_len260 nums
  unfold wantT
  omega

theorem holds_nums (w : World) (nums : List Int) (rules : List (Int × PD)) (hR : ∀ h ∈ [260, 259, 258, 257, 256], rules.lookup h = some (.list (pInts (RR nums h)))) : Fn PG w (KK w) 4 (.ref 186) [.dict rules, .dict signsD] (.bool true) := by
  have hwl := wantT_len nums
  have hsp := splitL_len _ (wantT nums) (Nat.le_refl _)
  have hse : PySem.Txt.split (txt (wantT nums)) dotsS = (splitL (wantT nums)).map txt := split_eq (txt (wantT nums))
  refine fn_holds w rules signsD (RR nums) TT (wantT nums) hR (fun h hh s hs hlt => ?_) (fun s hs => (RR_ok260 nums s hs).lt.1) (Nat.le_trans (RR_len260 nums) (by decide)) (fun s hs => Nat.le_trans (TT_len (RR_ok260 nums s hs)) (by decide)) rfl (by omega) (fun he => ?_) ?_ ?_ ?_ (fun pre h post e => all_way _ nums pre h post e) (fun pre h post e => all_heads (wantT nums) nums pre h post e)
  · by_cases e : h = 260
    · subst e; exact signs_get s (RR_ok260 nums s hs)
    · have hb : 256 ≤ h ∧ h ≤ 259 := by
        simp only [List.mem_cons, List.not_mem_nil, or_false] at hh
        omega
      rcases RR_ok nums hb s hs with h' | h'
      · exact signs_get s h'
      · omega
  · rw [hse, List.length_map]
    obtain ⟨p, ps, e⟩ := splitL_ne _ (wantT nums) (Nat.le_refl _)
    cases ps with
    | nil =>
      have h1 := splitL_single _ _ e
      rw [← h1] at e
      have := (isEmpty_iff (txt (wantT nums))).mpr e
      rw [this] at he; cases he
    | cons q r => rw [e]; simp
  · rw [hse, List.length_map]; omega
  · rw [hse]
    intro y hy
    obtain ⟨z, hz, rfl⟩ := List.mem_map.mp hy
    rw [txt_len]
    have := hsp.2 z hz
    omega
  · obtain ⟨f, hG, hn⟩ := StrLaws.occ_tight (txt (wantT nums)) dotsS (by decide)
    have hp := parts_split _ 0 f hG hn
    have := congrArg List.length hp
    rw [List.length_map, List.drop_zero] at this
    rw [StrLaws.partsBetween_eq]
    show (StrLaws.partsFrom _ 3 0 _).length ≤ 2000
    rw [this]
    have := hsp.1
    show (splitL (wantT nums)).length ≤ 2000
    omega
end Mine
end -- F17

section -- L15
open PySem PySem.W PyProof.Rows PySem.Calls
open Builtin Builtin.Str
set_option maxRecDepth 100000
set_option linter.unusedSectionVars false
set_option linter.unusedVariables false
namespace Mine
section
variable {C : Cx} {n : Nat} {ρ : Rho} {P : Out → Prop} {rest : List Stmt} {X : Ext} {s : Shared} {G Gk H : Rdr} {g : Nat → Option GenState} {ow : Str → Addr}
/-- what was kept apart is frozen -/
theorem St.freezeX (L : LoopX X H g Gk) (hB : ∃ hB : Heap, GOk C.K hB ∧ ∀ a o, hB.get? a = some o → X.h a = some o) (S : St C (joinX X H g Gk) ρ s G ow) : St C X ρ s (G.or H) ow := by
  have SX := S.drop L hB
  have hH : ∀ a, (joinX X H g Gk).h a = none → H a = none := fun a e => by
    have e : (X.h a).or (H a) = none := e
    cases q : H a with
    | none => rfl
    | some o => rw [(L.disj a (by rw [q]; exact nofun)).1, q] at e; cases e
  exact { SX with
    rd := fun a o e => by
      rcases Rdr.or_some e with h | ⟨_, h⟩
      · exact S.rd a o h
      · exact (S.itIn L).h a o h
    g0 := SX.g0.trans (Rdr.or_left _ _)
    new := fun a o e => by
      rcases Rdr.or_some e with h | ⟨_, h⟩
      · exact SX.new a o h
      · exact .inr (L.disj a (by rw [h]; exact nofun)).1
    cellG := fun h x c e => let ⟨o, q⟩ := SX.cellG h x c e; ⟨o, Rdr.or_left _ _ _ _ q⟩
    fp := fun a h => ⟨Rdr.or_none (SX.fp a h).1 (hH a (S.fp a h).2), (SX.fp a h).2⟩
    loc := fun x sl e => by
      obtain ⟨v, h1, h2⟩ := SX.loc x sl e
      refine ⟨v, h1, ?_⟩
      cases sl with
      | val d => exact Rd.mono (Rdr.or_left _ _) h2
      | own ds => exact h2.keeps (fun o e => e) (Rdr.or_left _ _)
      | ownd ps => exact h2.keeps (fun o e => e) (Rdr.or_left _ _)
    own := fun x h => ⟨Rdr.or_none (SX.own x h).1 (hH _ (S.own x h).2.1), (SX.own x h).2⟩ }

theorem joinX_swap {He : Rdr} {Gk' : Rdr} (hd : ∀ a, He a ≠ none → H a = none) : joinX (joinX X H g Gk) He noG Gk' = joinX X (He.or H) g Gk' := by
  unfold joinX
  dsimp only
  congr 1
  · funext a
    show ((X.h a).or (H a)).or (He a) = (X.h a).or ((He a).or (H a))
    cases q : He a with
    | none => simp
    | some o => rw [hd a (by rw [q]; exact nofun)]; simp
  · funext i
    show ((X.g i).or (g i)).or none = _
    simp

theorem joinX_assoc {He : Rdr} {Gk' : Rdr} : joinX (joinX X He noG Gk') H g Gk = joinX X (He.or H) g Gk := by
  unfold joinX
  dsimp only
  congr 1
  · funext a
    show ((X.h a).or (He a)).or (H a) = (X.h a).or ((He a).or (H a))
    cases X.h a <;> simp
  · funext i
    show ((X.g i).or none).or (g i) = (X.g i).or (g i)
    simp

/-- a loop whose turns change objects that are kept apart (He) -/
theorem for_acc (hC : COk C n) {target iter : Expr} {body : List Stmt} {pos : Pos} {ds : List PD} {f : PD → Rho → Rho} {He₀ : Rdr} (L₀ : LoopX X He₀ noG Gk) (hB : ∃ hB : Heap, GOk C.K hB ∧ ∀ a o, hB.get? a = some o → X.h a = some o)
    (S : St C (joinX X He₀ noG Gk) ρ s G ow) (hit : Itb C ρ iter ds) (hb : ∀ d, d ∈ ds → Binds C target d (f d)) (I : List PD → Rdr → Rho → Prop) (h0 : I [] He₀ ρ)
    (hbody : ∀ pre d post He ρ', ds = pre ++ d :: post → I pre He ρ' → ∀ (Xb : Ext) (Gb : Rdr) (s : Shared) (G : Rdr) (ow : Str → Addr), LoopX Xb He noG Gb → (∃ hB : Heap, GOk C.K hB ∧ ∀ a o, hB.get? a = some o → Xb.h a = some o) → St C (joinX Xb He noG Gb) (f d ρ') s G ow →
      wpAny C.M C.A (execs body C.env) (fun fl s' => fl = .next ∧ ∃ He' ρ₂ Gb' G' ow', I (pre ++ [d]) He' ρ₂ ∧ LoopX Xb He' noG Gb' ∧ St C (joinX Xb He' noG Gb') ρ₂ s' G' ow') NoE s)
    {Q : Flow → Shared → Prop}
    (he : ∀ He ρ' Gb s G ow, I ds He ρ' → LoopX X He noG Gb → St C (joinX X He noG Gb) ρ' s G ow → Q .next s)
    (hs : ∀ x, foldedSetIterable iter C.env x = pure x := by intro _; rfl) : wpAny C.M C.A (exec (.For target iter body [] pos) C.env) Q NoE s := by
  refine wpAny_For (wpAny_mono (hit s G ow S) (fun x s₁ h₁ => wpAny_mono h₁ (fun it s₂ h₂ => ?_) fun _ _ f => f.elim) fun _ _ f => f.elim) hs
  obtain ⟨G', H, g, N⟩ := h₂
  have S₂ := S.grow N.pure N.ext
  have hHe : ∀ a, He₀ a ≠ none → H a = none := fun a ha => by
    cases q : H a with
    | none => rfl
    | some o =>
      have h1 := (N.hnew a (by rw [q]; exact nofun)).1
      cases q2 : He₀ a with
      | none => exact absurd q2 ha
      | some o2 => have := (S.itIn L₀).h a o2 q2; rw [h1] at this; cases this
  have L : LoopX X (He₀.or H) g G' := {
    disj := fun a ha => by
      by_cases q : He₀ a = none
      · have hH : H a ≠ none := fun e => ha (Rdr.or_none q e)
        refine ⟨?_, (N.hnew a hH).2⟩
        cases q2 : X.h a with
        | none => rfl
        | some o => exact absurd (N.hnew a hH).1 (by rw [S.keep a o (Rdr.or_left _ _ a o q2)]; exact nofun)
      · exact ⟨(L₀.disj a q).1, S₂.disj L₀ a q⟩
    disg := fun i hi => by
      cases q : X.g i with
      | none => rfl
      | some o => exact absurd (N.gnew i hi) (by rw [S.keepg i o (by show (X.g i).or none = _; rw [q]; rfl)]; exact nofun)
    sub := L₀.sub.trans (S.g0.trans N.ext.sub)
    new := (S₂.drop L₀ hB).new }
  have hH0 : ∀ a, s.heap.get? a ≠ none → H a = none := fun a ha => by
    cases q : H a with
    | none => rfl
    | some o => exact absurd (N.hnew a (by rw [q]; exact nofun)).1 ha
  have S₃ : St C (joinX X (He₀.or H) g G') ρ s₂ G' ow := { S₂ with
    keep := fun a o e => by
      rcases Rdr.or_some e with h | ⟨h1, h⟩
      · exact S₂.keep a o (Rdr.or_left _ _ a o h)
      · rcases Rdr.or_some h with h | ⟨_, h⟩
        · exact (S₂.itIn L₀).h a o h
        · exact N.h a o h
    keepg := fun i y e => by
      have e' : (X.g i).or (g i) = some y := e
      cases q : X.g i with
      | some z => rw [q] at e'; cases e'; exact S₂.keepg i _ (by show (X.g i).or none = _; rw [q]; rfl)
      | none => rw [q] at e'; exact N.gg i y e'
    ok := let ⟨h, a, b⟩ := hB; ⟨h, a, fun x o e => Rdr.or_left _ _ x o (b x o e)⟩
    g0 := .refl G'
    new := fun a o e => .inl e
    fp := fun a ha => by
      have h1 := S₂.fp a ha
      have hh : s.heap.get? a ≠ none := by
        rcases ha with rfl | ⟨_, x, hx⟩
        · obtain ⟨m, o', _, _, e, _⟩ := S.ns; rw [e]; exact nofun
        · obtain ⟨v, o', e, _⟩ := S.cell x a hx; rw [e]; exact nofun
      exact ⟨h1.1, Rdr.or_none (or_ne_left h1.2) (Rdr.or_none (or_ne_right h1.2) (hH0 a hh))⟩
    own := fun x hx => by
      have h1 := S₂.own x hx
      have hh : s.heap.get? (ow x) ≠ none := by
        obtain ⟨sl, e, ho⟩ := hx
        obtain ⟨v, _, hr⟩ := S.loc x sl e
        cases sl with
        | val d => cases ho
        | own ds => obtain ⟨_, vs, k, q, _⟩ := hr; rw [q]; exact nofun
        | ownd ps => obtain ⟨_, vs, k, q, _⟩ := hr; rw [q]; exact nofun
      exact ⟨h1.1, Rdr.or_none (or_ne_left h1.2.1) (Rdr.or_none (or_ne_right h1.2.1) (hH0 _ hh)), h1.2.2⟩ }
  refine codeAny_forLoop_any (fun k s' => ∃ pre post ρ' G₁ Gk He H₁ g₁ ow₁, k = post.length ∧ ds = pre ++ post ∧ I pre He ρ' ∧ LoopX X (He.or H₁) g₁ Gk ∧ (∀ a, He a ≠ none → H₁ a = none) ∧ St C (joinX X (He.or H₁) g₁ Gk) ρ' s' G₁ ow₁ ∧ Yd C.K C.M it post G₁ H₁ g₁) ?_ ds.length
    ⟨[], ds, ρ, G', G', He₀, H, g, ow, rfl, rfl, h0, L, hHe, S₃, N.yd⟩
  rintro k s' ⟨pre, post, ρ', G₁, Gk₁, He, H₁, g₁, ow₁, rfl, hds, hI, L₁, hd₁, S₁, Y⟩
  have ii := S₁.itIn L₁
  have orR : Sub H₁ (He.or H₁) := fun a o e => by
    unfold Rdr.or
    cases q : He a with
    | none => exact e
    | some o2 => rw [hd₁ a (by rw [q]; exact nofun)] at e; cases e
  have ii1 : ItIn C.K H₁ g₁ G₁ s' := { ii with h := orR.trans ii.h }
  have LB : LoopX (joinX X He noG Gk₁) H₁ g₁ Gk₁ := {
    disj := fun a ha => ⟨Rdr.or_none (L₁.disj a (fun e => ha (or_ne_right e))).1 (by
      cases q : He a with
      | none => rfl
      | some o => exact absurd (hd₁ a (by rw [q]; exact nofun)) ha), (L₁.disj a (fun e => ha (or_ne_right e))).2⟩
    disg := fun i hi => by show (X.g i).or none = none; rw [L₁.disg i hi]; rfl
    sub := .refl _
    new := fun a o e => .inl e }
  have hB' : ∃ hB : Heap, GOk C.K hB ∧ ∀ a o, hB.get? a = some o → (joinX X He noG Gk₁).h a = some o := let ⟨h, a, b⟩ := hB; ⟨h, a, fun x o e => Rdr.or_left _ _ x o (b x o e)⟩
  have LHe : LoopX X He noG Gk₁ := { L₁ with
    disj := fun a ha => L₁.disj a (fun e => ha (or_ne_left e))
    disg := fun i hi => absurd rfl hi }
  cases post with
  | nil =>
    refine wpAny_mono (Y.2 C.A s' hC.roomy ii1) (fun r s₄ hr => ?_) fun _ _ f => f.elim
    obtain ⟨rfl, u⟩ := hr
    refine wpAny_execs_nil ?_
    rw [List.append_nil] at hds
    rw [← joinX_assoc (Gk' := Gk₁)] at S₁
    exact he He ρ' Gk₁ s₄ G₁ ow₁ (hds ▸ hI) LHe (S₁.ended LB hB' u)
  | cons d post =>
    refine wpAny_mono (Y.2 C.A s' hC.roomy ii1) (fun r s₄ hr => ?_) fun _ _ f => f.elim
    obtain ⟨v, rfl, u, G₂, H₂, g₂, hv, nx, Y₂⟩ := hr
    have hG₂ : ∀ a, He a ≠ none → G₂ a = none := fun a ha => by
      cases q : G₂ a with
      | none => rfl
      | some o =>
        rcases nx.new a o q with h | h
        · rw [S₁.disj L₁ a (fun e => ha (or_ne_left e))] at h; cases h
        · cases q2 : He a with
          | none => exact absurd q2 ha
          | some o2 => rw [ii.h a o2 (Rdr.or_left _ _ a o2 q2)] at h; cases h
    rw [← joinX_assoc (Gk' := Gk₁)] at S₁
    obtain ⟨L₂, S₂'⟩ := S₁.step LB hB' u nx
    have hd₂ : ∀ a, He a ≠ none → H₂ a = none := fun a ha => by
      cases q : H₂ a with
      | none => rfl
      | some o => exact absurd (or_ne_right (L₂.disj a (by rw [q]; exact nofun)).1) ha
    have isit := Y₂.isIt.mono (S₂'.itIn L₂).h
    obtain ⟨X2, hX2⟩ : ∃ X2, X2 = joinX X H₂ g₂ G₂ := ⟨_, rfl⟩
    have eq2 : joinX (joinX X He noG Gk₁) H₂ g₂ G₂ = joinX (joinX X H₂ g₂ G₂) He noG G₂ := by rw [joinX_assoc, joinX_swap hd₂]
    rw [eq2] at S₂'
    refine wpAny_mono (hb d (by rw [hds]; simp) _ ρ' s₄ G₂ ow₁ it v S₂' isit hv) (fun _ s₅ h₅ => wpAny_mono h₅ (fun _ s₆ h₆ => ?_) fun _ _ f => f.elim) fun _ _ f => f.elim
    obtain ⟨G₃, ow₃, S₆⟩ := h₆
    have Lb : LoopX (joinX X H₂ g₂ G₂) He noG G₂ := {
      disj := fun a ha => ⟨Rdr.or_none (L₁.disj a (fun e => ha (or_ne_left e))).1 (hd₂ a ha), hG₂ a ha⟩
      disg := fun i hi => absurd rfl hi
      sub := .refl _
      new := fun a o e => .inl e }
    refine wpAny_mono (hbody pre d post He ρ' hds hI _ G₂ s₆ G₃ ow₃ Lb ?_ S₆) (fun fl s₇ hf => ?_) fun _ _ f => f.elim
    · obtain ⟨h, a, b⟩ := hB; exact ⟨h, a, fun x o e => Rdr.or_left _ _ x o (b x o e)⟩
    obtain ⟨rfl, He', ρ₂, Gb', G₄, ow₄, hI', L₄, S₇⟩ := hf
    have hd₄ : ∀ a, He' a ≠ none → H₂ a = none := fun a ha => or_ne_right (L₄.disj a ha).1
    have hH₂ : ∀ a, H₂ a ≠ none → X.h a = none ∧ Gb' a = none := fun a ha => by
      have h2 := L₂.disj a ha
      refine ⟨or_ne_left h2.1, ?_⟩
      cases q : Gb' a with
      | none => rfl
      | some o =>
        rcases L₄.new a o q with h | h
        · have h : G₂ a = some o := h
          rw [h2.2] at h; cases h
        · exact absurd (or_ne_right h) ha
    have L₅ : LoopX X (He'.or H₂) g₂ Gb' := {
      disj := fun a ha => by
        by_cases q : He' a = none
        · exact hH₂ a (fun e => ha (Rdr.or_none q e))
        · exact ⟨or_ne_left (L₄.disj a q).1, (L₄.disj a q).2⟩
      disg := fun i hi => by
        have := L₂.disg i hi
        have h : (X.g i).or none = none := this
        simpa using h
      sub := L₁.sub.trans ((show Sub Gk₁ G₂ from L₂.sub).trans L₄.sub)
      new := fun a o e => by
        rcases L₄.new a o e with h | h
        · have h : G₂ a = some o := h
          rcases L₂.new a o h with h' | h'
          · exact L₁.new a o h'
          · exact .inr (or_ne_left h')
        · exact .inr (or_ne_left h) }
    have S₈ := S₇
    rw [joinX_swap hd₄] at S₈
    refine ⟨_, Nat.lt_succ_self _, pre ++ [d], post, ρ₂, G₄, Gb', He', H₂, g₂, ow₄, rfl, by rw [hds]; simp, hI', L₅, hd₄, S₈, Y₂.mono ((show Sub G₂ Gb' from L₄.sub).trans S₇.g0) (fun a ha => S₈.disj L₅ a (fun e => ha (or_ne_right e)))⟩
end
end Mine
end -- L15

section -- F18
open PySem PySem.W PyProof.Rows PySem.Calls
open Builtin Builtin.Str
set_option maxRecDepth 100000
set_option linter.unusedSectionVars false
set_option linter.unusedVariables false
namespace Mine
section
variable {C : Cx} {n : Nat} {ρ : Rho}
theorem ex1_assign (hC : COk C n) {x : Str} {px pos : Pos} {e : Expr} {d : PD} (he : EV C ρ e d) (hk : CanStore C x)
    (hs : swapsWith e (some (.Name x px)) pos.line C.env = pure false := by rfl) : EX1 C ρ (.Assign [.Name x px] e pos) (fun o => o = .next ((x, .val d) :: ρ)) := fun X s G ow S => by
  refine wpAny_Assign_Name (wpAny_mono (he s G ow S) (fun v s' r => ?_) fun _ _ f => f.elim) hs
  obtain ⟨p, G', g, hr⟩ := r
  refine wpAny_mono ((S.grow p g).storeV hC hk hr) (fun _ s'' h'' => ?_) fun _ _ f => f
  obtain ⟨ow', S''⟩ := h''
  exact ⟨.next _, rfl, G', ow', S''⟩
end

noncomputable def rStep (st : Int × List (Int × List Int)) (n : Int) : Int × List (Int × List Int) :=
  if n = 0 then (0, st.2) else if st.1 = 0 ∧ n ≥ 256 then (n, st.2 ++ [(n, [])]) else (st.1, st.2.map fun e => if e.1 = st.1 then (e.1, e.2 ++ [n]) else e)
noncomputable def rFold (row : List Int) : Int × List (Int × List Int) := row.foldl rStep (0, [])
/-- a step that the program can take -/
noncomputable def rOk (st : Int × List (Int × List Int)) (n : Int) : Prop := n = 0 ∨ (st.1 = 0 ∧ n ≥ 256 ∧ n ∉ st.2.map (·.1)) ∨ (n ≠ 0 ∧ ¬ (st.1 = 0 ∧ n ≥ 256) ∧ st.1 ∈ st.2.map (·.1))
/-- the lists of the rules, apart -/
structure Rep (He : Rdr) (L : List (Int × List Int × Addr)) : Prop where
  at_ : ∀ x ∈ L, ∃ vs k, He x.2.2 = some (lstO vs k) ∧ ∀ G, RdL G (pInts x.2.1) vs.toList
  all : ∀ a, He a ≠ none → ∃ x ∈ L, x.2.2 = a
  nd : (L.map (·.2.2)).Nodup
  keys : (L.map (·.1)).Nodup
noncomputable def repD (L : List (Int × List Int × Addr)) : List (Int × PD) := L.map fun x => (x.1, .raw (.ref x.2.2))

section
variable {C : Cx} {n : Nat} {ρ : Rho} {X : Ext} {s : Shared} {G Gb He : Rdr} {ow : Str → Addr} {L : List (Int × List Int × Addr)}
/-- an object kept apart is changed, or a new one joins them -/
theorem St.putX (LX : LoopX X He noG Gb) (hB : ∃ hB : Heap, GOk C.K hB ∧ ∀ a o, hB.get? a = some o → X.h a = some o) (S : St C (joinX X He noG Gb) ρ s G ow) {a : Addr} {o : Obj} {h' : Heap} {tk : Nat} (ha : He a ≠ none ∨ s.heap.get? a = none)
    (hk : ∀ b x, b ≠ a → s.heap.get? b = some x → h'.get? b = some x) (ho : h'.get? a = some o) : LoopX X (He.put a o) noG G ∧ St C (joinX X (He.put a o) noG G) ρ { s with heap := h', toks := tk } G ow := by
  have hGa : G a = none := by
    rcases ha with ha | ha
    · exact S.disj LX a ha
    · cases q : G a with
      | none => rfl
      | some x => rw [S.rd a x q] at ha; cases ha
  refine S.step LX hB (s' := { s with heap := h', toks := tk }) ⟨fun b x hb e => hk b x ?_ e, fun i y _ e => e, S.bare, rfl⟩ ⟨.refl G, fun b x e => .inl e, fun b x e => hk b x ?_ (S.rd b x e), fun b x e => ?_, fun i y e => (nomatch e), fun b hb => ?_, fun i hi => absurd rfl hi, fun b hb => ?_⟩
  · rintro rfl
    rcases ha with h | h
    · exact h hb
    · rw [h] at e; cases e
  · rintro rfl; rw [hGa] at e; cases e
  · unfold Rdr.put at e
    split at e
    · rename_i q; subst q; cases e; exact ho
    · rename_i q; exact hk b x q ((S.itIn LX).h b x e)
  · by_cases q : b = a
    · subst q; exact ha
    · left; unfold Rdr.put at hb; rwa [if_neg q] at hb
  · by_cases q : b = a
    · subst q; exact hGa
    · unfold Rdr.put at hb; rw [if_neg q] at hb; exact S.disj LX b hb

theorem repD_len : (repD L).length = L.length := by unfold repD; rw [List.length_map]
theorem repD_snoc {h : Int} {l : List Int} {a : Addr} (hn : h ∉ L.map (·.1)) : storeD (repD L) h (.raw (.ref a)) = repD (L ++ [(h, l, a)]) := by
  unfold storeD
  rw [if_neg]
  · unfold repD; rw [List.map_append]; rfl
  · intro hany
    obtain ⟨x, hx, he⟩ := List.any_eq_true.mp hany
    obtain ⟨y, hy, rfl⟩ := List.mem_map.mp hx
    exact hn (List.mem_map.mpr ⟨y, hy, by simpa using he⟩)

/-- rules[i] = [] -/
theorem newHead (hC : COk C n) (LX : LoopX X He noG Gb) (hB : ∃ hB : Heap, GOk C.K hB ∧ ∀ a o, hB.get? a = some o → X.h a = some o) (S : St C (joinX X He noG Gb) ρ s G ow) {px ppos lpos pos : Pos} {idx : Expr} {i : Int}
    (hx : ρ.lookup ("rules" : Str) = some (.ownd (repD L))) (hi : EV C ρ idx (.int i)) (hR : Rep He L) (hn : i ∉ L.map (·.1)) (hsz : L.length ≤ 1000) :
    wpAny C.M C.A (exec (.Assign [.Subscript (.Name "rules" px) idx ppos] (.List [] lpos) pos) C.env) (fun f s' => f = .next ∧ ∃ a Gb' G' ow', Rep (He.put a (lstO #[] 0)) (L ++ [(i, [], a)]) ∧ LoopX X (He.put a (lstO #[] 0)) noG Gb' ∧
      St C (joinX X (He.put a (lstO #[] 0)) noG Gb') (("rules", .ownd (repD (L ++ [(i, [], a)]))) :: ρ) s' G' ow') NoE s := by
  have line := line3
  refine wpAny_Assign_Subscript (List_ (wpAny_mono ((evs_nil (C := C) (ρ := ρ)).2 lpos s G ow S) (fun vs s₁ r₁ => ?_) fun _ _ f => f.elim)) rfl
  obtain ⟨p₁, G₁, g₁, e₁⟩ := r₁
  have S₁ := S.grow p₁ g₁
  have hvs : vs = [] := by cases e₁; rfl
  subst hvs
  refine wpAny_newList ?_ (Nat.zero_le _)
  have hob : lstO ([] : List Value).toArray 0 = lstO #[] 0 := rfl
  have hHn : He s₁.heap.objs.size = none := by
    cases q : He s₁.heap.objs.size with
    | none => rfl
    | some o => have := (S₁.itIn LX).h _ o q; rw [get_size] at this; cases this
  obtain ⟨L₂, S₂⟩ := S₁.putX (tk := s₁.toks) (o := lstO #[] 0) (h' := s₁.heap.push (lstO #[] 0)) LX hB (.inr (get_size _)) (fun b x _ e => Heap.get?_push_of_some _ e) (Heap.get?_push_size _ rfl)
  obtain ⟨hat, es, k, hg, hl, nd⟩ := S₂.owndAt hx
  refine hat.eval hC ?_ (by decide) (by decide)
  refine wpAny_mono (hi _ G₁ ow S₂) (fun iv s₃ r₃ => ?_) fun _ _ f => f
  obtain ⟨p₃, G₃, g₃, e₃⟩ := r₃
  obtain ⟨t, rfl⟩ := e₃.int_inv
  have S₃ := S₂.grow p₃ g₃
  have hg₃ := p₃.heap _ _ hg
  obtain ⟨kvs, a1, a2, a3⟩ := RdE.dictOf (prog := C.prog) (w := C.w) hg₃ (hl.mono g₃.sub) nd
  have hkl : kvs.length ≤ sizeLine := by
    have := congrArg List.length a2
    rw [List.length_map, List.length_map, repD_len] at this
    omega
  refine wpAny_setItem_pairs (knd := intKind C.prog C.w) (k := i) (by simp [intKind, Value.isInt]) a1 (fun h' hm hsb => ?_) hkl
  obtain ⟨b1, b2⟩ := stored_map (k := i) (d := .raw (.ref s₁.heap.objs.size)) a2 a3 (.raw _)
  obtain ⟨es', k', c1, c2, c3⟩ := RdE.of_dictOf hm b1 b2
  rw [repD_snoc (l := []) hn] at c2 c3
  refine ⟨rfl, s₁.heap.objs.size, _, G₃, ow, ⟨fun x hx => ?_, fun a ha => ?_, ?_, ?_⟩, L₂, S₃.update ⟨_, hx, rfl⟩ hsb ⟨rfl, es', k', c1, c2, c3⟩ rfl⟩
  · rcases List.mem_append.mp hx with h | h
    · obtain ⟨vs, k, h1, h2⟩ := hR.at_ x h
      refine ⟨vs, k, ?_, h2⟩
      unfold Rdr.put
      rw [if_neg]
      · exact h1
      · intro e; rw [e, hHn] at h1; cases h1
    · rw [List.mem_singleton.mp h]
      exact ⟨#[], 0, Rdr.put_self _ _ _, fun G => .nil⟩
  · by_cases q : a = s₁.heap.objs.size
    · subst q; exact ⟨_, List.mem_append_right _ (.head _), rfl⟩
    · unfold Rdr.put at ha
      rw [if_neg q] at ha
      obtain ⟨x, hx, e⟩ := hR.all a ha
      exact ⟨x, List.mem_append_left _ hx, e⟩
  · rw [List.map_append]
    refine List.nodup_append.mpr ⟨hR.nd, by simp, fun a ha b hb => ?_⟩
    simp at hb
    subst hb
    rintro rfl
    obtain ⟨x, hx, e⟩ := List.mem_map.mp ha
    obtain ⟨vs, k, h1, _⟩ := hR.at_ x hx
    rw [e, hHn] at h1; cases h1
  · rw [List.map_append]
    refine List.nodup_append.mpr ⟨hR.keys, by simp, fun a ha b hb => ?_⟩
    simp at hb
    subst hb
    rintro rfl
    exact hn ha

noncomputable def addTo (L : List (Int × List Int × Addr)) (h n : Int) : List (Int × List Int × Addr) := L.map fun x => if x.1 = h then (x.1, x.2.1 ++ [n], x.2.2) else x
theorem repD_addTo (h n : Int) : repD (addTo L h n) = repD L := by
  unfold repD addTo
  rw [List.map_map]
  refine List.map_congr_left fun x _ => ?_
  show (fun x : Int × List Int × Addr => (x.1, PD.raw (.ref x.2.2))) (if x.1 = h then _ else x) = _
  split <;> rfl
theorem repD_get {h : Int} {l : List Int} {a : Addr} (hx : (h, l, a) ∈ L) (nd : (L.map (·.1)).Nodup) : (repD L).lookup h = some (.raw (.ref a)) := by
  unfold repD
  induction L with
  | nil => cases hx
  | cons y r ih =>
    rw [List.map_cons, List.nodup_cons] at nd
    rw [List.map_cons, List.lookup_cons]
    rcases List.mem_cons.mp hx with rfl | hx
    · rw [beq_self_eq_true]
    · have : h ≠ y.1 := fun e => nd.1 (List.mem_map.mpr ⟨_, hx, e⟩)
      rw [beq_eq_false_iff_ne.mpr this]
      exact ih hx nd.2
theorem ev_borrowR {x : Str} {ps : List (Int × PD)} {e : Expr} {v : Value} (hx : ρ.lookup x = some (.ownd ps)) (h : EV C ((x, .val (.dict ps)) :: ρ) e (.raw v)) : EV C ρ e (.raw v) := fun X s G ow S => by
  obtain ⟨o, _, _, _, S'⟩ := S.freezeD hx
  refine wpAny_mono (h s _ ow S') (fun v' s' r => ?_) fun _ _ f => f
  obtain ⟨p, G', g, hr⟩ := r
  cases hr.raw_inv
  exact ⟨p, G, .same fun a o e => p.heap a o (S.rd a o e), .raw _⟩

/-- rules[i].append(e) -/
theorem addRule (hC : COk C n) (LX : LoopX X He noG Gb) (hB : ∃ hB : Heap, GOk C.K hB ∧ ∀ a o, hB.get? a = some o → X.h a = some o) (S : St C (joinX X He noG Gb) ρ s G ow) {px ppos apos pos spos : Pos} {idx e : Expr} {i d : Int} {l : List Int} {a : Addr} {pl : Sem Bool}
    (hx : ρ.lookup ("rules" : Str) = some (.ownd (repD L))) (hsub : EV C ρ (.Subscript (.Name "rules" px) idx ppos) (.raw (.ref a))) (he : EV C ρ e (.int d)) (hR : Rep He L) (hm : (i, l, a) ∈ L) (hsz : l.length ≤ 1000)
    (hev : eval (.Call (.Attribute (.Subscript (.Name "rules" px) idx ppos) "append" apos) [e] [] pos) C.env = (do
      let ov ← eval (.Subscript (.Name "rules" px) idx ppos) C.env
      standAt apos.atName
      let (f, first) ← holding [ov] (getMethod ov "append" pl)
      callWith pos f first (backTo pos (starEach [e] C.env)) []) := by rfl)
    (hst : starEach [e] C.env = [(false, eval e C.env)] := by rfl)
    (hs : swapsWith (.Call (.Attribute (.Subscript (.Name "rules" px) idx ppos) "append" apos) [e] [] pos) none spos.line C.env = pure false := by rfl) :
    wpAny C.M C.A (exec (.Expr (.Call (.Attribute (.Subscript (.Name "rules" px) idx ppos) "append" apos) [e] [] pos) spos) C.env) (fun f s' => f = .next ∧ ∃ He' Gb' G' ow', Rep He' (addTo L i d) ∧ LoopX X He' noG Gb' ∧
      St C (joinX X He' noG Gb') ρ s' G' ow') NoE s := by
  have line := line3
  refine wpAny_Expr ?_ (interactive_fn hC) hs
  refine MethodCall_ (pl := pl) (wpAny_mono (hsub s G ow S) (fun v s₁ r₁ => ?_) fun _ _ f => f.elim) hev
  obtain ⟨p₁, G₁, g₁, e₁⟩ := r₁
  cases e₁.raw_inv
  have S₁ := S.grow p₁ g₁
  obtain ⟨vs, k, h1, h2⟩ := hR.at_ _ hm
  have hg := (S₁.itIn LX).h a _ h1
  refine getMethod_list_append hg rfl rfl ?_
  dsimp only
  refine callWith_builtin (by rw [hst]; rfl) (evalArgs_of (by rw [hst]; rfl) ?_)
  rw [hst]
  show wpAny _ _ (spliced [(false, eval e C.env)]) _ _ s₁
  refine spliced_cons (wpAny_mono (he s₁ G₁ ow S₁) (fun v s₂ r₂ => spliced_nil ?_) fun _ _ f => f.elim)
  obtain ⟨p₂, G₂, g₂, e₂⟩ := r₂
  obtain ⟨t, rfl⟩ := e₂.int_inv
  have S₂ := S₁.grow p₂ g₂
  have hg₂ := (S₂.itIn LX).h a _ h1
  have hlen : vs.size = l.length := by have := (h2 G₂).length; rw [pInts_len] at this; rw [← this]; simp
  refine list_append_call hg₂ (by omega) fun h' hh hsb => ?_
  obtain ⟨L₃, S₃⟩ := S₂.putX (tk := s₂.toks) (o := lstO (vs.push (.int d t)) (k + 1)) (h' := h') LX hB (.inl (by rw [h1]; exact nofun)) (fun b x hb q => hsb.extBut b x hb q) hh
  refine ⟨rfl, _, _, G₂, ow, ⟨fun x hx' => ?_, fun b hb => ?_, ?_, ?_⟩, L₃, S₃⟩
  · obtain ⟨y, hy, rfl⟩ := List.mem_map.mp hx'
    by_cases q : y.1 = i
    · have : y = (i, l, a) := by
        have e1 := hR.keys
        have h3 : ∀ (L : List (Int × List Int × Addr)), (L.map (·.1)).Nodup → ∀ u ∈ L, ∀ v ∈ L, u.1 = v.1 → u = v := by
          intro L
          induction L with
          | nil => intro _ u hu; cases hu
          | cons z r ih =>
            intro nd u hu v hv e
            rw [List.map_cons, List.nodup_cons] at nd
            rcases List.mem_cons.mp hu with hu | hu <;> rcases List.mem_cons.mp hv with hv | hv
            · rw [hu, hv]
            · exact absurd (List.mem_map.mpr ⟨v, hv, by rw [← e, hu]⟩) nd.1
            · exact absurd (List.mem_map.mpr ⟨u, hu, by rw [e, hv]⟩) nd.1
            · exact ih nd.2 u hu v hv e
        exact h3 L e1 y hy _ hm q
      subst this
      rw [if_pos rfl]
      refine ⟨vs.push (.int d t), k + 1, Rdr.put_self _ _ _, fun G => ?_⟩
      rw [pInts_app, Array.toList_push]
      exact (h2 G).append (.cons (.int _ _) .nil)
    · rw [if_neg q]
      obtain ⟨vs', k', h3, h4⟩ := hR.at_ y hy
      refine ⟨vs', k', ?_, h4⟩
      unfold Rdr.put
      rw [if_neg]
      · exact h3
      · intro e
        have h5 : ∀ (L : List (Int × List Int × Addr)), (L.map (·.2.2)).Nodup → ∀ u ∈ L, ∀ v ∈ L, u.2.2 = v.2.2 → u = v := by
          intro L
          induction L with
          | nil => intro _ u hu; cases hu
          | cons z r ih =>
            intro nd u hu v hv e
            rw [List.map_cons, List.nodup_cons] at nd
            rcases List.mem_cons.mp hu with hu | hu <;> rcases List.mem_cons.mp hv with hv | hv
            · rw [hu, hv]
            · exact absurd (List.mem_map.mpr ⟨v, hv, by rw [← e, hu]⟩) nd.1
            · exact absurd (List.mem_map.mpr ⟨u, hu, by rw [e, hv]⟩) nd.1
            · exact ih nd.2 u hu v hv e
        have := h5 L hR.nd y hy _ hm e
        exact q (by rw [this])
  · by_cases q : b = a
    · subst q
      exact ⟨_, List.mem_map.mpr ⟨_, hm, rfl⟩, by rw [if_pos rfl]⟩
    · unfold Rdr.put at hb
      rw [if_neg q] at hb
      obtain ⟨x, hx', e⟩ := hR.all b hb
      refine ⟨_, List.mem_map.mpr ⟨x, hx', rfl⟩, ?_⟩
      split
      · exact e
      · exact e
  · have : (addTo L i d).map (·.2.2) = L.map (·.2.2) := by
      unfold addTo; rw [List.map_map]
      refine List.map_congr_left fun x _ => ?_
      show (if x.1 = i then _ else x : Int × List Int × Addr).2.2 = _
      split <;> rfl
    rw [this]; exact hR.nd
  · have : (addTo L i d).map (·.1) = L.map (·.1) := by
      unfold addTo; rw [List.map_map]
      refine List.map_congr_left fun x _ => ?_
      show (if x.1 = i then _ else x : Int × List Int × Addr).1 = _
      split <;> rfl
    rw [this]; exact hR.keys
end
end Mine
end -- F18

section -- F19
open PySem PySem.W PyProof.Rows PySem.Calls
open Builtin Builtin.Str
set_option maxRecDepth 100000
set_option linter.unusedSectionVars false
set_option linter.unusedVariables false
namespace Mine

noncomputable def flat (L : List (Int × List Int × Addr)) : List (Int × List Int) := L.map fun x => (x.1, x.2.1)
theorem rFold_snoc (pre : List Int) (n : Int) : rFold (pre ++ [n]) = rStep (rFold pre) n := by unfold rFold; rw [List.foldl_append]; rfl
theorem flat_addTo (L : List (Int × List Int × Addr)) (h n : Int) : flat (addTo L h n) = (flat L).map fun e => if e.1 = h then (e.1, e.2 ++ [n]) else e := by
  unfold flat addTo
  rw [List.map_map, List.map_map]
  refine List.map_congr_left fun x _ => ?_
  show (fun x : Int × List Int × Addr => (x.1, x.2.1)) (if x.1 = h then _ else x) = if x.1 = h then _ else _
  split <;> rfl
theorem snoc_ind {P : List Int → Prop} (h0 : P []) (hs : ∀ l n, P l → P (l ++ [n])) (l : List Int) : P l := by
  have : ∀ r : List Int, P r.reverse := by
    intro r
    induction r with
    | nil => exact h0
    | cons a r ih => rw [List.reverse_cons]; exact hs _ _ ih
  have h := this l.reverse
  rwa [List.reverse_reverse] at h
theorem pInts_inj : ∀ {a b : List Int}, pInts a = pInts b → a = b
  | [], [], _ => rfl
  | [], _ :: _, e => by cases e
  | _ :: _, [], e => by cases e
  | x :: a, y :: b, e => by
    injection e with e1 e2
    cases e1
    rw [pInts_inj e2]
theorem pInts_split : ∀ {qs row : List Int} {d : PD} {post : List PD}, pInts row = pInts qs ++ d :: post → ∃ n r, d = .int n ∧ post = pInts r ∧ row = qs ++ n :: r
  | [], [], _, _, e => by cases e
  | [], n :: r, _, _, e => by
    injection e with e1 e2
    exact ⟨n, r, e1.symm, e2.symm, rfl⟩
  | q :: qs, [], _, _, e => by cases e
  | q :: qs, x :: row, _, _, e => by
    injection e with e1 e2
    obtain ⟨n, r, h1, h2, h3⟩ := pInts_split e2
    cases e1
    exact ⟨n, r, h1, h2, by rw [h3]; rfl⟩
theorem rFold_keys {st : Int × List (Int × List Int)} {n : Int} : (st.2.map fun e : Int × List Int => if e.1 = st.1 then (e.1, e.2 ++ [n]) else e).map (fun x : Int × List Int => x.1) = st.2.map (fun x : Int × List Int => x.1) := by
  rw [List.map_map]
  have : ((fun x : Int × List Int => x.1) ∘ fun e : Int × List Int => if e.1 = st.1 then (e.1, e.2 ++ [n]) else e) = fun x => x.1 := by
    funext e; show (if e.1 = _ then _ else e : Int × List Int).1 = e.1; split <;> rfl
  rw [this]
theorem rFold_nd : ∀ (row : List Int), (∀ pre n post, row = pre ++ n :: post → rOk (rFold pre) n) → ((rFold row).2.map (·.1)).Nodup := by
  refine snoc_ind (fun _ => List.nodup_nil) fun qs n ih hv => ?_
  have h1 := ih fun pre m post e => hv pre m (post ++ [n]) (by rw [e]; simp)
  have h2 := hv qs n [] rfl
  rw [rFold_snoc]
  unfold rStep
  split
  · exact h1
  · split
    · rename_i h0 hc
      rcases h2 with h | h | h
      · exact absurd h h0
      · show (((rFold qs).2 ++ [(n, [])]).map (fun x : Int × List Int => x.1)).Nodup
        rw [List.map_append]
        refine List.nodup_append.mpr ⟨h1, by simp, fun a ha b hb => ?_⟩
        simp at hb; subst hb; rintro rfl; exact h.2.2 ha
      · exact absurd hc h.2.1
    · show (((rFold qs).2.map fun e : Int × List Int => if e.1 = (rFold qs).1 then (e.1, e.2 ++ [n]) else e).map (·.1)).Nodup
      rw [rFold_keys]; exact h1
theorem rFold_len : ∀ (row : List Int), (rFold row).2.length ≤ row.length ∧ ∀ e ∈ (rFold row).2, e.2.length ≤ row.length := by
  refine snoc_ind ⟨Nat.le_refl _, nofun⟩ fun qs n ih => ?_
  rw [rFold_snoc, List.length_append, List.length_singleton]
  unfold rStep
  split
  · exact ⟨by have := ih.1; show (rFold qs).2.length ≤ _; omega, fun e he => by have := ih.2 e he; omega⟩
  · split
    · refine ⟨by have := ih.1; show ((rFold qs).2 ++ [_]).length ≤ _; rw [List.length_append, List.length_singleton]; omega, fun e he => ?_⟩
      rcases List.mem_append.mp he with h | h
      · have := ih.2 e h; omega
      · rw [List.mem_singleton.mp h]; exact Nat.zero_le _
    · refine ⟨by have := ih.1; show ((rFold qs).2.map _).length ≤ _; rw [List.length_map]; omega, fun e he => ?_⟩
      obtain ⟨y, hy, rfl⟩ := List.mem_map.mp he
      have := ih.2 y hy
      split
      · show (y.2 ++ [n]).length ≤ _; rw [List.length_append, List.length_singleton]; omega
      · omega
theorem lookup_nd {β : Type} : ∀ {l : List (Int × β)} {h : Int} {x : β}, (l.map (·.1)).Nodup → (h, x) ∈ l → l.lookup h = some x
  | [], _, _, _, hm => by cases hm
  | (k, y) :: l, h, x, nd, hm => by
    rw [List.map_cons, List.nodup_cons] at nd
    rw [List.lookup_cons]
    rcases List.mem_cons.mp hm with e | e
    · cases e; rw [beq_self_eq_true]
    · have : h ≠ k := fun q => nd.1 (List.mem_map.mpr ⟨_, e, q⟩)
      rw [beq_eq_false_iff_ne.mpr this]
      exact lookup_nd nd.2 e
theorem flat_keys (L : List (Int × List Int × Addr)) : (flat L).map (·.1) = L.map (·.1) := by unfold flat; rw [List.map_map]; rfl
theorem flat_mem {L : List (Int × List Int × Addr)} {h : Int} (hh : h ∈ (flat L).map (·.1)) : ∃ l a, (h, l, a) ∈ L := by
  rw [flat_keys] at hh
  obtain ⟨⟨h', l, a⟩, hm, e⟩ := List.mem_map.mp hh
  cases e
  exact ⟨l, a, hm⟩
theorem flat_snoc (L : List (Int × List Int × Addr)) (x : Int × List Int × Addr) : flat (L ++ [x]) = flat L ++ [(x.1, x.2.1)] := by unfold flat; rw [List.map_append]; rfl
/-- at the end the lists are read -/
theorem rep_read {He : Rdr} {L : List (Int × List Int × Addr)} (hR : Rep He L) {G₀ G : Rdr} (hd : ∀ a, He a ≠ none → G₀ a = none) (hs : Sub He G) : ∀ {L' : List (Int × List Int × Addr)} {es : List DictEntry}, (∀ x ∈ L', x ∈ L) → RdE G₀ (repD L') es → RdE G ((flat L').map fun e => (e.1, .list (pInts e.2))) es
  | [], es, _, h => by cases h; exact .nil
  | x :: L', es, hm, h' => by
    have e : repD (x :: L') = (x.1, .raw (.ref x.2.2)) :: repD L' := rfl
    rw [e] at h'
    cases h' with | cons h r =>
    obtain ⟨vs, k, h1, h2⟩ := hR.at_ x (hm x (.head _))
    cases h.raw_inv
    exact .cons (.list (hs _ _ h1) (h2 G)) (rep_read hR hd hs (fun y hy => hm y (.tail _ hy)) r)
theorem St.joinE {C : Cx} {X : Ext} {ρ : Rho} {s : Shared} {G : Rdr} {ow : Str → Addr} (S : St C X ρ s G ow) : LoopX X (fun _ => none) noG G ∧ St C (joinX X (fun _ => none) noG G) ρ s G ow := by
  refine ⟨{ disj := fun a h => absurd rfl h, disg := fun i h => absurd rfl h, sub := S.g0, new := S.new }, { S with keep := fun a o e => ?_, keepg := fun i y e => ?_, ok := ?_, g0 := .refl G, new := fun a o e => .inl e, fp := fun a h => ⟨(S.fp a h).1, Rdr.or_none (G' := fun _ => none) (S.fp a h).2 rfl⟩, own := fun x h => ⟨(S.own x h).1, Rdr.or_none (G' := fun _ => none) (S.own x h).2.1 rfl, (S.own x h).2.2⟩ }⟩
  · rcases Rdr.or_some (G := X.h) (G' := fun _ => none) e with h | ⟨_, h⟩
    · exact S.keep a o h
    · cases h
  · have e : (X.g i).or none = some y := e
    cases q : X.g i with
    | none => rw [q] at e; cases e
    | some z => rw [q] at e; cases e; exact S.keepg i _ q
  · obtain ⟨h, a, b⟩ := S.ok; exact ⟨h, a, fun x o e => Rdr.or_left X.h (fun _ => none) x o (b x o e)⟩
theorem isOwn_val {ρ : Rho} {x y : Str} {d d' : PD} (h : IsOwn ((x, .val d) :: ρ) y) : IsOwn ((x, .val d') :: ρ) y := by
  obtain ⟨sl, e, o⟩ := h
  rw [lookup_cons_eq] at e
  split at e
  · cases e; cases o
  · rename_i q
    exact ⟨sl, by rw [lookup_cons_eq, if_neg q]; exact e, o⟩
/-- the dict of the rules is let be read, with what its lists have -/
theorem St.freezeRep {C : Cx} {X : Ext} {ρ : Rho} {s : Shared} {G He Gk : Rdr} {ow : Str → Addr} {L : List (Int × List Int × Addr)} (LX : LoopX X He noG Gk) (hB : ∃ hB : Heap, GOk C.K hB ∧ ∀ a o, hB.get? a = some o → X.h a = some o)
    (S : St C (joinX X He noG Gk) ρ s G ow) (hx : ρ.lookup ("rules" : Str) = some (.ownd (repD L))) (hR : Rep He L) : ∃ G', St C X (("rules", .val (.dict ((flat L).map fun e => (e.1, .list (pInts e.2))))) :: ρ) s G' ow := by
  have S1 := S.freezeX LX hB
  obtain ⟨v, h1, rfl, es, k, hg, hl, nd⟩ := S.loc "rules" _ hx
  obtain ⟨o, ho, _, hGn, S2⟩ := S1.freezeD hx
  rw [hg] at ho; cases ho
  have subHe : Sub He ((G.or He).put (ow "rules") (dctO es k)) := fun a o e => by
    have hG := S.disj LX a (by rw [e]; exact nofun)
    refine Rdr.put_sub hGn a o ?_
    unfold Rdr.or; rw [hG]; exact e
  refine ⟨_, { S2 with loc := fun y sl e => ?_, own := fun y h => S2.own y (isOwn_val h), apart := fun y z h h' q => S2.apart y z (isOwn_val h) (isOwn_val h') q }⟩
  rw [lookup_cons_eq] at e
  split at e
  · rename_i q; subst q; cases e
    refine ⟨_, h1, .dict (Rdr.put_self _ _ _) (rep_read hR (fun a ha => S.disj LX a ha) subHe (fun x hx => hx) hl) ?_⟩
    rw [List.map_map]
    have : ((fun x : Int × PD => x.1) ∘ fun e : Int × List Int => (e.1, PD.list (pInts e.2))) = fun e => e.1 := rfl
    rw [this, flat_keys]; exact hR.keys
  · rename_i q
    refine S2.loc y sl ?_
    rw [lookup_cons_eq, if_neg q]; exact e

section
variable {C : Cx} {n : Nat} {ρ : Rho} {X : Ext} {s : Shared} {G : Rdr} {ow : Str → Addr} {Q : Flow → Shared → Prop}
theorem one_stmt {st : Stmt} {env : Env} {M : Model} {A : Around} (h : wpAny M A (exec st env) (fun f s' => f = .next ∧ Q .next s') NoE s) : wpAny M A (execs [st] env) Q NoE s :=
  wpAny_execs_cons (wpAny_mono h (fun f s' ⟨hf, hq⟩ => by subst hf; exact wpAny_execs_nil hq) fun _ _ f => f)
theorem two_stmt {st : Stmt} {sts : List Stmt} {env : Env} {M : Model} {A : Around} (h : wpAny M A (exec st env) (fun f s' => f = .next ∧ wpAny M A (execs sts env) Q NoE s') NoE s) : wpAny M A (execs (st :: sts) env) Q NoE s :=
  wpAny_execs_cons (wpAny_mono h (fun f s' ⟨hf, hq⟩ => by subst hf; exact hq) fun _ _ f => f)
theorem if_stmt {test : Expr} {body orelse : List Stmt} {pos : Pos} {b : Bool} (ht : ET C ρ test b) (S : St C X ρ s G ow) (h1 : b = true → ∀ s', St C X ρ s' G ow → wpAny C.M C.A (execs body C.env) Q NoE s')
    (h2 : b = false → ∀ s', St C X ρ s' G ow → wpAny C.M C.A (execs orelse C.env) Q NoE s') : wpAny C.M C.A (exec (.If test body orelse pos) C.env) Q NoE s := by
  refine wpAny_If (wpAny_mono (ht s G ow S) (fun c s' h => ?_) fun _ _ f => f.elim)
  obtain ⟨rfl, p⟩ := h
  have S' := S.grow p (.same fun a o e => p.heap a o (S.rd a o e))
  cases c with
  | true => exact h1 rfl s' S'
  | false => exact h2 rfl s' S'
theorem asg_stmt (hC : COk C n) {x : Str} {px pos : Pos} {e : Expr} {d : PD} (he : EV C ρ e d) (hk : CanStore C x) (S : St C X ρ s G ow) {Qn : Shared → Prop} (h : ∀ s' G' ow', St C X ((x, .val d) :: ρ) s' G' ow' → Qn s')
    (hs : swapsWith e (some (.Name x px)) pos.line C.env = pure false := by rfl) : wpAny C.M C.A (exec (.Assign [.Name x px] e pos) C.env) (fun f s' => f = .next ∧ Qn s') NoE s := by
  refine wpAny_mono (ex1_assign hC he hk hs s G ow S) (fun f s' r => ?_) fun _ _ f => f
  obtain ⟨o, rfl, ha⟩ := r
  cases f with
  | next => obtain ⟨G', ow', S'⟩ := ha; exact ⟨rfl, h _ _ _ S'⟩
  | _ => exact ha.elim
end

theorem ret_stmt {C : Cx} {ρ : Rho} {X : Ext} {s : Shared} {G : Rdr} {ow : Str → Addr} {e : Expr} {pos : Pos} {d : PD} {rest : List Stmt} (he : EV C ρ e d) (S : St C X ρ s G ow) :
    wpAny C.M C.A (execs (.Return (some e) pos :: rest) C.env) (fun f s' => ∃ o, o = .ret d ∧ OutAt C X f o s') NoE s := ex_ret (P := fun o => o = .ret d) he rfl s G ow S
noncomputable def rRho (row : List Int) (hd : Int) (L : List (Int × List Int × Addr)) : Rho := [("head", .val (.int hd)), ("rules", .ownd (repD L)), ("row", .val (.list (pInts row)))]

set_option maxHeartbeats 8000000 in
theorem fn_rules (w : World) (row : List Int) (hl : row.length ≤ 900) (hv : ∀ pre n post, row = pre ++ n :: post → rOk (rFold pre) n) : ∃ ps, (∀ h l, (h, l) ∈ (rFold row).2 → ps.lookup h = some (.list (pInts l))) ∧ Fn PG w (KK w) 2 (.ref 108) [.list (pInts row)] (.dict ps) := by
  refine ⟨(rFold row).2.map fun e => (e.1, .list (pInts e.2)), fun h l hm => ?_, ?_⟩
  · refine lookup_nd ?_ (List.mem_map.mpr ⟨_, hm, rfl⟩)
    rw [List.map_map]
    exact rFold_nd row hv
  refine fn_body ["row"] rfl rfl rfl rfl rfl rfl rfl rfl rfl rfl ?_ rfl rfl (by decide) rfl ?_
  · intro vs h
    match vs, h with
    | [x], _ => rfl
  · intro C Fo
    have line := line3
    refine ex_assignD Fo.ok evd_empty (Fo.sl rfl) ?_
    refine ex_assign Fo.ok (ev_int _ _ _) (Fo.sl rfl) ?_
    refine ex_weaken (ρ' := rRho row 0 []) ?_ (by show LeR _ _; unfold rRho; repeat (first | exact LeR.nil | refine LeR.cons rfl ?_))
    intro X s G ow S
    have hB := S.ok
    obtain ⟨L₀, S₀⟩ := S.joinE
    refine wpAny_execs_cons ?_
    refine for_acc Fo.ok L₀ hB S₀ (itb_list (ev_name Fo.ok rfl)) (f := fun d ρ => ("number", .val d) :: ρ) (fun d _ => binds_name Fo.ok (Fo.sl rfl))
      (fun pre He ρ' => ∃ qs L, pre = pInts qs ∧ ρ' = rRho row (rFold qs).1 L ∧ flat L = (rFold qs).2 ∧ Rep He L) ⟨[], [], rfl, rfl, rfl, ⟨nofun, fun a h => absurd rfl h, List.nodup_nil, List.nodup_nil⟩⟩ ?_ ?_
    · intro pre d post He ρ' hds hI Xb Gb s G ow LXb hBb S
      obtain ⟨qs, L, rfl, rfl, hL, hR⟩ := hI
      obtain ⟨n, r, rfl, rfl, hrow⟩ := pInts_split hds
      have hok := hv qs n r hrow
      have hql : qs.length ≤ 900 := by
        have := congrArg List.length hrow
        rw [List.length_append, List.length_cons] at this; omega
      have hln := rFold_len qs
      have hsnoc : pInts qs ++ [.int n] = pInts (qs ++ [n]) := by unfold pInts; rw [List.map_append]; rfl
      rw [hsnoc]
      have hstep := rFold_snoc qs n
      unfold rRho at S
      refine one_stmt (if_stmt (et_plain (Fo.call rfl rfl rfl (fn_eof w n) (evs_cons (ev_name Fo.ok rfl) evs_nil)) tr_bool) S (fun hb s S => ?_) (fun hb s S => ?_))
      · have hn : n = 0 := by simpa using hb
        refine one_stmt (asg_stmt Fo.ok (ev_int _ _ _) (Fo.sl rfl) S fun s' G' ow' S' => ⟨rfl, rfl, He, rRho row (rFold (qs ++ [n])).1 L, Gb, G', ow', ⟨_, L, rfl, rfl, ?_, hR⟩, LXb, S'.weaken ?_⟩)
        · rw [hstep, hL]; unfold rStep; rw [if_pos hn]
        · rw [hstep]; unfold rStep; rw [if_pos hn]
          show LeR _ _; unfold rRho; repeat (first | exact LeR.nil | refine LeR.cons rfl ?_)
      · have hn : n ≠ 0 := by simpa using hb
        refine one_stmt (if_stmt (et_and (et_cmp (ev_name Fo.ok rfl) (ev_int _ _ _) op_eq) (fun _ => et_plain (Fo.call rfl rfl rfl (fn_nonterm w n) (evs_cons (ev_name Fo.ok rfl) evs_nil)) tr_bool)) S (fun hb s S => ?_) (fun hb s S => ?_))
        · have hc : (rFold qs).1 = 0 ∧ n ≥ 256 := by simpa using hb
          have hnew : n ∉ L.map (·.1) := by
            rw [← flat_keys, hL]
            rcases hok with h | h | h
            · exact absurd h hn
            · exact h.2.2
            · exact absurd hc h.2.1
          refine two_stmt (asg_stmt Fo.ok (ev_name Fo.ok rfl) (Fo.sl rfl) S fun s G ow S => ?_)
          refine one_stmt (wpAny_mono (newHead Fo.ok LXb hBb S rfl (ev_name Fo.ok rfl) hR hnew ?_) (fun f s' hf => ?_) fun _ _ f => f)
          · rw [← hL] at hln; have := hln.1; unfold flat at this; rw [List.length_map] at this; omega
          · obtain ⟨rfl, a, Gb', G', ow', hR', LX', S'⟩ := hf
            refine ⟨rfl, rfl, rfl, rfl, _, rRho row (rFold (qs ++ [n])).1 _, Gb', G', ow', ⟨_, _, rfl, rfl, ?_, hR'⟩, LX', S'.weaken ?_⟩
            · rw [hstep, flat_snoc, hL]; unfold rStep; rw [if_neg hn, if_pos hc]
            · rw [hstep]; unfold rStep; rw [if_neg hn, if_pos hc]
              show LeR _ _; unfold rRho; repeat (first | exact LeR.nil | refine LeR.cons rfl ?_)
        · have hc : ¬ ((rFold qs).1 = 0 ∧ n ≥ 256) := by
            intro h
            simp [h.1, h.2] at hb
          have hin : (rFold qs).1 ∈ (rFold qs).2.map (·.1) := by
            rcases hok with h | h | h
            · exact absurd h hn
            · exact absurd ⟨h.1, h.2.1⟩ hc
            · exact h.2.2
          obtain ⟨l, a, hm⟩ := flat_mem (L := L) (hL ▸ hin)
          have hll : l.length ≤ 1000 := by
            have : ((rFold qs).1, l) ∈ (rFold qs).2 := by rw [← hL]; exact List.mem_map.mpr ⟨_, hm, rfl⟩
            have := hln.2 _ this
            dsimp only at this; omega
          refine one_stmt (wpAny_mono (addRule Fo.ok LXb hBb S rfl (ev_borrowR (x := "rules") (ps := repD L) rfl (ev_sub (ev_name Fo.ok rfl) (ev_name Fo.ok rfl) (op_ditem (repD_get hm hR.keys)))) (ev_name Fo.ok rfl) hR hm hll) (fun f s' hf => ?_) fun _ _ f => f)
          obtain ⟨rfl, He', Gb', G', ow', hR', LX', S'⟩ := hf
          refine ⟨rfl, rfl, rfl, rfl, He', rRho row (rFold (qs ++ [n])).1 _, Gb', G', ow', ⟨_, _, rfl, rfl, ?_, hR'⟩, LX', S'.weaken ?_⟩
          · rw [hstep, flat_addTo, hL]; unfold rStep; rw [if_neg hn, if_neg hc]
          · rw [hstep]; unfold rStep; rw [if_neg hn, if_neg hc]
            show LeR _ _; unfold rRho; rw [repD_addTo]; repeat (first | exact LeR.nil | refine LeR.cons rfl ?_)
    · intro He ρ' Gb s G ow hI LXb S
      obtain ⟨qs, L, hq, rfl, hL, hR⟩ := hI
      have hq : qs = row := by
        have := pInts_inj hq
        exact this.symm
      subst hq
      obtain ⟨G', S'⟩ := S.freezeRep LXb hB rfl hR
      rw [hL] at S'
      show wpAny _ _ (execs _ _) _ _ _
      refine ret_stmt ?_ S'
      exact ev_name Fo.ok rfl
end Mine
end -- F19

section -- E1
open PySem PySem.W PyProof.Rows PySem.Calls
open Builtin Builtin.Str
set_option maxRecDepth 100000
set_option linter.unusedSectionVars false
set_option linter.unusedVariables false
namespace Mine

/-- an exception with its traceback, in flight as fl says -/
noncomputable def TrF (h base : Heap) (e : Addr) (cls fl : Value) : Prop :=
  ∃ oe vs T oT ts, h.get? e = some oe ∧ oe.cls = cls ∧ oe.data = .fields vs ∧ vs[1]? = some (.ref T) ∧ base.get? T = none ∧ T ≠ e ∧ h.get? T = some oT ∧ oT.data = .fields ts ∧ ts[3]? = some fl
/-- what no exception changes -/
structure Kd (base : Heap) (l : List Env) (h h' : Heap) : Prop where
  stay : base.StaysIn h'
  fun_ : h'.FunFrames base l
  data : ∀ b o, h.get? b = some o → (∀ vs, o.data ≠ .fields vs) → ∃ sl, h'.get? b = some { o with slots := sl }
theorem Kd.trans {base : Heap} {l : List Env} {h h' h'' : Heap} (x : Kd base l h h') (y : Kd base l h' h'') : Kd base l h h'' :=
  ⟨y.stay, y.fun_, fun b o e hn => let ⟨sl, e'⟩ := x.data b o e hn; let ⟨sl', e''⟩ := y.data b _ e' hn; ⟨sl', e''⟩⟩
theorem Kd.tail {base : Heap} {env : Env} {l : List Env} {h h' : Heap} (x : Kd base (env :: l) h h') : Kd base l h h' := ⟨x.stay, x.fun_.2.2, x.data⟩

section
variable {M : Model} {A : Around} {E : Value → Shared → Prop} {s : Shared} {base : Heap} {l : List Env} {e : Addr} {cls fl : Value}

theorem upd_Kd {h : Heap} {T : Addr} {oT : Obj} {ts : Array Value} (f : Array Value → Array Value) (hb : base.StaysIn h) (hf : h.FunFrames base l) (hn : base.get? T = none) (hT : h.get? T = some oT) (hd : oT.data = .fields ts) : Kd base l h (h.update T (Obj.mapFields f)) := by
  have other : ∀ b, b ≠ T → (h.update T (Obj.mapFields f)).get? b = h.get? b := fun b hb => Heap.get?_update_other _ _ (Ne.symm hb)
  have rec_ : ∀ b o, h.get? b = some o → (∀ vs, o.data ≠ .fields vs) → b ≠ T := fun b o hb hnf q => by
    rw [q, hT] at hb; injection hb with hb; subst hb; exact hnf ts hd
  exact ⟨fun b o e => (other b fun q => by rw [q, hn] at e; cases e).trans (hb b o e), hf.of_keeps fun b o e hnf => ⟨o, (other b (rec_ b o e hnf)).trans e, rfl⟩, fun b o e hnf => ⟨o.slots, (other b (rec_ b o e hnf)).trans e⟩⟩

theorem flight_set {f : Option Addr} {Q : Unit → Shared → Prop} (hb : base.StaysIn s.heap) (hf : s.heap.FunFrames base l) (ht : TrF s.heap base e cls fl)
    (h : ∀ h', Kd base l s.heap h' → TrF h' base e cls (f.elim .none fun a => rawInt a) → Q () { s with heap := h' }) : wpAny M A (setFlight (.ref e) f) Q E s := by
  obtain ⟨oe, vs, T, oT, ts, he, hc, hd, h1, hn, hTe, hT, hdT, h3⟩ := ht
  have hsz := (Array.getElem?_eq_some_iff.mp h3).1
  unfold setFlight
  refine wpAny_bind (wpAny_field he hd h1 ?_)
  rw [if_pos (show (Value.ref T != Value.none) = true from by simp)]
  refine wpAny_setField hT hdT hsz (h _ (upd_Kd _ hb hf hn hT hdT) ?_)
  have hd' := Obj.data_mapFields hdT (·.setIfInBounds 3 (f.elim .none fun a => rawInt a))
  exact ⟨oe, vs, T, _, _, (Heap.get?_update_other _ _ hTe).trans he, hc, hd, h1, hn, hTe, Heap.get?_update_self _ hT (Obj.isFreed_of_fields hd'), hd', by simp [hsz]⟩

theorem note_stay {env : Env} {L : Addr} {Q : Unit → Shared → Prop} (hfr : env.frame = some L) (ht : TrF s.heap base e cls (rawInt L)) (h : Q () s) : wpAny M A (noteFrame (.ref e) env) Q E s := by
  obtain ⟨oe, vs, T, oT, ts, he, hc, hd, h1, hn, hTe, hT, hdT, h3⟩ := ht
  exact wpAny_noteFrame_inFlight hfr he hd h1 hT hdT h3 h

theorem note_next {env : Env} {outer : List Env} {L : Addr} {Q : Unit → Shared → Prop} (hfr : A.frames = some (env :: outer)) (hf : env.frame = some L) (hb : base.StaysIn s.heap) (hl : s.heap.FunFrames base (env :: outer)) (hen : base.get? e = none)
    (ht : TrF s.heap base e cls .none) (h : ∀ h', Kd base (env :: outer) s.heap h' → TrF h' base e cls (rawInt L) → Q () { s with heap := h' }) : wpAny M A (noteFrame (.ref e) env) Q E s := by
  obtain ⟨oe, vs, T, oT, ts, he, hc, hd, h1, hn, hTe, hT, hdT, h3⟩ := ht
  unfold noteFrame
  simp only [hf]
  refine wpAny_bind (wpAny_field he hd h1 ?_)
  rw [if_pos (show (Value.ref T != Value.none) = true from by simp)]
  refine wpAny_bind (wpAny_field hT hdT h3 ?_)
  rw [if_neg (show ¬ ((Value.none == rawInt L) = true) from by simp [rawInt])]
  refine wpAny_bind (wpAny_setField hT hdT (Array.getElem?_eq_some_iff.mp h3).1 ?_)
  have K₁ := upd_Kd (h := s.heap) (l := env :: outer) (·.setIfInBounds 3 Value.none) hb hl hn hT hdT
  generalize hu : s.heap.update T (Obj.mapFields (·.setIfInBounds 3 Value.none)) = h₁ at K₁
  have he₁ : h₁.get? e = some oe := by rw [← hu]; exact (Heap.get?_update_other _ _ hTe).trans he
  refine wpAny_bind (wpAny_frameOf_fun hfr K₁.fun_ hf fun h₂ so => ?_)
  have hnot : e ∉ (env :: outer).filterMap (·.frame) := fun hm => by
    obtain ⟨_, o, ho, hnf⟩ := K₁.fun_.mem hm
    have ho : h₁.get? e = some o := ho
    rw [he₁] at ho; cases ho; exact hnf vs hd
  have he₂ : h₂.get? e = some oe := (so.2.1 e hnot).trans he₁
  refine wpAny_bind (wpAny_entryPlaceOf fun pl hpl => ?_)
  unfold EntryCells.newEntry newFields
  refine wpAny_bind (wpAny_newObj_type ?_ (hpl.sizeOk5 _ _ _ _ _))
  obtain ⟨hsz1, _⟩ := Array.getElem?_eq_some_iff.mp h1
  generalize ho : ({ cls := .type "traceback", dict := none, data := .fields ([Value.ref T, .ref L, .none, rawInt L, .none] ++ (if pl.isEmpty then List.replicate 6 Value.none else pl)).toArray } : Obj) = oN
  have hN3 : ∃ ts', oN.data = .fields ts' ∧ ts'[3]? = some (rawInt L) := by
    subst ho
    refine ⟨_, rfl, ?_⟩
    rcases hpl with rfl | ⟨_, _, _, _, _, _, _, rfl⟩ <;> simp
  have hNf : oN.isFreed = false := by subst ho; rfl
  have he₃ := Heap.get?_push_of_some (h := h₂) oN he₂
  refine wpAny_setField he₃ hd hsz1 (h _ ?_ ?_)
  · have hb₂ : base.StaysIn h₂ := fun b o hbo => (so.2.1 b fun hm => by rw [(K₁.fun_.mem hm).1] at hbo; cases hbo).trans (K₁.stay b o hbo)
    have hb₃ : base.StaysIn (h₂.push oN) := fun b o hbo => Heap.get?_push_of_some _ (hb₂ b o hbo)
    have hl₂ := K₁.fun_.of_slotsOnly so
    have hl₃ : (h₂.push oN).FunFrames base (env :: outer) := hl₂.of_keeps fun b o hbo _ => ⟨o, Heap.get?_push_of_some _ hbo, rfl⟩
    have K₃ := upd_Kd (h := h₂.push oN) (l := env :: outer) (·.setIfInBounds 1 (Value.ref h₂.objs.size)) hb₃ hl₃ hen he₃ hd
    refine ⟨K₃.stay, K₃.fun_, fun b o hbo hnf => ?_⟩
    obtain ⟨sl, e1⟩ := K₁.data b o hbo hnf
    obtain ⟨sl2, e2⟩ := so.2.2 b _ e1
    have e2 : h₂.get? b = some { o with slots := sl2 } := e2
    obtain ⟨sl3, e3⟩ := K₃.data b { o with slots := sl2 } (Heap.get?_push_of_some oN e2) hnf
    exact ⟨sl3, e3⟩
  · obtain ⟨ts', d1, d2⟩ := hN3
    have hne : h₂.objs.size ≠ e := Nat.ne_of_gt (Heap.lt_size he₂)
    have hd₃ := Obj.data_mapFields hd (·.setIfInBounds 1 (Value.ref h₂.objs.size))
    have hfresh : base.get? h₂.objs.size = none := by
      have hb₂ : base.StaysIn h₂ := fun b o hbo => (so.2.1 b fun hm => by rw [(K₁.fun_.mem hm).1] at hbo; cases hbo).trans (K₁.stay b o hbo)
      exact hb₂.fresh
    exact ⟨_, _, h₂.objs.size, oN, ts', Heap.get?_update_self _ he₃ (Obj.isFreed_of_fields hd₃), (Obj.cls_mapFields _ _).trans hc, hd₃, by simp [hsz1], hfresh, hne, (Heap.get?_update_other _ _ (Ne.symm hne)).trans (Heap.get?_push_size h₂ hNf), d1, d2⟩

/-- the heap without some addresses -/
noncomputable def noObj : Obj := { cls := .none, dict := none, data := .freed }
end
end Mine
end -- E1

section -- E2
open PySem PySem.W PyProof.Rows PySem.Calls
set_option maxRecDepth 100000
set_option linter.unusedSectionVars false
set_option linter.unusedVariables false
namespace Mine

section
variable {prog : Program} {w : World} {A : Around} {E : Value → Shared → Prop} {s : Shared}
theorem next_item {it l : Addr} {i : Nat} {items : Array Value} {x : Value} {Q : Value → Shared → Prop} (hit : s.heap.IsListIter it l i) (hl : s.heap.IsList l items) (hx : items[i]? = some x)
    (hQ : ∀ h', h'.IsListIter it l (i + 1) → Heap.SameBut it s.heap h' → Q x { s with heap := h' }) : wpAny (model prog w) A (call (.builtin "next") [.ref it]) Q E s := by
  obtain ⟨o, ho, hc, hd⟩ := id hit
  obtain ⟨ol, hol, _, nl, hdl⟩ := id hl
  refine call_function_entry (by decide +kernel) (by decide +kernel) kdk_entry_next (kdk_args_next _) ?_
  unfold Builtin.«next»
  refine wpAny_bind (m := someArgs "next" 1 2 _) (wpAny_of_eq (a := [Value.ref it]) (by first | rfl | kernel_rfl!) ?_)
  dsimp only
  refine wpAny_bind (wpAny_specialOf (name := Str.ofString "__next__") hit.typeIs slot_listiter_next.lookup ?_)
  refine wpAny_ite_split (fun hab => absurd hab (by decide)) (fun _ => ?_)
  refine wpAny_bind (wpAny_callSpecial?_slot (name := Str.ofString "__next__") hit.typeIs slot_listiter_next
    (wpAny_call_entry slot_listiter_next hit.typeIs entry_listiter_next ?_ (args_listiter_next _)))
  show wpAny _ _ (field (.ref it) 0 >>= _) _ _ s
  refine wpAny_bind (wpAny_field ho hd (x := .ref l) rfl ?_)
  show wpAny _ _ (if (Value.ref l == Value.none) = true then _ else _) _ _ s
  rw [if_neg (show ¬ ((Value.ref l == Value.none) = true) from Bool.false_ne_true)]
  show wpAny _ _ (field (.ref it) 1 >>= _) _ _ s
  refine wpAny_bind (wpAny_field ho hd (x := .int i 0) rfl ?_)
  show wpAny _ _ (seqItems? (.ref l) >>= _) _ _ s
  refine wpAny_bind (wpAny_seqItems hol hdl ?_)
  simp only [Int.toNat_natCast, hx]
  refine wpAny_bind (wpAny_setField ho hd (by simp) (wpAny_pure ⟨x, rfl, wpAny_pure ⟨x, rfl, hQ _ ?_ (Heap.SameBut.update ..)⟩⟩))
  exact ⟨_, Heap.get?_update_self _ ho (Obj.isFreed_of_fields (Obj.data_mapFields hd _)), (Obj.cls_mapFields ..).trans hc, by
    rw [Obj.data_mapFields hd]; simp [rawInt]⟩

structure NewStop (h h' : Heap) (e : Addr) : Prop where
  keeps : ∀ b o, h.get? b = some o → h'.get? b = some o
  new : h.get? e = none
  there : ∃ ob vs, h'.get? e = some ob ∧ ob.cls = .type "StopIteration" ∧ ob.data = .fields vs ∧ vs[1]? = some .none

theorem next_end {it l : Addr} {i : Nat} {items : Array Value} {Q : Value → Shared → Prop} (hh : A.handled = none) (hit : s.heap.IsListIter it l i) (hl : s.heap.IsList l items) (hx : items[i]? = none)
    (hE : ∀ h₁ h' e, Heap.SameBut it s.heap h₁ → NewStop h₁ h' e → E (.ref e) { s with heap := h' }) : wpAny (model prog w) A (call (.builtin "next") [.ref it]) Q E s := by
  obtain ⟨o, ho, hc, hd⟩ := id hit
  obtain ⟨ol, hol, _, nl, hdl⟩ := id hl
  refine call_function_entry (by decide +kernel) (by decide +kernel) kdk_entry_next (kdk_args_next _) ?_
  unfold Builtin.«next»
  refine wpAny_bind (m := someArgs "next" 1 2 _) (wpAny_of_eq (a := [Value.ref it]) (by first | rfl | kernel_rfl!) ?_)
  dsimp only
  refine wpAny_bind (wpAny_specialOf (name := Str.ofString "__next__") hit.typeIs slot_listiter_next.lookup ?_)
  refine wpAny_ite_split (fun hab => absurd hab (by decide)) (fun _ => ?_)
  refine wpAny_bind (wpAny_callSpecial?_slot (name := Str.ofString "__next__") hit.typeIs slot_listiter_next
    (wpAny_call_entry slot_listiter_next hit.typeIs entry_listiter_next ?_ (args_listiter_next _)))
  show wpAny _ _ (field (.ref it) 0 >>= _) _ _ s
  refine wpAny_bind (wpAny_field ho hd (x := .ref l) rfl ?_)
  show wpAny _ _ (if (Value.ref l == Value.none) = true then _ else _) _ _ s
  rw [if_neg (show ¬ ((Value.ref l == Value.none) = true) from Bool.false_ne_true)]
  show wpAny _ _ (field (.ref it) 1 >>= _) _ _ s
  refine wpAny_bind (wpAny_field ho hd (x := .int i 0) rfl ?_)
  show wpAny _ _ (seqItems? (.ref l) >>= _) _ _ s
  refine wpAny_bind (wpAny_seqItems hol hdl ?_)
  simp only [Int.toNat_natCast, hx]
  refine wpAny_bind (wpAny_rule (wpAny_bind (wpAny_setField ho hd (by simp) ?_)))
  show wpAny _ _ (newExc (.type "StopIteration") [] >>= _) _ _ _
  refine wpAny_bind ?_
  simp only [newExc, newTuple]
  refine wpAny_bind (wpAny_newObj_type ?_ (by size_fits))
  refine wpAny_bind (m := firstArgMember _ _) (wpAny_of_eq (a := Value.none) (by first | rfl | (simp only [firstArgMember]; rfl)) ?_)
  refine wpAny_newObj_type ?_ (by size_fits)
  simp only [raiseNew]
  refine wpAny_bind (wpAny_handled ?_)
  rw [show A.in1.in1.handled = none from hh]
  refine wpAny_bind (wpAny_pure (wpAny_throw ?_))
  refine hE _ _ _ (Heap.SameBut.update ..) ⟨fun b o hb => Heap.get?_push_of_some _ (Heap.get?_push_of_some _ hb), Heap.get?_none_of_le (by simp), _, _, Heap.get?_push_size _ rfl, rfl, rfl, rfl⟩

theorem iter_list {l : Addr} {items : Array Value} {Q : Value → Shared → Prop} (hl : s.heap.IsList l items)
    (hQ : Q (.ref s.heap.objs.size) { s with heap := s.heap.push { cls := .type "list_iterator", data := .fields #[.ref l, .int 0 0] } }) : wpAny (model prog w) A (call (.builtin "iter") [.ref l]) Q E s := by
  refine call_function_entry (by decide +kernel) (by decide +kernel) kdk_entry_iter (kdk_args_iter _) ?_
  unfold Builtin.«iter»
  refine wpAny_bind (m := someArgs "iter" 1 2 _) (wpAny_of_eq (a := [Value.ref l]) (by first | rfl | kernel_rfl!) ?_)
  show wpAny _ _ (pyIter (.ref l) >>= _) _ _ _
  refine wpAny_bind (wpAny_pyIter_list hl ?_)
  exact wpAny_pure ⟨_, rfl, hQ⟩
end
end Mine
end -- E2

section -- E3
open PySem PySem.W PyProof.Rows PySem.Calls
set_option maxRecDepth 100000
set_option linter.unusedSectionVars false
set_option linter.unusedVariables false
namespace Mine

/-- into a def's body -/
theorem call_enter {w : World} {n : Nat} {a : Addr} {oc : Value} {od : Option Addr} {osl : Array (Option Value)} {fd : FuncData} {body : List Stmt} {nm : List (Str × NameKind)} (names : List Str) {ds : List PD} {vs : List Value} {A : Around} {R : Result → Shared → Prop} {s : Shared}
    {G hX : Rdr} {gX : Nat → Option GenState}
    (hk : (KK w).lookup a = some ⟨oc, od, .func fd, osl⟩) (hbody : fd.body = .stmts body) (hnm : fd.scope.names = nm) (hcode : codeIn (KK w) fd.code fd.qualname = true) (hg : fd.globals = mainGlobals) (hb : fd.builtins = builtinsNs) (hclo : fd.closure = [])
    (hco : fd.scope.isCoroutine = false) (hgen : fd.scope.isGenerator = false) (hkind : fd.scope.kind = .function)
    (hbind : ∀ vs : List Value, vs.length = names.length → bindArgs fd ⟨vs, []⟩ = pure (names.zip vs)) (hlen : names.length = ds.length)
    (hnames : (names.all fun x => nm.lookup x == some .local || nm.lookup x == some .cell) = true) (hnd : names.Nodup)
    (hcells : (nm.all fun p => p.2 != .cell || ((cellsFrom 0 nm []).lookup p.1).isSome) = true)
    (hh : A.handled = none) (hdep : A.depth + (n + 1) < 900) (hun : A.units + 20 * (n + 1) < 9000)
    (l : RdL G ds vs) (gok : GOk (KK w) s.heap) (rdG : Sub G s.heap.get?) (hXs : Sub hX s.heap.get?) (okX : ∃ hB : Heap, GOk (KK w) hB ∧ ∀ a o, hB.get? a = some o → hX a = some o) (hgX : ∀ (i : Nat) (y : GenState), gX i = some y → s.gens[i]? = some y) (bare : AllBare s.gens)
    (h : ∀ (C : Cx) (s₁ : Shared), FO C w n nm → C.A = A.deeper C.env → C.env.frame = some C.env.locals → s.heap.get? C.env.locals = none → (∀ b o, s.heap.get? b = some o → s₁.heap.get? b = some o) → s₁.gens = s.gens → C.os = s.os → C.cown = true →
      St C ⟨hX, gX, G⟩ (params names ds) s₁ G (fun _ => 0) →
      wpAny C.M C.A (execs body C.env) (fun f s' => R (.ok (.ret (match f with | .ret v => v | _ => .none))) s')
        (fun e s' => wpAny C.M C.A (leaving C.env e) (fun _ s'' => R (.error e) s'') (fun e' s'' => R (.error e') s'') s') s₁) :
    codeAny (model PG w) A (.call (.ref a) ⟨vs, []⟩) R s := by
  subst hnm
  have hvl : vs.length = names.length := by rw [l.length, hlen]
  have hkk : ∀ k, ∀ x ∈ names.zip vs, fd.scope.names.lookup x.1 = some .local ∨ (fd.scope.names.lookup x.1 = some .cell ∧ ((cellsFrom k fd.scope.names []).lookup x.1).isSome = true) := fun k x hx => by
    refine kindsX (scope := fd.scope) (binds := names.zip vs) ?_ k x hx
    rw [List.all_eq_true] at hnames ⊢
    intro y hy
    exact hnames y.1 (List.of_mem_zip hy).1
  refine codeAny_call_cells (fd := fd) (binds := names.zip vs) (by unfold recursionLimit; omega) (gok.kin _ _ hk) rfl gok.lim (codeRec_of gok.kin hcode) hbody (hbind vs hvl) hclo (hkk _) ?_ hco hgen hkind
  intro s₁ x
  let C' : Cx := { prog := PG, w := w, K := KK w, A := A.deeper (callEnvC fd s.heap.objs.size a), env := callEnvC fd s.heap.objs.size a, os := s.os, cown := true }
  have hck : COk C' n := ⟨hkind, hh, hg, hb, by show A.depth + 1 + n < 900; omega, by show A.units + 3 + 20 * n < 9000; omega,
    fun y c e => Nat.ne_of_gt (x.above y c (mem_of_lookup e)), fun y z c e e' => name_of_addr x.apart (mem_of_lookup e) (mem_of_lookup e')⟩
  have ok := cellsFrom_ok fd.scope.names (s.heap.push { cls := .type "frame", data := .dict #[] }) (s.heap.objs.size + 1) [] ⟨fun _ _ hm => (nomatch hm), List.Pairwise.nil⟩ (by rw [Heap.size_push]; exact Nat.le_refl _)
  have hcn : (C'.env.cells).map (·.1) = (cellsFrom 0 fd.scope.names []).map (·.1) := cellsFrom_names fd.scope.names _ _ [] [] rfl
  have hFO : FO C' w n fd.scope.names := ⟨rfl, rfl, rfl, hck, fun x k e => by unfold Env.kindOf; exact e, fun x e => by
    rw [fst_lookup hcn]
    have := List.all_eq_true.mp hcells _ (mem_of_lookup e)
    simpa using this, fun _ _ => rfl⟩
  let X : Ext := ⟨hX, gX, G⟩
  obtain ⟨h₁, tk, rfl, hk₁⟩ := x.done
  have nofp : ∀ b, C'.fp b → s.heap.get? b = none := fun b hb => get_ge (by
    rcases hb with rfl | ⟨_, y, hy⟩
    · exact Nat.le_refl _
    · exact Nat.le_of_lt (x.above y b (mem_of_lookup hy)))
  have S : St C' X (params names ds) { s with heap := h₁, toks := tk } G (fun _ => 0) := {
    keep := fun b o e => hk₁ b o (hXs b o e)
    keepg := hgX
    bare := bare
    os := rfl
    ok := okX
    rd := fun b o e => hk₁ b o (rdG b o e)
    g0 := .refl G
    new := fun b o e => .inl e
    fp := fun b hb => by
      have := nofp b hb
      refine ⟨?_, ?_⟩
      · cases q : G b with
        | none => rfl
        | some o => rw [rdG b o q] at this; cases this
      · show hX b = none
        cases q : hX b with
        | none => rfl
        | some o => rw [hXs b o q] at this; cases this
    ns := ⟨_, x.toInCall.ns⟩
    cell := fun y c hy => ⟨_, x.cell y c hy⟩
    cellG := fun h => nomatch h
    loc := fun y sl e => by
      obtain ⟨v, d', hm, rfl, hr⟩ := params_get l e
      refine ⟨v, ?_, hr⟩
      have hndz : ((names.zip vs).map (·.1)).Nodup := by rw [List.map_fst_zip (by omega)]; exact hnd
      rcases hkk (s.heap.objs.size + 1) _ hm with hl | ⟨hl, hc⟩
      · exact .inl ⟨hl, _, x.toInCall.ns, bindL_get hndz hm hl⟩
      · obtain ⟨c, hc⟩ := Option.isSome_iff_exists.mp hc
        refine .inr ⟨.inl hl, c, hc, ?_⟩
        have := x.cell y c hc
        rwa [bindC_get hndz hm (by show fd.scope.names.lookup y ≠ _; rw [hl]; decide)] at this
    own := fun y ⟨sl, e, ho⟩ => by
      obtain ⟨v, d', hm, rfl, hr⟩ := params_get l e
      cases ho
    apart := fun y z ⟨sl, e, ho⟩ _ _ => by
      obtain ⟨v, d', hm, rfl, hr⟩ := params_get l e
      cases ho }
  exact h C' _ hFO rfl rfl (nofp _ (.inl rfl)) hk₁ rfl rfl rfl S
end Mine
end -- E3

section -- E4
open PySem PySem.W PyProof.Rows PySem.Calls
set_option maxRecDepth 100000
set_option linter.unusedSectionVars false
set_option linter.unusedVariables false
namespace Mine

/-! octets -/
theorem and63 {q : Int} (h : 0 ≤ q ∧ q < 64) : Builtin.bitAnd q 63 = q := by
  have := (by decide : ∀ q : Fin 64, Builtin.bitAnd ((q.val : Int)) 63 = (q.val : Int)) ⟨q.toNat, by omega⟩
  have e : ((q.toNat : Nat) : Int) = q := by omega
  rwa [e] at this
theorem and64 {q : Int} (h : 0 ≤ q ∧ q < 64) : Builtin.bitAnd q 64 = 0 := by
  have := (by decide : ∀ q : Fin 64, Builtin.bitAnd ((q.val : Int)) 64 = 0) ⟨q.toNat, by omega⟩
  have e : ((q.toNat : Nat) : Int) = q := by omega
  rwa [e] at this
theorem and63' {q : Int} (h : 0 ≤ q ∧ q < 64) : Builtin.bitAnd (64 + q) 63 = q := by
  have := (by decide : ∀ q : Fin 64, Builtin.bitAnd (64 + (q.val : Int)) 63 = (q.val : Int)) ⟨q.toNat, by omega⟩
  have e : ((q.toNat : Nat) : Int) = q := by omega
  rwa [e] at this
theorem and64' {q : Int} (h : 0 ≤ q ∧ q < 64) : Builtin.bitAnd (64 + q) 64 = 64 := by
  have := (by decide : ∀ q : Fin 64, Builtin.bitAnd (64 + (q.val : Int)) 64 = 64) ⟨q.toNat, by omega⟩
  have e : ((q.toNat : Nat) : Int) = q := by omega
  rwa [e] at this
theorem or64 {q r : Int} (h : 0 ≤ q ∧ q < 64) (h' : 0 ≤ r ∧ r < 64) : Builtin.bitOr (q * 2 ^ 6) r = 64 * q + r := by
  have := (by decide +kernel : ∀ q r : Fin 64, Builtin.bitOr ((q.val : Int) * 2 ^ 6) (r.val : Int) = 64 * (q.val : Int) + (r.val : Int)) ⟨q.toNat, by omega⟩ ⟨r.toNat, by omega⟩
  have e : ((q.toNat : Nat) : Int) = q := by omega
  have e' : ((r.toNat : Nat) : Int) = r := by omega
  rwa [e, e'] at this

section
variable {C : Cx}
theorem op_and {a b : Int} : OP2 C (binaryOp .BitAnd) (.int a) (.int b) (.int (Builtin.bitAnd a b)) := fun A s G v₁ v₂ V h1 h2 => by
  obtain ⟨t, rfl⟩ := h1.int_inv; obtain ⟨u, rfl⟩ := h2.int_inv
  exact PyProof.Rows.and_int (Res.toks V.rd (.int _ _))
theorem op_ior {a b : Int} : OP2 C (inplaceOp .BitOr) (.int a) (.int b) (.int (Builtin.bitOr a b)) := fun A s G v₁ v₂ V h1 h2 => by
  obtain ⟨t, rfl⟩ := h1.int_inv; obtain ⟨u, rfl⟩ := h2.int_inv
  exact PyProof.Rows.ior_int (Res.toks V.rd (.int _ _))
theorem op_ilshift {a : Int} (ha : a.natAbs < 2 ^ 64) : OP2 C (inplaceOp .LShift) (.int a) (.int 6) (.int (a * 2 ^ 6)) := fun A s G v₁ v₂ V h1 h2 => by
  obtain ⟨t, rfl⟩ := h1.int_inv; obtain ⟨u, rfl⟩ := h2.int_inv
  exact PyProof.Rows.ilshift_int_small (by decide) (by decide) ha (Res.toks V.rd (.int _ _))
end
theorem rdl_ints {G G' : Rdr} : ∀ {is : List Int} {vs : List Value}, RdL G (pInts is) vs → RdL G' (pInts is) vs
  | [], _, h => by cases h; exact .nil
  | i :: is, _, h => by
    cases h with | cons h r =>
    obtain ⟨t, rfl⟩ := h.int_inv
    exact .cons (.int _ _) (rdl_ints r)
theorem pInts_at {is : List Int} {j : Nat} {d : Int} (h : is[j]? = some d) : (pInts is)[j]? = some (.int d) := by
  unfold pInts; rw [List.getElem?_map, h]; rfl
theorem drop_at {os : List Int} {i k : Nat} {a b : List Int} {d : Int} (h : os.drop i = a ++ d :: b) (hk : a.length = k) : os[i + k]? = some d := by
  have : (os.drop i)[k]? = some d := by rw [h, ← hk]; simp
  rwa [List.getElem?_drop] at this

section
variable {C : Cx} {n : Nat} {ρ : Rho} {X : Ext} {s : Shared} {G : Rdr} {ow : Str → Addr}
theorem St.joinOne {it : Addr} {o : Obj} (S : St C X ρ s G ow) (hX : X.h it = none) (hG : G it = none) (ho : s.heap.get? it = some o) (hf : ¬ C.fp it) (hw : ∀ x, IsOwn ρ x → ow x ≠ it) : LoopX X (one it o) noG G ∧ St C (joinX X (one it o) noG G) ρ s G ow := by
  refine ⟨{ disj := fun a h => by have := one_ne h; subst this; exact ⟨hX, hG⟩, disg := fun i h => absurd rfl h, sub := S.g0, new := S.new }, { S with keep := fun a x e => ?_, keepg := fun i y e => ?_, ok := ?_, g0 := .refl G, new := fun a o e => .inl e, fp := fun a h => ⟨(S.fp a h).1, Rdr.or_none (G' := one it o) (S.fp a h).2 ?_⟩, own := fun x h => ⟨(S.own x h).1, Rdr.or_none (G' := one it o) (S.own x h).2.1 ?_, (S.own x h).2.2⟩ }⟩
  · rcases Rdr.or_some (G := X.h) (G' := one it o) e with h | ⟨_, h⟩
    · exact S.keep a x h
    · obtain ⟨rfl, rfl⟩ := one_some h; exact ho
  · have e : (X.g i).or none = some y := e
    cases q : X.g i with
    | none => rw [q] at e; cases e
    | some z => rw [q] at e; cases e; exact S.keepg i _ q
  · obtain ⟨h, a, b⟩ := S.ok; exact ⟨h, a, fun x o' e => Rdr.or_left X.h (one it o) x o' (b x o' e)⟩
  · cases q : one it o a with
    | none => rfl
    | some z => have := one_some q; rw [this.1] at h; exact absurd h hf
  · cases q : one it o (ow x) with
    | none => rfl
    | some z => exact absurd (one_some q).1 (hw x h)

/-- a list's iterator, kept apart, at its place j -/
noncomputable def Vs (C : Cx) (X : Ext) (it l : Addr) (j : Nat) (ρ : Rho) (s : Shared) : Prop :=
  ∃ He Gb G ow o, LoopX X He noG Gb ∧ St C (joinX X He noG Gb) ρ s G ow ∧ He it = some o ∧ o.cls = .type "list_iterator" ∧ o.data = .fields #[.ref l, .int j 0]
theorem Vs.weaken {it l : Addr} {j : Nat} {ρ' : Rho} (V : Vs C X it l j ρ s) (h : LeR ρ' ρ) : Vs C X it l j ρ' s := by
  obtain ⟨He, Gb, G, ow, o, a, b, c⟩ := V
  exact ⟨He, Gb, G, ow, o, a, b.weaken h, c⟩

theorem aug_stmt (hC : COk C n) {x : Str} {px pos : Pos} {op : Operator} {e : Expr} {d₀ d₁ d : PD} (hx : ρ.lookup x = some (.val d₀)) (he : EV C ρ e d₁) (ho : OP2 C (inplaceOp op) d₀ d₁ d) (hk : CanStore C x) (S : St C X ρ s G ow) {Qn : Shared → Prop} (h : ∀ s' G' ow', St C X ((x, .val d) :: ρ) s' G' ow' → Qn s')
    (hc : (x == ("__classdict__" : Str)) = false := by decide) : wpAny C.M C.A (exec (.AugAssign (.Name x px) op e pos) C.env) (fun f s' => f = .next ∧ Qn s') NoE s := by
  refine wpAny_AugAssign_Name ?_
  obtain ⟨v, hv, hr⟩ := S.loc x _ hx
  have go : wpAny C.M C.A (eval e C.env) (fun v₁ s₂ => wpAny C.M C.A (inplaceOp op v v₁) (fun r s₃ => wpAny C.M C.A (storeName C.env x r) (fun _ s' => Flow.next = .next ∧ Qn s') NoE s₃) NoE s₂) NoE s := by
    refine wpAny_mono (he s G ow S) (fun v₁ s₂ r => ?_) fun _ _ f => f
    obtain ⟨p, G₁, g, e₁⟩ := r
    have S₁ := S.grow p g
    refine wpAny_mono (ho _ s₂ G₁ v v₁ S₁.vok (Rd.mono g.sub hr) e₁) (fun r s₃ r₂ => ?_) fun _ _ f => f
    obtain ⟨p₂, G₂, g₂, e₂⟩ := r₂
    refine wpAny_mono ((S₁.grow p₂ g₂).storeV hC hk e₂) (fun _ s' h' => ?_) fun _ _ f => f
    obtain ⟨ow', S'⟩ := h'
    exact ⟨rfl, h s' G₂ ow' S'⟩
  rcases hv with ⟨hk, m, hn, hm⟩ | ⟨hk, c, hcl, hcv⟩
  · exact wpAny_loadName_local hC.fn hk hn hm go
  · rcases hk with hk | hk
    · exact wpAny_loadName_cell hC.fn hk hcl hcv go
    · exact wpAny_loadName_free hC.fn hk hcl hcv go hc

theorem vs_asg (hC : COk C n) {it l : Addr} {j : Nat} {x : Str} {px pos : Pos} {e : Expr} {d : PD} (V : Vs C X it l j ρ s) (he : EV C ρ e d) (hk : CanStore C x) {Qn : Shared → Prop} (h : ∀ s', Vs C X it l j ((x, .val d) :: ρ) s' → Qn s')
    (hs : swapsWith e (some (.Name x px)) pos.line C.env = pure false := by rfl) : wpAny C.M C.A (exec (.Assign [.Name x px] e pos) C.env) (fun f s' => f = .next ∧ Qn s') NoE s := by
  obtain ⟨He, Gb, G, ow, o, a, b, c⟩ := V
  exact asg_stmt hC he hk b (fun s' G' ow' S' => h s' ⟨He, Gb, G', ow', o, a, S', c⟩) hs
theorem vs_aug (hC : COk C n) {it l : Addr} {j : Nat} {x : Str} {px pos : Pos} {op : Operator} {e : Expr} {d₀ d₁ d : PD} (V : Vs C X it l j ρ s) (hx : ρ.lookup x = some (.val d₀)) (he : EV C ρ e d₁) (ho : OP2 C (inplaceOp op) d₀ d₁ d) (hk : CanStore C x) {Qn : Shared → Prop} (h : ∀ s', Vs C X it l j ((x, .val d) :: ρ) s' → Qn s')
    (hc : (x == ("__classdict__" : Str)) = false := by decide) : wpAny C.M C.A (exec (.AugAssign (.Name x px) op e pos) C.env) (fun f s' => f = .next ∧ Qn s') NoE s := by
  obtain ⟨He, Gb, G, ow, o, a, b, c⟩ := V
  exact aug_stmt hC hx he ho hk b (fun s' G' ow' S' => h s' ⟨He, Gb, G', ow', o, a, S', c⟩) hc

theorem vs_next (hC : COk C n) (hB : ∃ hB : Heap, GOk C.K hB ∧ ∀ a o, hB.get? a = some o → X.h a = some o) {it l : Addr} {vs : Array Value} {k j : Nat} {d : Int} {t : Tok} {p₀ p₁ p₂ p₃ p₄ : Pos} (hl : X.h l = some (lstO vs k)) (V : Vs C X it l j ρ s) (hx : vs[j]? = some (.int d t)) (hρ : ρ.lookup ("iterator" : Str) = some (.val (.raw (.ref it))))
    (hnx : EV C ρ (.Name "next" p₁) (.raw (.builtin "next"))) (hk : CanStore C "b") {Qn : Shared → Prop} (h : ∀ s', Vs C X it l (j + 1) (("b", .val (.int d)) :: ρ) s' → Qn s')
    (hs : swapsWith (.Call (.Name "next" p₁) [.Name "iterator" p₂] [] p₃) (some (.Name "b" p₀)) p₄.line C.env = pure false := by rfl) :
    wpAny C.M C.A (exec (.Assign [.Name "b" p₀] (.Call (.Name "next" p₁) [.Name "iterator" p₂] [] p₃) p₄) C.env) (fun f s' => f = .next ∧ Qn s') NoE s := by
  obtain ⟨He, Gb, G, ow, o, L, S, c1, c2, c3⟩ := V
  have hEs : EVs C ρ [.Name "iterator" p₂] [.raw (.ref it)] := evs_cons (ev_name hC hρ) evs_nil
  refine wpAny_Assign_Name ?_ hs
  show wpAny _ _ (do callWith p₃ (← eval (.Name "next" p₁) C.env) [] (backTo p₃ (starEach [.Name "iterator" p₂] C.env)) []) _ _ s
  refine wpAny_bind (wpAny_mono (hnx s G ow S) (fun v s₁ r₁ => ?_) fun _ _ f => f.elim)
  obtain ⟨q₁, G₁, x₁, e₁⟩ := r₁
  cases e₁.raw_inv
  have S₁ := S.grow q₁ x₁
  refine callWith_builtin (hEs.1 p₃) (evalArgs_of (hEs.1 p₃) (wpAny_mono (hEs.2 p₃ s₁ G₁ ow S₁) (fun vs' s₂ r₂ => ?_) fun _ _ f => f.elim))
  obtain ⟨q₂, G₂, x₂, e₂⟩ := r₂
  have S₂ := S₁.grow q₂ x₂
  cases e₂ with | cons h1 h2 => cases h2 with | nil =>
  cases h1.raw_inv
  have hit : s₂.heap.IsListIter it l j := ⟨o, (S₂.itIn L).h it o c1, c2, c3⟩
  have hlh := S₂.keep l _ (Rdr.or_left X.h He l _ hl)
  refine next_item hit ⟨_, hlh, rfl, k, rfl⟩ hx fun h' hit' hsb => ?_
  obtain ⟨o', ho', hc', hd'⟩ := hit'
  obtain ⟨L', S'⟩ := S₂.putX (tk := s₂.toks) L hB (.inl (by rw [c1]; exact nofun)) (fun b x hb e => (hsb.2 b hb).trans e) ho'
  refine wpAny_mono (S'.storeV hC hk (.int d t)) (fun _ s₃ h₃ => ?_) fun _ _ f => f
  obtain ⟨ow', S₃⟩ := h₃
  exact ⟨rfl, h s₃ ⟨_, _, _, _, o', L', S₃, Rdr.put_self _ _ _, hc', hd'⟩⟩
end
end Mine
end -- E4

section -- E5
open PySem PySem.W PyProof.Rows PySem.Calls
set_option maxRecDepth 100000
set_option linter.unusedSectionVars false
set_option linter.unusedVariables false
namespace Mine

theorem boot_nx : bootBuiltins "next" = some (.builtin "next") := by decide +kernel
theorem boot_it : bootBuiltins "iter" = some (.builtin "iter") := by decide +kernel
noncomputable def noR : Rdr := fun _ => none
noncomputable def butR (h : Rdr) (it : Addr) : Rdr := fun a => if a = it then none else h a
theorem butR_sub (h : Rdr) (it : Addr) : Sub (butR h it) h := fun a o e => by
  unfold butR at e; split at e
  · cases e
  · exact e
theorem butR_ne {h : Rdr} {it a : Addr} (e : a ≠ it) : butR h it a = h a := by unfold butR; rw [if_neg e]
theorem butR_self (h : Rdr) (it : Addr) : butR h it it = none := by unfold butR; rw [if_pos rfl]

theorem vs_ret {C : Cx} {ρ : Rho} {X : Ext} {s : Shared} {it l : Addr} {j : Nat} {e : Expr} {pos : Pos} {d : Int} {rest : List Stmt} (V : Vs C X it l j ρ s) (he : EV C ρ e (.int d)) :
    wpAny C.M C.A (execs (.Return (some e) pos :: rest) C.env) (fun f s' => ∃ t, f = .ret (.int d t) ∧ ∃ ρ, Vs C X it l j ρ s') NoE s := by
  obtain ⟨He, Gb, G, ow, o, L, S, c⟩ := V
  refine wpAny_execs_cons (wpAny_Return_some (wpAny_mono (he s G ow S) (fun v s' r => ?_) fun _ _ f => f))
  obtain ⟨p, G', g, hr⟩ := r
  obtain ⟨t, rfl⟩ := hr.int_inv
  exact ⟨t, rfl, ρ, He, Gb, G', ow, o, L, S.grow p g, c⟩
set_option maxHeartbeats 4000000 in
theorem varint_ok (w : World) {A : Around} (hh : A.handled = none) (hdep : A.depth + 2 < 900) (hun : A.units + 40 < 9000) {s₀ : Shared} {it l : Addr} {i : Nat} {vs : Array Value} {k : Nat} {os rest : List Int} {n : Int} (gok : GOk (KK w) s₀.heap) (bare : AllBare s₀.gens)
    (hB : ∃ hB : Heap, GOk (KK w) hB ∧ (∀ a o, hB.get? a = some o → s₀.heap.get? a = some o) ∧ hB.get? it = none)
    (hit : s₀.heap.IsListIter it l i) (hl : s₀.heap.get? l = some (lstO vs k)) (hv : RdL noR (pInts os) vs.toList) (ho : os.drop i = oct1 n ++ rest) (hn : 0 ≤ n ∧ n ≤ 4095) :
    wpAny (model PG w) A (call (.ref 28) [.ref it]) (fun v s' => ∃ t, v = .int n t ∧ (∀ b o, b ≠ it → s₀.heap.get? b = some o → s'.heap.get? b = some o) ∧ s'.heap.IsListIter it l (i + (oct1 n).length) ∧
      (∀ (i : Nat) (y : GenState), s₀.gens[i]? = some y → s'.gens[i]? = some y) ∧ AllBare s'.gens ∧ s'.os = s₀.os) NoE s₀ := by
  refine wpAny_call ?_
  obtain ⟨hB, hB1, hB2, hB3⟩ := hB
  have hne : l ≠ it := by
    rintro rfl
    obtain ⟨o, e, c, _⟩ := hit
    rw [hl] at e; cases e
    have c : Value.type "list" = .type "list_iterator" := c
    injection c with c
    exact absurd c (by decide)
  obtain ⟨o, hio, hc, hd⟩ := id hit
  refine call_enter (n := 1) (G := noR) (hX := butR s₀.heap.get? it) (gX := fun i => s₀.gens[i]?) ["iterator"] (ds := [.raw (.ref it)]) rfl rfl rfl rfl rfl rfl rfl rfl rfl rfl ?_ rfl rfl (by decide) rfl hh (by omega) (by omega) (.cons (.raw _) .nil) gok (fun _ _ e => nomatch e)
    (butR_sub _ _) ⟨hB, hB1, fun a x e => ?_⟩ (fun _ _ e => e) bare ?_
  · intro vs h
    match vs, h with
    | [x], _ => rfl
  · rw [butR_ne]
    · exact hB2 a x e
    · rintro rfl; rw [hB3] at e; cases e
  · intro C s₁ Fo hA hfr hnew hk1 hg1 hos hco S
    have line := line3
    have okX : ∃ hB : Heap, GOk C.K hB ∧ ∀ a o, hB.get? a = some o → (butR s₀.heap.get? it) a = some o := ⟨hB, Fo.K ▸ hB1, fun a x e => by
      rw [butR_ne]
      · exact hB2 a x e
      · rintro rfl; rw [hB3] at e; cases e⟩
    have hXl : (butR s₀.heap.get? it) l = some (lstO vs k) := by rw [butR_ne hne]; exact hl
    have nofp : ¬ C.fp it := by
      rintro (h | ⟨_, x, h⟩)
      · rw [← h, hio] at hnew; cases hnew
      · have := S.cell x it h
        obtain ⟨v, o', e, d⟩ := this
        have h2 := hk1 it o hio
        rw [e] at h2; cases h2
        rw [hd] at d; cases d
    obtain ⟨L₁, S₁⟩ := S.joinOne (it := it) (o := o) (butR_self _ _) rfl (hk1 it o hio) nofp (fun x hx => by
      obtain ⟨sl, e, ho⟩ := hx
      have e : List.lookup x [(("iterator" : Str), Slot.val (.raw (.ref it)))] = some sl := e
      rw [lookup_cons_eq] at e
      split at e
      · cases e; cases ho
      · cases e)
    have V : Vs C ⟨butR s₀.heap.get? it, fun i => s₀.gens[i]?, noR⟩ it l i [("iterator", .val (.raw (.ref it)))] s₁ := ⟨_, _, _, _, o, L₁, S₁, one_self _ _, hc, hd⟩
    have fin : ∀ {ρ : Rho} {s' : Shared}, Vs C ⟨butR s₀.heap.get? it, fun i => s₀.gens[i]?, noR⟩ it l (i + (oct1 n).length) ρ s' → (∀ b o, b ≠ it → s₀.heap.get? b = some o → s'.heap.get? b = some o) ∧ s'.heap.IsListIter it l (i + (oct1 n).length) ∧ (∀ (i : Nat) (y : GenState), s₀.gens[i]? = some y → s'.gens[i]? = some y) ∧ AllBare s'.gens ∧ s'.os = s₀.os := fun V => by
      obtain ⟨He, Gb, G, ow, o, L, S, c1, c2, c3⟩ := V
      refine ⟨fun b x hb e => S.keep b x (Rdr.or_left _ _ b x ?_), ⟨o, (S.itIn L).h it o c1, c2, c3⟩, fun i y e => S.keepg i y ?_, S.bare, S.os.trans hos⟩
      · rw [← e]; exact butR_ne hb
      · show (s₀.gens[i]?).or none = _; rw [e]; rfl
    have hnx : ∀ {ρ : Rho} {p : Pos}, EV C ρ (.Name "next" p) (.raw (.builtin "next")) := @fun ρ p => Fo.gb rfl rfl boot_nx
    refine wpAny_mono (show wpAny C.M C.A (execs _ C.env) (fun f s' => ∃ t, f = .ret (.int n t) ∧ ∃ ρ, Vs C ⟨butR s₀.heap.get? it, fun i => s₀.gens[i]?, noR⟩ it l (i + (oct1 n).length) ρ s') NoE s₁ from ?_) (fun f s' h => ?_) (fun _ _ f => f.elim)
    · by_cases h63 : n > 63
      · have hq : 0 ≤ n / 64 ∧ n / 64 < 64 := by omega
        have hr : 0 ≤ n % 64 ∧ n % 64 < 64 := by omega
        have hoct : oct1 n = [64 + n / 64, n % 64] := by unfold oct1; rw [if_pos h63]
        rw [hoct] at ho
        have hx0 : os[i]? = some (64 + n / 64) := drop_at (a := []) ho rfl
        have hx1 : os[i + 1]? = some (n % 64) := drop_at (a := [64 + n / 64]) ho rfl
        obtain ⟨v0, hv0, hr0⟩ := hv.get (pInts_at hx0)
        obtain ⟨v1, hv1, hr1⟩ := hv.get (pInts_at hx1)
        obtain ⟨t0, rfl⟩ := hr0.int_inv
        obtain ⟨t1, rfl⟩ := hr1.int_inv
        rw [Array.getElem?_toList] at hv0 hv1
        have hlen : i + (oct1 n).length = i + 2 := by rw [hoct]; rfl
        rw [hlen]
        have hnq : 64 * (n / 64) + n % 64 = n := by omega
        have hne0 : ((64 : Int) != 0) = true := rfl
        refine two_stmt (vs_next Fo.ok okX hXl V hv0 rfl hnx (Fo.sl rfl) fun s V => ?_)
        refine two_stmt (vs_asg Fo.ok V (ev_binop (ev_name Fo.ok rfl) (ev_int _ _ _) op_and) (Fo.sl rfl) fun s V => ?_)
        rw [and63' hq] at V
        refine two_stmt (wpAny_While ?_)
        refine codeAny_whileLoop (fun k s' => if k = 1 then Vs C ⟨butR s₀.heap.get? it, fun i => s₀.gens[i]?, noR⟩ it l (i + 1) [("val", .val (.int (n / 64))), ("b", .val (.int (64 + n / 64))), ("iterator", .val (.raw (.ref it)))] s' else Vs C ⟨butR s₀.heap.get? it, fun i => s₀.gens[i]?, noR⟩ it l (i + 2) [("val", .val (.int n)), ("b", .val (.int (n % 64))), ("iterator", .val (.raw (.ref it)))] s') ?_ 1 ?_
        · intro k s hk
          by_cases q : k = 1
          · subst q
            rw [if_pos rfl] at hk
            obtain ⟨He, Gb, G, ow, o, L, S, c⟩ := hk
            refine wpAny_mono (et_of (c := true) (et_plain (ev_binop (ev_name Fo.ok rfl) (ev_int _ _ _) op_and) tr_int) (by rw [and64' hq]; rfl) s G ow S) (fun b s' h => ?_) fun _ _ f => f.elim
            obtain ⟨rfl, p⟩ := h
            have S' := S.grow p (.same fun a o e => p.heap a o (S.rd a o e))
            have V : Vs C ⟨butR s₀.heap.get? it, fun i => s₀.gens[i]?, noR⟩ it l (i + 1) [("val", .val (.int (n / 64))), ("b", .val (.int (64 + n / 64))), ("iterator", .val (.raw (.ref it)))] s' := ⟨He, Gb, G, ow, o, L, S', c⟩
            rw [if_pos rfl]
            refine wpAny_mono (show wpAny C.M C.A (execs _ C.env) (fun f s' => f = .next ∧ Vs C ⟨butR s₀.heap.get? it, fun i => s₀.gens[i]?, noR⟩ it l (i + 2) [("val", .val (.int n)), ("b", .val (.int (n % 64))), ("iterator", .val (.raw (.ref it)))] s') NoE s' from ?_) (fun f s' h => ?_) (fun _ _ f => f.elim)
            · refine two_stmt (vs_aug Fo.ok V rfl (ev_int _ _ _) (op_ilshift (by omega)) (Fo.sl rfl) fun s V => ?_)
              refine two_stmt (vs_next Fo.ok okX hXl V hv1 rfl hnx (Fo.sl rfl) fun s V => ?_)
              refine one_stmt (vs_aug Fo.ok V rfl (ev_binop (ev_name Fo.ok rfl) (ev_int _ _ _) op_and) op_ior (Fo.sl rfl) fun s V => ⟨rfl, ?_⟩)
              rw [and63 hr, or64 hq hr, hnq] at V
              exact V.weaken (by repeat (first | exact LeR.nil | refine LeR.cons rfl ?_))
            · obtain ⟨rfl, V⟩ := h
              exact ⟨0, by decide, by rw [if_neg (by decide)]; exact V⟩
          · rw [if_neg q] at hk
            obtain ⟨He, Gb, G, ow, o, L, S, c⟩ := hk
            refine wpAny_mono (et_of (c := false) (et_plain (ev_binop (ev_name Fo.ok rfl) (ev_int _ _ _) op_and) tr_int) (by rw [and64 hr]; rfl) s G ow S) (fun b s' h => ?_) fun _ _ f => f.elim
            obtain ⟨rfl, p⟩ := h
            have S' := S.grow p (.same fun a o e => p.heap a o (S.rd a o e))
            have V : Vs C ⟨butR s₀.heap.get? it, fun i => s₀.gens[i]?, noR⟩ it l (i + 2) [("val", .val (.int n)), ("b", .val (.int (n % 64))), ("iterator", .val (.raw (.ref it)))] s' := ⟨He, Gb, G, ow, o, L, S', c⟩
            rw [if_neg Bool.false_ne_true]
            refine wpAny_execs_nil ⟨rfl, ?_⟩
            exact vs_ret V (ev_name Fo.ok rfl)
        · rw [if_pos rfl]; exact V
      · have hr : 0 ≤ n ∧ n < 64 := by omega
        have hoct : oct1 n = [n] := by unfold oct1; rw [if_neg h63]; have : n % 64 = n := by omega
                                       rw [this]
        rw [hoct] at ho
        have hx0 : os[i]? = some n := drop_at (a := []) ho rfl
        obtain ⟨v0, hv0, hr0⟩ := hv.get (pInts_at hx0)
        obtain ⟨t0, rfl⟩ := hr0.int_inv
        rw [Array.getElem?_toList] at hv0
        have hlen : i + (oct1 n).length = i + 1 := by rw [hoct]; rfl
        rw [hlen]
        refine two_stmt (vs_next Fo.ok okX hXl V hv0 rfl hnx (Fo.sl rfl) fun s V => ?_)
        refine two_stmt (vs_asg Fo.ok V (ev_binop (ev_name Fo.ok rfl) (ev_int _ _ _) op_and) (Fo.sl rfl) fun s V => ?_)
        rw [and63 hr] at V
        refine two_stmt (wpAny_While ?_)
        refine codeAny_whileLoop (fun k s' => Vs C ⟨butR s₀.heap.get? it, fun i => s₀.gens[i]?, noR⟩ it l (i + 1) [("val", .val (.int n)), ("b", .val (.int n)), ("iterator", .val (.raw (.ref it)))] s') ?_ 0 V
        intro k s hk
        obtain ⟨He, Gb, G, ow, o, L, S, c⟩ := hk
        refine wpAny_mono (et_of (c := false) (et_plain (ev_binop (ev_name Fo.ok rfl) (ev_int _ _ _) op_and) tr_int) (by rw [and64 hr]; rfl) s G ow S) (fun b s' h => ?_) fun _ _ f => f.elim
        obtain ⟨rfl, p⟩ := h
        have S' := S.grow p (.same fun a o e => p.heap a o (S.rd a o e))
        have V : Vs C ⟨butR s₀.heap.get? it, fun i => s₀.gens[i]?, noR⟩ it l (i + 1) [("val", .val (.int n)), ("b", .val (.int n)), ("iterator", .val (.raw (.ref it)))] s' := ⟨He, Gb, G, ow, o, L, S', c⟩
        rw [if_neg Bool.false_ne_true]
        refine wpAny_execs_nil ⟨rfl, ?_⟩
        exact vs_ret V (ev_name Fo.ok rfl)
    · obtain ⟨t, rfl, ρ, V⟩ := h
      exact ⟨t, rfl, fin V⟩
end Mine
end -- E5

section -- E6
open PySem PySem.W PyProof.Rows PySem.Calls
set_option maxRecDepth 100000
set_option linter.unusedSectionVars false
set_option linter.unusedVariables false
namespace Mine

set_option maxHeartbeats 4000000 in
theorem varint_end (w : World) {A : Around} (hh : A.handled = none) (hdep : A.depth + 2 < 900) (hun : A.units + 40 < 9000) {s₀ : Shared} {it l : Addr} {i : Nat} {vs : Array Value} {k : Nat} {base : Heap} {fr : List Env} (gok : GOk (KK w) s₀.heap) (bare : AllBare s₀.gens)
    (hit : s₀.heap.IsListIter it l i) (hl : s₀.heap.get? l = some (lstO vs k)) (hend : vs[i]? = none) (hfr : A.frames = some fr) (hb : base.StaysIn s₀.heap) (hF : s₀.heap.FunFrames base fr) (hbit : base.get? it = none) :
    wpAny (model PG w) A (call (.ref 28) [.ref it]) (fun _ _ => False) (fun x s' => ∃ e, x = .ref e ∧ Kd base fr s₀.heap s'.heap ∧ TrF s'.heap base e (.type "StopIteration") .none ∧ base.get? e = none ∧
      (∀ (i : Nat) (y : GenState), s₀.gens[i]? = some y → s'.gens[i]? = some y) ∧ AllBare s'.gens ∧ s'.os = s₀.os) s₀ := by
  refine wpAny_call ?_
  obtain ⟨o, hio, hc, hd⟩ := id hit
  refine call_enter (n := 1) (G := noR) (hX := s₀.heap.get?) (gX := fun i => s₀.gens[i]?) ["iterator"] (ds := [.raw (.ref it)]) rfl rfl rfl rfl rfl rfl rfl rfl rfl rfl ?_ rfl rfl (by decide) rfl hh (by omega) (by omega) (.cons (.raw _) .nil) gok (fun _ _ e => nomatch e)
    (fun _ _ e => e) ⟨_, gok, fun a x e => e⟩ (fun _ _ e => e) bare ?_
  · intro vs h
    match vs, h with
    | [x], _ => rfl
  · intro C s₁ Fo hA hfrm hnew hk1 hg1 hos hco S
    have line := line3
    have hnx : ∀ {ρ : Rho} {p : Pos}, EV C ρ (.Name "next" p) (.raw (.builtin "next")) := @fun ρ p => Fo.gb rfl rfl boot_nx
    refine wpAny_execs_cons ?_
    refine wpAny_Assign_Name ?_ rfl
    have hEs : ∀ p₂, EVs C (params ["iterator"] [.raw (.ref it)]) [.Name "iterator" p₂] [.raw (.ref it)] := fun p₂ => evs_cons (ev_name Fo.ok rfl) evs_nil
    show wpAny _ _ (do callWith _ (← eval (.Name "next" _) C.env) [] (backTo _ (starEach [.Name "iterator" _] C.env)) []) _ _ s₁
    refine wpAny_bind (wpAny_mono (hnx s₁ _ _ S) (fun v s₂ r₁ => ?_) fun _ _ f => f.elim)
    obtain ⟨q₁, G₁, x₁, e₁⟩ := r₁
    cases e₁.raw_inv
    have S₁ := S.grow q₁ x₁
    refine callWith_builtin ((hEs _).1 _) (evalArgs_of ((hEs _).1 _) (wpAny_mono ((hEs _).2 _ s₂ G₁ _ S₁) (fun vs' s₃ r₂ => ?_) fun _ _ f => f.elim))
    obtain ⟨q₂, G₂, x₂, e₂⟩ := r₂
    have S₂ := S₁.grow q₂ x₂
    cases e₂ with | cons h1 h2 => cases h2 with | nil =>
    cases h1.raw_inv
    have k3 : ∀ b o, s₀.heap.get? b = some o → s₃.heap.get? b = some o := fun b o e => q₂.heap b o (q₁.heap b o (hk1 b o e))
    refine next_end Fo.ok.hnd ⟨o, k3 it o hio, hc, hd⟩ ⟨_, k3 l _ hl, rfl, k, rfl⟩ hend fun h₁ h' e hsb hN => ?_
    have kit : ∀ b o, b ≠ it → s₃.heap.get? b = some o → h'.get? b = some o := fun b o hb e => hN.keeps b o ((hsb.2 b hb).trans e)
    have stay : base.StaysIn h' := fun b o e => kit b o (by rintro rfl; rw [hbit] at e; cases e) (k3 b o (hb b o e))
    have hbL : base.get? C.env.locals = none := by
      cases q : base.get? C.env.locals with
      | none => rfl
      | some o => rw [hb _ o q] at hnew; cases hnew
    have hben : base.get? e = none := by
      cases q : base.get? e with
      | none => rfl
      | some o =>
        have h2 := k3 _ _ (hb _ _ q)
        have : e ≠ it := by rintro rfl; rw [hbit] at q; cases q
        have := hN.new
        rw [hsb.2 e ‹_›, h2] at this; cases this
    have hLit : C.env.locals ≠ it := by rintro h; rw [h, hio] at hnew; cases hnew
    have data : ∀ b o, s₀.heap.get? b = some o → (∀ vs, o.data ≠ .fields vs) → h'.get? b = some o := fun b o e hnf => kit b o (by rintro rfl; rw [hio] at e; cases e; exact hnf _ hd) (k3 b o e)
    have hFF : h'.FunFrames base (C.env :: fr) := by
      obtain ⟨m, oL, es, ep, e1, e2, _⟩ := S₂.ns
      refine ⟨by rw [Fo.ok.fn]; decide, ⟨_, oL, hfrm, hbL, kit _ _ hLit e1, fun vs q => ?_⟩, hF.of_keeps fun b o e hnf => ⟨o, data b o e hnf, rfl⟩⟩
      rw [e2] at q; cases q
    obtain ⟨ob, fs, t1, t2, t3, t4⟩ := hN.there
    refine wpAny_leaving_first (by rw [hA]; exact Around.frames_deeper hfr) hFF hfrm t1 stay hben t3 t4 fun h'' hL => ?_
    obtain ⟨l1, l2, l3, l4⟩ := hL
    rw [t2] at l3
    exact ⟨e, rfl, ⟨l1, l2.2.2, fun b o e hnf => l4 b o (data b o e hnf) hnf⟩, l3, hben, fun i y e => S₂.keepg i y e, S₂.bare, S₂.os.trans hos⟩
end Mine
end -- E6

section -- E7
open PySem PySem.W PyProof.Rows PySem.Calls
set_option maxRecDepth 100000
set_option linter.unusedSectionVars false
set_option linter.unusedVariables false
namespace Mine

/-! a heap without some places -/
noncomputable def lessH (h : Heap) : List Addr → Heap
  | [] => h
  | a :: r => (lessH h r).update a fun _ => noObj
theorem lessH_self (h : Heap) (a : Addr) : (h.update a fun _ => noObj).get? a = none := by
  cases q : (h.update a fun _ => noObj).get? a with
  | none => rfl
  | some o =>
    obtain ⟨q1, q2⟩ := Heap.get?_some_iff.mp q
    obtain ⟨objs⟩ := h
    simp only [Heap.update, Array.getElem?_modify, if_true] at q1
    cases e : objs[a]? with
    | none => rw [e] at q1; cases q1
    | some x => rw [e] at q1; cases q1; cases q2
theorem lessH_other {h : Heap} : ∀ {l : List Addr} {b : Addr}, b ∉ l → (lessH h l).get? b = h.get? b
  | [], _, _ => rfl
  | a :: r, b, hb => by
    rw [List.mem_cons] at hb
    exact (Heap.get?_update_other _ _ (fun e => hb (.inl e.symm))).trans (lessH_other fun e => hb (.inr e))
theorem lessH_in {h : Heap} : ∀ {l : List Addr} {b : Addr}, b ∈ l → (lessH h l).get? b = none
  | a :: r, b, hb => by
    by_cases e : b = a
    · subst e; exact lessH_self _ _
    · refine (Heap.get?_update_other _ _ (fun q => e q.symm)).trans (lessH_in ?_)
      rcases List.mem_cons.mp hb with q | q
      · exact absurd q e
      · exact q
theorem lessH_sub (h : Heap) (l : List Addr) : ∀ b o, (lessH h l).get? b = some o → h.get? b = some o := fun b o e => by
  by_cases q : b ∈ l
  · rw [lessH_in q] at e; cases e
  · rwa [lessH_other q] at e

section
variable {C : Cx} {n : Nat} {ρ : Rho} {X : Ext} {s : Shared} {G Gb He : Rdr} {ow : Str → Addr}
/-- an object kept apart is changed while a call runs -/
theorem St.putS (LX : LoopX X He noG Gb) (hB : ∃ hB : Heap, GOk C.K hB ∧ ∀ a o, hB.get? a = some o → X.h a = some o) (S : St C (joinX X He noG Gb) ρ s G ow) {a : Addr} {o : Obj} {s' : Shared} (ha : He a ≠ none ∨ s.heap.get? a = none)
    (hk : ∀ b x, b ≠ a → s.heap.get? b = some x → s'.heap.get? b = some x) (ho : s'.heap.get? a = some o) (hg : ∀ (i : Nat) (y : GenState), s.gens[i]? = some y → s'.gens[i]? = some y) (hb : AllBare s'.gens) (hos : s'.os = s.os) :
    LoopX X (He.put a o) noG G ∧ St C (joinX X (He.put a o) noG G) ρ s' G ow := by
  have hGa : G a = none := by
    rcases ha with ha | ha
    · exact S.disj LX a ha
    · cases q : G a with
      | none => rfl
      | some x => rw [S.rd a x q] at ha; cases ha
  refine S.step LX hB (s' := s') ⟨fun b x hb e => hk b x ?_ e, fun i y _ e => hg i y e, hb, hos⟩ ⟨.refl G, fun b x e => .inl e, fun b x e => hk b x ?_ (S.rd b x e), fun b x e => ?_, fun i y e => (nomatch e), fun b hb => ?_, fun i hi => absurd rfl hi, fun b hb => ?_⟩
  · rintro rfl
    rcases ha with h | h
    · exact h hb
    · rw [h] at e; cases e
  · rintro rfl; rw [hGa] at e; cases e
  · unfold Rdr.put at e
    split at e
    · rename_i q; subst q; cases e; exact ho
    · rename_i q; exact hk b x q ((S.itIn LX).h b x e)
  · by_cases q : b = a
    · subst q; exact ha
    · left; unfold Rdr.put at hb; rwa [if_neg q] at hb
  · by_cases q : b = a
    · subst q; exact hGa
    · unfold Rdr.put at hb; rw [if_neg q] at hb; exact S.disj LX b hb

theorem newList_stmt (hC : COk C n) {x : Str} {px pos lpos : Pos} {es : List Expr} {ds : List PD} (he : EVs C ρ es ds) (hk : CanStore C x) (S : St C X ρ s G ow) {Qn : Shared → Prop} (h : ∀ s' G' ow', St C X ((x, .own ds) :: ρ) s' G' ow' → Qn s') (hsz : ds.length ≤ sizeLine := by simp only [List.length_cons, List.length_nil]; decide) :
    wpAny C.M C.A (exec (.Assign [.Name x px] (.List es lpos) pos) C.env) (fun f s' => f = .next ∧ Qn s') NoE s := by
  refine wpAny_Assign_Name (List_ (wpAny_mono (he.2 lpos s G ow S) (fun vs s₁ r₁ => ?_) fun _ _ f => f.elim)) rfl
  obtain ⟨p₁, G₁, x₁, e₁⟩ := r₁
  have S₁ := S.grow p₁ x₁
  refine wpAny_newList ?_ (by rw [e₁.length]; exact hsz)
  have S₂ : St C X ρ { s₁ with heap := s₁.heap.push (lstO vs.toArray 0) } G₁ ow := S₁.grow (.push _ _ s₁.toks) (.same fun a o e => Heap.get?_push_of_some _ (S₁.rd a o e))
  have fr := S₁.fresh x (.own ds)
  refine wpAny_mono (S₂.store hC hk (sl := .own ds) (a := s₁.heap.objs.size) ⟨rfl, vs.toArray, 0, Heap.get?_push_size _ rfl, by simpa using e₁⟩ fr) (fun _ s'' h'' => ?_) fun _ _ f => f
  exact ⟨rfl, h _ _ _ h''⟩

/-- x.append(e), where e may do more -/
theorem append_gen (hC : COk C n) {x : Str} {px apos pos spos : Pos} {e : Expr} {ds : List PD} {pl : Sem Bool} {E : Value → Shared → Prop} {Qn : Shared → Prop} (S : St C X ρ s G ow) (hx : ρ.lookup x = some (.own ds))
    (harg : wpAny C.M C.A (eval e C.env) (fun v s₁ => ∃ X' G₁ d, St C X' ρ s₁ G₁ ow ∧ Rd G₁ d v ∧ (∀ s' G' ow', St C X' ((x, .own (ds ++ [d])) :: ρ) s' G' ow' → Qn s')) E s) (hsz : ds.length ≤ sizeLine)
    (hev : eval (.Call (.Attribute (.Name x px) "append" apos) [e] [] pos) C.env = (do
      let ov ← eval (.Name x px) C.env
      standAt apos.atName
      let (f, first) ← holding [ov] (getMethod ov "append" pl)
      callWith pos f first (backTo pos (starEach [e] C.env)) []) := by rfl)
    (hst : starEach [e] C.env = [(false, eval e C.env)] := by rfl) (hd : (x == ("__debug__" : Str)) = false := by decide) (hc : (x == ("__classdict__" : Str)) = false := by decide)
    (hs : swapsWith (.Call (.Attribute (.Name x px) "append" apos) [e] [] pos) none spos.line C.env = pure false := by rfl) :
    wpAny C.M C.A (exec (.Expr (.Call (.Attribute (.Name x px) "append" apos) [e] [] pos) spos) C.env) (fun f s' => f = .next ∧ Qn s') E s := by
  refine wpAny_Expr ?_ (interactive_fn hC) hs
  obtain ⟨hat, vs, k, hg, hl⟩ := S.ownAt hx
  refine MethodCall_ (pl := pl) (hat.eval hC ?_ hd hc) hev
  refine getMethod_list_append hg rfl rfl ?_
  dsimp only
  refine callWith_builtin (by rw [hst]; rfl) (evalArgs_of (by rw [hst]; rfl) ?_)
  rw [hst]
  show wpAny _ _ (spliced [(false, eval e C.env)]) _ _ s
  refine spliced_cons (wpAny_mono harg (fun v s₁ r₁ => spliced_nil ?_) fun _ _ f => f)
  obtain ⟨X', G₁, d, S₁, e₁, hQ⟩ := r₁
  obtain ⟨_, vs₁, k₁, hg₁, hl₁⟩ := S₁.ownAt hx
  have hlen : vs₁.size = ds.length := by rw [← hl₁.length]; simp
  refine call_meets F.slot_list_append ⟨_, hg₁, rfl⟩ F.entry_list_append (F.args_list_append_2 _ _) (list_append (ow x) vs₁ k₁ v (by omega)) ⟨hg₁, ?_⟩
  refine ⟨rfl, hQ _ G₁ ow ?_⟩
  refine S₁.update ⟨_, hx, rfl⟩ (Heap.SameBut.update ..) (sl := .own (ds ++ [d])) ⟨rfl, vs₁.push v, k₁ + 1, ?_, ?_⟩ rfl
  · rw [Heap.get?_update_self _ hg₁ rfl, Obj.mapSeq_push_plain]
  · rw [Array.toList_push]
    exact hl₁.append (.cons e₁ .nil)
end
end Mine
end -- E7

section -- E8
open PySem PySem.W PyProof.Rows PySem.Calls
set_option maxRecDepth 100000
set_option linter.unusedSectionVars false
set_option linter.unusedVariables false
namespace Mine

theorem boot_stop : bootBuiltins "StopIteration" = some (.type "StopIteration") := by decide +kernel
theorem octetsF_app (a b : List Int) : octetsF (a ++ b) = octetsF a ++ octetsF b := by unfold octetsF; rw [List.flatMap_append]
theorem octetsF_cons (n : Int) (a : List Int) : octetsF (n :: a) = oct1 n ++ octetsF a := by unfold octetsF; rw [List.flatMap_cons]
theorem pInts_snoc (a : List Int) (n : Int) : pInts a ++ [.int n] = pInts (a ++ [n]) := by unfold pInts; rw [List.map_append]; rfl

/-- what the call of _law_read leaves -/
noncomputable def ReadPost (s₀ : Shared) (Ll : Addr) (G : Rdr) (row : List Int) (v : Value) (s' : Shared) : Prop :=
  (∀ b o, b ≠ Ll → s₀.heap.get? b = some o → s'.heap.get? b = some o) ∧ (∀ o, s₀.heap.get? Ll = some o → ∃ sl, s'.heap.get? Ll = some { o with slots := sl }) ∧
  (∀ (i : Nat) (y : GenState), s₀.gens[i]? = some y → s'.gens[i]? = some y) ∧ AllBare s'.gens ∧ s'.os = s₀.os ∧
  ∃ G', Sub G G' ∧ (∀ a o, G' a = some o → G a = some o ∨ s₀.heap.get? a = none) ∧ Sub G' s'.heap.get? ∧ Rd G' (.list (pInts row)) v

/-- the exception is caught: from the turn that raised to the end -/
theorem caught {C : Cx} {w : World} {nm : List (Str × NameKind)} {n : Nat} (Fo : FO C w n nm) {el : Env} {Q : Flow → Shared → Prop} {s : Shared} {base : Heap} {e : Addr} {h₀ : Heap} {npos hpos : Pos} {b₀ : Stmt} {suite : List Stmt}
    (hfr : C.A.frames = some [C.env, el]) (hfrm : C.env.frame = some C.env.locals) (hstop : nm.lookup ("StopIteration" : Str) = some .globalImplicit) (hgk : GOk (KK w) s.heap)
    (K : Kd base [C.env, el] h₀ s.heap) (hT : TrF s.heap base e (.type "StopIteration") .none) (hbe : base.get? e = none)
    (hgok : ∀ h', Kd base [C.env, el] h₀ h' → GOk (KK w) h')
    (hQ : ∀ h' tk, Kd base [C.env, el] h₀ h' → wpAny C.M (C.A.mark (some (.ref e))) (execs (b₀ :: suite) C.env) Q NoE { s with heap := h', toks := tk }) :
    notedBy C.M C.A C.env (fun x s' => cameBackBy C.M C.A C.env (fun x s₁ => wpAny C.M C.A (noteFrame x C.env) (fun _ s₂ => wpAny C.M C.A (setFlight x none) (fun _ s₃ => wpAny C.M C.A
      (handleBy x C.env [.ExceptHandler (some (.Name "StopIteration" npos)) none (b₀ :: suite) hpos]) Q NoE s₃) NoE s₂) NoE s₁) x s') (.ref e) s := by
  unfold notedBy cameBackBy
  refine note_next (base := base) hfr hfrm K.stay K.fun_ hbe hT fun h₁ K₁ T₁ => ?_
  have K₁ := K.trans K₁
  obtain ⟨oe, vs, T, oT, ts, t1, t2, t3, t4, t5, t6, t7, t8, t9⟩ := id T₁
  refine wpAny_bind (wpAny_field t1 t3 t4 ?_)
  rw [if_neg (show ¬ ((Value.ref T == Value.none) = true) from Bool.false_ne_true)]
  show wpAny _ _ (setFlight (.ref e) C.env.frame) _ _ _
  refine flight_set (base := base) (l := [C.env, el]) K₁.stay K₁.fun_ T₁ fun h₂ K₂ T₂ => ?_
  have K₂ := K₁.trans K₂
  rw [hfrm] at T₂
  refine note_stay hfrm T₂ ?_
  refine flight_set (base := base) (l := [C.env, el]) K₂.stay K₂.fun_ T₂ fun h₃ K₃ T₃ => ?_
  have K₃ := K₂.trans K₃
  obtain ⟨oe', vs', T', oT', ts', u1, u2, _⟩ := id T₃
  refine wpAny_handleBy_builtin (X := "StopIteration") (T := "StopIteration") (b := true) (isSubtype_of_subB (by decide +kernel)) (isSubtype_of_subB (by decide +kernel)) isSubtype_stop ?_
  have gok := hgok h₃ K₃
  obtain ⟨mg, hg⟩ := gok.g
  obtain ⟨mb, hb, hb'⟩ := gok.b
  refine Name_function_global Fo.ok.fn (Fo.kind _ _ hstop) (loadGlobal_builtin (Fo.ok.globals ▸ hg) (mg_none_of gok.kin hg (by rfl)) (Fo.ok.builtins ▸ hb) ((hb' _ (by decide)).trans boot_stop) ⟨rfl, ⟨oe', u1, u2⟩, ?_⟩) (by decide)
  rw [if_pos rfl]
  refine flight_set (base := base) (l := [C.env, el]) K₃.stay K₃.fun_ T₃ fun h₄ K₄ T₄ => ?_
  exact wpAny_mono (hQ h₄ s.toks (K₃.trans K₄)) (fun _ _ h => h) fun _ _ f => f.elim
end Mine
end -- E8

section -- E9
open PySem PySem.W PyProof.Rows PySem.Calls
set_option maxRecDepth 100000
set_option linter.unusedSectionVars false
set_option linter.unusedVariables false
namespace Mine

/-- a call of a def of the text, whatever it does -/
theorem call_gen {C : Cx} {w : World} {n : Nat} {nm : List (Str × NameKind)} {ρ : Rho} (h : FO C w n nm) {X : Ext} {s : Shared} {G : Rdr} {ow : Str → Addr} (S : St C X ρ s G ow) {x : Str} {px pos : Pos} {a : Addr} {oc : Value} {od : Option Addr} {fd : FuncData} {osl : Array (Option Value)} {args : List Expr} {ds : List PD} {Q : Value → Shared → Prop} {E : Value → Shared → Prop}
    (e1 : nm.lookup x = some .globalImplicit) (e2 : nsIn (KK w) mainGlobals x = some (some (.ref a))) (hk : (KK w).lookup a = some ⟨oc, od, .func fd, osl⟩) (ha : EVs C ρ args ds)
    (hc : ∀ s₂ G₂ vs, St C X ρ s₂ G₂ ow → RdL G₂ ds vs → wpAny C.M C.A (call (.ref a) vs) Q E s₂) (hd : (x == ("__debug__" : Str)) = false := by decide) : wpAny C.M C.A (eval (.Call (.Name x px) args [] pos) C.env) Q E s := by
  show wpAny _ _ (do callWith pos (← eval (.Name x px) C.env) [] (backTo pos (starEach args C.env)) []) _ _ s
  refine wpAny_bind (wpAny_mono (h.gr (ρ := ρ) e1 e2 hd s G ow S) (fun v s₁ r₁ => ?_) fun _ _ f => f.elim)
  obtain ⟨p₁, G₁, x₁, e₁⟩ := r₁
  cases e₁.raw_inv
  have S₁ := S.grow p₁ x₁
  refine callWith_function (o := ⟨oc, od, .func fd, osl⟩) (fd := fd) (evalArgs_of (ha.1 pos) (wpAny_mono (ha.2 pos s₁ G₁ ow S₁) (fun vs s₂ r₂ => ?_) fun _ _ f => f.elim))
  obtain ⟨p₂, G₂, x₂, e₂⟩ := r₂
  have S₂ := S₁.grow p₂ x₂
  exact ⟨⟨S₂.gok.kin _ _ (h.K ▸ hk), rfl⟩, hc s₂ G₂ vs S₂ e₂⟩
noncomputable abbrev rdRho (it : Addr) (done : List Int) : Rho := [("row", .own (pInts done)), ("stream", .val (.raw (.ref it)))]
set_option maxHeartbeats 8000000 in
theorem read_ok (w : World) {A : Around} (hh : A.handled = none) (hdep : A.depth + 5 < 900) (hun : A.units + 100 < 9000) {s₀ : Shared} {el : Env} {Ll : Addr} {oLl : Obj} {G : Rdr} {row : List Int} {v : Value} (hfr : A.frames = some [el]) (hkind : el.scope.kind ≠ .module) (hf : el.frame = some Ll)
    (hLl : s₀.heap.get? Ll = some oLl) (hLd : ∀ vs, oLl.data ≠ .fields vs) (okB : ∃ hB : Heap, GOk (KK w) hB ∧ (∀ a o, hB.get? a = some o → s₀.heap.get? a = some o) ∧ hB.get? Ll = none) (gok : GOk (KK w) s₀.heap) (rdG : Sub G s₀.heap.get?) (hGL : G Ll = none) (hv : Rd G (.list (pInts (octetsF row))) v) (hrow : ∀ n ∈ row, 0 ≤ n ∧ n ≤ 4095) (hlen : row.length ≤ 100)
    (bare : AllBare s₀.gens) : wpAny (model PG w) A (call (.ref 101) [v]) (ReadPost s₀ Ll G row) NoE s₀ := by
  refine wpAny_call ?_
  obtain ⟨l, vs, k, rfl, hGl, hvs⟩ := hv.list_inv
  refine call_enter (n := 3) (G := G) (hX := s₀.heap.get?) (gX := fun i => s₀.gens[i]?) ["octets"] (ds := [.raw (.ref l)]) rfl rfl rfl rfl rfl rfl rfl rfl rfl rfl ?_ rfl rfl (by decide) rfl hh (by omega) (by omega) (.cons (.raw _) .nil) gok rdG
    (fun _ _ e => e) ⟨_, gok, fun a x e => e⟩ (fun _ _ e => e) bare ?_
  · intro vs h
    match vs, h with
    | [x], _ => rfl
  · intro C s₁ Fo hA hfrm hnew hk1 hg1 hos hco S
    have line := line3
    have hB := S.ok
    have hCfr : C.A.frames = some [C.env, el] := by rw [hA]; exact Around.frames_deeper hfr
    have hXl : s₀.heap.get? l = some (lstO vs k) := rdG l _ hGl
    have hvs0 : RdL noR (pInts (octetsF row)) vs.toList := rdl_ints hvs
    have hsz : vs.size = (octetsF row).length := by have := hvs.length; rw [pInts_len] at this; rw [← this]; simp
    refine wpAny_mono (show wpAny C.M C.A (execs _ C.env) (fun f s' => ∃ v, f = .ret v ∧ ReadPost s₀ Ll G row v s') NoE s₁ from ?_) (fun f s' h => ?_) (fun _ _ f => f.elim)
    · -- stream = iter(octets)
      obtain ⟨Le, Se⟩ := S.joinE
      have hEs : ∀ p₂, EVs C (params ["octets"] [.raw (.ref l)]) [.Name "octets" p₂] [.raw (.ref l)] := fun p₂ => evs_cons (ev_name Fo.ok rfl) evs_nil
      have hiter : ∀ {ρ : Rho} {p : Pos}, EV C ρ (.Name "iter" p) (.raw (.builtin "iter")) := @fun ρ p => Fo.gb rfl rfl boot_it
      refine two_stmt (wpAny_mono (show wpAny C.M C.A (exec _ C.env) (fun f s' => f = .next ∧ ∃ it, Vs C ⟨s₀.heap.get?, fun i => s₀.gens[i]?, G⟩ it l 0 [("stream", .val (.raw (.ref it)))] s') NoE s₁ from ?_) (fun f s' h => ?_) fun _ _ f => f)
      · refine wpAny_Assign_Name ?_ rfl
        show wpAny _ _ (do callWith _ (← eval (.Name "iter" _) C.env) [] (backTo _ (starEach [.Name "octets" _] C.env)) []) _ _ s₁
        refine wpAny_bind (wpAny_mono (hiter s₁ _ _ Se) (fun v s₂ r₁ => ?_) fun _ _ f => f.elim)
        obtain ⟨q₁, G₁, x₁, e₁⟩ := r₁
        cases e₁.raw_inv
        have S₁ := Se.grow q₁ x₁
        refine callWith_builtin ((hEs _).1 _) (evalArgs_of ((hEs _).1 _) (wpAny_mono ((hEs _).2 _ s₂ G₁ _ S₁) (fun vs' s₃ r₂ => ?_) fun _ _ f => f.elim))
        obtain ⟨q₂, G₂, x₂, e₂⟩ := r₂
        have S₂ := S₁.grow q₂ x₂
        cases e₂ with | cons h1 h2 => cases h2 with | nil =>
        cases h1.raw_inv
        refine iter_list ⟨lstO vs k, S₂.keep l _ (Rdr.or_left s₀.heap.get? (fun _ => none) l _ hXl), rfl, k, rfl⟩ ?_
        obtain ⟨L₃, S₃⟩ := S₂.putX (tk := s₃.toks) (a := s₃.heap.objs.size) (o := { cls := .type "list_iterator", dict := none, data := .fields #[.ref l, .int 0 0], slots := #[] }) Le hB (.inr (get_size _)) (fun b x _ e => Heap.get?_push_of_some _ e) (Heap.get?_push_size _ rfl)
        refine wpAny_mono (S₃.storeV Fo.ok (Fo.sl rfl) (.raw _)) (fun _ s₄ h₄ => ?_) fun _ _ f => f
        obtain ⟨ow', S₄⟩ := h₄
        exact ⟨rfl, s₃.heap.objs.size, _, _, _, ow', _, L₃, S₄.weaken (show LeR _ _ by repeat (first | exact LeR.nil | refine LeR.cons rfl ?_)), Rdr.put_self _ _ _, rfl, rfl⟩
      · obtain ⟨rfl, it, V⟩ := h
        refine ⟨rfl, ?_⟩
        obtain ⟨He, Gb, G₁, ow, o, L, S', c1, c2, c3⟩ := V
        refine two_stmt (newList_stmt Fo.ok evs_nil (Fo.sl rfl) S' fun s₂ G₂ ow₂ S₂ => ?_)
        have V : Vs C ⟨s₀.heap.get?, fun i => s₀.gens[i]?, G⟩ it l 0 (rdRho it []) s₂ := ⟨He, Gb, G₂, ow₂, o, L, S₂, c1, c2, c3⟩
        refine wpAny_execs_cons ?_
        refine wpAny_Try_except ?_
        refine wpAny_execs_cons (wpAny_While ?_)
        refine codeAny_whileLoop (fun k s' => ∃ done todo, row = done ++ todo ∧ k = todo.length ∧ Vs C ⟨s₀.heap.get?, fun i => s₀.gens[i]?, G⟩ it l (octetsF done).length (rdRho it done) s') ?_ row.length ⟨[], row, rfl, rfl, V⟩
        rintro k₁ s₃ ⟨done, todo, hdt, rfl, V⟩
        obtain ⟨He, Gb, G₃, ow₃, o, L, S₃, c1, c2, c3⟩ := V
        have hT : ∀ (p : Pos) (q : Nat), ET C (rdRho it done) (.Constant (.bool true) q p) true := fun p q => et_plain (ev_bool _ _ _) tr_bool
        refine wpAny_mono (hT _ _ s₃ G₃ ow₃ S₃) (fun b s₄ h => ?_) fun _ _ f => f.elim
        obtain ⟨rfl, p⟩ := h
        have S₄ := S₃.grow p (.same fun a o e => p.heap a o (S₃.rd a o e))
        rw [if_pos rfl]
        have hdl : done.length ≤ 100 := by
          have := congrArg List.length hdt
          rw [List.length_append] at this; omega
        have hEs : ∀ p₂, EVs C (rdRho it done) [.Name "stream" p₂] [.raw (.ref it)] := fun p₂ => evs_cons (ev_name Fo.ok rfl) evs_nil
        refine wpAny_execs_cons (wpAny_mono (append_gen (Qn := fun s' => ∃ n todo', todo = n :: todo' ∧ Vs C ⟨s₀.heap.get?, fun i => s₀.gens[i]?, G⟩ it l (octetsF (done ++ [n])).length (rdRho it (done ++ [n])) s') Fo.ok S₄ rfl ?_ (by rw [pInts_len, sizeLine_eq]; omega)) (fun f s₅ h => ?_) fun _ _ f => f)
        · have hM : C.M = model PG w := by unfold Cx.M; rw [Fo.prog, Fo.hw]
          refine call_gen Fo S₄ rfl rfl rfl (hEs _) fun s₅ G₅ vs' S₅ hr => ?_
          cases hr with | cons h1 h2 => cases h2 with | nil =>
          cases h1.raw_inv
          have hio : s₅.heap.get? it = some o := (S₅.itIn L).h it o c1
          have hit : s₅.heap.IsListIter it l (octetsF done).length := ⟨o, hio, c2, c3⟩
          have hl5 : s₅.heap.get? l = some (lstO vs k) := S₅.keep l _ (Rdr.or_left s₀.heap.get? He l _ hXl)
          have k5 : ∀ b x, s₀.heap.get? b = some x → s₅.heap.get? b = some x := fun b x e => S₅.keep b x (Rdr.or_left s₀.heap.get? He b x e)
          have hit0 : s₀.heap.get? it = none := (L.disj it (by rw [c1]; exact nofun)).1
          have gok5 : GOk (KK w) s₅.heap := gok.keeps k5
          have hor : octetsF row = octetsF done ++ octetsF todo := by rw [hdt, octetsF_app]
          cases todo with
          | cons n todo' =>
            have hd : (octetsF row).drop (octetsF done).length = oct1 n ++ octetsF todo' := by rw [hor, List.drop_left, octetsF_cons]
            rw [hM]
            refine wpAny_mono (varint_ok w Fo.ok.hnd (by have := Fo.ok.depth; omega) (by have := Fo.ok.units; omega) gok5 S₅.bare ⟨_, gok, k5, hit0⟩ hit hl5 hvs0 hd (hrow n (by rw [hdt]; simp))) (fun v s₆ h => ?_) fun _ _ f => f.elim
            obtain ⟨t, rfl, y1, ⟨o', z1, z2, z3⟩, y3, y4, y5⟩ := h
            obtain ⟨L₆, S₆⟩ := S₅.putS L hB (.inl (by rw [c1]; exact nofun)) y1 z1 y3 y4 y5
            refine ⟨_, _, .int n, S₆, .int n t, fun s' G' ow' S' => ⟨n, todo', rfl, _, _, G', ow', o', L₆, ?_, Rdr.put_self _ _ _, z2, ?_⟩⟩
            · rw [pInts_snoc] at S'
              exact S'.weaken (show LeR _ _ by repeat (first | exact LeR.nil | refine LeR.cons rfl ?_))
            · have e1 : octetsF [n] = oct1 n := by unfold octetsF; simp
              rw [z3, octetsF_app, List.length_append, e1]
          | nil =>
            rw [List.append_nil] at hdt
            subst hdt
            have hnd : vs[(octetsF row).length]? = none := by rw [Array.getElem?_eq_none]; omega
            have hLl5 := k5 _ _ hLl
            have hin : ∀ b, b ∉ [it, C.env.locals, Ll] → ∀ x, s₅.heap.get? b = some x → (lessH s₅.heap [it, C.env.locals, Ll]).get? b = some x := fun b hb x e => (lessH_other hb).trans e
            have hFF : s₅.heap.FunFrames (lessH s₅.heap [it, C.env.locals, Ll]) [C.env, el] := by
              obtain ⟨m, oL, es, ep, e1, e2, _⟩ := S₅.ns
              refine ⟨by rw [Fo.ok.fn]; decide, ⟨_, oL, hfrm, lessH_in (by simp), e1, fun vs q => ?_⟩, hkind, ⟨Ll, oLl, hf, lessH_in (by simp), hLl5, hLd⟩, trivial⟩
              rw [e2] at q; cases q
            rw [hM]
            refine wpAny_mono (varint_end w Fo.ok.hnd (by have := Fo.ok.depth; omega) (by have := Fo.ok.units; omega) gok5 S₅.bare hit hl5 hnd hCfr (lessH_sub _ _) hFF (lessH_in (by simp))) (fun v s₆ h => h.elim) fun x s₆ h => ?_
            obtain ⟨e, rfl, K, hT, hbe, y3, y4, y5⟩ := h
            obtain ⟨hB0, b1, b2, b3⟩ := okB
            have hgok : ∀ h', Kd (lessH s₅.heap [it, C.env.locals, Ll]) [C.env, el] s₅.heap h' → GOk (KK w) h' := fun h' K => b1.keeps fun b x e => by
              refine K.stay b x (hin b (fun hm => ?_) x (k5 b x (b2 b x e)))
              simp only [List.mem_cons, List.not_mem_nil, or_false] at hm
              rcases hm with rfl | rfl | rfl
              · rw [b2 _ _ e] at hit0; cases hit0
              · rw [b2 _ _ e] at hnew; cases hnew
              · rw [b3] at e; cases e
            rw [← hM]
            refine caught Fo hCfr hfrm rfl (hgok _ K) K hT hbe hgok fun h' tk K' => ?_
            obtain ⟨ob, f1, f2, f3, S₆⟩ := S₅.freeze (x := "row") rfl
            obtain ⟨rv, hat, hrd⟩ := S₆.loc "row" _ rfl
            have hkr : C.env.kindOf "row" = some .local := Fo.kind _ _ rfl
            have hat' : At C.env h' "row" rv := by
              rcases hat with ⟨hk, m, ⟨oL, es, ep, n1, n2, n3⟩, hm⟩ | ⟨hk, _⟩
              · obtain ⟨sl, n4⟩ := K'.data _ oL n1 (fun vs q => by rw [n2] at q; cases q)
                exact .inl ⟨hk, m, ⟨_, es, ep, n4, n2, n3⟩, hm⟩
              · rw [hkr] at hk; rcases hk with hk | hk <;> cases hk
            refine wpAny_execs_cons (wpAny_Return_some (hat'.eval Fo.ok ⟨rv, rfl, ?_⟩))
            have SD := S₆.drop L hB
            have hGLl : (G₅.put (ow₃ "row") ob) Ll = none := by
              cases q : (G₅.put (ow₃ "row") ob) Ll with
              | none => rfl
              | some z =>
                rcases SD.new _ _ q with h | h
                · have h : G Ll = some z := h
                  rw [hGL] at h; cases h
                · have h : s₀.heap.get? Ll = none := h
                  rw [hLl] at h; cases h
            refine ⟨fun b x hb e => K'.stay b x (hin b (fun hm => ?_) x (k5 b x e)), fun x e => ?_, fun i y e => y3 i y (S₅.keepg i y (by show (s₀.gens[i]?).or none = _; rw [e]; rfl)), y4, y5.trans (S₅.os.trans hos), _, SD.g0, SD.new, fun a x e => K'.stay a x (hin a (fun hm => ?_) x (S₆.rd a x e)), hrd⟩
            · simp only [List.mem_cons, List.not_mem_nil, or_false] at hm
              rcases hm with rfl | rfl | rfl
              · rw [e] at hit0; cases hit0
              · rw [e] at hnew; cases hnew
              · exact hb rfl
            · rw [hLl] at e; cases e
              exact K'.data Ll oLl hLl5 hLd
            · simp only [List.mem_cons, List.not_mem_nil, or_false] at hm
              rcases hm with rfl | rfl | rfl
              · rw [S₆.disj L _ (by rw [c1]; exact nofun)] at e; cases e
              · rw [(S₆.fp _ (.inl rfl)).1] at e; cases e
              · rw [hGLl] at e; cases e
        · obtain ⟨rfl, n, todo', rfl, V⟩ := h
          refine wpAny_execs_nil ⟨todo'.length, Nat.lt_succ_self _, done ++ [n], todo', by rw [hdt]; simp, rfl, V⟩
    · obtain ⟨v, rfl, h⟩ := h
      exact h
end Mine
end -- E9

section -- F20
open PySem PySem.W PyProof.Rows PySem.Calls
open Builtin Builtin.Str
set_option maxRecDepth 100000
set_option linter.unusedSectionVars false
set_option linter.unusedVariables false
namespace Mine

noncomputable def okFrom (st : Int × List (Int × List Int)) (row : List Int) : Prop := ∀ pre n post, row = pre ++ n :: post → rOk (pre.foldl rStep st) n
theorem okFrom_nil (st : Int × List (Int × List Int)) : okFrom st [] := fun pre n post e => by
  have := congrArg List.length e
  rw [List.length_append, List.length_cons] at this
  simp at this
theorem okFrom_cons {st : Int × List (Int × List Int)} {n : Int} {r : List Int} (h : rOk st n) (hr : okFrom (rStep st n) r) : okFrom st (n :: r) := fun pre m post e => by
  cases pre with
  | nil => injection e with e1 e2; subst e1; exact h
  | cons a pre => injection e with e1 e2; subst e1; exact hr pre m post e2
theorem okFrom_append : ∀ {a b : List Int} {st : Int × List (Int × List Int)}, okFrom st a → okFrom (a.foldl rStep st) b → okFrom st (a ++ b)
  | [], _, _, _, h => h
  | n :: a, b, st, h, h2 => okFrom_cons (h [] n a rfl) (okFrom_append (fun pre m post e => h (n :: pre) m post (by rw [e]; rfl)) h2)
theorem body_run {h : Int} (h0 : h ≠ 0) {bs : List (Int × List Int)} (hb : h ∉ bs.map (fun x : Int × List Int => x.1)) : ∀ (body acc : List Int), (∀ n ∈ body, n ≠ 0) → okFrom (h, bs ++ [(h, acc)]) body ∧ body.foldl rStep (h, bs ++ [(h, acc)]) = (h, bs ++ [(h, acc ++ body)])
  | [], acc, _ => ⟨okFrom_nil _, by rw [List.append_nil]; rfl⟩
  | n :: body, acc, hn => by
    have n0 := hn n (.head _)
    have step : rStep (h, bs ++ [(h, acc)]) n = (h, bs ++ [(h, acc ++ [n])]) := by
      unfold rStep
      rw [if_neg n0, if_neg (fun q => h0 q.1)]
      show (h, (bs ++ [(h, acc)]).map _) = _
      rw [List.map_append]
      have : bs.map (fun e : Int × List Int => if e.1 = h then (e.1, e.2 ++ [n]) else e) = bs := by
        have : bs.map (fun e : Int × List Int => if e.1 = h then (e.1, e.2 ++ [n]) else e) = bs.map _root_.id := by
          refine List.map_congr_left fun e he => ?_
          rw [if_neg]
          · rfl
          · intro q; exact hb (List.mem_map.mpr ⟨e, he, q⟩)
        rw [this, List.map_id]
      rw [this]
      show (h, bs ++ [if h = h then (h, acc ++ [n]) else (h, acc)]) = _
      rw [if_pos rfl]
    obtain ⟨i1, i2⟩ := body_run h0 hb body (acc ++ [n]) fun m hm => hn m (.tail _ hm)
    refine ⟨okFrom_cons (.inr (.inr ⟨n0, fun q => h0 q.1, ?_⟩)) (step ▸ i1), ?_⟩
    · show h ∈ (bs ++ [(h, acc)]).map (fun x : Int × List Int => x.1)
      rw [List.map_append]; exact List.mem_append_right _ (.head _)
    · rw [List.foldl_cons, step, i2]; simp
noncomputable def blocksOf (bs : List (Int × List Int)) : List Int := bs.flatMap fun b => b.1 :: (b.2 ++ [0])
theorem blocks_run : ∀ (todo done : List (Int × List Int)), ((done ++ todo).map (fun x : Int × List Int => x.1)).Nodup → (∀ b ∈ todo, b.1 ≥ 256 ∧ ∀ n ∈ b.2, n ≠ 0) →
    okFrom (0, done) (blocksOf todo) ∧ (blocksOf todo).foldl rStep (0, done) = (0, done ++ todo)
  | [], done, _, _ => ⟨okFrom_nil _, by rw [List.append_nil]; rfl⟩
  | (h, body) :: todo, done, nd, hb => by
    obtain ⟨h256, hbody⟩ := hb (h, body) (.head _)
    have h256 : h ≥ 256 := h256
    have hn : h ∉ done.map (fun x : Int × List Int => x.1) := by
      intro q
      rw [List.map_append, List.map_cons] at nd
      exact (List.nodup_append.mp nd).2.2 h q h (.head _) rfl
    have e : blocksOf ((h, body) :: todo) = (h :: (body ++ [0])) ++ blocksOf todo := rfl
    have s1 : rStep (0, done) h = (h, done ++ [(h, [])]) := by
      unfold rStep
      rw [if_neg (by omega), if_pos ⟨rfl, h256⟩]
    obtain ⟨b1, b2⟩ := body_run (h := h) (by omega) hn body [] hbody
    rw [List.nil_append] at b2
    have b3 : (body ++ [0]).foldl rStep (h, done ++ [(h, [])]) = (0, done ++ [(h, body)]) := by
      rw [List.foldl_append, b2]; rfl
    have e2 : (done ++ [(h, body)]) ++ todo = done ++ (h, body) :: todo := by simp
    obtain ⟨i1, i2⟩ := blocks_run todo (done ++ [(h, body)]) (by rw [e2]; exact nd) fun b hb' => hb b (.tail _ hb')
    rw [e]
    have f1 : (h :: (body ++ [0])).foldl rStep (0, done) = (0, done ++ [(h, body)]) := by rw [List.foldl_cons, s1, b3]
    refine ⟨okFrom_append (okFrom_cons (.inr (.inl ⟨rfl, h256, hn⟩)) ?_) (by rw [f1]; exact i1), ?_⟩
    · rw [s1]
      refine okFrom_append b1 (okFrom_cons (.inl rfl) (okFrom_nil _))
    · rw [List.foldl_append, f1, i2, e2]

noncomputable def ruleBlocks (nums : List Int) : List (Int × List Int) := [(256, RR nums 256), (257, RR nums 257), (258, RR nums 258), (259, RR nums 259), (260, RR nums 260)]
theorem symbols_blocks (nums : List Int) : symbolsF nums = blocksOf (ruleBlocks nums) := by
  unfold symbolsF blocksOf ruleBlocks
  have : List.range 4 = [0, 1, 2, 3] := rfl
  rw [this]
  simp only [List.flatMap_cons, List.flatMap_nil, List.append_nil, List.append_assoc]
  rfl
theorem Term.ne0 {s : Int} (h : Term s) : s ≠ 0 := by have := h.lt; omega
theorem RR_ne0 (nums : List Int) {h : Int} (hh : 256 ≤ h ∧ h ≤ 260) : ∀ s ∈ RR nums h, s ≠ 0 := fun s hs => by
  by_cases q : h = 260
  · subst q; exact (RR_ok260 nums s hs).ne0
  · rcases RR_ok nums (by omega) s hs with h' | h'
    · exact h'.ne0
    · omega
theorem RR_bound (nums : List Int) {h : Int} (hh : 256 ≤ h ∧ h ≤ 260) : ∀ s ∈ RR nums h, 0 ≤ s ∧ s ≤ 4095 := fun s hs => by
  by_cases q : h = 260
  · subst q; have := (RR_ok260 nums s hs).lt; omega
  · rcases RR_ok nums (by omega) s hs with h' | h'
    · have := h'.lt; omega
    · omega
theorem ruleBlocks_ok (nums : List Int) : ∀ b ∈ ruleBlocks nums, b.1 ≥ 256 ∧ ∀ n ∈ b.2, n ≠ 0 := by
  have key : ∀ h : Int, 256 ≤ h ∧ h ≤ 260 → h ≥ 256 ∧ ∀ n ∈ RR nums h, n ≠ 0 := fun h hh => ⟨hh.1, RR_ne0 nums hh⟩
  intro b hb
  unfold ruleBlocks at hb
  simp only [List.mem_cons, List.not_mem_nil, or_false] at hb
  rcases hb with rfl | rfl | rfl | rfl | rfl <;> first | exact key 256 (by decide) | exact key 257 (by decide) | exact key 258 (by decide) | exact key 259 (by decide) | exact key 260 (by decide)
theorem symbols_bound (nums : List Int) : ∀ n ∈ symbolsF nums, 0 ≤ n ∧ n ≤ 4095 := by
  have key : ∀ h : Int, 256 ≤ h ∧ h ≤ 260 → ∀ n ∈ h :: (RR nums h ++ [0]), 0 ≤ n ∧ n ≤ 4095 := fun h hh n hn => by
    rcases List.mem_cons.mp hn with rfl | hn
    · omega
    · rcases List.mem_append.mp hn with hn | hn
      · exact RR_bound nums hh n hn
      · rw [List.mem_singleton.mp hn]; decide
  intro n hn
  rw [symbols_blocks] at hn
  obtain ⟨b, hb, hn⟩ := List.mem_flatMap.mp hn
  unfold ruleBlocks at hb
  simp only [List.mem_cons, List.not_mem_nil, or_false] at hb
  rcases hb with rfl | rfl | rfl | rfl | rfl <;> first | exact key 256 (by decide) n hn | exact key 257 (by decide) n hn | exact key 258 (by decide) n hn | exact key 259 (by decide) n hn | exact key 260 (by decide) n hn
theorem symbols_len (nums : List Int) : (symbolsF nums).length ≤ 100 := by
  rw [symbols_blocks]
  unfold blocksOf ruleBlocks
  have h1 := RR_len nums 256 (by decide)
  have h2 := RR_len nums 257 (by decide)
  have h3 := RR_len nums 258 (by decide)
  have h4 := RR_len nums 259 (by decide)
  have h5 := RR_len260 nums
  simp only [List.flatMap_cons, List.flatMap_nil, List.append_nil, List.length_append, List.length_cons, List.length_nil]
  omega
theorem rules_nums (w : World) (nums : List Int) : ∃ ps, (∀ h ∈ ([260, 259, 258, 257, 256] : List Int), ps.lookup h = some (.list (pInts (RR nums h)))) ∧ Fn PG w (KK w) 2 (.ref 108) [.list (pInts (symbolsF nums))] (.dict ps) := by
  obtain ⟨h1, h2⟩ := blocks_run (ruleBlocks nums) [] (by show ([256, 257, 258, 259, 260] : List Int).Nodup; decide) (ruleBlocks_ok nums)
  rw [← symbols_blocks] at h1 h2
  have h2 : rFold (symbolsF nums) = (0, ruleBlocks nums) := h2
  obtain ⟨ps, h3, h4⟩ := fn_rules w (symbolsF nums) (by have := symbols_len nums; omega) h1
  rw [h2] at h3
  refine ⟨ps, fun h hh => h3 h _ ?_, h4⟩
  unfold ruleBlocks
  simp only [List.mem_cons, List.not_mem_nil, or_false] at hh
  rcases hh with rfl | rfl | rfl | rfl | rfl <;> simp
end Mine
end -- F20

section -- E10
open PySem PySem.W PyProof.Rows PySem.Calls
set_option maxRecDepth 100000
set_option linter.unusedSectionVars false
set_option linter.unusedVariables false
namespace Mine

theorem canLay_ints : ∀ l : List Int, PyData.canLayAll0 (l.map .int) = true
  | [] => rfl
  | i :: l => by
    rw [List.map_cons, PyData.canLayAll0, canLay_ints l]; rfl
theorem depth_ints : ∀ l : List Int, PyData.depthAll (l.map .int) = 0
  | [] => rfl
  | i :: l => by
    rw [List.map_cons, PyData.depthAll, depth_ints l]; rfl

section
variable {C : Cx} {n : Nat} {ρ : Rho} {X : Ext} {s : Shared} {G : Rdr} {ow : Str → Addr}
theorem et_ne_same (hC : COk C n) {l r : Expr} {pos : Pos} {is : List Int} (hl : EV C ρ l (.list (pInts is))) (hr : EV C ρ r (.list (pInts is))) (hm : behindInMarks .NotEq r = false := by with_unfolding_all rfl) :
    ET C ρ (.Compare l [.NotEq] [r] pos) false := fun X s G ow S => by
  refine wpAny_isTrue_Compare1 (wpAny_mono (hl s G ow S) (fun v₁ s₁ r₁ => ?_) fun _ _ f => f.elim) hm
  obtain ⟨p₁, G₁, x₁, e₁⟩ := r₁
  have S₁ := S.grow p₁ x₁
  refine wpAny_mono (hr s₁ G₁ ow S₁) (fun v₂ s₂ r₂ => ?_) fun _ _ f => f.elim
  obtain ⟨p₂, G₂, x₂, e₂⟩ := r₂
  have S₂ := S₁.grow p₂ x₂
  obtain ⟨a₁, vs₁, k₁, rfl, g₁, h₁⟩ := (e₁.mono x₂.sub).list_inv
  obtain ⟨a₂, vs₂, k₂, rfl, g₂, h₂⟩ := e₂.list_inv
  have t₁ : Reads s₂.heap (.ref a₁) (.list (is.map .int)) (a₁ :: []) := .list (S₂.rd _ _ g₁) rfl rfl (h₁.ints_inv.reads _)
  have t₂ : Reads s₂.heap (.ref a₂) (.list (is.map .int)) (a₂ :: []) := .list (S₂.rd _ _ g₂) rfl rfl (h₂.ints_inv.reads _)
  have cl : PyData.canLay0 (.list (is.map .int)) = true := canLay_ints is
  have hu := hC.units
  refine PySem.SeqAt.compareNe_reads t₁ t₂ cl cl (by show C.A.units + min (PyData.depthAll (is.map .int) + 1) (PyData.depthAll (is.map .int) + 1) < 9900; rw [depth_ints]; omega) ?_
  have hq : PyData.eqv (.list (is.map .int)) (.list (is.map .int)) = true := PySem.SeqAt.eqv_refl _ cl
  rw [hq]
  exact wpAny_truthy_bool ⟨rfl, p₁.trans p₂⟩

/-- the frame's own object gets other slots -/
theorem St.slots (S : St C X ρ s G ow) {s' : Shared} {G' : Rdr} (hk : ∀ b o, b ≠ C.env.locals → s.heap.get? b = some o → s'.heap.get? b = some o) (hf : ∀ o, s.heap.get? C.env.locals = some o → ∃ sl, s'.heap.get? C.env.locals = some { o with slots := sl })
    (hg : ∀ (i : Nat) (y : GenState), s.gens[i]? = some y → s'.gens[i]? = some y) (hb : AllBare s'.gens) (hos : s'.os = s.os) (hG : Sub G G') (hn : ∀ a o, G' a = some o → G a = some o ∨ s.heap.get? a = none) (hr : Sub G' s'.heap.get?)
    (hL : ∀ x c, C.env.cells.lookup x = some c → c ≠ C.env.locals) : St C X ρ s' G' ow := by
  have hXL : ∀ b o, X.h b = some o → b ≠ C.env.locals := fun b o e q => by subst q; rw [(S.fp _ (.inl rfl)).2] at e; cases e
  have hnsk : ∀ m, s.heap.Ns C.env.locals m → s'.heap.Ns C.env.locals m := fun m ⟨o, es, ep, e1, e2, e3⟩ => let ⟨sl, e⟩ := hf o e1; ⟨_, es, ep, e, e2, e3⟩
  have hcell : ∀ x c v, C.env.cells.lookup x = some c → s.heap.IsCell c v → s'.heap.IsCell c v := fun x c v h ⟨o, e, d⟩ => ⟨o, hk c o (hL x c h) e, d⟩
  exact {
    keep := fun a o e => hk a o (hXL a o e) (S.keep a o e)
    keepg := fun i y e => hg i y (S.keepg i y e)
    bare := hb
    os := hos.trans S.os
    ok := S.ok
    rd := hr
    g0 := S.g0.trans hG
    new := fun a o e => by
      rcases hn a o e with h | h
      · exact S.new a o h
      · right
        cases q : X.h a with
        | none => rfl
        | some z => rw [S.keep a z q] at h; cases h
    fp := fun a h => by
      refine ⟨?_, (S.fp a h).2⟩
      cases q : G' a with
      | none => rfl
      | some z =>
        rcases hn a z q with h' | h'
        · rw [(S.fp a h).1] at h'; cases h'
        · rcases h with rfl | ⟨_, x, hx⟩
          · obtain ⟨m, o, es, ep, e1, _⟩ := S.ns; rw [e1] at h'; cases h'
          · obtain ⟨v, o, e, _⟩ := S.cell x a hx; rw [e] at h'; cases h'
    ns := let ⟨m, h⟩ := S.ns; ⟨m, hnsk m h⟩
    cell := fun x c h => let ⟨v, e⟩ := S.cell x c h; ⟨v, hcell x c v h e⟩
    cellG := fun ho x c hc => let ⟨o, h⟩ := S.cellG ho x c hc; ⟨o, hG _ _ h⟩
    loc := fun x sl e => by
      obtain ⟨v, h1, h2⟩ := S.loc x sl e
      refine ⟨v, ?_, ?_⟩
      · rcases h1 with ⟨hk', m, hn', hm⟩ | ⟨hk', c, hcl, hc⟩
        · exact .inl ⟨hk', m, hnsk m hn', hm⟩
        · exact .inr ⟨hk', c, hcl, hcell x c _ hcl hc⟩
      · cases sl with
        | val d => exact Rd.mono hG h2
        | own ds => exact h2.keeps (fun o eo => hk _ o (fun q => (S.own x ⟨_, e, rfl⟩).2.2 (.inl q)) eo) hG
        | ownd ps => exact h2.keeps (fun o eo => hk _ o (fun q => (S.own x ⟨_, e, rfl⟩).2.2 (.inl q)) eo) hG
    own := fun x hx => by
      obtain ⟨h1, h2, h3⟩ := S.own x hx
      refine ⟨?_, h2, h3⟩
      cases q : G' (ow x) with
      | none => rfl
      | some z =>
        rcases hn _ z q with h' | h'
        · rw [h1] at h'; cases h'
        · obtain ⟨sl, e, ho⟩ := hx
          obtain ⟨v, _, hr⟩ := S.loc x sl e
          cases sl with
          | val d => cases ho
          | own ds => obtain ⟨_, vs, k, q, _⟩ := hr; rw [q] at h'; cases h'
          | ownd ps => obtain ⟨_, vs, k, q, _⟩ := hr; rw [q] at h'; cases h'
    apart := S.apart }
end

theorem rdl_of_ints {G : Rdr} : ∀ {vs : List Value} {is : List Int}, IntsAre vs is → RdL G (pInts is) vs
  | _, _, .nil => .nil
  | _, _, .cons _ _ r => .cons (.int _ _) (rdl_of_ints r)
end Mine
end -- E10

section -- E11
open PySem PySem.W PyProof.Rows PySem.Calls
set_option maxRecDepth 100000
set_option linter.unusedSectionVars false
set_option linter.unusedVariables false
namespace Mine

set_option maxHeartbeats 8000000 in
theorem law_ok (w : World) {s₀ : Shared} {ns : List Int} {a : Addr} {its : Array Value} {k : Nat} (gok : GOk (KK w) s₀.heap) (bare : AllBare s₀.gens) (hobj : s₀.heap.get? a = some (lstO its k)) (hi : IntsAre its.toList ns) (hlen : ns.length ≤ 63) :
    codeAny (model PG w) callerA (.call (.ref 193) ⟨[.ref a], []⟩) (fun r s' => r = .ok (.ret (.bool true)) ∧ (∀ b o, s₀.heap.get? b = some o → s'.heap.get? b = some o) ∧ s'.os = s₀.os ∧ AllBare s'.gens) s₀ := by
  refine call_enter (n := 8) (G := one a (lstO its k)) (hX := s₀.heap.get?) (gX := fun i => s₀.gens[i]?) ["script"] (ds := [.list (pInts ns)]) rfl rfl rfl rfl rfl rfl rfl rfl rfl rfl ?_ rfl rfl (by decide) rfl rfl (by decide) (by decide)
    (.cons (.list (one_self _ _) (rdl_of_ints hi)) .nil) gok (fun b o e => by obtain ⟨rfl, rfl⟩ := one_some e; exact hobj) (fun _ _ e => e) ⟨_, gok, fun a x e => e⟩ (fun _ _ e => e) bare ?_
  · intro vs h
    match vs, h with
    | [x], _ => rfl
  · intro C s₁ Fo hA hfrm hnew hk1 hg1 hos hco S
    have line := line3
    have hCfr : C.A.frames = some [C.env] := by rw [hA]; exact Around.frames_deeper rfl
    have hM : C.M = model PG w := by unfold Cx.M; rw [Fo.prog, Fo.hw]
    obtain ⟨ps, hps, hrules⟩ := rules_nums w (numbersF ns)
    refine wpAny_mono (show wpAny C.M C.A (execs _ C.env) (fun f s' => ∃ o, o = .ret (.bool true) ∧ OutAt C ⟨s₀.heap.get?, fun i => s₀.gens[i]?, one a (lstO its k)⟩ f o s') NoE s₁ from ?_) (fun f s' h => ?_) (fun _ _ f => f.elim)
    · refine two_stmt (asg_stmt Fo.ok (Fo.call rfl rfl rfl (fn_symbols w _ (numbersF_ok ns)) (evs_cons (Fo.call rfl rfl rfl (fn_numbers w ns hlen) (evs_cons (ev_name Fo.ok rfl) evs_nil)) evs_nil)) (Fo.sl rfl) S fun s G ow S => ?_)
      have hb := symbols_bound (numbersF ns)
      have hl := symbols_len (numbersF ns)
      refine two_stmt (wpAny_mono (show wpAny C.M C.A (exec _ C.env) (fun f s' => f = .next ∧ ∃ G ow, St C ⟨s₀.heap.get?, fun i => s₀.gens[i]?, one a (lstO its k)⟩ [("read", .val (.list (pInts (symbolsF (numbersF ns))))), ("row", .val (.list (pInts (symbolsF (numbersF ns)))))] s' G ow) NoE s from ?_) (fun f s' h => ?_) fun _ _ f => f)
      · refine wpAny_Assign_Name ?_ rfl
        refine call_gen Fo S rfl rfl rfl (evs_cons (Fo.call rfl rfl rfl (fn_octets w _ hl hb) (evs_cons (ev_name Fo.ok rfl) evs_nil)) evs_nil) fun s₂ G₂ vs S₂ hr => ?_
        cases hr with | cons h1 h2 => cases h2 with | nil =>
        obtain ⟨m, oL, es, ep, e1, e2, _⟩ := id S₂.ns
        have hXL : ∀ b o, s₀.heap.get? b = some o → s₂.heap.get? b = some o := S₂.keep
        rw [hM]
        refine wpAny_mono (read_ok w Fo.ok.hnd (by have := Fo.ok.depth; omega) (by have := Fo.ok.units; omega) hCfr (by rw [Fo.ok.fn]; decide) hfrm e1 (fun vs q => by rw [e2] at q; cases q) ⟨_, gok, hXL, (S₂.fp _ (.inl rfl)).2⟩ (gok.keeps hXL) S₂.rd (S₂.fp _ (.inl rfl)).1 h1 hb hl S₂.bare) (fun v s₃ h => ?_) fun _ _ f => f
        obtain ⟨y1, y2, y3, y4, y5, G₃, z1, z2, z3, z4⟩ := h
        have S₃ := S₂.slots y1 y2 y3 y4 y5 z1 z2 z3 Fo.ok.cellL
        rw [← hM]
        refine wpAny_mono (S₃.storeV Fo.ok (Fo.sl rfl) z4) (fun _ s₄ h₄ => ?_) fun _ _ f => f
        obtain ⟨ow', S₄⟩ := h₄
        exact ⟨rfl, G₃, ow', S₄.weaken (show LeR _ _ by repeat (first | exact LeR.nil | refine LeR.cons rfl ?_))⟩
      · obtain ⟨rfl, G, ow, S⟩ := h
        refine ⟨rfl, ?_⟩
        refine two_stmt (if_stmt (et_ne_same Fo.ok (ev_name Fo.ok rfl) (ev_name Fo.ok rfl)) S nofun fun _ s S => wpAny_execs_nil ⟨rfl, ?_⟩)
        exact ret_stmt (Fo.call rfl rfl rfl (holds_nums w (numbersF ns) ps hps) (evs_cons (Fo.call rfl rfl rfl hrules (evs_cons (ev_name Fo.ok rfl) evs_nil)) (evs_cons (Fo.call rfl rfl rfl (fn_spelled w) evs_nil) evs_nil))) S
    · obtain ⟨o, rfl, h⟩ := h
      cases f with
      | ret v =>
        obtain ⟨G, ow, ρ, S, hr⟩ := h
        cases hr.bool_inv
        exact ⟨rfl, fun b o e => S.keep b o e, S.os.trans hos, S.bare⟩
      | _ => exact h.elim
end Mine
end -- E11

section -- Z2
open PySem PySem.W PyProof.Rows PySem.Calls
set_option maxRecDepth 100000
namespace Mine
theorem script_exact {P : Params} {h : Heap} {a : Addr} {its : Array Value} {ns : List Int} (x : Well P h (.ref a) (ofPy (.list (ns.map .int)))) (hL : h.IsList a its) : h.get? a = some (lstO its 0) := by
  have x : Well P h (.ref a) (.list (ofPys (ns.map .int))) := x
  obtain ⟨o, ho, hc, n, hd⟩ := hL
  cases x with
  | list e _ =>
    rw [e] at ho; cases ho
    cases hd
    exact e
theorem law_name (w : World) {mg : Str → Option Value} {h : Heap} {fa : Addr} (KX : (KK w).In h) (hg : h.Ns mainGlobals mg) (e : mg "law" = some (.ref fa)) : fa = 193 := by
  have e2 : nsIn (KK w) mainGlobals "law" = some (some (.ref 193)) := rfl
  have := mg_of KX hg e2
  rw [e] at this
  cases this
  rfl
theorem post_true (args : List WData) : PySem.Challenge.rw_sr0055_01.row.claim.post args (.bool true) args = true := by
  show (WShape.has [] (WData.bool true) .bool && WTm.holds [] (.eq .res (.lit (.bool true))) { args := args, res := some (.bool true), after := args }) = true
  have h1 : WShape.has [] (WData.bool true) .bool = true := by rfl
  have h2 : WTm.holds [] (.eq .res (.lit (.bool true))) { args := args, res := some (.bool true), after := args } = true := by
    unfold WTm.holds
    have : WTm.value [] (.eq .res (.lit (.bool true))) { args := args, res := some (.bool true), after := args } = some (.bool true) := by
      simp [WTm.value, same]
    rw [this]
  rw [h1, h2]; rfl
theorem said0 : looksOpen PySem.Challenge.rw_sr0055_01.prog = true := by
  unfold looksOpen
  (repeat' with_reducible apply look_both) <;> decide +kernel
theorem said1 : OpenRow.partSaid (OpenLaw.row PySem.Challenge.rw_sr0055_01) = true := by
  unfold OpenRow.partSaid
  repeat' with_reducible apply look_both
  · exact said0
  all_goals decide +kernel
theorem said2 : OpenRow.wellSaid (OpenLaw.row PySem.Challenge.rw_sr0055_01) = true := by
  unfold OpenRow.wellSaid
  refine look_both (look_both said1 ?_) ?_ <;> decide +kernel
theorem said : OpenLaw.wellSaid PySem.Challenge.rw_sr0055_01 = true := by
  unfold OpenLaw.wellSaid
  repeat' with_reducible apply look_both
  · exact said2
  all_goals decide +kernel
set_option maxHeartbeats 8000000 in
theorem tt : PySem.Challenge.rw_sr0055_01.Holds := by
  refine holds_law said fun _ => ?_
  refine holds_open (q := hdView) (loose := hdLoose) (Xt := hdXt) (XP := XL hdView []) (Yf := Hook.obs hdH) (Ya := Hook.val hdH) (YP := Hook.says hdH) (N := 4706) left (Hook.of hdH) (Hook.keeps hdH)
    (fun s e => xl_of s (Bool.and_eq_true_iff.mp e).1) XL.keeps (by rfl) (by rfl) (by rfl) (fun s e => recFacts_of (Bool.and_eq_true_iff.mp e).2) (by rfl) (by first | assumption | decide +kernel) (by decide +kernel) ⟨rfl, rfl, rfl, rfl, rfl, by decide +kernel⟩ ?hw ?hc
  case hw => w_witness2
  intro w s₀ s₁ mg mb G Y fa o pm cd doc dV kV ho hd hcd hD hmg hg args vals as hpre hlay hrd hwl hlo
  have KX := kIn_of Y
  refine Ground.open G ?_
  intro T B D TE TW
  try (refine guard_noD D (by decide +kernel) ?_; clear D)
  have gok : GOk (KK w) s₁.heap := ⟨KX, T.nolimit, ⟨mg, T.g⟩, ⟨mb, T.b, T.builtins⟩⟩
  have hfa := law_name w KX T.g hmg
  subst hfa
  clear ho hd hcd hD Y KX T B TE TW hmg
  wrow_args hpre hlay hrd hwl hlo
  refine enter_call ?_
  rename_i hL _ w1 _ hI _ hcond _
  refine codeAny_mono (law_ok w gok (.of_eq hg) (script_exact w1 hL) hI (by omega)) fun r s' h => ?_
  obtain ⟨hr, hk, hos, hb⟩ := h
  refine ⟨.inl ⟨.bool true, .bool true, [], hr, fun cls => ?_, .bool true, ?_, fun h => ?_⟩, .of_keep hk, hos, hb⟩
  · rfl
  · exact post_true _
  · exact ⟨List.nodup_nil, fun a ha => nomatch ha⟩
end Mine
end -- Z2

set_option maxRecDepth 100000 in
theorem PySem.Challenge.cw_sr0055_01_holds : PySem.Challenge.rw_sr0055_01.Holds :=
  Mine.tt
