import PyProof.Rows.All
import Wide.All
import OpenK.AllK
import Wide.FinOn
import PySem.Challenge.RW_ty0033_01
set_option Elab.async false
section
open PySem PySem.W PyProof.Rows
namespace Mine.hd
abbrev Pr : Program := PySem.Challenge.rw_ty0033_01.row.prog
set_option maxRecDepth 100000 in
noncomputable def view_39 : Program := (fun {a0 a1 a2 a3 a4 a5 a6 a7 a8 a9 a10 a11 a12 a13 a14 a15 a16 a17 a18 a19 a20 a21 a22 a23 a24 a25 a26 a27 a28 a29 a30 a31 a32 a33 a34 a35 a36 a37 a38 a39 a40 a41 a42 a43 a44 a45 a46 a47 a48 a49 a50 a51 a52 a53 a54 a55 a56 a57 a58 a59 a60 a61 a62 a63 a64 a65 a66 a67 a68 a69 a70 a71 a72 a73 a74 a75 : Stmt} (_ : PySem.Challenge.rw_ty0033_01.prog.main.body = (a0 :: a1 :: a2 :: a3 :: a4 :: a5 :: a6 :: a7 :: a8 :: a9 :: a10 :: a11 :: a12 :: a13 :: a14 :: a15 :: a16 :: a17 :: a18 :: a19 :: a20 :: a21 :: a22 :: a23 :: a24 :: a25 :: a26 :: a27 :: a28 :: a29 :: a30 :: a31 :: a32 :: a33 :: a34 :: a35 :: a36 :: a37 :: a38 :: a39 :: a40 :: a41 :: a42 :: a43 :: a44 :: a45 :: a46 :: a47 :: a48 :: a49 :: a50 :: a51 :: a52 :: a53 :: a54 :: a55 :: a56 :: a57 :: a58 :: a59 :: a60 :: a61 :: a62 :: a63 :: a64 :: a65 :: a66 :: a67 :: a68 :: a69 :: a70 :: a71 :: a72 :: a73 :: a74 :: a75 :: [])) => ({ PySem.Challenge.rw_ty0033_01.prog with main := { PySem.Challenge.rw_ty0033_01.prog.main with body := (a1 :: a2 :: a4 :: a5 :: a6 :: a7 :: a8 :: a9 :: a10 :: a11 :: a12 :: a13 :: a14 :: a15 :: a16 :: a17 :: a18 :: a19 :: a20 :: a21 :: a22 :: a23 :: a24 :: a25 :: a26 :: a27 :: a28 :: a29 :: a30 :: a31 :: a32 :: a33 :: a34 :: a35 :: a36 :: a37 :: a38 :: a39 :: a40 :: a41 :: a42 :: a43 :: a44 :: a45 :: a46 :: a47 :: a48 :: a49 :: a50 :: a51 :: a52 :: a53 :: a54 :: a55 :: a56 :: a57 :: a59 :: a60 :: a61 :: a62 :: a64 :: a65 :: a66 :: a67 :: a68 :: a69 :: a70 :: a71 :: a72 :: a73 :: a74 :: a75 :: []) } } : Program)) rfl
def defsIn (l : List Stmt) : List (Arguments × List Stmt × Scope) := l.filterMap fun s => match s with | .FunctionDef _ a b _ _ _ c _ _ _ => some (a, b, c) | _ => none
set_option maxRecDepth 100000 in
noncomputable def heap_39 : Params → Frag := fun P => (fun {p21 p28 p38 p45 p52 p59 p66 p73 p80 p87 p94 p99 p106 p113 p120 p127 p134 p141 p148 p155 p160 : Arguments} {b21 b28 b38 b45 b52 b59 b66 b73 b80 b87 b94 b99 b106 b113 b120 b127 b134 b141 b148 b155 b160 : List Stmt} {s21 s28 s38 s45 s52 s59 s66 s73 s80 s87 s94 s99 s106 s113 s120 s127 s134 s141 s148 s155 s160 : Scope} (_ : defsIn PySem.Challenge.rw_ty0033_01.prog.main.body = ((p21, b21, s21) :: (p28, b28, s28) :: (p38, b38, s38) :: (p45, b45, s45) :: (p52, b52, s52) :: (p59, b59, s59) :: (p66, b66, s66) :: (p73, b73, s73) :: (p80, b80, s80) :: (p87, b87, s87) :: (p94, b94, s94) :: (p99, b99, s99) :: (p106, b106, s106) :: (p113, b113, s113) :: (p120, b120, s120) :: (p127, b127, s127) :: (p134, b134, s134) :: (p141, b141, s141) :: (p148, b148, s148) :: (p155, b155, s155) :: (p160, b160, s160) :: [])) => (    (nat_lit 2, { cls := Value.none, data := Data.dict #[] }) ::
    (nat_lit 3, { cls := Value.type "dict", data := Data.dict (List.toArray ({ hash := PyData.keyHash P (Str.ofString "__name__"), key := Value.str (Str.ofString "__name__") 165, val := Value.str (Str.ofString "law_ty0033_01") 471 } :: { hash := PyData.keyHash P (Str.ofString "__doc__"), key := Value.str (Str.ofString "__doc__") 166, val := Value.none } :: { hash := PyData.keyHash P (Str.ofString "__package__"), key := Value.str (Str.ofString "__package__") 167, val := Value.none } :: { hash := PyData.keyHash P (Str.ofString "__loader__"), key := Value.str (Str.ofString "__loader__") 168, val := Value.builtin "__main__.__loader__#opaque" } :: { hash := PyData.keyHash P (Str.ofString "__spec__"), key := Value.str (Str.ofString "__spec__") 169, val := Value.none } :: { hash := PyData.keyHash P (Str.ofString "__annotations__"), key := Value.str (Str.ofString "__annotations__") 170, val := Value.ref 6 } :: { hash := PyData.keyHash P (Str.ofString "__builtins__"), key := Value.str (Str.ofString "__builtins__") 171, val := Value.ref 4 } :: { hash := PyData.keyHash P (Str.ofString "__file__"), key := Value.str (Str.ofString "__file__") 173, val := Value.str (Str.ofString "/claim/cut.py") 172 } :: { hash := PyData.keyHash P (Str.ofString "__cached__"), key := Value.str (Str.ofString "__cached__") 174, val := Value.none } :: { hash := PyData.keyHash P (Str.ofString "rgb_to_hsv"), key := Value.str (Str.ofString "rgb_to_hsv") 206, val := Value.ref 21 } :: { hash := PyData.keyHash P (Str.ofString "hsv_to_rgb"), key := Value.str (Str.ofString "hsv_to_rgb") 220, val := Value.ref 28 } :: { hash := PyData.keyHash P (Str.ofString "ENDMARKER"), key := Value.str (Str.ofString "ENDMARKER") 224, val := Value.int 0 223 } :: { hash := PyData.keyHash P (Str.ofString "LPAR"), key := Value.str (Str.ofString "LPAR") 226, val := Value.int 7 225 } :: { hash := PyData.keyHash P (Str.ofString "RPAR"), key := Value.str (Str.ofString "RPAR") 228, val := Value.int 8 227 } :: { hash := PyData.keyHash P (Str.ofString "LSQB"), key := Value.str (Str.ofString "LSQB") 230, val := Value.int 9 229 } :: { hash := PyData.keyHash P (Str.ofString "RSQB"), key := Value.str (Str.ofString "RSQB") 232, val := Value.int 10 231 } :: { hash := PyData.keyHash P (Str.ofString "COLON"), key := Value.str (Str.ofString "COLON") 234, val := Value.int 11 233 } :: { hash := PyData.keyHash P (Str.ofString "COMMA"), key := Value.str (Str.ofString "COMMA") 236, val := Value.int 12 235 } :: { hash := PyData.keyHash P (Str.ofString "SEMI"), key := Value.str (Str.ofString "SEMI") 238, val := Value.int 13 237 } :: { hash := PyData.keyHash P (Str.ofString "PLUS"), key := Value.str (Str.ofString "PLUS") 240, val := Value.int 14 239 } :: { hash := PyData.keyHash P (Str.ofString "MINUS"), key := Value.str (Str.ofString "MINUS") 242, val := Value.int 15 241 } :: { hash := PyData.keyHash P (Str.ofString "STAR"), key := Value.str (Str.ofString "STAR") 244, val := Value.int 16 243 } :: { hash := PyData.keyHash P (Str.ofString "SLASH"), key := Value.str (Str.ofString "SLASH") 246, val := Value.int 17 245 } :: { hash := PyData.keyHash P (Str.ofString "VBAR"), key := Value.str (Str.ofString "VBAR") 248, val := Value.int 18 247 } :: { hash := PyData.keyHash P (Str.ofString "AMPER"), key := Value.str (Str.ofString "AMPER") 250, val := Value.int 19 249 } :: { hash := PyData.keyHash P (Str.ofString "LESS"), key := Value.str (Str.ofString "LESS") 252, val := Value.int 20 251 } :: { hash := PyData.keyHash P (Str.ofString "GREATER"), key := Value.str (Str.ofString "GREATER") 254, val := Value.int 21 253 } :: { hash := PyData.keyHash P (Str.ofString "EQUAL"), key := Value.str (Str.ofString "EQUAL") 256, val := Value.int 22 255 } :: { hash := PyData.keyHash P (Str.ofString "DOT"), key := Value.str (Str.ofString "DOT") 258, val := Value.int 23 257 } :: { hash := PyData.keyHash P (Str.ofString "PERCENT"), key := Value.str (Str.ofString "PERCENT") 260, val := Value.int 24 259 } :: { hash := PyData.keyHash P (Str.ofString "LBRACE"), key := Value.str (Str.ofString "LBRACE") 262, val := Value.int 25 261 } :: { hash := PyData.keyHash P (Str.ofString "RBRACE"), key := Value.str (Str.ofString "RBRACE") 264, val := Value.int 26 263 } :: { hash := PyData.keyHash P (Str.ofString "EQEQUAL"), key := Value.str (Str.ofString "EQEQUAL") 266, val := Value.int 27 265 } :: { hash := PyData.keyHash P (Str.ofString "NOTEQUAL"), key := Value.str (Str.ofString "NOTEQUAL") 268, val := Value.int 28 267 } :: { hash := PyData.keyHash P (Str.ofString "LESSEQUAL"), key := Value.str (Str.ofString "LESSEQUAL") 270, val := Value.int 29 269 } :: { hash := PyData.keyHash P (Str.ofString "GREATEREQUAL"), key := Value.str (Str.ofString "GREATEREQUAL") 272, val := Value.int 30 271 } :: { hash := PyData.keyHash P (Str.ofString "TILDE"), key := Value.str (Str.ofString "TILDE") 274, val := Value.int 31 273 } :: { hash := PyData.keyHash P (Str.ofString "CIRCUMFLEX"), key := Value.str (Str.ofString "CIRCUMFLEX") 276, val := Value.int 32 275 } :: { hash := PyData.keyHash P (Str.ofString "LEFTSHIFT"), key := Value.str (Str.ofString "LEFTSHIFT") 278, val := Value.int 33 277 } :: { hash := PyData.keyHash P (Str.ofString "RIGHTSHIFT"), key := Value.str (Str.ofString "RIGHTSHIFT") 280, val := Value.int 34 279 } :: { hash := PyData.keyHash P (Str.ofString "DOUBLESTAR"), key := Value.str (Str.ofString "DOUBLESTAR") 282, val := Value.int 35 281 } :: { hash := PyData.keyHash P (Str.ofString "PLUSEQUAL"), key := Value.str (Str.ofString "PLUSEQUAL") 284, val := Value.int 36 283 } :: { hash := PyData.keyHash P (Str.ofString "MINEQUAL"), key := Value.str (Str.ofString "MINEQUAL") 286, val := Value.int 37 285 } :: { hash := PyData.keyHash P (Str.ofString "STAREQUAL"), key := Value.str (Str.ofString "STAREQUAL") 288, val := Value.int 38 287 } :: { hash := PyData.keyHash P (Str.ofString "SLASHEQUAL"), key := Value.str (Str.ofString "SLASHEQUAL") 290, val := Value.int 39 289 } :: { hash := PyData.keyHash P (Str.ofString "PERCENTEQUAL"), key := Value.str (Str.ofString "PERCENTEQUAL") 292, val := Value.int 40 291 } :: { hash := PyData.keyHash P (Str.ofString "AMPEREQUAL"), key := Value.str (Str.ofString "AMPEREQUAL") 294, val := Value.int 41 293 } :: { hash := PyData.keyHash P (Str.ofString "VBAREQUAL"), key := Value.str (Str.ofString "VBAREQUAL") 296, val := Value.int 42 295 } :: { hash := PyData.keyHash P (Str.ofString "CIRCUMFLEXEQUAL"), key := Value.str (Str.ofString "CIRCUMFLEXEQUAL") 298, val := Value.int 43 297 } :: { hash := PyData.keyHash P (Str.ofString "LEFTSHIFTEQUAL"), key := Value.str (Str.ofString "LEFTSHIFTEQUAL") 300, val := Value.int 44 299 } :: { hash := PyData.keyHash P (Str.ofString "RIGHTSHIFTEQUAL"), key := Value.str (Str.ofString "RIGHTSHIFTEQUAL") 302, val := Value.int 45 301 } :: { hash := PyData.keyHash P (Str.ofString "DOUBLESTAREQUAL"), key := Value.str (Str.ofString "DOUBLESTAREQUAL") 304, val := Value.int 46 303 } :: { hash := PyData.keyHash P (Str.ofString "DOUBLESLASH"), key := Value.str (Str.ofString "DOUBLESLASH") 306, val := Value.int 47 305 } :: { hash := PyData.keyHash P (Str.ofString "DOUBLESLASHEQUAL"), key := Value.str (Str.ofString "DOUBLESLASHEQUAL") 308, val := Value.int 48 307 } :: { hash := PyData.keyHash P (Str.ofString "AT"), key := Value.str (Str.ofString "AT") 310, val := Value.int 49 309 } :: { hash := PyData.keyHash P (Str.ofString "ATEQUAL"), key := Value.str (Str.ofString "ATEQUAL") 312, val := Value.int 50 311 } :: { hash := PyData.keyHash P (Str.ofString "RARROW"), key := Value.str (Str.ofString "RARROW") 314, val := Value.int 51 313 } :: { hash := PyData.keyHash P (Str.ofString "ELLIPSIS"), key := Value.str (Str.ofString "ELLIPSIS") 316, val := Value.int 52 315 } :: { hash := PyData.keyHash P (Str.ofString "COLONEQUAL"), key := Value.str (Str.ofString "COLONEQUAL") 318, val := Value.int 53 317 } :: { hash := PyData.keyHash P (Str.ofString "EXCLAMATION"), key := Value.str (Str.ofString "EXCLAMATION") 320, val := Value.int 54 319 } :: { hash := PyData.keyHash P (Str.ofString "NT_OFFSET"), key := Value.str (Str.ofString "NT_OFFSET") 322, val := Value.int 256 321 } :: { hash := PyData.keyHash P (Str.ofString "EXACT_TOKEN_TYPES"), key := Value.str (Str.ofString "EXACT_TOKEN_TYPES") 419, val := Value.ref 29 } :: { hash := PyData.keyHash P (Str.ofString "ISTERMINAL"), key := Value.str (Str.ofString "ISTERMINAL") 426, val := Value.ref 38 } :: { hash := PyData.keyHash P (Str.ofString "ISNONTERMINAL"), key := Value.str (Str.ofString "ISNONTERMINAL") 433, val := Value.ref 45 } :: { hash := PyData.keyHash P (Str.ofString "ISEOF"), key := Value.str (Str.ofString "ISEOF") 440, val := Value.ref 52 } :: { hash := PyData.keyHash P (Str.ofString "_raise_serialization_error"), key := Value.str (Str.ofString "_raise_serialization_error") 449, val := Value.ref 59 } :: { hash := PyData.keyHash P (Str.ofString "_escape_cdata"), key := Value.str (Str.ofString "_escape_cdata") 456, val := Value.ref 66 } :: { hash := PyData.keyHash P (Str.ofString "_escape_attrib"), key := Value.str (Str.ofString "_escape_attrib") 463, val := Value.ref 73 } :: { hash := PyData.keyHash P (Str.ofString "_escape_cdata_c14n"), key := Value.str (Str.ofString "_escape_cdata_c14n") 470, val := Value.ref 80 } :: { hash := PyData.keyHash P (Str.ofString "_law_heaps"), key := Value.str (Str.ofString "_law_heaps") 481, val := Value.ref 87 } :: { hash := PyData.keyHash P (Str.ofString "_law_written"), key := Value.str (Str.ofString "_law_written") 489, val := Value.ref 94 } :: { hash := PyData.keyHash P (Str.ofString "_law_spelled"), key := Value.str (Str.ofString "_law_spelled") 495, val := Value.ref 99 } :: { hash := PyData.keyHash P (Str.ofString "_law_derived"), key := Value.str (Str.ofString "_law_derived") 505, val := Value.ref 106 } :: { hash := PyData.keyHash P (Str.ofString "_law_crossings"), key := Value.str (Str.ofString "_law_crossings") 517, val := Value.ref 113 } :: { hash := PyData.keyHash P (Str.ofString "_law_struck"), key := Value.str (Str.ofString "_law_struck") 526, val := Value.ref 120 } :: { hash := PyData.keyHash P (Str.ofString "_law_mirrors"), key := Value.str (Str.ofString "_law_mirrors") 547, val := Value.ref 127 } :: { hash := PyData.keyHash P (Str.ofString "_law_kept"), key := Value.str (Str.ofString "_law_kept") 562, val := Value.ref 134 } :: { hash := PyData.keyHash P (Str.ofString "_law_common"), key := Value.str (Str.ofString "_law_common") 570, val := Value.ref 141 } :: { hash := PyData.keyHash P (Str.ofString "_law_table"), key := Value.str (Str.ofString "_law_table") 587, val := Value.ref 148 } :: { hash := PyData.keyHash P (Str.ofString "_law_due"), key := Value.str (Str.ofString "_law_due") 600, val := Value.ref 155 } :: { hash := PyData.keyHash P (Str.ofString "law"), key := Value.str (Str.ofString "law") 606, val := Value.ref 160 } :: [])) 81 }) ::
    (nat_lit 20, { cls := Value.type "code", data := Data.fields (List.toArray (Value.str (Str.ofString "rgb_to_hsv") 189 :: Value.str (Str.ofString "rgb_to_hsv") 190 :: Value.str (Str.ofString "/claim/cut.py") 191 :: Value.int 2 0 :: Value.int 3 0 :: Value.int 0 0 :: Value.int 0 0 :: Value.int 3 0 :: Value.ref 15 :: Value.bool true :: Value.int 181 0 :: Value.ref 16 :: Value.none :: Value.ref 17 :: Value.ref 18 :: Value.ref 19 :: Value.int 204 0 :: Value.int 2 0 :: Value.str (Str.ofString "/claim/cut.py") 205 :: [])) }) ::
    (nat_lit 21, { cls := Value.type "function", data := Data.func { name := Str.ofString "rgb_to_hsv", qualname := Str.ofString "rgb_to_hsv", params := p21, body := FuncBody.stmts b21, scope := s21, globals := 3, closure := [], defaults := Value.none, kwdefaults := Value.none, pyModule := Value.str (Str.ofString "cpy313.colorsys") 187, code := Value.ref 20 } }) ::
    (nat_lit 27, { cls := Value.type "code", data := Data.fields (List.toArray (Value.str (Str.ofString "hsv_to_rgb") 207 :: Value.str (Str.ofString "hsv_to_rgb") 208 :: Value.str (Str.ofString "/claim/cut.py") 209 :: Value.int 21 0 :: Value.int 3 0 :: Value.int 0 0 :: Value.int 0 0 :: Value.int 3 0 :: Value.ref 22 :: Value.bool true :: Value.int 181 0 :: Value.ref 23 :: Value.none :: Value.ref 24 :: Value.ref 25 :: Value.ref 26 :: Value.int 218 0 :: Value.int 21 0 :: Value.str (Str.ofString "/claim/cut.py") 219 :: [])) }) ::
    (nat_lit 28, { cls := Value.type "function", data := Data.func { name := Str.ofString "hsv_to_rgb", qualname := Str.ofString "hsv_to_rgb", params := p28, body := FuncBody.stmts b28, scope := s28, globals := 3, closure := [], defaults := Value.none, kwdefaults := Value.none, pyModule := Value.str (Str.ofString "cpy313.colorsys") 187, code := Value.ref 27 } }) ::
    (nat_lit 29, { cls := Value.type "dict", data := Data.dict (List.toArray ({ hash := PyData.keyHash P (Str.ofString "!"), key := Value.str (Str.ofString "!") 323, val := Value.int 54 319 } :: { hash := PyData.keyHash P (Str.ofString "!="), key := Value.str (Str.ofString "!=") 325, val := Value.int 28 267 } :: { hash := PyData.keyHash P (Str.ofString "%"), key := Value.str (Str.ofString "%") 327, val := Value.int 24 259 } :: { hash := PyData.keyHash P (Str.ofString "%="), key := Value.str (Str.ofString "%=") 329, val := Value.int 40 291 } :: { hash := PyData.keyHash P (Str.ofString "&"), key := Value.str (Str.ofString "&") 331, val := Value.int 19 249 } :: { hash := PyData.keyHash P (Str.ofString "&="), key := Value.str (Str.ofString "&=") 333, val := Value.int 41 293 } :: { hash := PyData.keyHash P (Str.ofString "("), key := Value.str (Str.ofString "(") 335, val := Value.int 7 225 } :: { hash := PyData.keyHash P (Str.ofString ")"), key := Value.str (Str.ofString ")") 337, val := Value.int 8 227 } :: { hash := PyData.keyHash P (Str.ofString "*"), key := Value.str (Str.ofString "*") 339, val := Value.int 16 243 } :: { hash := PyData.keyHash P (Str.ofString "**"), key := Value.str (Str.ofString "**") 341, val := Value.int 35 281 } :: { hash := PyData.keyHash P (Str.ofString "**="), key := Value.str (Str.ofString "**=") 343, val := Value.int 46 303 } :: { hash := PyData.keyHash P (Str.ofString "*="), key := Value.str (Str.ofString "*=") 345, val := Value.int 38 287 } :: { hash := PyData.keyHash P (Str.ofString "+"), key := Value.str (Str.ofString "+") 347, val := Value.int 14 239 } :: { hash := PyData.keyHash P (Str.ofString "+="), key := Value.str (Str.ofString "+=") 349, val := Value.int 36 283 } :: { hash := PyData.keyHash P (Str.ofString ","), key := Value.str (Str.ofString ",") 351, val := Value.int 12 235 } :: { hash := PyData.keyHash P (Str.ofString "-"), key := Value.str (Str.ofString "-") 353, val := Value.int 15 241 } :: { hash := PyData.keyHash P (Str.ofString "-="), key := Value.str (Str.ofString "-=") 355, val := Value.int 37 285 } :: { hash := PyData.keyHash P (Str.ofString "->"), key := Value.str (Str.ofString "->") 357, val := Value.int 51 313 } :: { hash := PyData.keyHash P (Str.ofString "."), key := Value.str (Str.ofString ".") 359, val := Value.int 23 257 } :: { hash := PyData.keyHash P (Str.ofString "..."), key := Value.str (Str.ofString "...") 361, val := Value.int 52 315 } :: { hash := PyData.keyHash P (Str.ofString "/"), key := Value.str (Str.ofString "/") 363, val := Value.int 17 245 } :: { hash := PyData.keyHash P (Str.ofString "//"), key := Value.str (Str.ofString "//") 365, val := Value.int 47 305 } :: { hash := PyData.keyHash P (Str.ofString "//="), key := Value.str (Str.ofString "//=") 367, val := Value.int 48 307 } :: { hash := PyData.keyHash P (Str.ofString "/="), key := Value.str (Str.ofString "/=") 369, val := Value.int 39 289 } :: { hash := PyData.keyHash P (Str.ofString ":"), key := Value.str (Str.ofString ":") 371, val := Value.int 11 233 } :: { hash := PyData.keyHash P (Str.ofString ":="), key := Value.str (Str.ofString ":=") 373, val := Value.int 53 317 } :: { hash := PyData.keyHash P (Str.ofString ";"), key := Value.str (Str.ofString ";") 375, val := Value.int 13 237 } :: { hash := PyData.keyHash P (Str.ofString "<"), key := Value.str (Str.ofString "<") 377, val := Value.int 20 251 } :: { hash := PyData.keyHash P (Str.ofString "<<"), key := Value.str (Str.ofString "<<") 379, val := Value.int 33 277 } :: { hash := PyData.keyHash P (Str.ofString "<<="), key := Value.str (Str.ofString "<<=") 381, val := Value.int 44 299 } :: { hash := PyData.keyHash P (Str.ofString "<="), key := Value.str (Str.ofString "<=") 383, val := Value.int 29 269 } :: { hash := PyData.keyHash P (Str.ofString "="), key := Value.str (Str.ofString "=") 385, val := Value.int 22 255 } :: { hash := PyData.keyHash P (Str.ofString "=="), key := Value.str (Str.ofString "==") 387, val := Value.int 27 265 } :: { hash := PyData.keyHash P (Str.ofString ">"), key := Value.str (Str.ofString ">") 389, val := Value.int 21 253 } :: { hash := PyData.keyHash P (Str.ofString ">="), key := Value.str (Str.ofString ">=") 391, val := Value.int 30 271 } :: { hash := PyData.keyHash P (Str.ofString ">>"), key := Value.str (Str.ofString ">>") 392, val := Value.int 34 279 } :: { hash := PyData.keyHash P (Str.ofString ">>="), key := Value.str (Str.ofString ">>=") 393, val := Value.int 45 301 } :: { hash := PyData.keyHash P (Str.ofString "@"), key := Value.str (Str.ofString "@") 394, val := Value.int 49 309 } :: { hash := PyData.keyHash P (Str.ofString "@="), key := Value.str (Str.ofString "@=") 395, val := Value.int 50 311 } :: { hash := PyData.keyHash P (Str.ofString "["), key := Value.str (Str.ofString "[") 396, val := Value.int 9 229 } :: { hash := PyData.keyHash P (Str.ofString "]"), key := Value.str (Str.ofString "]") 397, val := Value.int 10 231 } :: { hash := PyData.keyHash P (Str.ofString "^"), key := Value.str (Str.ofString "^") 398, val := Value.int 32 275 } :: { hash := PyData.keyHash P (Str.ofString "^="), key := Value.str (Str.ofString "^=") 399, val := Value.int 43 297 } :: { hash := PyData.keyHash P (Str.ofString "{"), key := Value.str (Str.ofString "{") 400, val := Value.int 25 261 } :: { hash := PyData.keyHash P (Str.ofString "|"), key := Value.str (Str.ofString "|") 401, val := Value.int 18 247 } :: { hash := PyData.keyHash P (Str.ofString "|="), key := Value.str (Str.ofString "|=") 402, val := Value.int 42 295 } :: { hash := PyData.keyHash P (Str.ofString "}"), key := Value.str (Str.ofString "}") 403, val := Value.int 26 263 } :: { hash := PyData.keyHash P (Str.ofString "~"), key := Value.str (Str.ofString "~") 404, val := Value.int 31 273 } :: [])) 48 }) ::
    (nat_lit 37, { cls := Value.type "code", data := Data.fields (List.toArray (Value.str (Str.ofString "ISTERMINAL") 420 :: Value.str (Str.ofString "ISTERMINAL") 421 :: Value.str (Str.ofString "/claim/cut.py") 422 :: Value.int 94 0 :: Value.int 1 0 :: Value.int 0 0 :: Value.int 0 0 :: Value.int 3 0 :: Value.ref 32 :: Value.bool true :: Value.int 181 0 :: Value.ref 33 :: Value.none :: Value.ref 34 :: Value.ref 35 :: Value.ref 36 :: Value.int 424 0 :: Value.int 94 0 :: Value.str (Str.ofString "/claim/cut.py") 425 :: [])) }) ::
    (nat_lit 38, { cls := Value.type "function", data := Data.func { name := Str.ofString "ISTERMINAL", qualname := Str.ofString "ISTERMINAL", params := p38, body := FuncBody.stmts b38, scope := s38, globals := 3, closure := [], defaults := Value.none, kwdefaults := Value.none, pyModule := Value.str (Str.ofString "cpy313.token") 221, code := Value.ref 37 } }) ::
    (nat_lit 44, { cls := Value.type "code", data := Data.fields (List.toArray (Value.str (Str.ofString "ISNONTERMINAL") 427 :: Value.str (Str.ofString "ISNONTERMINAL") 428 :: Value.str (Str.ofString "/claim/cut.py") 429 :: Value.int 96 0 :: Value.int 1 0 :: Value.int 0 0 :: Value.int 0 0 :: Value.int 3 0 :: Value.ref 39 :: Value.bool true :: Value.int 181 0 :: Value.ref 40 :: Value.none :: Value.ref 41 :: Value.ref 42 :: Value.ref 43 :: Value.int 431 0 :: Value.int 96 0 :: Value.str (Str.ofString "/claim/cut.py") 432 :: [])) }) ::
    (nat_lit 45, { cls := Value.type "function", data := Data.func { name := Str.ofString "ISNONTERMINAL", qualname := Str.ofString "ISNONTERMINAL", params := p45, body := FuncBody.stmts b45, scope := s45, globals := 3, closure := [], defaults := Value.none, kwdefaults := Value.none, pyModule := Value.str (Str.ofString "cpy313.token") 221, code := Value.ref 44 } }) ::
    (nat_lit 51, { cls := Value.type "code", data := Data.fields (List.toArray (Value.str (Str.ofString "ISEOF") 434 :: Value.str (Str.ofString "ISEOF") 435 :: Value.str (Str.ofString "/claim/cut.py") 436 :: Value.int 98 0 :: Value.int 1 0 :: Value.int 0 0 :: Value.int 0 0 :: Value.int 3 0 :: Value.ref 46 :: Value.bool true :: Value.int 181 0 :: Value.ref 47 :: Value.none :: Value.ref 48 :: Value.ref 49 :: Value.ref 50 :: Value.int 438 0 :: Value.int 98 0 :: Value.str (Str.ofString "/claim/cut.py") 439 :: [])) }) ::
    (nat_lit 52, { cls := Value.type "function", data := Data.func { name := Str.ofString "ISEOF", qualname := Str.ofString "ISEOF", params := p52, body := FuncBody.stmts b52, scope := s52, globals := 3, closure := [], defaults := Value.none, kwdefaults := Value.none, pyModule := Value.str (Str.ofString "cpy313.token") 221, code := Value.ref 51 } }) ::
    (nat_lit 58, { cls := Value.type "code", data := Data.fields (List.toArray (Value.str (Str.ofString "_raise_serialization_error") 443 :: Value.str (Str.ofString "_raise_serialization_error") 444 :: Value.str (Str.ofString "/claim/cut.py") 445 :: Value.int 101 0 :: Value.int 1 0 :: Value.int 0 0 :: Value.int 0 0 :: Value.int 3 0 :: Value.ref 53 :: Value.bool true :: Value.int 181 0 :: Value.ref 54 :: Value.none :: Value.ref 55 :: Value.ref 56 :: Value.ref 57 :: Value.int 447 0 :: Value.int 101 0 :: Value.str (Str.ofString "/claim/cut.py") 448 :: [])) }) ::
    (nat_lit 59, { cls := Value.type "function", data := Data.func { name := Str.ofString "_raise_serialization_error", qualname := Str.ofString "_raise_serialization_error", params := p59, body := FuncBody.stmts b59, scope := s59, globals := 3, closure := [], defaults := Value.none, kwdefaults := Value.none, pyModule := Value.str (Str.ofString "cpy313.xml.etree.ElementTree") 441, code := Value.ref 58 } }) ::
    (nat_lit 65, { cls := Value.type "code", data := Data.fields (List.toArray (Value.str (Str.ofString "_escape_cdata") 450 :: Value.str (Str.ofString "_escape_cdata") 451 :: Value.str (Str.ofString "/claim/cut.py") 452 :: Value.int 103 0 :: Value.int 1 0 :: Value.int 0 0 :: Value.int 0 0 :: Value.int 3 0 :: Value.ref 60 :: Value.bool true :: Value.int 181 0 :: Value.ref 61 :: Value.none :: Value.ref 62 :: Value.ref 63 :: Value.ref 64 :: Value.int 454 0 :: Value.int 103 0 :: Value.str (Str.ofString "/claim/cut.py") 455 :: [])) }) ::
    (nat_lit 66, { cls := Value.type "function", data := Data.func { name := Str.ofString "_escape_cdata", qualname := Str.ofString "_escape_cdata", params := p66, body := FuncBody.stmts b66, scope := s66, globals := 3, closure := [], defaults := Value.none, kwdefaults := Value.none, pyModule := Value.str (Str.ofString "cpy313.xml.etree.ElementTree") 441, code := Value.ref 65 } }) ::
    (nat_lit 72, { cls := Value.type "code", data := Data.fields (List.toArray (Value.str (Str.ofString "_escape_attrib") 457 :: Value.str (Str.ofString "_escape_attrib") 458 :: Value.str (Str.ofString "/claim/cut.py") 459 :: Value.int 114 0 :: Value.int 1 0 :: Value.int 0 0 :: Value.int 0 0 :: Value.int 3 0 :: Value.ref 67 :: Value.bool true :: Value.int 181 0 :: Value.ref 68 :: Value.none :: Value.ref 69 :: Value.ref 70 :: Value.ref 71 :: Value.int 461 0 :: Value.int 114 0 :: Value.str (Str.ofString "/claim/cut.py") 462 :: [])) }) ::
    (nat_lit 73, { cls := Value.type "function", data := Data.func { name := Str.ofString "_escape_attrib", qualname := Str.ofString "_escape_attrib", params := p73, body := FuncBody.stmts b73, scope := s73, globals := 3, closure := [], defaults := Value.none, kwdefaults := Value.none, pyModule := Value.str (Str.ofString "cpy313.xml.etree.ElementTree") 441, code := Value.ref 72 } }) ::
    (nat_lit 79, { cls := Value.type "code", data := Data.fields (List.toArray (Value.str (Str.ofString "_escape_cdata_c14n") 464 :: Value.str (Str.ofString "_escape_cdata_c14n") 465 :: Value.str (Str.ofString "/claim/cut.py") 466 :: Value.int 133 0 :: Value.int 1 0 :: Value.int 0 0 :: Value.int 0 0 :: Value.int 3 0 :: Value.ref 74 :: Value.bool true :: Value.int 181 0 :: Value.ref 75 :: Value.none :: Value.ref 76 :: Value.ref 77 :: Value.ref 78 :: Value.int 468 0 :: Value.int 133 0 :: Value.str (Str.ofString "/claim/cut.py") 469 :: [])) }) ::
    (nat_lit 80, { cls := Value.type "function", data := Data.func { name := Str.ofString "_escape_cdata_c14n", qualname := Str.ofString "_escape_cdata_c14n", params := p80, body := FuncBody.stmts b80, scope := s80, globals := 3, closure := [], defaults := Value.none, kwdefaults := Value.none, pyModule := Value.str (Str.ofString "cpy313.xml.etree.ElementTree") 441, code := Value.ref 79 } }) ::
    (nat_lit 86, { cls := Value.type "code", data := Data.fields (List.toArray (Value.str (Str.ofString "_law_heaps") 473 :: Value.str (Str.ofString "_law_heaps") 474 :: Value.str (Str.ofString "/claim/cut.py") 475 :: Value.int 147 0 :: Value.int 1 0 :: Value.int 0 0 :: Value.int 0 0 :: Value.int 3 0 :: Value.ref 81 :: Value.bool true :: Value.int 181 0 :: Value.ref 82 :: Value.none :: Value.ref 83 :: Value.ref 84 :: Value.ref 85 :: Value.int 479 0 :: Value.int 147 0 :: Value.str (Str.ofString "/claim/cut.py") 480 :: [])) }) ::
    (nat_lit 87, { cls := Value.type "function", data := Data.func { name := Str.ofString "_law_heaps", qualname := Str.ofString "_law_heaps", params := p87, body := FuncBody.stmts b87, scope := s87, globals := 3, closure := [], defaults := Value.none, kwdefaults := Value.none, pyModule := Value.str (Str.ofString "law_ty0033_01") 471, code := Value.ref 86 } }) ::
    (nat_lit 93, { cls := Value.type "code", data := Data.fields (List.toArray (Value.str (Str.ofString "_law_written") 482 :: Value.str (Str.ofString "_law_written") 483 :: Value.str (Str.ofString "/claim/cut.py") 484 :: Value.int 152 0 :: Value.int 2 0 :: Value.int 0 0 :: Value.int 0 0 :: Value.int 3 0 :: Value.ref 88 :: Value.bool true :: Value.int 181 0 :: Value.ref 89 :: Value.none :: Value.ref 90 :: Value.ref 91 :: Value.ref 92 :: Value.int 487 0 :: Value.int 152 0 :: Value.str (Str.ofString "/claim/cut.py") 488 :: [])) }) ::
    (nat_lit 94, { cls := Value.type "function", data := Data.func { name := Str.ofString "_law_written", qualname := Str.ofString "_law_written", params := p94, body := FuncBody.stmts b94, scope := s94, globals := 3, closure := [], defaults := Value.none, kwdefaults := Value.none, pyModule := Value.str (Str.ofString "law_ty0033_01") 471, code := Value.ref 93 } }) ::
    (nat_lit 98, { cls := Value.type "code", data := Data.fields (List.toArray (Value.str (Str.ofString "_law_spelled") 490 :: Value.str (Str.ofString "_law_spelled") 491 :: Value.str (Str.ofString "/claim/cut.py") 492 :: Value.int 158 0 :: Value.int 1 0 :: Value.int 0 0 :: Value.int 0 0 :: Value.int 3 0 :: Value.ref 95 :: Value.bool true :: Value.int 181 0 :: Value.ref 96 :: Value.none :: Value.none :: Value.none :: Value.ref 97 :: Value.int 493 0 :: Value.int 158 0 :: Value.str (Str.ofString "/claim/cut.py") 494 :: [])) }) ::
    (nat_lit 99, { cls := Value.type "function", data := Data.func { name := Str.ofString "_law_spelled", qualname := Str.ofString "_law_spelled", params := p99, body := FuncBody.stmts b99, scope := s99, globals := 3, closure := [], defaults := Value.none, kwdefaults := Value.none, pyModule := Value.str (Str.ofString "law_ty0033_01") 471, code := Value.ref 98 } }) ::
    (nat_lit 105, { cls := Value.type "code", data := Data.fields (List.toArray (Value.str (Str.ofString "_law_derived") 496 :: Value.str (Str.ofString "_law_derived") 497 :: Value.str (Str.ofString "/claim/cut.py") 498 :: Value.int 161 0 :: Value.int 1 0 :: Value.int 0 0 :: Value.int 0 0 :: Value.int 3 0 :: Value.ref 100 :: Value.bool true :: Value.int 181 0 :: Value.ref 101 :: Value.none :: Value.ref 102 :: Value.ref 103 :: Value.ref 104 :: Value.int 503 0 :: Value.int 161 0 :: Value.str (Str.ofString "/claim/cut.py") 504 :: [])) }) ::
    (nat_lit 106, { cls := Value.type "function", data := Data.func { name := Str.ofString "_law_derived", qualname := Str.ofString "_law_derived", params := p106, body := FuncBody.stmts b106, scope := s106, globals := 3, closure := [], defaults := Value.none, kwdefaults := Value.none, pyModule := Value.str (Str.ofString "law_ty0033_01") 471, code := Value.ref 105 } }) ::
    (nat_lit 112, { cls := Value.type "code", data := Data.fields (List.toArray (Value.str (Str.ofString "_law_crossings") 506 :: Value.str (Str.ofString "_law_crossings") 507 :: Value.str (Str.ofString "/claim/cut.py") 508 :: Value.int 175 0 :: Value.int 1 0 :: Value.int 0 0 :: Value.int 0 0 :: Value.int 3 0 :: Value.ref 107 :: Value.bool true :: Value.int 181 0 :: Value.ref 108 :: Value.none :: Value.ref 109 :: Value.ref 110 :: Value.ref 111 :: Value.int 515 0 :: Value.int 175 0 :: Value.str (Str.ofString "/claim/cut.py") 516 :: [])) }) ::
    (nat_lit 113, { cls := Value.type "function", data := Data.func { name := Str.ofString "_law_crossings", qualname := Str.ofString "_law_crossings", params := p113, body := FuncBody.stmts b113, scope := s113, globals := 3, closure := [], defaults := Value.none, kwdefaults := Value.none, pyModule := Value.str (Str.ofString "law_ty0033_01") 471, code := Value.ref 112 } }) ::
    (nat_lit 119, { cls := Value.type "code", data := Data.fields (List.toArray (Value.str (Str.ofString "_law_struck") 518 :: Value.str (Str.ofString "_law_struck") 519 :: Value.str (Str.ofString "/claim/cut.py") 520 :: Value.int 198 0 :: Value.int 1 0 :: Value.int 0 0 :: Value.int 0 0 :: Value.int 3 0 :: Value.ref 114 :: Value.bool true :: Value.int 181 0 :: Value.ref 115 :: Value.none :: Value.ref 116 :: Value.ref 117 :: Value.ref 118 :: Value.int 524 0 :: Value.int 198 0 :: Value.str (Str.ofString "/claim/cut.py") 525 :: [])) }) ::
    (nat_lit 120, { cls := Value.type "function", data := Data.func { name := Str.ofString "_law_struck", qualname := Str.ofString "_law_struck", params := p120, body := FuncBody.stmts b120, scope := s120, globals := 3, closure := [], defaults := Value.none, kwdefaults := Value.none, pyModule := Value.str (Str.ofString "law_ty0033_01") 471, code := Value.ref 119 } }) ::
    (nat_lit 126, { cls := Value.type "code", data := Data.fields (List.toArray (Value.str (Str.ofString "_law_mirrors") 527 :: Value.str (Str.ofString "_law_mirrors") 528 :: Value.str (Str.ofString "/claim/cut.py") 529 :: Value.int 206 0 :: Value.int 3 0 :: Value.int 0 0 :: Value.int 0 0 :: Value.int 3 0 :: Value.ref 121 :: Value.bool true :: Value.int 181 0 :: Value.ref 122 :: Value.none :: Value.ref 123 :: Value.ref 124 :: Value.ref 125 :: Value.int 545 0 :: Value.int 206 0 :: Value.str (Str.ofString "/claim/cut.py") 546 :: [])) }) ::
    (nat_lit 127, { cls := Value.type "function", data := Data.func { name := Str.ofString "_law_mirrors", qualname := Str.ofString "_law_mirrors", params := p127, body := FuncBody.stmts b127, scope := s127, globals := 3, closure := [], defaults := Value.none, kwdefaults := Value.none, pyModule := Value.str (Str.ofString "law_ty0033_01") 471, code := Value.ref 126 } }) ::
    (nat_lit 133, { cls := Value.type "code", data := Data.fields (List.toArray (Value.str (Str.ofString "_law_kept") 548 :: Value.str (Str.ofString "_law_kept") 549 :: Value.str (Str.ofString "/claim/cut.py") 550 :: Value.int 221 0 :: Value.int 2 0 :: Value.int 0 0 :: Value.int 0 0 :: Value.int 3 0 :: Value.ref 128 :: Value.bool true :: Value.int 181 0 :: Value.ref 129 :: Value.none :: Value.ref 130 :: Value.ref 131 :: Value.ref 132 :: Value.int 560 0 :: Value.int 221 0 :: Value.str (Str.ofString "/claim/cut.py") 561 :: [])) }) ::
    (nat_lit 134, { cls := Value.type "function", data := Data.func { name := Str.ofString "_law_kept", qualname := Str.ofString "_law_kept", params := p134, body := FuncBody.stmts b134, scope := s134, globals := 3, closure := [], defaults := Value.none, kwdefaults := Value.none, pyModule := Value.str (Str.ofString "law_ty0033_01") 471, code := Value.ref 133 } }) ::
    (nat_lit 140, { cls := Value.type "code", data := Data.fields (List.toArray (Value.str (Str.ofString "_law_common") 563 :: Value.str (Str.ofString "_law_common") 564 :: Value.str (Str.ofString "/claim/cut.py") 565 :: Value.int 238 0 :: Value.int 2 0 :: Value.int 0 0 :: Value.int 0 0 :: Value.int 3 0 :: Value.ref 135 :: Value.bool true :: Value.int 181 0 :: Value.ref 136 :: Value.none :: Value.ref 137 :: Value.ref 138 :: Value.ref 139 :: Value.int 568 0 :: Value.int 238 0 :: Value.str (Str.ofString "/claim/cut.py") 569 :: [])) }) ::
    (nat_lit 141, { cls := Value.type "function", data := Data.func { name := Str.ofString "_law_common", qualname := Str.ofString "_law_common", params := p141, body := FuncBody.stmts b141, scope := s141, globals := 3, closure := [], defaults := Value.none, kwdefaults := Value.none, pyModule := Value.str (Str.ofString "law_ty0033_01") 471, code := Value.ref 140 } }) ::
    (nat_lit 147, { cls := Value.type "code", data := Data.fields (List.toArray (Value.str (Str.ofString "_law_table") 571 :: Value.str (Str.ofString "_law_table") 572 :: Value.str (Str.ofString "/claim/cut.py") 573 :: Value.int 243 0 :: Value.int 2 0 :: Value.int 0 0 :: Value.int 0 0 :: Value.int 3 0 :: Value.ref 142 :: Value.bool true :: Value.int 181 0 :: Value.ref 143 :: Value.none :: Value.ref 144 :: Value.ref 145 :: Value.ref 146 :: Value.int 585 0 :: Value.int 243 0 :: Value.str (Str.ofString "/claim/cut.py") 586 :: [])) }) ::
    (nat_lit 148, { cls := Value.type "function", data := Data.func { name := Str.ofString "_law_table", qualname := Str.ofString "_law_table", params := p148, body := FuncBody.stmts b148, scope := s148, globals := 3, closure := [], defaults := Value.none, kwdefaults := Value.none, pyModule := Value.str (Str.ofString "law_ty0033_01") 471, code := Value.ref 147 } }) ::
    (nat_lit 154, { cls := Value.type "code", data := Data.fields (List.toArray (Value.str (Str.ofString "_law_due") 588 :: Value.str (Str.ofString "_law_due") 589 :: Value.str (Str.ofString "/claim/cut.py") 590 :: Value.int 251 0 :: Value.int 1 0 :: Value.int 0 0 :: Value.int 0 0 :: Value.int 3 0 :: Value.ref 149 :: Value.bool true :: Value.int 181 0 :: Value.ref 150 :: Value.none :: Value.ref 151 :: Value.ref 152 :: Value.ref 153 :: Value.int 598 0 :: Value.int 251 0 :: Value.str (Str.ofString "/claim/cut.py") 599 :: [])) }) ::
    (nat_lit 155, { cls := Value.type "function", data := Data.func { name := Str.ofString "_law_due", qualname := Str.ofString "_law_due", params := p155, body := FuncBody.stmts b155, scope := s155, globals := 3, closure := [], defaults := Value.none, kwdefaults := Value.none, pyModule := Value.str (Str.ofString "law_ty0033_01") 471, code := Value.ref 154 } }) ::
    (nat_lit 159, { cls := Value.type "code", data := Data.fields (List.toArray (Value.str (Str.ofString "law") 601 :: Value.str (Str.ofString "law") 602 :: Value.str (Str.ofString "/claim/cut.py") 603 :: Value.int 258 0 :: Value.int 1 0 :: Value.int 0 0 :: Value.int 0 0 :: Value.int 3 0 :: Value.ref 156 :: Value.bool true :: Value.int 181 0 :: Value.ref 157 :: Value.none :: Value.none :: Value.none :: Value.ref 158 :: Value.int 604 0 :: Value.int 258 0 :: Value.str (Str.ofString "/claim/cut.py") 605 :: [])) }) ::
    (nat_lit 160, { cls := Value.type "function", data := Data.func { name := Str.ofString "law", qualname := Str.ofString "law", params := p160, body := FuncBody.stmts b160, scope := s160, globals := 3, closure := [], defaults := Value.none, kwdefaults := Value.none, pyModule := Value.str (Str.ofString "law_ty0033_01") 471, code := Value.ref 159 } }) ::
[] : Frag)) rfl
abbrev addrs : List Addr := (2 :: 3 :: 20 :: 21 :: 27 :: 28 :: 29 :: 37 :: 38 :: 44 :: 45 :: 51 :: 52 :: 58 :: 59 :: 65 :: 66 :: 72 :: 73 :: 79 :: 80 :: 86 :: 87 :: 93 :: 94 :: 98 :: 99 :: 105 :: 106 :: 112 :: 113 :: 119 :: 120 :: 126 :: 127 :: 133 :: 134 :: 140 :: 141 :: 147 :: 148 :: 154 :: 155 :: 159 :: 160 :: [])
theorem addrs_eq (P : Params) : addrs = (heap_39 P).map (·.1) := by kernel_rfl
abbrev loose : List Str := [Str.ofString "EXACT_TOKEN_TYPES"]
noncomputable abbrev Xt (s : Shared) : Bool := xlAt view_39 [] s && recOk (RowW.records PySem.Challenge.rw_ty0033_01.row.toRowW) s
noncomputable def d21 : Arguments × List Stmt × Scope := (fun {n : Str} {a : Arguments} {b : List Stmt} {c : List Expr} {d : Option Expr} {e : List TypeParam} {f : Scope} {g : Option Scope} {h : Str} {p : Pos} (_ : PySem.Challenge.rw_ty0033_01.prog.main.body[1]? = some (Stmt.FunctionDef n a b c d e f g h p)) => (a, b, f)) rfl
noncomputable def d28 : Arguments × List Stmt × Scope := (fun {n : Str} {a : Arguments} {b : List Stmt} {c : List Expr} {d : Option Expr} {e : List TypeParam} {f : Scope} {g : Option Scope} {h : Str} {p : Pos} (_ : PySem.Challenge.rw_ty0033_01.prog.main.body[2]? = some (Stmt.FunctionDef n a b c d e f g h p)) => (a, b, f)) rfl
noncomputable def d38 : Arguments × List Stmt × Scope := (fun {n : Str} {a : Arguments} {b : List Stmt} {c : List Expr} {d : Option Expr} {e : List TypeParam} {f : Scope} {g : Option Scope} {h : Str} {p : Pos} (_ : PySem.Challenge.rw_ty0033_01.prog.main.body[55]? = some (Stmt.FunctionDef n a b c d e f g h p)) => (a, b, f)) rfl
noncomputable def d45 : Arguments × List Stmt × Scope := (fun {n : Str} {a : Arguments} {b : List Stmt} {c : List Expr} {d : Option Expr} {e : List TypeParam} {f : Scope} {g : Option Scope} {h : Str} {p : Pos} (_ : PySem.Challenge.rw_ty0033_01.prog.main.body[56]? = some (Stmt.FunctionDef n a b c d e f g h p)) => (a, b, f)) rfl
noncomputable def d52 : Arguments × List Stmt × Scope := (fun {n : Str} {a : Arguments} {b : List Stmt} {c : List Expr} {d : Option Expr} {e : List TypeParam} {f : Scope} {g : Option Scope} {h : Str} {p : Pos} (_ : PySem.Challenge.rw_ty0033_01.prog.main.body[57]? = some (Stmt.FunctionDef n a b c d e f g h p)) => (a, b, f)) rfl
noncomputable def d59 : Arguments × List Stmt × Scope := (fun {n : Str} {a : Arguments} {b : List Stmt} {c : List Expr} {d : Option Expr} {e : List TypeParam} {f : Scope} {g : Option Scope} {h : Str} {p : Pos} (_ : PySem.Challenge.rw_ty0033_01.prog.main.body[59]? = some (Stmt.FunctionDef n a b c d e f g h p)) => (a, b, f)) rfl
noncomputable def d66 : Arguments × List Stmt × Scope := (fun {n : Str} {a : Arguments} {b : List Stmt} {c : List Expr} {d : Option Expr} {e : List TypeParam} {f : Scope} {g : Option Scope} {h : Str} {p : Pos} (_ : PySem.Challenge.rw_ty0033_01.prog.main.body[60]? = some (Stmt.FunctionDef n a b c d e f g h p)) => (a, b, f)) rfl
noncomputable def d73 : Arguments × List Stmt × Scope := (fun {n : Str} {a : Arguments} {b : List Stmt} {c : List Expr} {d : Option Expr} {e : List TypeParam} {f : Scope} {g : Option Scope} {h : Str} {p : Pos} (_ : PySem.Challenge.rw_ty0033_01.prog.main.body[61]? = some (Stmt.FunctionDef n a b c d e f g h p)) => (a, b, f)) rfl
noncomputable def d80 : Arguments × List Stmt × Scope := (fun {n : Str} {a : Arguments} {b : List Stmt} {c : List Expr} {d : Option Expr} {e : List TypeParam} {f : Scope} {g : Option Scope} {h : Str} {p : Pos} (_ : PySem.Challenge.rw_ty0033_01.prog.main.body[62]? = some (Stmt.FunctionDef n a b c d e f g h p)) => (a, b, f)) rfl
noncomputable def d87 : Arguments × List Stmt × Scope := (fun {n : Str} {a : Arguments} {b : List Stmt} {c : List Expr} {d : Option Expr} {e : List TypeParam} {f : Scope} {g : Option Scope} {h : Str} {p : Pos} (_ : PySem.Challenge.rw_ty0033_01.prog.main.body[64]? = some (Stmt.FunctionDef n a b c d e f g h p)) => (a, b, f)) rfl
noncomputable def d94 : Arguments × List Stmt × Scope := (fun {n : Str} {a : Arguments} {b : List Stmt} {c : List Expr} {d : Option Expr} {e : List TypeParam} {f : Scope} {g : Option Scope} {h : Str} {p : Pos} (_ : PySem.Challenge.rw_ty0033_01.prog.main.body[65]? = some (Stmt.FunctionDef n a b c d e f g h p)) => (a, b, f)) rfl
noncomputable def d99 : Arguments × List Stmt × Scope := (fun {n : Str} {a : Arguments} {b : List Stmt} {c : List Expr} {d : Option Expr} {e : List TypeParam} {f : Scope} {g : Option Scope} {h : Str} {p : Pos} (_ : PySem.Challenge.rw_ty0033_01.prog.main.body[66]? = some (Stmt.FunctionDef n a b c d e f g h p)) => (a, b, f)) rfl
noncomputable def d106 : Arguments × List Stmt × Scope := (fun {n : Str} {a : Arguments} {b : List Stmt} {c : List Expr} {d : Option Expr} {e : List TypeParam} {f : Scope} {g : Option Scope} {h : Str} {p : Pos} (_ : PySem.Challenge.rw_ty0033_01.prog.main.body[67]? = some (Stmt.FunctionDef n a b c d e f g h p)) => (a, b, f)) rfl
noncomputable def d113 : Arguments × List Stmt × Scope := (fun {n : Str} {a : Arguments} {b : List Stmt} {c : List Expr} {d : Option Expr} {e : List TypeParam} {f : Scope} {g : Option Scope} {h : Str} {p : Pos} (_ : PySem.Challenge.rw_ty0033_01.prog.main.body[68]? = some (Stmt.FunctionDef n a b c d e f g h p)) => (a, b, f)) rfl
noncomputable def d120 : Arguments × List Stmt × Scope := (fun {n : Str} {a : Arguments} {b : List Stmt} {c : List Expr} {d : Option Expr} {e : List TypeParam} {f : Scope} {g : Option Scope} {h : Str} {p : Pos} (_ : PySem.Challenge.rw_ty0033_01.prog.main.body[69]? = some (Stmt.FunctionDef n a b c d e f g h p)) => (a, b, f)) rfl
noncomputable def d127 : Arguments × List Stmt × Scope := (fun {n : Str} {a : Arguments} {b : List Stmt} {c : List Expr} {d : Option Expr} {e : List TypeParam} {f : Scope} {g : Option Scope} {h : Str} {p : Pos} (_ : PySem.Challenge.rw_ty0033_01.prog.main.body[70]? = some (Stmt.FunctionDef n a b c d e f g h p)) => (a, b, f)) rfl
noncomputable def d134 : Arguments × List Stmt × Scope := (fun {n : Str} {a : Arguments} {b : List Stmt} {c : List Expr} {d : Option Expr} {e : List TypeParam} {f : Scope} {g : Option Scope} {h : Str} {p : Pos} (_ : PySem.Challenge.rw_ty0033_01.prog.main.body[71]? = some (Stmt.FunctionDef n a b c d e f g h p)) => (a, b, f)) rfl
noncomputable def d141 : Arguments × List Stmt × Scope := (fun {n : Str} {a : Arguments} {b : List Stmt} {c : List Expr} {d : Option Expr} {e : List TypeParam} {f : Scope} {g : Option Scope} {h : Str} {p : Pos} (_ : PySem.Challenge.rw_ty0033_01.prog.main.body[72]? = some (Stmt.FunctionDef n a b c d e f g h p)) => (a, b, f)) rfl
noncomputable def d148 : Arguments × List Stmt × Scope := (fun {n : Str} {a : Arguments} {b : List Stmt} {c : List Expr} {d : Option Expr} {e : List TypeParam} {f : Scope} {g : Option Scope} {h : Str} {p : Pos} (_ : PySem.Challenge.rw_ty0033_01.prog.main.body[73]? = some (Stmt.FunctionDef n a b c d e f g h p)) => (a, b, f)) rfl
noncomputable def d155 : Arguments × List Stmt × Scope := (fun {n : Str} {a : Arguments} {b : List Stmt} {c : List Expr} {d : Option Expr} {e : List TypeParam} {f : Scope} {g : Option Scope} {h : Str} {p : Pos} (_ : PySem.Challenge.rw_ty0033_01.prog.main.body[74]? = some (Stmt.FunctionDef n a b c d e f g h p)) => (a, b, f)) rfl
noncomputable def d160 : Arguments × List Stmt × Scope := (fun {n : Str} {a : Arguments} {b : List Stmt} {c : List Expr} {d : Option Expr} {e : List TypeParam} {f : Scope} {g : Option Scope} {h : Str} {p : Pos} (_ : PySem.Challenge.rw_ty0033_01.prog.main.body[75]? = some (Stmt.FunctionDef n a b c d e f g h p)) => (a, b, f)) rfl
noncomputable def o_43 (P : Params) : Obj := { cls := Value.type "tuple", data := Data.seq #[] }
noncomputable def o_44 (P : Params) : Obj := { cls := Value.none, data := Data.fields #[] }
noncomputable def o_45 (P : Params) : Obj := { cls := Value.type "code", data := Data.fields (List.toArray (Value.str (Str.ofString "<module>") 182 :: Value.str (Str.ofString "<module>") 183 :: Value.str (Str.ofString "/claim/cut.py") 184 :: Value.int 1 0 :: Value.int 0 0 :: Value.int 0 0 :: Value.int 0 0 :: Value.int 0 0 :: Value.ref 11 :: Value.bool false :: Value.int 181 0 :: Value.ref 12 :: Value.none :: Value.none :: Value.none :: Value.none :: Value.int 185 0 :: Value.int 1 0 :: Value.str (Str.ofString "/claim/cut.py") 186 :: [])) }
noncomputable def o_46 (P : Params) : Obj := { cls := Value.type "frame", slots := (List.toArray (some (Value.ref 13) :: some (Value.ref 3) :: some (Value.ref 3) :: none :: some (Value.str (Str.ofString "__main__") 164) :: none :: some (Value.ref 0) :: [])) }
noncomputable def o_49 (P : Params) : Obj := { cls := Value.type "dict", data := Data.dict (List.toArray ({ hash := PyData.keyHash P (Str.ofString "__name__"), key := Value.str (Str.ofString "__name__") 165, val := Value.str (Str.ofString "cpy313.token") 221 } :: { hash := PyData.keyHash P (Str.ofString "__doc__"), key := Value.str (Str.ofString "__doc__") 166, val := Value.none } :: { hash := PyData.keyHash P (Str.ofString "__package__"), key := Value.str (Str.ofString "__package__") 167, val := Value.none } :: { hash := PyData.keyHash P (Str.ofString "__loader__"), key := Value.str (Str.ofString "__loader__") 168, val := Value.builtin "__main__.__loader__#opaque" } :: { hash := PyData.keyHash P (Str.ofString "__spec__"), key := Value.str (Str.ofString "__spec__") 169, val := Value.none } :: { hash := PyData.keyHash P (Str.ofString "__annotations__"), key := Value.str (Str.ofString "__annotations__") 170, val := Value.ref 6 } :: { hash := PyData.keyHash P (Str.ofString "__builtins__"), key := Value.str (Str.ofString "__builtins__") 171, val := Value.ref 4 } :: { hash := PyData.keyHash P (Str.ofString "__file__"), key := Value.str (Str.ofString "__file__") 173, val := Value.str (Str.ofString "/claim/cut.py") 172 } :: { hash := PyData.keyHash P (Str.ofString "__cached__"), key := Value.str (Str.ofString "__cached__") 174, val := Value.none } :: { hash := PyData.keyHash P (Str.ofString "rgb_to_hsv"), key := Value.str (Str.ofString "rgb_to_hsv") 206, val := Value.ref 21 } :: { hash := PyData.keyHash P (Str.ofString "hsv_to_rgb"), key := Value.str (Str.ofString "hsv_to_rgb") 220, val := Value.ref 28 } :: { hash := PyData.keyHash P (Str.ofString "ENDMARKER"), key := Value.str (Str.ofString "ENDMARKER") 224, val := Value.int 0 223 } :: { hash := PyData.keyHash P (Str.ofString "LPAR"), key := Value.str (Str.ofString "LPAR") 226, val := Value.int 7 225 } :: { hash := PyData.keyHash P (Str.ofString "RPAR"), key := Value.str (Str.ofString "RPAR") 228, val := Value.int 8 227 } :: { hash := PyData.keyHash P (Str.ofString "LSQB"), key := Value.str (Str.ofString "LSQB") 230, val := Value.int 9 229 } :: { hash := PyData.keyHash P (Str.ofString "RSQB"), key := Value.str (Str.ofString "RSQB") 232, val := Value.int 10 231 } :: { hash := PyData.keyHash P (Str.ofString "COLON"), key := Value.str (Str.ofString "COLON") 234, val := Value.int 11 233 } :: { hash := PyData.keyHash P (Str.ofString "COMMA"), key := Value.str (Str.ofString "COMMA") 236, val := Value.int 12 235 } :: { hash := PyData.keyHash P (Str.ofString "SEMI"), key := Value.str (Str.ofString "SEMI") 238, val := Value.int 13 237 } :: { hash := PyData.keyHash P (Str.ofString "PLUS"), key := Value.str (Str.ofString "PLUS") 240, val := Value.int 14 239 } :: { hash := PyData.keyHash P (Str.ofString "MINUS"), key := Value.str (Str.ofString "MINUS") 242, val := Value.int 15 241 } :: { hash := PyData.keyHash P (Str.ofString "STAR"), key := Value.str (Str.ofString "STAR") 244, val := Value.int 16 243 } :: { hash := PyData.keyHash P (Str.ofString "SLASH"), key := Value.str (Str.ofString "SLASH") 246, val := Value.int 17 245 } :: { hash := PyData.keyHash P (Str.ofString "VBAR"), key := Value.str (Str.ofString "VBAR") 248, val := Value.int 18 247 } :: { hash := PyData.keyHash P (Str.ofString "AMPER"), key := Value.str (Str.ofString "AMPER") 250, val := Value.int 19 249 } :: { hash := PyData.keyHash P (Str.ofString "LESS"), key := Value.str (Str.ofString "LESS") 252, val := Value.int 20 251 } :: { hash := PyData.keyHash P (Str.ofString "GREATER"), key := Value.str (Str.ofString "GREATER") 254, val := Value.int 21 253 } :: { hash := PyData.keyHash P (Str.ofString "EQUAL"), key := Value.str (Str.ofString "EQUAL") 256, val := Value.int 22 255 } :: { hash := PyData.keyHash P (Str.ofString "DOT"), key := Value.str (Str.ofString "DOT") 258, val := Value.int 23 257 } :: { hash := PyData.keyHash P (Str.ofString "PERCENT"), key := Value.str (Str.ofString "PERCENT") 260, val := Value.int 24 259 } :: { hash := PyData.keyHash P (Str.ofString "LBRACE"), key := Value.str (Str.ofString "LBRACE") 262, val := Value.int 25 261 } :: { hash := PyData.keyHash P (Str.ofString "RBRACE"), key := Value.str (Str.ofString "RBRACE") 264, val := Value.int 26 263 } :: { hash := PyData.keyHash P (Str.ofString "EQEQUAL"), key := Value.str (Str.ofString "EQEQUAL") 266, val := Value.int 27 265 } :: { hash := PyData.keyHash P (Str.ofString "NOTEQUAL"), key := Value.str (Str.ofString "NOTEQUAL") 268, val := Value.int 28 267 } :: { hash := PyData.keyHash P (Str.ofString "LESSEQUAL"), key := Value.str (Str.ofString "LESSEQUAL") 270, val := Value.int 29 269 } :: { hash := PyData.keyHash P (Str.ofString "GREATEREQUAL"), key := Value.str (Str.ofString "GREATEREQUAL") 272, val := Value.int 30 271 } :: { hash := PyData.keyHash P (Str.ofString "TILDE"), key := Value.str (Str.ofString "TILDE") 274, val := Value.int 31 273 } :: { hash := PyData.keyHash P (Str.ofString "CIRCUMFLEX"), key := Value.str (Str.ofString "CIRCUMFLEX") 276, val := Value.int 32 275 } :: { hash := PyData.keyHash P (Str.ofString "LEFTSHIFT"), key := Value.str (Str.ofString "LEFTSHIFT") 278, val := Value.int 33 277 } :: { hash := PyData.keyHash P (Str.ofString "RIGHTSHIFT"), key := Value.str (Str.ofString "RIGHTSHIFT") 280, val := Value.int 34 279 } :: { hash := PyData.keyHash P (Str.ofString "DOUBLESTAR"), key := Value.str (Str.ofString "DOUBLESTAR") 282, val := Value.int 35 281 } :: { hash := PyData.keyHash P (Str.ofString "PLUSEQUAL"), key := Value.str (Str.ofString "PLUSEQUAL") 284, val := Value.int 36 283 } :: { hash := PyData.keyHash P (Str.ofString "MINEQUAL"), key := Value.str (Str.ofString "MINEQUAL") 286, val := Value.int 37 285 } :: { hash := PyData.keyHash P (Str.ofString "STAREQUAL"), key := Value.str (Str.ofString "STAREQUAL") 288, val := Value.int 38 287 } :: { hash := PyData.keyHash P (Str.ofString "SLASHEQUAL"), key := Value.str (Str.ofString "SLASHEQUAL") 290, val := Value.int 39 289 } :: [])) 45 }
noncomputable def o_50 (P : Params) : Obj := { cls := Value.none, data := Data.fields (List.toArray (Value.int 2 0 :: Value.int 0 0 :: Value.ref 20 :: Value.int 21 0 :: Value.int 0 0 :: Value.ref 27 :: [])) }
noncomputable def o_51 (P : Params) : Obj := { cls := Value.type "tuple", data := Data.seq #[] }
noncomputable def o_52 (P : Params) : Obj := { cls := Value.none, data := Data.fields #[] }
noncomputable def o_53 (P : Params) : Obj := { cls := Value.type "tuple", data := Data.seq (List.toArray (Value.str (Str.ofString "r") 192 :: Value.str (Str.ofString "g") 193 :: Value.str (Str.ofString "b") 194 :: Value.str (Str.ofString "maxc") 195 :: Value.str (Str.ofString "minc") 196 :: Value.str (Str.ofString "rangec") 197 :: Value.str (Str.ofString "v") 198 :: Value.str (Str.ofString "s") 199 :: Value.str (Str.ofString "rc") 200 :: Value.str (Str.ofString "gc") 201 :: Value.str (Str.ofString "bc") 202 :: Value.str (Str.ofString "h") 203 :: [])) }
noncomputable def o_54 (P : Params) : Obj := { cls := Value.type "tuple", data := Data.seq #[] }
noncomputable def o_55 (P : Params) : Obj := { cls := Value.none, data := Data.func { name := Str.ofString "rgb_to_hsv", qualname := Str.ofString "rgb_to_hsv", params := d21.1, body := FuncBody.stmts d21.2.1, scope := d21.2.2, globals := 0, closure := [], defaults := Value.none, kwdefaults := Value.none } }
noncomputable def o_56 (P : Params) : Obj := { cls := Value.type "code", data := Data.fields (List.toArray (Value.str (Str.ofString "rgb_to_hsv") 189 :: Value.str (Str.ofString "rgb_to_hsv") 190 :: Value.str (Str.ofString "/claim/cut.py") 191 :: Value.int 2 0 :: Value.int 3 0 :: Value.int 0 0 :: Value.int 0 0 :: Value.int 3 0 :: Value.ref 15 :: Value.bool true :: Value.int 181 0 :: Value.ref 16 :: Value.none :: Value.ref 17 :: Value.ref 18 :: Value.ref 19 :: Value.int 204 0 :: Value.int 2 0 :: Value.str (Str.ofString "/claim/cut.py") 205 :: [])) }
noncomputable def o_57 (P : Params) : Obj := { cls := Value.type "function", data := Data.func { name := Str.ofString "rgb_to_hsv", qualname := Str.ofString "rgb_to_hsv", params := d21.1, body := FuncBody.stmts d21.2.1, scope := d21.2.2, globals := 3, closure := [], defaults := Value.none, kwdefaults := Value.none, pyModule := Value.str (Str.ofString "cpy313.colorsys") 187, code := Value.ref 20 } }
noncomputable def o_58 (P : Params) : Obj := { cls := Value.type "tuple", data := Data.seq #[] }
noncomputable def o_59 (P : Params) : Obj := { cls := Value.none, data := Data.fields #[] }
noncomputable def o_60 (P : Params) : Obj := { cls := Value.type "tuple", data := Data.seq (List.toArray (Value.str (Str.ofString "h") 210 :: Value.str (Str.ofString "s") 211 :: Value.str (Str.ofString "v") 212 :: Value.str (Str.ofString "i") 213 :: Value.str (Str.ofString "f") 214 :: Value.str (Str.ofString "p") 215 :: Value.str (Str.ofString "q") 216 :: Value.str (Str.ofString "t") 217 :: [])) }
noncomputable def o_61 (P : Params) : Obj := { cls := Value.type "tuple", data := Data.seq #[] }
noncomputable def o_62 (P : Params) : Obj := { cls := Value.none, data := Data.func { name := Str.ofString "hsv_to_rgb", qualname := Str.ofString "hsv_to_rgb", params := d28.1, body := FuncBody.stmts d28.2.1, scope := d28.2.2, globals := 0, closure := [], defaults := Value.none, kwdefaults := Value.none } }
noncomputable def o_63 (P : Params) : Obj := { cls := Value.type "code", data := Data.fields (List.toArray (Value.str (Str.ofString "hsv_to_rgb") 207 :: Value.str (Str.ofString "hsv_to_rgb") 208 :: Value.str (Str.ofString "/claim/cut.py") 209 :: Value.int 21 0 :: Value.int 3 0 :: Value.int 0 0 :: Value.int 0 0 :: Value.int 3 0 :: Value.ref 22 :: Value.bool true :: Value.int 181 0 :: Value.ref 23 :: Value.none :: Value.ref 24 :: Value.ref 25 :: Value.ref 26 :: Value.int 218 0 :: Value.int 21 0 :: Value.str (Str.ofString "/claim/cut.py") 219 :: [])) }
noncomputable def o_64 (P : Params) : Obj := { cls := Value.type "function", data := Data.func { name := Str.ofString "hsv_to_rgb", qualname := Str.ofString "hsv_to_rgb", params := d28.1, body := FuncBody.stmts d28.2.1, scope := d28.2.2, globals := 3, closure := [], defaults := Value.none, kwdefaults := Value.none, pyModule := Value.str (Str.ofString "cpy313.colorsys") 187, code := Value.ref 27 } }
noncomputable def o_65 (P : Params) : Obj := { cls := Value.type "dict", data := Data.dict (List.toArray ({ hash := PyData.keyHash P (Str.ofString "__name__"), key := Value.str (Str.ofString "__name__") 165, val := Value.str (Str.ofString "cpy313.token") 221 } :: { hash := PyData.keyHash P (Str.ofString "__doc__"), key := Value.str (Str.ofString "__doc__") 166, val := Value.none } :: { hash := PyData.keyHash P (Str.ofString "__package__"), key := Value.str (Str.ofString "__package__") 167, val := Value.none } :: { hash := PyData.keyHash P (Str.ofString "__loader__"), key := Value.str (Str.ofString "__loader__") 168, val := Value.builtin "__main__.__loader__#opaque" } :: { hash := PyData.keyHash P (Str.ofString "__spec__"), key := Value.str (Str.ofString "__spec__") 169, val := Value.none } :: { hash := PyData.keyHash P (Str.ofString "__annotations__"), key := Value.str (Str.ofString "__annotations__") 170, val := Value.ref 6 } :: { hash := PyData.keyHash P (Str.ofString "__builtins__"), key := Value.str (Str.ofString "__builtins__") 171, val := Value.ref 4 } :: { hash := PyData.keyHash P (Str.ofString "__file__"), key := Value.str (Str.ofString "__file__") 173, val := Value.str (Str.ofString "/claim/cut.py") 172 } :: { hash := PyData.keyHash P (Str.ofString "__cached__"), key := Value.str (Str.ofString "__cached__") 174, val := Value.none } :: { hash := PyData.keyHash P (Str.ofString "rgb_to_hsv"), key := Value.str (Str.ofString "rgb_to_hsv") 206, val := Value.ref 21 } :: { hash := PyData.keyHash P (Str.ofString "hsv_to_rgb"), key := Value.str (Str.ofString "hsv_to_rgb") 220, val := Value.ref 28 } :: { hash := PyData.keyHash P (Str.ofString "ENDMARKER"), key := Value.str (Str.ofString "ENDMARKER") 224, val := Value.int 0 223 } :: { hash := PyData.keyHash P (Str.ofString "LPAR"), key := Value.str (Str.ofString "LPAR") 226, val := Value.int 7 225 } :: { hash := PyData.keyHash P (Str.ofString "RPAR"), key := Value.str (Str.ofString "RPAR") 228, val := Value.int 8 227 } :: { hash := PyData.keyHash P (Str.ofString "LSQB"), key := Value.str (Str.ofString "LSQB") 230, val := Value.int 9 229 } :: { hash := PyData.keyHash P (Str.ofString "RSQB"), key := Value.str (Str.ofString "RSQB") 232, val := Value.int 10 231 } :: { hash := PyData.keyHash P (Str.ofString "COLON"), key := Value.str (Str.ofString "COLON") 234, val := Value.int 11 233 } :: { hash := PyData.keyHash P (Str.ofString "COMMA"), key := Value.str (Str.ofString "COMMA") 236, val := Value.int 12 235 } :: { hash := PyData.keyHash P (Str.ofString "SEMI"), key := Value.str (Str.ofString "SEMI") 238, val := Value.int 13 237 } :: { hash := PyData.keyHash P (Str.ofString "PLUS"), key := Value.str (Str.ofString "PLUS") 240, val := Value.int 14 239 } :: { hash := PyData.keyHash P (Str.ofString "MINUS"), key := Value.str (Str.ofString "MINUS") 242, val := Value.int 15 241 } :: { hash := PyData.keyHash P (Str.ofString "STAR"), key := Value.str (Str.ofString "STAR") 244, val := Value.int 16 243 } :: { hash := PyData.keyHash P (Str.ofString "SLASH"), key := Value.str (Str.ofString "SLASH") 246, val := Value.int 17 245 } :: { hash := PyData.keyHash P (Str.ofString "VBAR"), key := Value.str (Str.ofString "VBAR") 248, val := Value.int 18 247 } :: { hash := PyData.keyHash P (Str.ofString "AMPER"), key := Value.str (Str.ofString "AMPER") 250, val := Value.int 19 249 } :: { hash := PyData.keyHash P (Str.ofString "LESS"), key := Value.str (Str.ofString "LESS") 252, val := Value.int 20 251 } :: { hash := PyData.keyHash P (Str.ofString "GREATER"), key := Value.str (Str.ofString "GREATER") 254, val := Value.int 21 253 } :: { hash := PyData.keyHash P (Str.ofString "EQUAL"), key := Value.str (Str.ofString "EQUAL") 256, val := Value.int 22 255 } :: { hash := PyData.keyHash P (Str.ofString "DOT"), key := Value.str (Str.ofString "DOT") 258, val := Value.int 23 257 } :: { hash := PyData.keyHash P (Str.ofString "PERCENT"), key := Value.str (Str.ofString "PERCENT") 260, val := Value.int 24 259 } :: { hash := PyData.keyHash P (Str.ofString "LBRACE"), key := Value.str (Str.ofString "LBRACE") 262, val := Value.int 25 261 } :: { hash := PyData.keyHash P (Str.ofString "RBRACE"), key := Value.str (Str.ofString "RBRACE") 264, val := Value.int 26 263 } :: { hash := PyData.keyHash P (Str.ofString "EQEQUAL"), key := Value.str (Str.ofString "EQEQUAL") 266, val := Value.int 27 265 } :: { hash := PyData.keyHash P (Str.ofString "NOTEQUAL"), key := Value.str (Str.ofString "NOTEQUAL") 268, val := Value.int 28 267 } :: { hash := PyData.keyHash P (Str.ofString "LESSEQUAL"), key := Value.str (Str.ofString "LESSEQUAL") 270, val := Value.int 29 269 } :: { hash := PyData.keyHash P (Str.ofString "GREATEREQUAL"), key := Value.str (Str.ofString "GREATEREQUAL") 272, val := Value.int 30 271 } :: { hash := PyData.keyHash P (Str.ofString "TILDE"), key := Value.str (Str.ofString "TILDE") 274, val := Value.int 31 273 } :: { hash := PyData.keyHash P (Str.ofString "CIRCUMFLEX"), key := Value.str (Str.ofString "CIRCUMFLEX") 276, val := Value.int 32 275 } :: { hash := PyData.keyHash P (Str.ofString "LEFTSHIFT"), key := Value.str (Str.ofString "LEFTSHIFT") 278, val := Value.int 33 277 } :: { hash := PyData.keyHash P (Str.ofString "RIGHTSHIFT"), key := Value.str (Str.ofString "RIGHTSHIFT") 280, val := Value.int 34 279 } :: { hash := PyData.keyHash P (Str.ofString "DOUBLESTAR"), key := Value.str (Str.ofString "DOUBLESTAR") 282, val := Value.int 35 281 } :: { hash := PyData.keyHash P (Str.ofString "PLUSEQUAL"), key := Value.str (Str.ofString "PLUSEQUAL") 284, val := Value.int 36 283 } :: { hash := PyData.keyHash P (Str.ofString "MINEQUAL"), key := Value.str (Str.ofString "MINEQUAL") 286, val := Value.int 37 285 } :: { hash := PyData.keyHash P (Str.ofString "STAREQUAL"), key := Value.str (Str.ofString "STAREQUAL") 288, val := Value.int 38 287 } :: { hash := PyData.keyHash P (Str.ofString "SLASHEQUAL"), key := Value.str (Str.ofString "SLASHEQUAL") 290, val := Value.int 39 289 } :: { hash := PyData.keyHash P (Str.ofString "PERCENTEQUAL"), key := Value.str (Str.ofString "PERCENTEQUAL") 292, val := Value.int 40 291 } :: { hash := PyData.keyHash P (Str.ofString "AMPEREQUAL"), key := Value.str (Str.ofString "AMPEREQUAL") 294, val := Value.int 41 293 } :: { hash := PyData.keyHash P (Str.ofString "VBAREQUAL"), key := Value.str (Str.ofString "VBAREQUAL") 296, val := Value.int 42 295 } :: { hash := PyData.keyHash P (Str.ofString "CIRCUMFLEXEQUAL"), key := Value.str (Str.ofString "CIRCUMFLEXEQUAL") 298, val := Value.int 43 297 } :: { hash := PyData.keyHash P (Str.ofString "LEFTSHIFTEQUAL"), key := Value.str (Str.ofString "LEFTSHIFTEQUAL") 300, val := Value.int 44 299 } :: { hash := PyData.keyHash P (Str.ofString "RIGHTSHIFTEQUAL"), key := Value.str (Str.ofString "RIGHTSHIFTEQUAL") 302, val := Value.int 45 301 } :: { hash := PyData.keyHash P (Str.ofString "DOUBLESTAREQUAL"), key := Value.str (Str.ofString "DOUBLESTAREQUAL") 304, val := Value.int 46 303 } :: { hash := PyData.keyHash P (Str.ofString "DOUBLESLASH"), key := Value.str (Str.ofString "DOUBLESLASH") 306, val := Value.int 47 305 } :: { hash := PyData.keyHash P (Str.ofString "DOUBLESLASHEQUAL"), key := Value.str (Str.ofString "DOUBLESLASHEQUAL") 308, val := Value.int 48 307 } :: { hash := PyData.keyHash P (Str.ofString "AT"), key := Value.str (Str.ofString "AT") 310, val := Value.int 49 309 } :: { hash := PyData.keyHash P (Str.ofString "ATEQUAL"), key := Value.str (Str.ofString "ATEQUAL") 312, val := Value.int 50 311 } :: { hash := PyData.keyHash P (Str.ofString "RARROW"), key := Value.str (Str.ofString "RARROW") 314, val := Value.int 51 313 } :: { hash := PyData.keyHash P (Str.ofString "ELLIPSIS"), key := Value.str (Str.ofString "ELLIPSIS") 316, val := Value.int 52 315 } :: { hash := PyData.keyHash P (Str.ofString "COLONEQUAL"), key := Value.str (Str.ofString "COLONEQUAL") 318, val := Value.int 53 317 } :: { hash := PyData.keyHash P (Str.ofString "EXCLAMATION"), key := Value.str (Str.ofString "EXCLAMATION") 320, val := Value.int 54 319 } :: { hash := PyData.keyHash P (Str.ofString "NT_OFFSET"), key := Value.str (Str.ofString "NT_OFFSET") 322, val := Value.int 256 321 } :: [])) 61 }
noncomputable def o_67 (P : Params) : Obj := { cls := Value.type "dict", data := Data.dict (List.toArray ({ hash := PyData.keyHash P (Str.ofString "__name__"), key := Value.str (Str.ofString "__name__") 165, val := Value.str (Str.ofString "cpy313.token") 221 } :: { hash := PyData.keyHash P (Str.ofString "__doc__"), key := Value.str (Str.ofString "__doc__") 166, val := Value.none } :: { hash := PyData.keyHash P (Str.ofString "__package__"), key := Value.str (Str.ofString "__package__") 167, val := Value.none } :: { hash := PyData.keyHash P (Str.ofString "__loader__"), key := Value.str (Str.ofString "__loader__") 168, val := Value.builtin "__main__.__loader__#opaque" } :: { hash := PyData.keyHash P (Str.ofString "__spec__"), key := Value.str (Str.ofString "__spec__") 169, val := Value.none } :: { hash := PyData.keyHash P (Str.ofString "__annotations__"), key := Value.str (Str.ofString "__annotations__") 170, val := Value.ref 6 } :: { hash := PyData.keyHash P (Str.ofString "__builtins__"), key := Value.str (Str.ofString "__builtins__") 171, val := Value.ref 4 } :: { hash := PyData.keyHash P (Str.ofString "__file__"), key := Value.str (Str.ofString "__file__") 173, val := Value.str (Str.ofString "/claim/cut.py") 172 } :: { hash := PyData.keyHash P (Str.ofString "__cached__"), key := Value.str (Str.ofString "__cached__") 174, val := Value.none } :: { hash := PyData.keyHash P (Str.ofString "rgb_to_hsv"), key := Value.str (Str.ofString "rgb_to_hsv") 206, val := Value.ref 21 } :: { hash := PyData.keyHash P (Str.ofString "hsv_to_rgb"), key := Value.str (Str.ofString "hsv_to_rgb") 220, val := Value.ref 28 } :: { hash := PyData.keyHash P (Str.ofString "ENDMARKER"), key := Value.str (Str.ofString "ENDMARKER") 224, val := Value.int 0 223 } :: { hash := PyData.keyHash P (Str.ofString "LPAR"), key := Value.str (Str.ofString "LPAR") 226, val := Value.int 7 225 } :: { hash := PyData.keyHash P (Str.ofString "RPAR"), key := Value.str (Str.ofString "RPAR") 228, val := Value.int 8 227 } :: { hash := PyData.keyHash P (Str.ofString "LSQB"), key := Value.str (Str.ofString "LSQB") 230, val := Value.int 9 229 } :: { hash := PyData.keyHash P (Str.ofString "RSQB"), key := Value.str (Str.ofString "RSQB") 232, val := Value.int 10 231 } :: { hash := PyData.keyHash P (Str.ofString "COLON"), key := Value.str (Str.ofString "COLON") 234, val := Value.int 11 233 } :: { hash := PyData.keyHash P (Str.ofString "COMMA"), key := Value.str (Str.ofString "COMMA") 236, val := Value.int 12 235 } :: { hash := PyData.keyHash P (Str.ofString "SEMI"), key := Value.str (Str.ofString "SEMI") 238, val := Value.int 13 237 } :: { hash := PyData.keyHash P (Str.ofString "PLUS"), key := Value.str (Str.ofString "PLUS") 240, val := Value.int 14 239 } :: { hash := PyData.keyHash P (Str.ofString "MINUS"), key := Value.str (Str.ofString "MINUS") 242, val := Value.int 15 241 } :: { hash := PyData.keyHash P (Str.ofString "STAR"), key := Value.str (Str.ofString "STAR") 244, val := Value.int 16 243 } :: { hash := PyData.keyHash P (Str.ofString "SLASH"), key := Value.str (Str.ofString "SLASH") 246, val := Value.int 17 245 } :: { hash := PyData.keyHash P (Str.ofString "VBAR"), key := Value.str (Str.ofString "VBAR") 248, val := Value.int 18 247 } :: { hash := PyData.keyHash P (Str.ofString "AMPER"), key := Value.str (Str.ofString "AMPER") 250, val := Value.int 19 249 } :: { hash := PyData.keyHash P (Str.ofString "LESS"), key := Value.str (Str.ofString "LESS") 252, val := Value.int 20 251 } :: { hash := PyData.keyHash P (Str.ofString "GREATER"), key := Value.str (Str.ofString "GREATER") 254, val := Value.int 21 253 } :: { hash := PyData.keyHash P (Str.ofString "EQUAL"), key := Value.str (Str.ofString "EQUAL") 256, val := Value.int 22 255 } :: { hash := PyData.keyHash P (Str.ofString "DOT"), key := Value.str (Str.ofString "DOT") 258, val := Value.int 23 257 } :: { hash := PyData.keyHash P (Str.ofString "PERCENT"), key := Value.str (Str.ofString "PERCENT") 260, val := Value.int 24 259 } :: { hash := PyData.keyHash P (Str.ofString "LBRACE"), key := Value.str (Str.ofString "LBRACE") 262, val := Value.int 25 261 } :: { hash := PyData.keyHash P (Str.ofString "RBRACE"), key := Value.str (Str.ofString "RBRACE") 264, val := Value.int 26 263 } :: { hash := PyData.keyHash P (Str.ofString "EQEQUAL"), key := Value.str (Str.ofString "EQEQUAL") 266, val := Value.int 27 265 } :: { hash := PyData.keyHash P (Str.ofString "NOTEQUAL"), key := Value.str (Str.ofString "NOTEQUAL") 268, val := Value.int 28 267 } :: { hash := PyData.keyHash P (Str.ofString "LESSEQUAL"), key := Value.str (Str.ofString "LESSEQUAL") 270, val := Value.int 29 269 } :: { hash := PyData.keyHash P (Str.ofString "GREATEREQUAL"), key := Value.str (Str.ofString "GREATEREQUAL") 272, val := Value.int 30 271 } :: { hash := PyData.keyHash P (Str.ofString "TILDE"), key := Value.str (Str.ofString "TILDE") 274, val := Value.int 31 273 } :: { hash := PyData.keyHash P (Str.ofString "CIRCUMFLEX"), key := Value.str (Str.ofString "CIRCUMFLEX") 276, val := Value.int 32 275 } :: { hash := PyData.keyHash P (Str.ofString "LEFTSHIFT"), key := Value.str (Str.ofString "LEFTSHIFT") 278, val := Value.int 33 277 } :: { hash := PyData.keyHash P (Str.ofString "RIGHTSHIFT"), key := Value.str (Str.ofString "RIGHTSHIFT") 280, val := Value.int 34 279 } :: { hash := PyData.keyHash P (Str.ofString "DOUBLESTAR"), key := Value.str (Str.ofString "DOUBLESTAR") 282, val := Value.int 35 281 } :: { hash := PyData.keyHash P (Str.ofString "PLUSEQUAL"), key := Value.str (Str.ofString "PLUSEQUAL") 284, val := Value.int 36 283 } :: { hash := PyData.keyHash P (Str.ofString "MINEQUAL"), key := Value.str (Str.ofString "MINEQUAL") 286, val := Value.int 37 285 } :: { hash := PyData.keyHash P (Str.ofString "STAREQUAL"), key := Value.str (Str.ofString "STAREQUAL") 288, val := Value.int 38 287 } :: { hash := PyData.keyHash P (Str.ofString "SLASHEQUAL"), key := Value.str (Str.ofString "SLASHEQUAL") 290, val := Value.int 39 289 } :: { hash := PyData.keyHash P (Str.ofString "PERCENTEQUAL"), key := Value.str (Str.ofString "PERCENTEQUAL") 292, val := Value.int 40 291 } :: { hash := PyData.keyHash P (Str.ofString "AMPEREQUAL"), key := Value.str (Str.ofString "AMPEREQUAL") 294, val := Value.int 41 293 } :: { hash := PyData.keyHash P (Str.ofString "VBAREQUAL"), key := Value.str (Str.ofString "VBAREQUAL") 296, val := Value.int 42 295 } :: { hash := PyData.keyHash P (Str.ofString "CIRCUMFLEXEQUAL"), key := Value.str (Str.ofString "CIRCUMFLEXEQUAL") 298, val := Value.int 43 297 } :: { hash := PyData.keyHash P (Str.ofString "LEFTSHIFTEQUAL"), key := Value.str (Str.ofString "LEFTSHIFTEQUAL") 300, val := Value.int 44 299 } :: { hash := PyData.keyHash P (Str.ofString "RIGHTSHIFTEQUAL"), key := Value.str (Str.ofString "RIGHTSHIFTEQUAL") 302, val := Value.int 45 301 } :: { hash := PyData.keyHash P (Str.ofString "DOUBLESTAREQUAL"), key := Value.str (Str.ofString "DOUBLESTAREQUAL") 304, val := Value.int 46 303 } :: { hash := PyData.keyHash P (Str.ofString "DOUBLESLASH"), key := Value.str (Str.ofString "DOUBLESLASH") 306, val := Value.int 47 305 } :: { hash := PyData.keyHash P (Str.ofString "DOUBLESLASHEQUAL"), key := Value.str (Str.ofString "DOUBLESLASHEQUAL") 308, val := Value.int 48 307 } :: { hash := PyData.keyHash P (Str.ofString "AT"), key := Value.str (Str.ofString "AT") 310, val := Value.int 49 309 } :: { hash := PyData.keyHash P (Str.ofString "ATEQUAL"), key := Value.str (Str.ofString "ATEQUAL") 312, val := Value.int 50 311 } :: { hash := PyData.keyHash P (Str.ofString "RARROW"), key := Value.str (Str.ofString "RARROW") 314, val := Value.int 51 313 } :: { hash := PyData.keyHash P (Str.ofString "ELLIPSIS"), key := Value.str (Str.ofString "ELLIPSIS") 316, val := Value.int 52 315 } :: { hash := PyData.keyHash P (Str.ofString "COLONEQUAL"), key := Value.str (Str.ofString "COLONEQUAL") 318, val := Value.int 53 317 } :: { hash := PyData.keyHash P (Str.ofString "EXCLAMATION"), key := Value.str (Str.ofString "EXCLAMATION") 320, val := Value.int 54 319 } :: { hash := PyData.keyHash P (Str.ofString "NT_OFFSET"), key := Value.str (Str.ofString "NT_OFFSET") 322, val := Value.int 256 321 } :: { hash := PyData.keyHash P (Str.ofString "EXACT_TOKEN_TYPES"), key := Value.str (Str.ofString "EXACT_TOKEN_TYPES") 419, val := Value.ref 29 } :: [])) 62 }
noncomputable def o_68 (P : Params) : Obj := { cls := Value.type "dict", data := Data.dict (List.toArray ({ hash := PyData.keyHash P (Str.ofString "!"), key := Value.str (Str.ofString "!") 323, val := Value.int 54 319 } :: { hash := PyData.keyHash P (Str.ofString "!="), key := Value.str (Str.ofString "!=") 325, val := Value.int 28 267 } :: { hash := PyData.keyHash P (Str.ofString "%"), key := Value.str (Str.ofString "%") 327, val := Value.int 24 259 } :: { hash := PyData.keyHash P (Str.ofString "%="), key := Value.str (Str.ofString "%=") 329, val := Value.int 40 291 } :: { hash := PyData.keyHash P (Str.ofString "&"), key := Value.str (Str.ofString "&") 331, val := Value.int 19 249 } :: { hash := PyData.keyHash P (Str.ofString "&="), key := Value.str (Str.ofString "&=") 333, val := Value.int 41 293 } :: { hash := PyData.keyHash P (Str.ofString "("), key := Value.str (Str.ofString "(") 335, val := Value.int 7 225 } :: { hash := PyData.keyHash P (Str.ofString ")"), key := Value.str (Str.ofString ")") 337, val := Value.int 8 227 } :: { hash := PyData.keyHash P (Str.ofString "*"), key := Value.str (Str.ofString "*") 339, val := Value.int 16 243 } :: { hash := PyData.keyHash P (Str.ofString "**"), key := Value.str (Str.ofString "**") 341, val := Value.int 35 281 } :: { hash := PyData.keyHash P (Str.ofString "**="), key := Value.str (Str.ofString "**=") 343, val := Value.int 46 303 } :: { hash := PyData.keyHash P (Str.ofString "*="), key := Value.str (Str.ofString "*=") 345, val := Value.int 38 287 } :: { hash := PyData.keyHash P (Str.ofString "+"), key := Value.str (Str.ofString "+") 347, val := Value.int 14 239 } :: { hash := PyData.keyHash P (Str.ofString "+="), key := Value.str (Str.ofString "+=") 349, val := Value.int 36 283 } :: { hash := PyData.keyHash P (Str.ofString ","), key := Value.str (Str.ofString ",") 351, val := Value.int 12 235 } :: { hash := PyData.keyHash P (Str.ofString "-"), key := Value.str (Str.ofString "-") 353, val := Value.int 15 241 } :: { hash := PyData.keyHash P (Str.ofString "-="), key := Value.str (Str.ofString "-=") 355, val := Value.int 37 285 } :: { hash := PyData.keyHash P (Str.ofString "->"), key := Value.str (Str.ofString "->") 357, val := Value.int 51 313 } :: { hash := PyData.keyHash P (Str.ofString "."), key := Value.str (Str.ofString ".") 359, val := Value.int 23 257 } :: { hash := PyData.keyHash P (Str.ofString "..."), key := Value.str (Str.ofString "...") 361, val := Value.int 52 315 } :: { hash := PyData.keyHash P (Str.ofString "/"), key := Value.str (Str.ofString "/") 363, val := Value.int 17 245 } :: { hash := PyData.keyHash P (Str.ofString "//"), key := Value.str (Str.ofString "//") 365, val := Value.int 47 305 } :: { hash := PyData.keyHash P (Str.ofString "//="), key := Value.str (Str.ofString "//=") 367, val := Value.int 48 307 } :: { hash := PyData.keyHash P (Str.ofString "/="), key := Value.str (Str.ofString "/=") 369, val := Value.int 39 289 } :: { hash := PyData.keyHash P (Str.ofString ":"), key := Value.str (Str.ofString ":") 371, val := Value.int 11 233 } :: { hash := PyData.keyHash P (Str.ofString ":="), key := Value.str (Str.ofString ":=") 373, val := Value.int 53 317 } :: { hash := PyData.keyHash P (Str.ofString ";"), key := Value.str (Str.ofString ";") 375, val := Value.int 13 237 } :: { hash := PyData.keyHash P (Str.ofString "<"), key := Value.str (Str.ofString "<") 377, val := Value.int 20 251 } :: { hash := PyData.keyHash P (Str.ofString "<<"), key := Value.str (Str.ofString "<<") 379, val := Value.int 33 277 } :: { hash := PyData.keyHash P (Str.ofString "<<="), key := Value.str (Str.ofString "<<=") 381, val := Value.int 44 299 } :: { hash := PyData.keyHash P (Str.ofString "<="), key := Value.str (Str.ofString "<=") 383, val := Value.int 29 269 } :: { hash := PyData.keyHash P (Str.ofString "="), key := Value.str (Str.ofString "=") 385, val := Value.int 22 255 } :: { hash := PyData.keyHash P (Str.ofString "=="), key := Value.str (Str.ofString "==") 387, val := Value.int 27 265 } :: { hash := PyData.keyHash P (Str.ofString ">"), key := Value.str (Str.ofString ">") 389, val := Value.int 21 253 } :: { hash := PyData.keyHash P (Str.ofString ">="), key := Value.str (Str.ofString ">=") 391, val := Value.int 30 271 } :: { hash := PyData.keyHash P (Str.ofString ">>"), key := Value.str (Str.ofString ">>") 392, val := Value.int 34 279 } :: { hash := PyData.keyHash P (Str.ofString ">>="), key := Value.str (Str.ofString ">>=") 393, val := Value.int 45 301 } :: { hash := PyData.keyHash P (Str.ofString "@"), key := Value.str (Str.ofString "@") 394, val := Value.int 49 309 } :: { hash := PyData.keyHash P (Str.ofString "@="), key := Value.str (Str.ofString "@=") 395, val := Value.int 50 311 } :: { hash := PyData.keyHash P (Str.ofString "["), key := Value.str (Str.ofString "[") 396, val := Value.int 9 229 } :: { hash := PyData.keyHash P (Str.ofString "]"), key := Value.str (Str.ofString "]") 397, val := Value.int 10 231 } :: { hash := PyData.keyHash P (Str.ofString "^"), key := Value.str (Str.ofString "^") 398, val := Value.int 32 275 } :: { hash := PyData.keyHash P (Str.ofString "^="), key := Value.str (Str.ofString "^=") 399, val := Value.int 43 297 } :: { hash := PyData.keyHash P (Str.ofString "{"), key := Value.str (Str.ofString "{") 400, val := Value.int 25 261 } :: { hash := PyData.keyHash P (Str.ofString "|"), key := Value.str (Str.ofString "|") 401, val := Value.int 18 247 } :: { hash := PyData.keyHash P (Str.ofString "|="), key := Value.str (Str.ofString "|=") 402, val := Value.int 42 295 } :: { hash := PyData.keyHash P (Str.ofString "}"), key := Value.str (Str.ofString "}") 403, val := Value.int 26 263 } :: { hash := PyData.keyHash P (Str.ofString "~"), key := Value.str (Str.ofString "~") 404, val := Value.int 31 273 } :: [])) 48 }
noncomputable def o_69 (P : Params) : Obj := { cls := Value.type "dict", data := Data.dict (List.toArray ({ hash := PyData.keyHash P (Str.ofString "->"), key := Value.str (Str.ofString "->") 357, val := Value.int 51 313 } :: { hash := PyData.keyHash P (Str.ofString "."), key := Value.str (Str.ofString ".") 359, val := Value.int 23 257 } :: { hash := PyData.keyHash P (Str.ofString "..."), key := Value.str (Str.ofString "...") 361, val := Value.int 52 315 } :: { hash := PyData.keyHash P (Str.ofString "/"), key := Value.str (Str.ofString "/") 363, val := Value.int 17 245 } :: { hash := PyData.keyHash P (Str.ofString "//"), key := Value.str (Str.ofString "//") 365, val := Value.int 47 305 } :: { hash := PyData.keyHash P (Str.ofString "//="), key := Value.str (Str.ofString "//=") 367, val := Value.int 48 307 } :: { hash := PyData.keyHash P (Str.ofString "/="), key := Value.str (Str.ofString "/=") 369, val := Value.int 39 289 } :: { hash := PyData.keyHash P (Str.ofString ":"), key := Value.str (Str.ofString ":") 371, val := Value.int 11 233 } :: { hash := PyData.keyHash P (Str.ofString ":="), key := Value.str (Str.ofString ":=") 373, val := Value.int 53 317 } :: { hash := PyData.keyHash P (Str.ofString ";"), key := Value.str (Str.ofString ";") 375, val := Value.int 13 237 } :: { hash := PyData.keyHash P (Str.ofString "<"), key := Value.str (Str.ofString "<") 377, val := Value.int 20 251 } :: { hash := PyData.keyHash P (Str.ofString "<<"), key := Value.str (Str.ofString "<<") 379, val := Value.int 33 277 } :: { hash := PyData.keyHash P (Str.ofString "<<="), key := Value.str (Str.ofString "<<=") 381, val := Value.int 44 299 } :: { hash := PyData.keyHash P (Str.ofString "<="), key := Value.str (Str.ofString "<=") 383, val := Value.int 29 269 } :: { hash := PyData.keyHash P (Str.ofString "="), key := Value.str (Str.ofString "=") 385, val := Value.int 22 255 } :: { hash := PyData.keyHash P (Str.ofString "=="), key := Value.str (Str.ofString "==") 387, val := Value.int 27 265 } :: { hash := PyData.keyHash P (Str.ofString ">"), key := Value.str (Str.ofString ">") 389, val := Value.int 21 253 } :: [])) 17 }
noncomputable def o_70 (P : Params) : Obj := { cls := Value.type "dict", data := Data.dict (List.toArray ({ hash := PyData.keyHash P (Str.ofString ">="), key := Value.str (Str.ofString ">=") 391, val := Value.int 30 271 } :: { hash := PyData.keyHash P (Str.ofString ">>"), key := Value.str (Str.ofString ">>") 392, val := Value.int 34 279 } :: { hash := PyData.keyHash P (Str.ofString ">>="), key := Value.str (Str.ofString ">>=") 393, val := Value.int 45 301 } :: { hash := PyData.keyHash P (Str.ofString "@"), key := Value.str (Str.ofString "@") 394, val := Value.int 49 309 } :: { hash := PyData.keyHash P (Str.ofString "@="), key := Value.str (Str.ofString "@=") 395, val := Value.int 50 311 } :: { hash := PyData.keyHash P (Str.ofString "["), key := Value.str (Str.ofString "[") 396, val := Value.int 9 229 } :: { hash := PyData.keyHash P (Str.ofString "]"), key := Value.str (Str.ofString "]") 397, val := Value.int 10 231 } :: { hash := PyData.keyHash P (Str.ofString "^"), key := Value.str (Str.ofString "^") 398, val := Value.int 32 275 } :: { hash := PyData.keyHash P (Str.ofString "^="), key := Value.str (Str.ofString "^=") 399, val := Value.int 43 297 } :: { hash := PyData.keyHash P (Str.ofString "{"), key := Value.str (Str.ofString "{") 400, val := Value.int 25 261 } :: { hash := PyData.keyHash P (Str.ofString "|"), key := Value.str (Str.ofString "|") 401, val := Value.int 18 247 } :: { hash := PyData.keyHash P (Str.ofString "|="), key := Value.str (Str.ofString "|=") 402, val := Value.int 42 295 } :: { hash := PyData.keyHash P (Str.ofString "}"), key := Value.str (Str.ofString "}") 403, val := Value.int 26 263 } :: { hash := PyData.keyHash P (Str.ofString "~"), key := Value.str (Str.ofString "~") 404, val := Value.int 31 273 } :: [])) 14 }
noncomputable def o_74 (P : Params) : Obj := { cls := Value.type "dict", data := Data.dict (List.toArray ({ hash := PyData.keyHash P (Str.ofString "__name__"), key := Value.str (Str.ofString "__name__") 165, val := Value.str (Str.ofString "law_ty0033_01") 471 } :: { hash := PyData.keyHash P (Str.ofString "__doc__"), key := Value.str (Str.ofString "__doc__") 166, val := Value.none } :: { hash := PyData.keyHash P (Str.ofString "__package__"), key := Value.str (Str.ofString "__package__") 167, val := Value.none } :: { hash := PyData.keyHash P (Str.ofString "__loader__"), key := Value.str (Str.ofString "__loader__") 168, val := Value.builtin "__main__.__loader__#opaque" } :: { hash := PyData.keyHash P (Str.ofString "__spec__"), key := Value.str (Str.ofString "__spec__") 169, val := Value.none } :: { hash := PyData.keyHash P (Str.ofString "__annotations__"), key := Value.str (Str.ofString "__annotations__") 170, val := Value.ref 6 } :: { hash := PyData.keyHash P (Str.ofString "__builtins__"), key := Value.str (Str.ofString "__builtins__") 171, val := Value.ref 4 } :: { hash := PyData.keyHash P (Str.ofString "__file__"), key := Value.str (Str.ofString "__file__") 173, val := Value.str (Str.ofString "/claim/cut.py") 172 } :: { hash := PyData.keyHash P (Str.ofString "__cached__"), key := Value.str (Str.ofString "__cached__") 174, val := Value.none } :: { hash := PyData.keyHash P (Str.ofString "rgb_to_hsv"), key := Value.str (Str.ofString "rgb_to_hsv") 206, val := Value.ref 21 } :: { hash := PyData.keyHash P (Str.ofString "hsv_to_rgb"), key := Value.str (Str.ofString "hsv_to_rgb") 220, val := Value.ref 28 } :: { hash := PyData.keyHash P (Str.ofString "ENDMARKER"), key := Value.str (Str.ofString "ENDMARKER") 224, val := Value.int 0 223 } :: { hash := PyData.keyHash P (Str.ofString "LPAR"), key := Value.str (Str.ofString "LPAR") 226, val := Value.int 7 225 } :: { hash := PyData.keyHash P (Str.ofString "RPAR"), key := Value.str (Str.ofString "RPAR") 228, val := Value.int 8 227 } :: { hash := PyData.keyHash P (Str.ofString "LSQB"), key := Value.str (Str.ofString "LSQB") 230, val := Value.int 9 229 } :: { hash := PyData.keyHash P (Str.ofString "RSQB"), key := Value.str (Str.ofString "RSQB") 232, val := Value.int 10 231 } :: { hash := PyData.keyHash P (Str.ofString "COLON"), key := Value.str (Str.ofString "COLON") 234, val := Value.int 11 233 } :: { hash := PyData.keyHash P (Str.ofString "COMMA"), key := Value.str (Str.ofString "COMMA") 236, val := Value.int 12 235 } :: { hash := PyData.keyHash P (Str.ofString "SEMI"), key := Value.str (Str.ofString "SEMI") 238, val := Value.int 13 237 } :: { hash := PyData.keyHash P (Str.ofString "PLUS"), key := Value.str (Str.ofString "PLUS") 240, val := Value.int 14 239 } :: { hash := PyData.keyHash P (Str.ofString "MINUS"), key := Value.str (Str.ofString "MINUS") 242, val := Value.int 15 241 } :: { hash := PyData.keyHash P (Str.ofString "STAR"), key := Value.str (Str.ofString "STAR") 244, val := Value.int 16 243 } :: { hash := PyData.keyHash P (Str.ofString "SLASH"), key := Value.str (Str.ofString "SLASH") 246, val := Value.int 17 245 } :: { hash := PyData.keyHash P (Str.ofString "VBAR"), key := Value.str (Str.ofString "VBAR") 248, val := Value.int 18 247 } :: { hash := PyData.keyHash P (Str.ofString "AMPER"), key := Value.str (Str.ofString "AMPER") 250, val := Value.int 19 249 } :: { hash := PyData.keyHash P (Str.ofString "LESS"), key := Value.str (Str.ofString "LESS") 252, val := Value.int 20 251 } :: { hash := PyData.keyHash P (Str.ofString "GREATER"), key := Value.str (Str.ofString "GREATER") 254, val := Value.int 21 253 } :: { hash := PyData.keyHash P (Str.ofString "EQUAL"), key := Value.str (Str.ofString "EQUAL") 256, val := Value.int 22 255 } :: { hash := PyData.keyHash P (Str.ofString "DOT"), key := Value.str (Str.ofString "DOT") 258, val := Value.int 23 257 } :: { hash := PyData.keyHash P (Str.ofString "PERCENT"), key := Value.str (Str.ofString "PERCENT") 260, val := Value.int 24 259 } :: { hash := PyData.keyHash P (Str.ofString "LBRACE"), key := Value.str (Str.ofString "LBRACE") 262, val := Value.int 25 261 } :: { hash := PyData.keyHash P (Str.ofString "RBRACE"), key := Value.str (Str.ofString "RBRACE") 264, val := Value.int 26 263 } :: { hash := PyData.keyHash P (Str.ofString "EQEQUAL"), key := Value.str (Str.ofString "EQEQUAL") 266, val := Value.int 27 265 } :: { hash := PyData.keyHash P (Str.ofString "NOTEQUAL"), key := Value.str (Str.ofString "NOTEQUAL") 268, val := Value.int 28 267 } :: { hash := PyData.keyHash P (Str.ofString "LESSEQUAL"), key := Value.str (Str.ofString "LESSEQUAL") 270, val := Value.int 29 269 } :: { hash := PyData.keyHash P (Str.ofString "GREATEREQUAL"), key := Value.str (Str.ofString "GREATEREQUAL") 272, val := Value.int 30 271 } :: { hash := PyData.keyHash P (Str.ofString "TILDE"), key := Value.str (Str.ofString "TILDE") 274, val := Value.int 31 273 } :: { hash := PyData.keyHash P (Str.ofString "CIRCUMFLEX"), key := Value.str (Str.ofString "CIRCUMFLEX") 276, val := Value.int 32 275 } :: { hash := PyData.keyHash P (Str.ofString "LEFTSHIFT"), key := Value.str (Str.ofString "LEFTSHIFT") 278, val := Value.int 33 277 } :: { hash := PyData.keyHash P (Str.ofString "RIGHTSHIFT"), key := Value.str (Str.ofString "RIGHTSHIFT") 280, val := Value.int 34 279 } :: { hash := PyData.keyHash P (Str.ofString "DOUBLESTAR"), key := Value.str (Str.ofString "DOUBLESTAR") 282, val := Value.int 35 281 } :: { hash := PyData.keyHash P (Str.ofString "PLUSEQUAL"), key := Value.str (Str.ofString "PLUSEQUAL") 284, val := Value.int 36 283 } :: { hash := PyData.keyHash P (Str.ofString "MINEQUAL"), key := Value.str (Str.ofString "MINEQUAL") 286, val := Value.int 37 285 } :: { hash := PyData.keyHash P (Str.ofString "STAREQUAL"), key := Value.str (Str.ofString "STAREQUAL") 288, val := Value.int 38 287 } :: { hash := PyData.keyHash P (Str.ofString "SLASHEQUAL"), key := Value.str (Str.ofString "SLASHEQUAL") 290, val := Value.int 39 289 } :: { hash := PyData.keyHash P (Str.ofString "PERCENTEQUAL"), key := Value.str (Str.ofString "PERCENTEQUAL") 292, val := Value.int 40 291 } :: { hash := PyData.keyHash P (Str.ofString "AMPEREQUAL"), key := Value.str (Str.ofString "AMPEREQUAL") 294, val := Value.int 41 293 } :: { hash := PyData.keyHash P (Str.ofString "VBAREQUAL"), key := Value.str (Str.ofString "VBAREQUAL") 296, val := Value.int 42 295 } :: { hash := PyData.keyHash P (Str.ofString "CIRCUMFLEXEQUAL"), key := Value.str (Str.ofString "CIRCUMFLEXEQUAL") 298, val := Value.int 43 297 } :: { hash := PyData.keyHash P (Str.ofString "LEFTSHIFTEQUAL"), key := Value.str (Str.ofString "LEFTSHIFTEQUAL") 300, val := Value.int 44 299 } :: { hash := PyData.keyHash P (Str.ofString "RIGHTSHIFTEQUAL"), key := Value.str (Str.ofString "RIGHTSHIFTEQUAL") 302, val := Value.int 45 301 } :: { hash := PyData.keyHash P (Str.ofString "DOUBLESTAREQUAL"), key := Value.str (Str.ofString "DOUBLESTAREQUAL") 304, val := Value.int 46 303 } :: { hash := PyData.keyHash P (Str.ofString "DOUBLESLASH"), key := Value.str (Str.ofString "DOUBLESLASH") 306, val := Value.int 47 305 } :: { hash := PyData.keyHash P (Str.ofString "DOUBLESLASHEQUAL"), key := Value.str (Str.ofString "DOUBLESLASHEQUAL") 308, val := Value.int 48 307 } :: { hash := PyData.keyHash P (Str.ofString "AT"), key := Value.str (Str.ofString "AT") 310, val := Value.int 49 309 } :: { hash := PyData.keyHash P (Str.ofString "ATEQUAL"), key := Value.str (Str.ofString "ATEQUAL") 312, val := Value.int 50 311 } :: { hash := PyData.keyHash P (Str.ofString "RARROW"), key := Value.str (Str.ofString "RARROW") 314, val := Value.int 51 313 } :: { hash := PyData.keyHash P (Str.ofString "ELLIPSIS"), key := Value.str (Str.ofString "ELLIPSIS") 316, val := Value.int 52 315 } :: { hash := PyData.keyHash P (Str.ofString "COLONEQUAL"), key := Value.str (Str.ofString "COLONEQUAL") 318, val := Value.int 53 317 } :: { hash := PyData.keyHash P (Str.ofString "EXCLAMATION"), key := Value.str (Str.ofString "EXCLAMATION") 320, val := Value.int 54 319 } :: { hash := PyData.keyHash P (Str.ofString "NT_OFFSET"), key := Value.str (Str.ofString "NT_OFFSET") 322, val := Value.int 256 321 } :: { hash := PyData.keyHash P (Str.ofString "EXACT_TOKEN_TYPES"), key := Value.str (Str.ofString "EXACT_TOKEN_TYPES") 419, val := Value.ref 29 } :: { hash := PyData.keyHash P (Str.ofString "ISTERMINAL"), key := Value.str (Str.ofString "ISTERMINAL") 426, val := Value.ref 38 } :: { hash := PyData.keyHash P (Str.ofString "ISNONTERMINAL"), key := Value.str (Str.ofString "ISNONTERMINAL") 433, val := Value.ref 45 } :: { hash := PyData.keyHash P (Str.ofString "ISEOF"), key := Value.str (Str.ofString "ISEOF") 440, val := Value.ref 52 } :: { hash := PyData.keyHash P (Str.ofString "_raise_serialization_error"), key := Value.str (Str.ofString "_raise_serialization_error") 449, val := Value.ref 59 } :: { hash := PyData.keyHash P (Str.ofString "_escape_cdata"), key := Value.str (Str.ofString "_escape_cdata") 456, val := Value.ref 66 } :: { hash := PyData.keyHash P (Str.ofString "_escape_attrib"), key := Value.str (Str.ofString "_escape_attrib") 463, val := Value.ref 73 } :: { hash := PyData.keyHash P (Str.ofString "_escape_cdata_c14n"), key := Value.str (Str.ofString "_escape_cdata_c14n") 470, val := Value.ref 80 } :: { hash := PyData.keyHash P (Str.ofString "_law_heaps"), key := Value.str (Str.ofString "_law_heaps") 481, val := Value.ref 87 } :: { hash := PyData.keyHash P (Str.ofString "_law_written"), key := Value.str (Str.ofString "_law_written") 489, val := Value.ref 94 } :: { hash := PyData.keyHash P (Str.ofString "_law_spelled"), key := Value.str (Str.ofString "_law_spelled") 495, val := Value.ref 99 } :: { hash := PyData.keyHash P (Str.ofString "_law_derived"), key := Value.str (Str.ofString "_law_derived") 505, val := Value.ref 106 } :: { hash := PyData.keyHash P (Str.ofString "_law_crossings"), key := Value.str (Str.ofString "_law_crossings") 517, val := Value.ref 113 } :: [])) 74 }
noncomputable def o_75 (P : Params) : Obj := { cls := Value.none, data := Data.fields (List.toArray (Value.int 2 0 :: Value.int 0 0 :: Value.ref 20 :: Value.int 21 0 :: Value.int 0 0 :: Value.ref 27 :: Value.int 94 0 :: Value.int 0 0 :: Value.ref 37 :: Value.int 96 0 :: Value.int 0 0 :: Value.ref 44 :: Value.int 98 0 :: Value.int 0 0 :: Value.ref 51 :: Value.int 101 0 :: Value.int 0 0 :: Value.ref 58 :: Value.int 103 0 :: Value.int 0 0 :: Value.ref 65 :: Value.int 114 0 :: Value.int 0 0 :: Value.ref 72 :: Value.int 133 0 :: Value.int 0 0 :: Value.ref 79 :: Value.int 147 0 :: Value.int 0 0 :: Value.ref 86 :: Value.int 152 0 :: Value.int 0 0 :: Value.ref 93 :: Value.int 158 0 :: Value.int 0 0 :: Value.ref 98 :: Value.int 161 0 :: Value.int 0 0 :: Value.ref 105 :: Value.int 175 0 :: Value.int 0 0 :: Value.ref 112 :: [])) }
noncomputable def o_76 (P : Params) : Obj := { cls := Value.type "tuple", data := Data.seq #[] }
noncomputable def o_77 (P : Params) : Obj := { cls := Value.none, data := Data.fields #[] }
noncomputable def o_78 (P : Params) : Obj := { cls := Value.type "tuple", data := Data.seq (List.toArray (Value.str (Str.ofString "x") 423 :: [])) }
noncomputable def o_79 (P : Params) : Obj := { cls := Value.type "tuple", data := Data.seq #[] }
noncomputable def o_80 (P : Params) : Obj := { cls := Value.none, data := Data.func { name := Str.ofString "ISTERMINAL", qualname := Str.ofString "ISTERMINAL", params := d38.1, body := FuncBody.stmts d38.2.1, scope := d38.2.2, globals := 0, closure := [], defaults := Value.none, kwdefaults := Value.none } }
noncomputable def o_81 (P : Params) : Obj := { cls := Value.type "code", data := Data.fields (List.toArray (Value.str (Str.ofString "ISTERMINAL") 420 :: Value.str (Str.ofString "ISTERMINAL") 421 :: Value.str (Str.ofString "/claim/cut.py") 422 :: Value.int 94 0 :: Value.int 1 0 :: Value.int 0 0 :: Value.int 0 0 :: Value.int 3 0 :: Value.ref 32 :: Value.bool true :: Value.int 181 0 :: Value.ref 33 :: Value.none :: Value.ref 34 :: Value.ref 35 :: Value.ref 36 :: Value.int 424 0 :: Value.int 94 0 :: Value.str (Str.ofString "/claim/cut.py") 425 :: [])) }
noncomputable def o_82 (P : Params) : Obj := { cls := Value.type "function", data := Data.func { name := Str.ofString "ISTERMINAL", qualname := Str.ofString "ISTERMINAL", params := d38.1, body := FuncBody.stmts d38.2.1, scope := d38.2.2, globals := 3, closure := [], defaults := Value.none, kwdefaults := Value.none, pyModule := Value.str (Str.ofString "cpy313.token") 221, code := Value.ref 37 } }
noncomputable def o_83 (P : Params) : Obj := { cls := Value.type "tuple", data := Data.seq #[] }
noncomputable def o_84 (P : Params) : Obj := { cls := Value.none, data := Data.fields #[] }
noncomputable def o_85 (P : Params) : Obj := { cls := Value.type "tuple", data := Data.seq (List.toArray (Value.str (Str.ofString "x") 430 :: [])) }
noncomputable def o_86 (P : Params) : Obj := { cls := Value.type "tuple", data := Data.seq #[] }
noncomputable def o_87 (P : Params) : Obj := { cls := Value.none, data := Data.func { name := Str.ofString "ISNONTERMINAL", qualname := Str.ofString "ISNONTERMINAL", params := d45.1, body := FuncBody.stmts d45.2.1, scope := d45.2.2, globals := 0, closure := [], defaults := Value.none, kwdefaults := Value.none } }
noncomputable def o_88 (P : Params) : Obj := { cls := Value.type "code", data := Data.fields (List.toArray (Value.str (Str.ofString "ISNONTERMINAL") 427 :: Value.str (Str.ofString "ISNONTERMINAL") 428 :: Value.str (Str.ofString "/claim/cut.py") 429 :: Value.int 96 0 :: Value.int 1 0 :: Value.int 0 0 :: Value.int 0 0 :: Value.int 3 0 :: Value.ref 39 :: Value.bool true :: Value.int 181 0 :: Value.ref 40 :: Value.none :: Value.ref 41 :: Value.ref 42 :: Value.ref 43 :: Value.int 431 0 :: Value.int 96 0 :: Value.str (Str.ofString "/claim/cut.py") 432 :: [])) }
noncomputable def o_89 (P : Params) : Obj := { cls := Value.type "function", data := Data.func { name := Str.ofString "ISNONTERMINAL", qualname := Str.ofString "ISNONTERMINAL", params := d45.1, body := FuncBody.stmts d45.2.1, scope := d45.2.2, globals := 3, closure := [], defaults := Value.none, kwdefaults := Value.none, pyModule := Value.str (Str.ofString "cpy313.token") 221, code := Value.ref 44 } }
noncomputable def o_90 (P : Params) : Obj := { cls := Value.type "tuple", data := Data.seq #[] }
noncomputable def o_91 (P : Params) : Obj := { cls := Value.none, data := Data.fields #[] }
noncomputable def o_92 (P : Params) : Obj := { cls := Value.type "tuple", data := Data.seq (List.toArray (Value.str (Str.ofString "x") 437 :: [])) }
noncomputable def o_93 (P : Params) : Obj := { cls := Value.type "tuple", data := Data.seq #[] }
noncomputable def o_94 (P : Params) : Obj := { cls := Value.none, data := Data.func { name := Str.ofString "ISEOF", qualname := Str.ofString "ISEOF", params := d52.1, body := FuncBody.stmts d52.2.1, scope := d52.2.2, globals := 0, closure := [], defaults := Value.none, kwdefaults := Value.none } }
noncomputable def o_95 (P : Params) : Obj := { cls := Value.type "code", data := Data.fields (List.toArray (Value.str (Str.ofString "ISEOF") 434 :: Value.str (Str.ofString "ISEOF") 435 :: Value.str (Str.ofString "/claim/cut.py") 436 :: Value.int 98 0 :: Value.int 1 0 :: Value.int 0 0 :: Value.int 0 0 :: Value.int 3 0 :: Value.ref 46 :: Value.bool true :: Value.int 181 0 :: Value.ref 47 :: Value.none :: Value.ref 48 :: Value.ref 49 :: Value.ref 50 :: Value.int 438 0 :: Value.int 98 0 :: Value.str (Str.ofString "/claim/cut.py") 439 :: [])) }
noncomputable def o_96 (P : Params) : Obj := { cls := Value.type "function", data := Data.func { name := Str.ofString "ISEOF", qualname := Str.ofString "ISEOF", params := d52.1, body := FuncBody.stmts d52.2.1, scope := d52.2.2, globals := 3, closure := [], defaults := Value.none, kwdefaults := Value.none, pyModule := Value.str (Str.ofString "cpy313.token") 221, code := Value.ref 51 } }
noncomputable def o_97 (P : Params) : Obj := { cls := Value.type "tuple", data := Data.seq #[] }
noncomputable def o_98 (P : Params) : Obj := { cls := Value.none, data := Data.fields #[] }
noncomputable def o_99 (P : Params) : Obj := { cls := Value.type "tuple", data := Data.seq (List.toArray (Value.str (Str.ofString "text") 446 :: [])) }
noncomputable def o_100 (P : Params) : Obj := { cls := Value.type "tuple", data := Data.seq #[] }
noncomputable def o_101 (P : Params) : Obj := { cls := Value.none, data := Data.func { name := Str.ofString "_raise_serialization_error", qualname := Str.ofString "_raise_serialization_error", params := d59.1, body := FuncBody.stmts d59.2.1, scope := d59.2.2, globals := 0, closure := [], defaults := Value.none, kwdefaults := Value.none } }
noncomputable def o_102 (P : Params) : Obj := { cls := Value.type "code", data := Data.fields (List.toArray (Value.str (Str.ofString "_raise_serialization_error") 443 :: Value.str (Str.ofString "_raise_serialization_error") 444 :: Value.str (Str.ofString "/claim/cut.py") 445 :: Value.int 101 0 :: Value.int 1 0 :: Value.int 0 0 :: Value.int 0 0 :: Value.int 3 0 :: Value.ref 53 :: Value.bool true :: Value.int 181 0 :: Value.ref 54 :: Value.none :: Value.ref 55 :: Value.ref 56 :: Value.ref 57 :: Value.int 447 0 :: Value.int 101 0 :: Value.str (Str.ofString "/claim/cut.py") 448 :: [])) }
noncomputable def o_103 (P : Params) : Obj := { cls := Value.type "function", data := Data.func { name := Str.ofString "_raise_serialization_error", qualname := Str.ofString "_raise_serialization_error", params := d59.1, body := FuncBody.stmts d59.2.1, scope := d59.2.2, globals := 3, closure := [], defaults := Value.none, kwdefaults := Value.none, pyModule := Value.str (Str.ofString "cpy313.xml.etree.ElementTree") 441, code := Value.ref 58 } }
noncomputable def o_104 (P : Params) : Obj := { cls := Value.type "tuple", data := Data.seq #[] }
noncomputable def o_105 (P : Params) : Obj := { cls := Value.none, data := Data.fields #[] }
noncomputable def o_106 (P : Params) : Obj := { cls := Value.type "tuple", data := Data.seq (List.toArray (Value.str (Str.ofString "text") 453 :: [])) }
noncomputable def o_107 (P : Params) : Obj := { cls := Value.type "tuple", data := Data.seq #[] }
noncomputable def o_108 (P : Params) : Obj := { cls := Value.none, data := Data.func { name := Str.ofString "_escape_cdata", qualname := Str.ofString "_escape_cdata", params := d66.1, body := FuncBody.stmts d66.2.1, scope := d66.2.2, globals := 0, closure := [], defaults := Value.none, kwdefaults := Value.none } }
noncomputable def o_109 (P : Params) : Obj := { cls := Value.type "code", data := Data.fields (List.toArray (Value.str (Str.ofString "_escape_cdata") 450 :: Value.str (Str.ofString "_escape_cdata") 451 :: Value.str (Str.ofString "/claim/cut.py") 452 :: Value.int 103 0 :: Value.int 1 0 :: Value.int 0 0 :: Value.int 0 0 :: Value.int 3 0 :: Value.ref 60 :: Value.bool true :: Value.int 181 0 :: Value.ref 61 :: Value.none :: Value.ref 62 :: Value.ref 63 :: Value.ref 64 :: Value.int 454 0 :: Value.int 103 0 :: Value.str (Str.ofString "/claim/cut.py") 455 :: [])) }
noncomputable def o_110 (P : Params) : Obj := { cls := Value.type "function", data := Data.func { name := Str.ofString "_escape_cdata", qualname := Str.ofString "_escape_cdata", params := d66.1, body := FuncBody.stmts d66.2.1, scope := d66.2.2, globals := 3, closure := [], defaults := Value.none, kwdefaults := Value.none, pyModule := Value.str (Str.ofString "cpy313.xml.etree.ElementTree") 441, code := Value.ref 65 } }
noncomputable def o_111 (P : Params) : Obj := { cls := Value.type "tuple", data := Data.seq #[] }
noncomputable def o_112 (P : Params) : Obj := { cls := Value.none, data := Data.fields #[] }
noncomputable def o_113 (P : Params) : Obj := { cls := Value.type "tuple", data := Data.seq (List.toArray (Value.str (Str.ofString "text") 460 :: [])) }
noncomputable def o_114 (P : Params) : Obj := { cls := Value.type "tuple", data := Data.seq #[] }
noncomputable def o_115 (P : Params) : Obj := { cls := Value.none, data := Data.func { name := Str.ofString "_escape_attrib", qualname := Str.ofString "_escape_attrib", params := d73.1, body := FuncBody.stmts d73.2.1, scope := d73.2.2, globals := 0, closure := [], defaults := Value.none, kwdefaults := Value.none } }
noncomputable def o_116 (P : Params) : Obj := { cls := Value.type "code", data := Data.fields (List.toArray (Value.str (Str.ofString "_escape_attrib") 457 :: Value.str (Str.ofString "_escape_attrib") 458 :: Value.str (Str.ofString "/claim/cut.py") 459 :: Value.int 114 0 :: Value.int 1 0 :: Value.int 0 0 :: Value.int 0 0 :: Value.int 3 0 :: Value.ref 67 :: Value.bool true :: Value.int 181 0 :: Value.ref 68 :: Value.none :: Value.ref 69 :: Value.ref 70 :: Value.ref 71 :: Value.int 461 0 :: Value.int 114 0 :: Value.str (Str.ofString "/claim/cut.py") 462 :: [])) }
noncomputable def o_117 (P : Params) : Obj := { cls := Value.type "function", data := Data.func { name := Str.ofString "_escape_attrib", qualname := Str.ofString "_escape_attrib", params := d73.1, body := FuncBody.stmts d73.2.1, scope := d73.2.2, globals := 3, closure := [], defaults := Value.none, kwdefaults := Value.none, pyModule := Value.str (Str.ofString "cpy313.xml.etree.ElementTree") 441, code := Value.ref 72 } }
noncomputable def o_118 (P : Params) : Obj := { cls := Value.type "tuple", data := Data.seq #[] }
noncomputable def o_119 (P : Params) : Obj := { cls := Value.none, data := Data.fields #[] }
noncomputable def o_120 (P : Params) : Obj := { cls := Value.type "tuple", data := Data.seq (List.toArray (Value.str (Str.ofString "text") 467 :: [])) }
noncomputable def o_121 (P : Params) : Obj := { cls := Value.type "tuple", data := Data.seq #[] }
noncomputable def o_122 (P : Params) : Obj := { cls := Value.none, data := Data.func { name := Str.ofString "_escape_cdata_c14n", qualname := Str.ofString "_escape_cdata_c14n", params := d80.1, body := FuncBody.stmts d80.2.1, scope := d80.2.2, globals := 0, closure := [], defaults := Value.none, kwdefaults := Value.none } }
noncomputable def o_123 (P : Params) : Obj := { cls := Value.type "code", data := Data.fields (List.toArray (Value.str (Str.ofString "_escape_cdata_c14n") 464 :: Value.str (Str.ofString "_escape_cdata_c14n") 465 :: Value.str (Str.ofString "/claim/cut.py") 466 :: Value.int 133 0 :: Value.int 1 0 :: Value.int 0 0 :: Value.int 0 0 :: Value.int 3 0 :: Value.ref 74 :: Value.bool true :: Value.int 181 0 :: Value.ref 75 :: Value.none :: Value.ref 76 :: Value.ref 77 :: Value.ref 78 :: Value.int 468 0 :: Value.int 133 0 :: Value.str (Str.ofString "/claim/cut.py") 469 :: [])) }
noncomputable def o_124 (P : Params) : Obj := { cls := Value.type "function", data := Data.func { name := Str.ofString "_escape_cdata_c14n", qualname := Str.ofString "_escape_cdata_c14n", params := d80.1, body := FuncBody.stmts d80.2.1, scope := d80.2.2, globals := 3, closure := [], defaults := Value.none, kwdefaults := Value.none, pyModule := Value.str (Str.ofString "cpy313.xml.etree.ElementTree") 441, code := Value.ref 79 } }
noncomputable def o_125 (P : Params) : Obj := { cls := Value.type "tuple", data := Data.seq #[] }
noncomputable def o_126 (P : Params) : Obj := { cls := Value.none, data := Data.fields #[] }
noncomputable def o_127 (P : Params) : Obj := { cls := Value.type "tuple", data := Data.seq (List.toArray (Value.str (Str.ofString "script") 476 :: Value.str (Str.ofString "heaps") 477 :: Value.str (Str.ofString "k") 478 :: [])) }
noncomputable def o_128 (P : Params) : Obj := { cls := Value.type "tuple", data := Data.seq #[] }
noncomputable def o_129 (P : Params) : Obj := { cls := Value.none, data := Data.func { name := Str.ofString "_law_heaps", qualname := Str.ofString "_law_heaps", params := d87.1, body := FuncBody.stmts d87.2.1, scope := d87.2.2, globals := 0, closure := [], defaults := Value.none, kwdefaults := Value.none } }
noncomputable def o_130 (P : Params) : Obj := { cls := Value.type "code", data := Data.fields (List.toArray (Value.str (Str.ofString "_law_heaps") 473 :: Value.str (Str.ofString "_law_heaps") 474 :: Value.str (Str.ofString "/claim/cut.py") 475 :: Value.int 147 0 :: Value.int 1 0 :: Value.int 0 0 :: Value.int 0 0 :: Value.int 3 0 :: Value.ref 81 :: Value.bool true :: Value.int 181 0 :: Value.ref 82 :: Value.none :: Value.ref 83 :: Value.ref 84 :: Value.ref 85 :: Value.int 479 0 :: Value.int 147 0 :: Value.str (Str.ofString "/claim/cut.py") 480 :: [])) }
noncomputable def o_131 (P : Params) : Obj := { cls := Value.type "function", data := Data.func { name := Str.ofString "_law_heaps", qualname := Str.ofString "_law_heaps", params := d87.1, body := FuncBody.stmts d87.2.1, scope := d87.2.2, globals := 3, closure := [], defaults := Value.none, kwdefaults := Value.none, pyModule := Value.str (Str.ofString "law_ty0033_01") 471, code := Value.ref 86 } }
noncomputable def o_132 (P : Params) : Obj := { cls := Value.type "tuple", data := Data.seq #[] }
noncomputable def o_133 (P : Params) : Obj := { cls := Value.none, data := Data.fields #[] }
noncomputable def o_134 (P : Params) : Obj := { cls := Value.type "tuple", data := Data.seq (List.toArray (Value.str (Str.ofString "hand") 485 :: Value.str (Str.ofString "text") 486 :: [])) }
noncomputable def o_135 (P : Params) : Obj := { cls := Value.type "tuple", data := Data.seq #[] }
noncomputable def o_136 (P : Params) : Obj := { cls := Value.none, data := Data.func { name := Str.ofString "_law_written", qualname := Str.ofString "_law_written", params := d94.1, body := FuncBody.stmts d94.2.1, scope := d94.2.2, globals := 0, closure := [], defaults := Value.none, kwdefaults := Value.none } }
noncomputable def o_137 (P : Params) : Obj := { cls := Value.type "code", data := Data.fields (List.toArray (Value.str (Str.ofString "_law_written") 482 :: Value.str (Str.ofString "_law_written") 483 :: Value.str (Str.ofString "/claim/cut.py") 484 :: Value.int 152 0 :: Value.int 2 0 :: Value.int 0 0 :: Value.int 0 0 :: Value.int 3 0 :: Value.ref 88 :: Value.bool true :: Value.int 181 0 :: Value.ref 89 :: Value.none :: Value.ref 90 :: Value.ref 91 :: Value.ref 92 :: Value.int 487 0 :: Value.int 152 0 :: Value.str (Str.ofString "/claim/cut.py") 488 :: [])) }
noncomputable def o_138 (P : Params) : Obj := { cls := Value.type "function", data := Data.func { name := Str.ofString "_law_written", qualname := Str.ofString "_law_written", params := d94.1, body := FuncBody.stmts d94.2.1, scope := d94.2.2, globals := 3, closure := [], defaults := Value.none, kwdefaults := Value.none, pyModule := Value.str (Str.ofString "law_ty0033_01") 471, code := Value.ref 93 } }
noncomputable def o_139 (P : Params) : Obj := { cls := Value.type "tuple", data := Data.seq #[] }
noncomputable def o_140 (P : Params) : Obj := { cls := Value.none, data := Data.fields #[] }
noncomputable def o_141 (P : Params) : Obj := { cls := Value.none, data := Data.func { name := Str.ofString "_law_spelled", qualname := Str.ofString "_law_spelled", params := d99.1, body := FuncBody.stmts d99.2.1, scope := d99.2.2, globals := 0, closure := [], defaults := Value.none, kwdefaults := Value.none } }
noncomputable def o_142 (P : Params) : Obj := { cls := Value.type "code", data := Data.fields (List.toArray (Value.str (Str.ofString "_law_spelled") 490 :: Value.str (Str.ofString "_law_spelled") 491 :: Value.str (Str.ofString "/claim/cut.py") 492 :: Value.int 158 0 :: Value.int 1 0 :: Value.int 0 0 :: Value.int 0 0 :: Value.int 3 0 :: Value.ref 95 :: Value.bool true :: Value.int 181 0 :: Value.ref 96 :: Value.none :: Value.none :: Value.none :: Value.ref 97 :: Value.int 493 0 :: Value.int 158 0 :: Value.str (Str.ofString "/claim/cut.py") 494 :: [])) }
noncomputable def o_143 (P : Params) : Obj := { cls := Value.type "function", data := Data.func { name := Str.ofString "_law_spelled", qualname := Str.ofString "_law_spelled", params := d99.1, body := FuncBody.stmts d99.2.1, scope := d99.2.2, globals := 3, closure := [], defaults := Value.none, kwdefaults := Value.none, pyModule := Value.str (Str.ofString "law_ty0033_01") 471, code := Value.ref 98 } }
noncomputable def o_144 (P : Params) : Obj := { cls := Value.type "tuple", data := Data.seq #[] }
noncomputable def o_145 (P : Params) : Obj := { cls := Value.none, data := Data.fields #[] }
noncomputable def o_146 (P : Params) : Obj := { cls := Value.type "tuple", data := Data.seq (List.toArray (Value.str (Str.ofString "rules") 499 :: Value.str (Str.ofString "pile") 500 :: Value.str (Str.ofString "row") 501 :: Value.str (Str.ofString "symbol") 502 :: [])) }
noncomputable def o_147 (P : Params) : Obj := { cls := Value.type "tuple", data := Data.seq #[] }
noncomputable def o_148 (P : Params) : Obj := { cls := Value.none, data := Data.func { name := Str.ofString "_law_derived", qualname := Str.ofString "_law_derived", params := d106.1, body := FuncBody.stmts d106.2.1, scope := d106.2.2, globals := 0, closure := [], defaults := Value.none, kwdefaults := Value.none } }
noncomputable def o_149 (P : Params) : Obj := { cls := Value.type "code", data := Data.fields (List.toArray (Value.str (Str.ofString "_law_derived") 496 :: Value.str (Str.ofString "_law_derived") 497 :: Value.str (Str.ofString "/claim/cut.py") 498 :: Value.int 161 0 :: Value.int 1 0 :: Value.int 0 0 :: Value.int 0 0 :: Value.int 3 0 :: Value.ref 100 :: Value.bool true :: Value.int 181 0 :: Value.ref 101 :: Value.none :: Value.ref 102 :: Value.ref 103 :: Value.ref 104 :: Value.int 503 0 :: Value.int 161 0 :: Value.str (Str.ofString "/claim/cut.py") 504 :: [])) }
noncomputable def o_150 (P : Params) : Obj := { cls := Value.type "function", data := Data.func { name := Str.ofString "_law_derived", qualname := Str.ofString "_law_derived", params := d106.1, body := FuncBody.stmts d106.2.1, scope := d106.2.2, globals := 3, closure := [], defaults := Value.none, kwdefaults := Value.none, pyModule := Value.str (Str.ofString "law_ty0033_01") 471, code := Value.ref 105 } }
noncomputable def o_151 (P : Params) : Obj := { cls := Value.type "tuple", data := Data.seq #[] }
noncomputable def o_152 (P : Params) : Obj := { cls := Value.none, data := Data.fields #[] }
noncomputable def o_153 (P : Params) : Obj := { cls := Value.type "tuple", data := Data.seq (List.toArray (Value.str (Str.ofString "page") 509 :: Value.str (Str.ofString "names") 510 :: Value.str (Str.ofString "crossings") 511 :: Value.str (Str.ofString "place") 512 :: Value.str (Str.ofString "width") 513 :: Value.str (Str.ofString "number") 514 :: [])) }
noncomputable def o_154 (P : Params) : Obj := { cls := Value.type "tuple", data := Data.seq #[] }
noncomputable def o_155 (P : Params) : Obj := { cls := Value.none, data := Data.func { name := Str.ofString "_law_crossings", qualname := Str.ofString "_law_crossings", params := d113.1, body := FuncBody.stmts d113.2.1, scope := d113.2.2, globals := 0, closure := [], defaults := Value.none, kwdefaults := Value.none } }
noncomputable def o_156 (P : Params) : Obj := { cls := Value.type "code", data := Data.fields (List.toArray (Value.str (Str.ofString "_law_crossings") 506 :: Value.str (Str.ofString "_law_crossings") 507 :: Value.str (Str.ofString "/claim/cut.py") 508 :: Value.int 175 0 :: Value.int 1 0 :: Value.int 0 0 :: Value.int 0 0 :: Value.int 3 0 :: Value.ref 107 :: Value.bool true :: Value.int 181 0 :: Value.ref 108 :: Value.none :: Value.ref 109 :: Value.ref 110 :: Value.ref 111 :: Value.int 515 0 :: Value.int 175 0 :: Value.str (Str.ofString "/claim/cut.py") 516 :: [])) }
noncomputable def o_157 (P : Params) : Obj := { cls := Value.type "function", data := Data.func { name := Str.ofString "_law_crossings", qualname := Str.ofString "_law_crossings", params := d113.1, body := FuncBody.stmts d113.2.1, scope := d113.2.2, globals := 3, closure := [], defaults := Value.none, kwdefaults := Value.none, pyModule := Value.str (Str.ofString "law_ty0033_01") 471, code := Value.ref 112 } }
noncomputable def o_158 (P : Params) : Obj := { cls := Value.type "dict", data := Data.dict (List.toArray ({ hash := PyData.keyHash P (Str.ofString "__name__"), key := Value.str (Str.ofString "__name__") 165, val := Value.str (Str.ofString "law_ty0033_01") 471 } :: { hash := PyData.keyHash P (Str.ofString "__doc__"), key := Value.str (Str.ofString "__doc__") 166, val := Value.none } :: { hash := PyData.keyHash P (Str.ofString "__package__"), key := Value.str (Str.ofString "__package__") 167, val := Value.none } :: { hash := PyData.keyHash P (Str.ofString "__loader__"), key := Value.str (Str.ofString "__loader__") 168, val := Value.builtin "__main__.__loader__#opaque" } :: { hash := PyData.keyHash P (Str.ofString "__spec__"), key := Value.str (Str.ofString "__spec__") 169, val := Value.none } :: { hash := PyData.keyHash P (Str.ofString "__annotations__"), key := Value.str (Str.ofString "__annotations__") 170, val := Value.ref 6 } :: { hash := PyData.keyHash P (Str.ofString "__builtins__"), key := Value.str (Str.ofString "__builtins__") 171, val := Value.ref 4 } :: { hash := PyData.keyHash P (Str.ofString "__file__"), key := Value.str (Str.ofString "__file__") 173, val := Value.str (Str.ofString "/claim/cut.py") 172 } :: { hash := PyData.keyHash P (Str.ofString "__cached__"), key := Value.str (Str.ofString "__cached__") 174, val := Value.none } :: { hash := PyData.keyHash P (Str.ofString "rgb_to_hsv"), key := Value.str (Str.ofString "rgb_to_hsv") 206, val := Value.ref 21 } :: { hash := PyData.keyHash P (Str.ofString "hsv_to_rgb"), key := Value.str (Str.ofString "hsv_to_rgb") 220, val := Value.ref 28 } :: { hash := PyData.keyHash P (Str.ofString "ENDMARKER"), key := Value.str (Str.ofString "ENDMARKER") 224, val := Value.int 0 223 } :: { hash := PyData.keyHash P (Str.ofString "LPAR"), key := Value.str (Str.ofString "LPAR") 226, val := Value.int 7 225 } :: { hash := PyData.keyHash P (Str.ofString "RPAR"), key := Value.str (Str.ofString "RPAR") 228, val := Value.int 8 227 } :: { hash := PyData.keyHash P (Str.ofString "LSQB"), key := Value.str (Str.ofString "LSQB") 230, val := Value.int 9 229 } :: { hash := PyData.keyHash P (Str.ofString "RSQB"), key := Value.str (Str.ofString "RSQB") 232, val := Value.int 10 231 } :: { hash := PyData.keyHash P (Str.ofString "COLON"), key := Value.str (Str.ofString "COLON") 234, val := Value.int 11 233 } :: { hash := PyData.keyHash P (Str.ofString "COMMA"), key := Value.str (Str.ofString "COMMA") 236, val := Value.int 12 235 } :: { hash := PyData.keyHash P (Str.ofString "SEMI"), key := Value.str (Str.ofString "SEMI") 238, val := Value.int 13 237 } :: { hash := PyData.keyHash P (Str.ofString "PLUS"), key := Value.str (Str.ofString "PLUS") 240, val := Value.int 14 239 } :: { hash := PyData.keyHash P (Str.ofString "MINUS"), key := Value.str (Str.ofString "MINUS") 242, val := Value.int 15 241 } :: { hash := PyData.keyHash P (Str.ofString "STAR"), key := Value.str (Str.ofString "STAR") 244, val := Value.int 16 243 } :: { hash := PyData.keyHash P (Str.ofString "SLASH"), key := Value.str (Str.ofString "SLASH") 246, val := Value.int 17 245 } :: { hash := PyData.keyHash P (Str.ofString "VBAR"), key := Value.str (Str.ofString "VBAR") 248, val := Value.int 18 247 } :: { hash := PyData.keyHash P (Str.ofString "AMPER"), key := Value.str (Str.ofString "AMPER") 250, val := Value.int 19 249 } :: { hash := PyData.keyHash P (Str.ofString "LESS"), key := Value.str (Str.ofString "LESS") 252, val := Value.int 20 251 } :: { hash := PyData.keyHash P (Str.ofString "GREATER"), key := Value.str (Str.ofString "GREATER") 254, val := Value.int 21 253 } :: { hash := PyData.keyHash P (Str.ofString "EQUAL"), key := Value.str (Str.ofString "EQUAL") 256, val := Value.int 22 255 } :: { hash := PyData.keyHash P (Str.ofString "DOT"), key := Value.str (Str.ofString "DOT") 258, val := Value.int 23 257 } :: { hash := PyData.keyHash P (Str.ofString "PERCENT"), key := Value.str (Str.ofString "PERCENT") 260, val := Value.int 24 259 } :: { hash := PyData.keyHash P (Str.ofString "LBRACE"), key := Value.str (Str.ofString "LBRACE") 262, val := Value.int 25 261 } :: { hash := PyData.keyHash P (Str.ofString "RBRACE"), key := Value.str (Str.ofString "RBRACE") 264, val := Value.int 26 263 } :: { hash := PyData.keyHash P (Str.ofString "EQEQUAL"), key := Value.str (Str.ofString "EQEQUAL") 266, val := Value.int 27 265 } :: { hash := PyData.keyHash P (Str.ofString "NOTEQUAL"), key := Value.str (Str.ofString "NOTEQUAL") 268, val := Value.int 28 267 } :: { hash := PyData.keyHash P (Str.ofString "LESSEQUAL"), key := Value.str (Str.ofString "LESSEQUAL") 270, val := Value.int 29 269 } :: { hash := PyData.keyHash P (Str.ofString "GREATEREQUAL"), key := Value.str (Str.ofString "GREATEREQUAL") 272, val := Value.int 30 271 } :: { hash := PyData.keyHash P (Str.ofString "TILDE"), key := Value.str (Str.ofString "TILDE") 274, val := Value.int 31 273 } :: { hash := PyData.keyHash P (Str.ofString "CIRCUMFLEX"), key := Value.str (Str.ofString "CIRCUMFLEX") 276, val := Value.int 32 275 } :: { hash := PyData.keyHash P (Str.ofString "LEFTSHIFT"), key := Value.str (Str.ofString "LEFTSHIFT") 278, val := Value.int 33 277 } :: { hash := PyData.keyHash P (Str.ofString "RIGHTSHIFT"), key := Value.str (Str.ofString "RIGHTSHIFT") 280, val := Value.int 34 279 } :: { hash := PyData.keyHash P (Str.ofString "DOUBLESTAR"), key := Value.str (Str.ofString "DOUBLESTAR") 282, val := Value.int 35 281 } :: { hash := PyData.keyHash P (Str.ofString "PLUSEQUAL"), key := Value.str (Str.ofString "PLUSEQUAL") 284, val := Value.int 36 283 } :: { hash := PyData.keyHash P (Str.ofString "MINEQUAL"), key := Value.str (Str.ofString "MINEQUAL") 286, val := Value.int 37 285 } :: { hash := PyData.keyHash P (Str.ofString "STAREQUAL"), key := Value.str (Str.ofString "STAREQUAL") 288, val := Value.int 38 287 } :: { hash := PyData.keyHash P (Str.ofString "SLASHEQUAL"), key := Value.str (Str.ofString "SLASHEQUAL") 290, val := Value.int 39 289 } :: { hash := PyData.keyHash P (Str.ofString "PERCENTEQUAL"), key := Value.str (Str.ofString "PERCENTEQUAL") 292, val := Value.int 40 291 } :: { hash := PyData.keyHash P (Str.ofString "AMPEREQUAL"), key := Value.str (Str.ofString "AMPEREQUAL") 294, val := Value.int 41 293 } :: { hash := PyData.keyHash P (Str.ofString "VBAREQUAL"), key := Value.str (Str.ofString "VBAREQUAL") 296, val := Value.int 42 295 } :: { hash := PyData.keyHash P (Str.ofString "CIRCUMFLEXEQUAL"), key := Value.str (Str.ofString "CIRCUMFLEXEQUAL") 298, val := Value.int 43 297 } :: { hash := PyData.keyHash P (Str.ofString "LEFTSHIFTEQUAL"), key := Value.str (Str.ofString "LEFTSHIFTEQUAL") 300, val := Value.int 44 299 } :: { hash := PyData.keyHash P (Str.ofString "RIGHTSHIFTEQUAL"), key := Value.str (Str.ofString "RIGHTSHIFTEQUAL") 302, val := Value.int 45 301 } :: { hash := PyData.keyHash P (Str.ofString "DOUBLESTAREQUAL"), key := Value.str (Str.ofString "DOUBLESTAREQUAL") 304, val := Value.int 46 303 } :: { hash := PyData.keyHash P (Str.ofString "DOUBLESLASH"), key := Value.str (Str.ofString "DOUBLESLASH") 306, val := Value.int 47 305 } :: { hash := PyData.keyHash P (Str.ofString "DOUBLESLASHEQUAL"), key := Value.str (Str.ofString "DOUBLESLASHEQUAL") 308, val := Value.int 48 307 } :: { hash := PyData.keyHash P (Str.ofString "AT"), key := Value.str (Str.ofString "AT") 310, val := Value.int 49 309 } :: { hash := PyData.keyHash P (Str.ofString "ATEQUAL"), key := Value.str (Str.ofString "ATEQUAL") 312, val := Value.int 50 311 } :: { hash := PyData.keyHash P (Str.ofString "RARROW"), key := Value.str (Str.ofString "RARROW") 314, val := Value.int 51 313 } :: { hash := PyData.keyHash P (Str.ofString "ELLIPSIS"), key := Value.str (Str.ofString "ELLIPSIS") 316, val := Value.int 52 315 } :: { hash := PyData.keyHash P (Str.ofString "COLONEQUAL"), key := Value.str (Str.ofString "COLONEQUAL") 318, val := Value.int 53 317 } :: { hash := PyData.keyHash P (Str.ofString "EXCLAMATION"), key := Value.str (Str.ofString "EXCLAMATION") 320, val := Value.int 54 319 } :: { hash := PyData.keyHash P (Str.ofString "NT_OFFSET"), key := Value.str (Str.ofString "NT_OFFSET") 322, val := Value.int 256 321 } :: { hash := PyData.keyHash P (Str.ofString "EXACT_TOKEN_TYPES"), key := Value.str (Str.ofString "EXACT_TOKEN_TYPES") 419, val := Value.ref 29 } :: { hash := PyData.keyHash P (Str.ofString "ISTERMINAL"), key := Value.str (Str.ofString "ISTERMINAL") 426, val := Value.ref 38 } :: { hash := PyData.keyHash P (Str.ofString "ISNONTERMINAL"), key := Value.str (Str.ofString "ISNONTERMINAL") 433, val := Value.ref 45 } :: { hash := PyData.keyHash P (Str.ofString "ISEOF"), key := Value.str (Str.ofString "ISEOF") 440, val := Value.ref 52 } :: { hash := PyData.keyHash P (Str.ofString "_raise_serialization_error"), key := Value.str (Str.ofString "_raise_serialization_error") 449, val := Value.ref 59 } :: { hash := PyData.keyHash P (Str.ofString "_escape_cdata"), key := Value.str (Str.ofString "_escape_cdata") 456, val := Value.ref 66 } :: { hash := PyData.keyHash P (Str.ofString "_escape_attrib"), key := Value.str (Str.ofString "_escape_attrib") 463, val := Value.ref 73 } :: { hash := PyData.keyHash P (Str.ofString "_escape_cdata_c14n"), key := Value.str (Str.ofString "_escape_cdata_c14n") 470, val := Value.ref 80 } :: { hash := PyData.keyHash P (Str.ofString "_law_heaps"), key := Value.str (Str.ofString "_law_heaps") 481, val := Value.ref 87 } :: { hash := PyData.keyHash P (Str.ofString "_law_written"), key := Value.str (Str.ofString "_law_written") 489, val := Value.ref 94 } :: { hash := PyData.keyHash P (Str.ofString "_law_spelled"), key := Value.str (Str.ofString "_law_spelled") 495, val := Value.ref 99 } :: { hash := PyData.keyHash P (Str.ofString "_law_derived"), key := Value.str (Str.ofString "_law_derived") 505, val := Value.ref 106 } :: { hash := PyData.keyHash P (Str.ofString "_law_crossings"), key := Value.str (Str.ofString "_law_crossings") 517, val := Value.ref 113 } :: { hash := PyData.keyHash P (Str.ofString "_law_struck"), key := Value.str (Str.ofString "_law_struck") 526, val := Value.ref 120 } :: { hash := PyData.keyHash P (Str.ofString "_law_mirrors"), key := Value.str (Str.ofString "_law_mirrors") 547, val := Value.ref 127 } :: { hash := PyData.keyHash P (Str.ofString "_law_kept"), key := Value.str (Str.ofString "_law_kept") 562, val := Value.ref 134 } :: { hash := PyData.keyHash P (Str.ofString "_law_common"), key := Value.str (Str.ofString "_law_common") 570, val := Value.ref 141 } :: { hash := PyData.keyHash P (Str.ofString "_law_table"), key := Value.str (Str.ofString "_law_table") 587, val := Value.ref 148 } :: { hash := PyData.keyHash P (Str.ofString "_law_due"), key := Value.str (Str.ofString "_law_due") 600, val := Value.ref 155 } :: { hash := PyData.keyHash P (Str.ofString "law"), key := Value.str (Str.ofString "law") 606, val := Value.ref 160 } :: [])) 81 }
noncomputable def o_159 (P : Params) : Obj := { cls := Value.none, data := Data.fields (List.toArray (Value.int 2 0 :: Value.int 0 0 :: Value.ref 20 :: Value.int 21 0 :: Value.int 0 0 :: Value.ref 27 :: Value.int 94 0 :: Value.int 0 0 :: Value.ref 37 :: Value.int 96 0 :: Value.int 0 0 :: Value.ref 44 :: Value.int 98 0 :: Value.int 0 0 :: Value.ref 51 :: Value.int 101 0 :: Value.int 0 0 :: Value.ref 58 :: Value.int 103 0 :: Value.int 0 0 :: Value.ref 65 :: Value.int 114 0 :: Value.int 0 0 :: Value.ref 72 :: Value.int 133 0 :: Value.int 0 0 :: Value.ref 79 :: Value.int 147 0 :: Value.int 0 0 :: Value.ref 86 :: Value.int 152 0 :: Value.int 0 0 :: Value.ref 93 :: Value.int 158 0 :: Value.int 0 0 :: Value.ref 98 :: Value.int 161 0 :: Value.int 0 0 :: Value.ref 105 :: Value.int 175 0 :: Value.int 0 0 :: Value.ref 112 :: Value.int 198 0 :: Value.int 0 0 :: Value.ref 119 :: Value.int 206 0 :: Value.int 0 0 :: Value.ref 126 :: Value.int 221 0 :: Value.int 0 0 :: Value.ref 133 :: Value.int 238 0 :: Value.int 0 0 :: Value.ref 140 :: Value.int 243 0 :: Value.int 0 0 :: Value.ref 147 :: Value.int 251 0 :: Value.int 0 0 :: Value.ref 154 :: Value.int 258 0 :: Value.int 0 0 :: Value.ref 159 :: [])) }
noncomputable def o_160 (P : Params) : Obj := { cls := Value.type "tuple", data := Data.seq #[] }
noncomputable def o_161 (P : Params) : Obj := { cls := Value.none, data := Data.fields #[] }
noncomputable def o_162 (P : Params) : Obj := { cls := Value.type "tuple", data := Data.seq (List.toArray (Value.str (Str.ofString "crossings") 521 :: Value.str (Str.ofString "pile") 522 :: Value.str (Str.ofString "one") 523 :: [])) }
noncomputable def o_163 (P : Params) : Obj := { cls := Value.type "tuple", data := Data.seq #[] }
noncomputable def o_164 (P : Params) : Obj := { cls := Value.none, data := Data.func { name := Str.ofString "_law_struck", qualname := Str.ofString "_law_struck", params := d120.1, body := FuncBody.stmts d120.2.1, scope := d120.2.2, globals := 0, closure := [], defaults := Value.none, kwdefaults := Value.none } }
noncomputable def o_165 (P : Params) : Obj := { cls := Value.type "code", data := Data.fields (List.toArray (Value.str (Str.ofString "_law_struck") 518 :: Value.str (Str.ofString "_law_struck") 519 :: Value.str (Str.ofString "/claim/cut.py") 520 :: Value.int 198 0 :: Value.int 1 0 :: Value.int 0 0 :: Value.int 0 0 :: Value.int 3 0 :: Value.ref 114 :: Value.bool true :: Value.int 181 0 :: Value.ref 115 :: Value.none :: Value.ref 116 :: Value.ref 117 :: Value.ref 118 :: Value.int 524 0 :: Value.int 198 0 :: Value.str (Str.ofString "/claim/cut.py") 525 :: [])) }
noncomputable def o_166 (P : Params) : Obj := { cls := Value.type "function", data := Data.func { name := Str.ofString "_law_struck", qualname := Str.ofString "_law_struck", params := d120.1, body := FuncBody.stmts d120.2.1, scope := d120.2.2, globals := 3, closure := [], defaults := Value.none, kwdefaults := Value.none, pyModule := Value.str (Str.ofString "law_ty0033_01") 471, code := Value.ref 119 } }
noncomputable def o_167 (P : Params) : Obj := { cls := Value.type "tuple", data := Data.seq #[] }
noncomputable def o_168 (P : Params) : Obj := { cls := Value.none, data := Data.fields #[] }
noncomputable def o_169 (P : Params) : Obj := { cls := Value.type "tuple", data := Data.seq (List.toArray (Value.str (Str.ofString "turn") 530 :: Value.str (Str.ofString "share") 531 :: Value.str (Str.ofString "level") 532 :: Value.str (Str.ofString "rows") 533 :: Value.str (Str.ofString "under") 534 :: Value.str (Str.ofString "red") 535 :: Value.str (Str.ofString "green") 536 :: Value.str (Str.ofString "blue") 537 :: Value.str (Str.ofString "hue") 538 :: Value.str (Str.ofString "part") 539 :: Value.str (Str.ofString "top") 540 :: Value.str (Str.ofString "row") 541 :: Value.str (Str.ofString "over") 542 :: Value.str (Str.ofString "told") 543 :: Value.str (Str.ofString "place") 544 :: [])) }
noncomputable def o_170 (P : Params) : Obj := { cls := Value.type "tuple", data := Data.seq #[] }
noncomputable def o_171 (P : Params) : Obj := { cls := Value.none, data := Data.func { name := Str.ofString "_law_mirrors", qualname := Str.ofString "_law_mirrors", params := d127.1, body := FuncBody.stmts d127.2.1, scope := d127.2.2, globals := 0, closure := [], defaults := Value.none, kwdefaults := Value.none } }
noncomputable def o_172 (P : Params) : Obj := { cls := Value.type "code", data := Data.fields (List.toArray (Value.str (Str.ofString "_law_mirrors") 527 :: Value.str (Str.ofString "_law_mirrors") 528 :: Value.str (Str.ofString "/claim/cut.py") 529 :: Value.int 206 0 :: Value.int 3 0 :: Value.int 0 0 :: Value.int 0 0 :: Value.int 3 0 :: Value.ref 121 :: Value.bool true :: Value.int 181 0 :: Value.ref 122 :: Value.none :: Value.ref 123 :: Value.ref 124 :: Value.ref 125 :: Value.int 545 0 :: Value.int 206 0 :: Value.str (Str.ofString "/claim/cut.py") 546 :: [])) }
noncomputable def o_173 (P : Params) : Obj := { cls := Value.type "function", data := Data.func { name := Str.ofString "_law_mirrors", qualname := Str.ofString "_law_mirrors", params := d127.1, body := FuncBody.stmts d127.2.1, scope := d127.2.2, globals := 3, closure := [], defaults := Value.none, kwdefaults := Value.none, pyModule := Value.str (Str.ofString "law_ty0033_01") 471, code := Value.ref 126 } }
noncomputable def o_174 (P : Params) : Obj := { cls := Value.type "tuple", data := Data.seq #[] }
noncomputable def o_175 (P : Params) : Obj := { cls := Value.none, data := Data.fields #[] }
noncomputable def o_176 (P : Params) : Obj := { cls := Value.type "tuple", data := Data.seq (List.toArray (Value.str (Str.ofString "crossings") 551 :: Value.str (Str.ofString "mirrors") 552 :: Value.str (Str.ofString "kept") 553 :: Value.str (Str.ofString "second") 554 :: Value.str (Str.ofString "third") 555 :: Value.str (Str.ofString "one") 556 :: Value.str (Str.ofString "two") 557 :: Value.str (Str.ofString "three") 558 :: Value.str (Str.ofString "crossing") 559 :: [])) }
noncomputable def o_177 (P : Params) : Obj := { cls := Value.type "tuple", data := Data.seq #[] }
noncomputable def o_178 (P : Params) : Obj := { cls := Value.none, data := Data.func { name := Str.ofString "_law_kept", qualname := Str.ofString "_law_kept", params := d134.1, body := FuncBody.stmts d134.2.1, scope := d134.2.2, globals := 0, closure := [], defaults := Value.none, kwdefaults := Value.none } }
noncomputable def o_179 (P : Params) : Obj := { cls := Value.type "code", data := Data.fields (List.toArray (Value.str (Str.ofString "_law_kept") 548 :: Value.str (Str.ofString "_law_kept") 549 :: Value.str (Str.ofString "/claim/cut.py") 550 :: Value.int 221 0 :: Value.int 2 0 :: Value.int 0 0 :: Value.int 0 0 :: Value.int 3 0 :: Value.ref 128 :: Value.bool true :: Value.int 181 0 :: Value.ref 129 :: Value.none :: Value.ref 130 :: Value.ref 131 :: Value.ref 132 :: Value.int 560 0 :: Value.int 221 0 :: Value.str (Str.ofString "/claim/cut.py") 561 :: [])) }
noncomputable def o_180 (P : Params) : Obj := { cls := Value.type "function", data := Data.func { name := Str.ofString "_law_kept", qualname := Str.ofString "_law_kept", params := d134.1, body := FuncBody.stmts d134.2.1, scope := d134.2.2, globals := 3, closure := [], defaults := Value.none, kwdefaults := Value.none, pyModule := Value.str (Str.ofString "law_ty0033_01") 471, code := Value.ref 133 } }
noncomputable def o_181 (P : Params) : Obj := { cls := Value.type "tuple", data := Data.seq #[] }
noncomputable def o_182 (P : Params) : Obj := { cls := Value.none, data := Data.fields #[] }
noncomputable def o_183 (P : Params) : Obj := { cls := Value.type "tuple", data := Data.seq (List.toArray (Value.str (Str.ofString "one") 566 :: Value.str (Str.ofString "other") 567 :: [])) }
noncomputable def o_184 (P : Params) : Obj := { cls := Value.type "tuple", data := Data.seq #[] }
noncomputable def o_185 (P : Params) : Obj := { cls := Value.none, data := Data.func { name := Str.ofString "_law_common", qualname := Str.ofString "_law_common", params := d141.1, body := FuncBody.stmts d141.2.1, scope := d141.2.2, globals := 0, closure := [], defaults := Value.none, kwdefaults := Value.none } }
noncomputable def o_186 (P : Params) : Obj := { cls := Value.type "code", data := Data.fields (List.toArray (Value.str (Str.ofString "_law_common") 563 :: Value.str (Str.ofString "_law_common") 564 :: Value.str (Str.ofString "/claim/cut.py") 565 :: Value.int 238 0 :: Value.int 2 0 :: Value.int 0 0 :: Value.int 0 0 :: Value.int 3 0 :: Value.ref 135 :: Value.bool true :: Value.int 181 0 :: Value.ref 136 :: Value.none :: Value.ref 137 :: Value.ref 138 :: Value.ref 139 :: Value.int 568 0 :: Value.int 238 0 :: Value.str (Str.ofString "/claim/cut.py") 569 :: [])) }
noncomputable def o_187 (P : Params) : Obj := { cls := Value.type "function", data := Data.func { name := Str.ofString "_law_common", qualname := Str.ofString "_law_common", params := d141.1, body := FuncBody.stmts d141.2.1, scope := d141.2.2, globals := 3, closure := [], defaults := Value.none, kwdefaults := Value.none, pyModule := Value.str (Str.ofString "law_ty0033_01") 471, code := Value.ref 140 } }
noncomputable def o_188 (P : Params) : Obj := { cls := Value.type "tuple", data := Data.seq #[] }
noncomputable def o_189 (P : Params) : Obj := { cls := Value.none, data := Data.fields #[] }
noncomputable def o_190 (P : Params) : Obj := { cls := Value.type "tuple", data := Data.seq (List.toArray (Value.str (Str.ofString "rules") 574 :: Value.str (Str.ofString "symbol") 575 :: Value.str (Str.ofString "a") 576 :: Value.str (Str.ofString "b") 577 :: Value.str (Str.ofString "c") 578 :: Value.str (Str.ofString "d") 579 :: Value.str (Str.ofString "part") 580 :: Value.str (Str.ofString "p") 581 :: Value.str (Str.ofString "q") 582 :: Value.str (Str.ofString "r") 583 :: Value.str (Str.ofString "s") 584 :: [])) }
noncomputable def o_191 (P : Params) : Obj := { cls := Value.type "tuple", data := Data.seq #[] }
noncomputable def o_192 (P : Params) : Obj := { cls := Value.none, data := Data.func { name := Str.ofString "_law_table", qualname := Str.ofString "_law_table", params := d148.1, body := FuncBody.stmts d148.2.1, scope := d148.2.2, globals := 0, closure := [], defaults := Value.none, kwdefaults := Value.none } }
noncomputable def o_193 (P : Params) : Obj := { cls := Value.type "code", data := Data.fields (List.toArray (Value.str (Str.ofString "_law_table") 571 :: Value.str (Str.ofString "_law_table") 572 :: Value.str (Str.ofString "/claim/cut.py") 573 :: Value.int 243 0 :: Value.int 2 0 :: Value.int 0 0 :: Value.int 0 0 :: Value.int 3 0 :: Value.ref 142 :: Value.bool true :: Value.int 181 0 :: Value.ref 143 :: Value.none :: Value.ref 144 :: Value.ref 145 :: Value.ref 146 :: Value.int 585 0 :: Value.int 243 0 :: Value.str (Str.ofString "/claim/cut.py") 586 :: [])) }
noncomputable def o_194 (P : Params) : Obj := { cls := Value.type "function", data := Data.func { name := Str.ofString "_law_table", qualname := Str.ofString "_law_table", params := d148.1, body := FuncBody.stmts d148.2.1, scope := d148.2.2, globals := 3, closure := [], defaults := Value.none, kwdefaults := Value.none, pyModule := Value.str (Str.ofString "law_ty0033_01") 471, code := Value.ref 147 } }
noncomputable def o_195 (P : Params) : Obj := { cls := Value.type "tuple", data := Data.seq #[] }
noncomputable def o_196 (P : Params) : Obj := { cls := Value.none, data := Data.fields #[] }
noncomputable def o_197 (P : Params) : Obj := { cls := Value.type "tuple", data := Data.seq (List.toArray (Value.str (Str.ofString "rules") 591 :: Value.str (Str.ofString "a") 592 :: Value.str (Str.ofString "b") 593 :: Value.str (Str.ofString "c") 594 :: Value.str (Str.ofString "d") 595 :: Value.str (Str.ofString "first") 596 :: Value.str (Str.ofString "second") 597 :: [])) }
noncomputable def o_198 (P : Params) : Obj := { cls := Value.type "tuple", data := Data.seq #[] }
noncomputable def o_199 (P : Params) : Obj := { cls := Value.none, data := Data.func { name := Str.ofString "_law_due", qualname := Str.ofString "_law_due", params := d155.1, body := FuncBody.stmts d155.2.1, scope := d155.2.2, globals := 0, closure := [], defaults := Value.none, kwdefaults := Value.none } }
noncomputable def o_200 (P : Params) : Obj := { cls := Value.type "code", data := Data.fields (List.toArray (Value.str (Str.ofString "_law_due") 588 :: Value.str (Str.ofString "_law_due") 589 :: Value.str (Str.ofString "/claim/cut.py") 590 :: Value.int 251 0 :: Value.int 1 0 :: Value.int 0 0 :: Value.int 0 0 :: Value.int 3 0 :: Value.ref 149 :: Value.bool true :: Value.int 181 0 :: Value.ref 150 :: Value.none :: Value.ref 151 :: Value.ref 152 :: Value.ref 153 :: Value.int 598 0 :: Value.int 251 0 :: Value.str (Str.ofString "/claim/cut.py") 599 :: [])) }
noncomputable def o_201 (P : Params) : Obj := { cls := Value.type "function", data := Data.func { name := Str.ofString "_law_due", qualname := Str.ofString "_law_due", params := d155.1, body := FuncBody.stmts d155.2.1, scope := d155.2.2, globals := 3, closure := [], defaults := Value.none, kwdefaults := Value.none, pyModule := Value.str (Str.ofString "law_ty0033_01") 471, code := Value.ref 154 } }
noncomputable def o_202 (P : Params) : Obj := { cls := Value.type "tuple", data := Data.seq #[] }
noncomputable def o_203 (P : Params) : Obj := { cls := Value.none, data := Data.fields #[] }
noncomputable def o_204 (P : Params) : Obj := { cls := Value.none, data := Data.func { name := Str.ofString "law", qualname := Str.ofString "law", params := d160.1, body := FuncBody.stmts d160.2.1, scope := d160.2.2, globals := 0, closure := [], defaults := Value.none, kwdefaults := Value.none } }
noncomputable def o_205 (P : Params) : Obj := { cls := Value.type "code", data := Data.fields (List.toArray (Value.str (Str.ofString "law") 601 :: Value.str (Str.ofString "law") 602 :: Value.str (Str.ofString "/claim/cut.py") 603 :: Value.int 258 0 :: Value.int 1 0 :: Value.int 0 0 :: Value.int 0 0 :: Value.int 3 0 :: Value.ref 156 :: Value.bool true :: Value.int 181 0 :: Value.ref 157 :: Value.none :: Value.none :: Value.none :: Value.ref 158 :: Value.int 604 0 :: Value.int 258 0 :: Value.str (Str.ofString "/claim/cut.py") 605 :: [])) }
noncomputable def o_206 (P : Params) : Obj := { cls := Value.type "function", data := Data.func { name := Str.ofString "law", qualname := Str.ofString "law", params := d160.1, body := FuncBody.stmts d160.2.1, scope := d160.2.2, globals := 3, closure := [], defaults := Value.none, kwdefaults := Value.none, pyModule := Value.str (Str.ofString "law_ty0033_01") 471, code := Value.ref 159 } }
noncomputable def tree_65 (P : Params) : BT := (.node (boot_o_0 P) (.node (boot_o_1 P) (.node (o_65 P) (.node (boot_o_7 P) (.node (o_51 P) .nil .nil) (.node (o_59 P) .nil .nil)) (.node (o_43 P) (.node (o_55 P) .nil .nil) (.node (o_63 P) .nil .nil))) (.node (boot_o_5 P) (.node (boot_o_9 P) (.node (o_53 P) .nil .nil) (.node (o_61 P) .nil .nil)) (.node (o_45 P) (.node (o_57 P) .nil .nil) .nil))) (.node (boot_o_2 P) (.node (boot_o_4 P) (.node (boot_o_8 P) (.node (o_52 P) .nil .nil) (.node (o_60 P) .nil .nil)) (.node (o_50 P) (.node (o_56 P) .nil .nil) (.node (o_64 P) .nil .nil))) (.node (boot_o_6 P) (.node (boot_o_10 P) (.node (o_54 P) .nil .nil) (.node (o_62 P) .nil .nil)) (.node (o_46 P) (.node (o_58 P) .nil .nil) .nil))))
noncomputable def tree_206 (P : Params) : BT := (.node (boot_o_0 P) (.node (boot_o_1 P) (.node (o_158 P) (.node (boot_o_7 P) (.node (o_51 P) (.node (o_70 P) (.node (o_107 P) (.node (o_173 P) .nil .nil) .nil) (.node (o_139 P) (.node (o_205 P) .nil .nil) .nil)) (.node (o_91 P) (.node (o_123 P) (.node (o_189 P) .nil .nil) .nil) (.node (o_155 P) .nil .nil))) (.node (o_59 P) (.node (o_83 P) (.node (o_115 P) (.node (o_181 P) .nil .nil) .nil) (.node (o_147 P) .nil .nil)) (.node (o_99 P) (.node (o_131 P) (.node (o_197 P) .nil .nil) .nil) (.node (o_165 P) .nil .nil)))) (.node (o_43 P) (.node (o_55 P) (.node (o_79 P) (.node (o_111 P) (.node (o_177 P) .nil .nil) .nil) (.node (o_143 P) .nil .nil)) (.node (o_95 P) (.node (o_127 P) (.node (o_193 P) .nil .nil) .nil) (.node (o_161 P) .nil .nil))) (.node (o_63 P) (.node (o_87 P) (.node (o_119 P) (.node (o_185 P) .nil .nil) .nil) (.node (o_151 P) .nil .nil)) (.node (o_103 P) (.node (o_135 P) (.node (o_201 P) .nil .nil) .nil) (.node (o_169 P) .nil .nil))))) (.node (boot_o_5 P) (.node (boot_o_9 P) (.node (o_53 P) (.node (o_77 P) (.node (o_109 P) (.node (o_175 P) .nil .nil) .nil) (.node (o_141 P) .nil .nil)) (.node (o_93 P) (.node (o_125 P) (.node (o_191 P) .nil .nil) .nil) (.node (o_157 P) .nil .nil))) (.node (o_61 P) (.node (o_85 P) (.node (o_117 P) (.node (o_183 P) .nil .nil) .nil) (.node (o_149 P) .nil .nil)) (.node (o_101 P) (.node (o_133 P) (.node (o_199 P) .nil .nil) .nil) (.node (o_167 P) .nil .nil)))) (.node (o_45 P) (.node (o_57 P) (.node (o_81 P) (.node (o_113 P) (.node (o_179 P) .nil .nil) .nil) (.node (o_145 P) .nil .nil)) (.node (o_97 P) (.node (o_129 P) (.node (o_195 P) .nil .nil) .nil) (.node (o_163 P) .nil .nil))) (.node (o_68 P) (.node (o_89 P) (.node (o_121 P) (.node (o_187 P) .nil .nil) .nil) (.node (o_153 P) .nil .nil)) (.node (o_105 P) (.node (o_137 P) (.node (o_203 P) .nil .nil) .nil) (.node (o_171 P) .nil .nil)))))) (.node (boot_o_2 P) (.node (boot_o_4 P) (.node (boot_o_8 P) (.node (o_52 P) (.node (o_76 P) (.node (o_108 P) (.node (o_174 P) .nil .nil) .nil) (.node (o_140 P) (.node (o_206 P) .nil .nil) .nil)) (.node (o_92 P) (.node (o_124 P) (.node (o_190 P) .nil .nil) .nil) (.node (o_156 P) .nil .nil))) (.node (o_60 P) (.node (o_84 P) (.node (o_116 P) (.node (o_182 P) .nil .nil) .nil) (.node (o_148 P) .nil .nil)) (.node (o_100 P) (.node (o_132 P) (.node (o_198 P) .nil .nil) .nil) (.node (o_166 P) .nil .nil)))) (.node (o_159 P) (.node (o_56 P) (.node (o_80 P) (.node (o_112 P) (.node (o_178 P) .nil .nil) .nil) (.node (o_144 P) .nil .nil)) (.node (o_96 P) (.node (o_128 P) (.node (o_194 P) .nil .nil) .nil) (.node (o_162 P) .nil .nil))) (.node (o_64 P) (.node (o_88 P) (.node (o_120 P) (.node (o_186 P) .nil .nil) .nil) (.node (o_152 P) .nil .nil)) (.node (o_104 P) (.node (o_136 P) (.node (o_202 P) .nil .nil) .nil) (.node (o_170 P) .nil .nil))))) (.node (boot_o_6 P) (.node (boot_o_10 P) (.node (o_54 P) (.node (o_78 P) (.node (o_110 P) (.node (o_176 P) .nil .nil) .nil) (.node (o_142 P) .nil .nil)) (.node (o_94 P) (.node (o_126 P) (.node (o_192 P) .nil .nil) .nil) (.node (o_160 P) .nil .nil))) (.node (o_62 P) (.node (o_86 P) (.node (o_118 P) (.node (o_184 P) .nil .nil) .nil) (.node (o_150 P) .nil .nil)) (.node (o_102 P) (.node (o_134 P) (.node (o_200 P) .nil .nil) .nil) (.node (o_168 P) .nil .nil)))) (.node (o_46 P) (.node (o_58 P) (.node (o_82 P) (.node (o_114 P) (.node (o_180 P) .nil .nil) .nil) (.node (o_146 P) .nil .nil)) (.node (o_98 P) (.node (o_130 P) (.node (o_196 P) .nil .nil) .nil) (.node (o_164 P) .nil .nil))) (.node (o_69 P) (.node (o_90 P) (.node (o_122 P) (.node (o_188 P) .nil .nil) .nil) (.node (o_154 P) .nil .nil)) (.node (o_106 P) (.node (o_138 P) (.node (o_204 P) .nil .nil) .nil) (.node (o_172 P) .nil .nil)))))))
noncomputable def tree_64 (P : Params) : BT := (.node (boot_o_0 P) (.node (boot_o_1 P) (.node (o_49 P) (.node (boot_o_7 P) (.node (o_51 P) .nil .nil) (.node (o_59 P) .nil .nil)) (.node (o_43 P) (.node (o_55 P) .nil .nil) (.node (o_63 P) .nil .nil))) (.node (boot_o_5 P) (.node (boot_o_9 P) (.node (o_53 P) .nil .nil) (.node (o_61 P) .nil .nil)) (.node (o_45 P) (.node (o_57 P) .nil .nil) .nil))) (.node (boot_o_2 P) (.node (boot_o_4 P) (.node (boot_o_8 P) (.node (o_52 P) .nil .nil) (.node (o_60 P) .nil .nil)) (.node (o_50 P) (.node (o_56 P) .nil .nil) (.node (o_64 P) .nil .nil))) (.node (boot_o_6 P) (.node (boot_o_10 P) (.node (o_54 P) .nil .nil) (.node (o_62 P) .nil .nil)) (.node (o_46 P) (.node (o_58 P) .nil .nil) .nil))))
noncomputable def tree_47 (P : Params) : BT := (.node (boot_o_0 P) (.node (boot_o_1 P) (.node (boot_o_3 P) (.node (boot_o_7 P) .nil .nil) (.node (o_43 P) .nil .nil)) (.node (boot_o_5 P) (.node (boot_o_9 P) .nil .nil) (.node (o_45 P) .nil .nil))) (.node (boot_o_2 P) (.node (boot_o_4 P) (.node (boot_o_8 P) .nil .nil) (.node (o_44 P) .nil .nil)) (.node (boot_o_6 P) (.node (boot_o_10 P) .nil .nil) (.node (o_46 P) .nil .nil))))
noncomputable def tree_70 (P : Params) : BT := (.node (boot_o_0 P) (.node (boot_o_1 P) (.node (o_67 P) (.node (boot_o_7 P) (.node (o_51 P) (.node (o_70 P) .nil .nil) .nil) (.node (o_59 P) .nil .nil)) (.node (o_43 P) (.node (o_55 P) .nil .nil) (.node (o_63 P) .nil .nil))) (.node (boot_o_5 P) (.node (boot_o_9 P) (.node (o_53 P) .nil .nil) (.node (o_61 P) .nil .nil)) (.node (o_45 P) (.node (o_57 P) .nil .nil) (.node (o_68 P) .nil .nil)))) (.node (boot_o_2 P) (.node (boot_o_4 P) (.node (boot_o_8 P) (.node (o_52 P) .nil .nil) (.node (o_60 P) .nil .nil)) (.node (o_50 P) (.node (o_56 P) .nil .nil) (.node (o_64 P) .nil .nil))) (.node (boot_o_6 P) (.node (boot_o_10 P) (.node (o_54 P) .nil .nil) (.node (o_62 P) .nil .nil)) (.node (o_46 P) (.node (o_58 P) .nil .nil) (.node (o_69 P) .nil .nil)))))
noncomputable def tree_157 (P : Params) : BT := (.node (boot_o_0 P) (.node (boot_o_1 P) (.node (o_74 P) (.node (boot_o_7 P) (.node (o_51 P) (.node (o_70 P) (.node (o_107 P) .nil .nil) (.node (o_139 P) .nil .nil)) (.node (o_91 P) (.node (o_123 P) .nil .nil) (.node (o_155 P) .nil .nil))) (.node (o_59 P) (.node (o_83 P) (.node (o_115 P) .nil .nil) (.node (o_147 P) .nil .nil)) (.node (o_99 P) (.node (o_131 P) .nil .nil) .nil))) (.node (o_43 P) (.node (o_55 P) (.node (o_79 P) (.node (o_111 P) .nil .nil) (.node (o_143 P) .nil .nil)) (.node (o_95 P) (.node (o_127 P) .nil .nil) .nil)) (.node (o_63 P) (.node (o_87 P) (.node (o_119 P) .nil .nil) (.node (o_151 P) .nil .nil)) (.node (o_103 P) (.node (o_135 P) .nil .nil) .nil)))) (.node (boot_o_5 P) (.node (boot_o_9 P) (.node (o_53 P) (.node (o_77 P) (.node (o_109 P) .nil .nil) (.node (o_141 P) .nil .nil)) (.node (o_93 P) (.node (o_125 P) .nil .nil) (.node (o_157 P) .nil .nil))) (.node (o_61 P) (.node (o_85 P) (.node (o_117 P) .nil .nil) (.node (o_149 P) .nil .nil)) (.node (o_101 P) (.node (o_133 P) .nil .nil) .nil))) (.node (o_45 P) (.node (o_57 P) (.node (o_81 P) (.node (o_113 P) .nil .nil) (.node (o_145 P) .nil .nil)) (.node (o_97 P) (.node (o_129 P) .nil .nil) .nil)) (.node (o_68 P) (.node (o_89 P) (.node (o_121 P) .nil .nil) (.node (o_153 P) .nil .nil)) (.node (o_105 P) (.node (o_137 P) .nil .nil) .nil))))) (.node (boot_o_2 P) (.node (boot_o_4 P) (.node (boot_o_8 P) (.node (o_52 P) (.node (o_76 P) (.node (o_108 P) .nil .nil) (.node (o_140 P) .nil .nil)) (.node (o_92 P) (.node (o_124 P) .nil .nil) (.node (o_156 P) .nil .nil))) (.node (o_60 P) (.node (o_84 P) (.node (o_116 P) .nil .nil) (.node (o_148 P) .nil .nil)) (.node (o_100 P) (.node (o_132 P) .nil .nil) .nil))) (.node (o_75 P) (.node (o_56 P) (.node (o_80 P) (.node (o_112 P) .nil .nil) (.node (o_144 P) .nil .nil)) (.node (o_96 P) (.node (o_128 P) .nil .nil) .nil)) (.node (o_64 P) (.node (o_88 P) (.node (o_120 P) .nil .nil) (.node (o_152 P) .nil .nil)) (.node (o_104 P) (.node (o_136 P) .nil .nil) .nil)))) (.node (boot_o_6 P) (.node (boot_o_10 P) (.node (o_54 P) (.node (o_78 P) (.node (o_110 P) .nil .nil) (.node (o_142 P) .nil .nil)) (.node (o_94 P) (.node (o_126 P) .nil .nil) .nil)) (.node (o_62 P) (.node (o_86 P) (.node (o_118 P) .nil .nil) (.node (o_150 P) .nil .nil)) (.node (o_102 P) (.node (o_134 P) .nil .nil) .nil))) (.node (o_46 P) (.node (o_58 P) (.node (o_82 P) (.node (o_114 P) .nil .nil) (.node (o_146 P) .nil .nil)) (.node (o_98 P) (.node (o_130 P) .nil .nil) .nil)) (.node (o_69 P) (.node (o_90 P) (.node (o_122 P) .nil .nil) (.node (o_154 P) .nil .nil)) (.node (o_106 P) (.node (o_138 P) .nil .nil) .nil))))))
noncomputable def heap_207 (P : Params) : Heap := { objs := List.toArray (boot_o_0 P :: boot_o_1 P :: boot_o_2 P :: o_158 P :: boot_o_4 P :: boot_o_5 P :: boot_o_6 P :: boot_o_7 P :: boot_o_8 P :: boot_o_9 P :: boot_o_10 P :: o_43 P :: o_159 P :: o_45 P :: o_46 P :: o_51 P :: o_52 P :: o_53 P :: o_54 P :: o_55 P :: o_56 P :: o_57 P :: o_58 P :: o_59 P :: o_60 P :: o_61 P :: o_62 P :: o_63 P :: o_64 P :: o_68 P :: o_69 P :: o_70 P :: o_76 P :: o_77 P :: o_78 P :: o_79 P :: o_80 P :: o_81 P :: o_82 P :: o_83 P :: o_84 P :: o_85 P :: o_86 P :: o_87 P :: o_88 P :: o_89 P :: o_90 P :: o_91 P :: o_92 P :: o_93 P :: o_94 P :: o_95 P :: o_96 P :: o_97 P :: o_98 P :: o_99 P :: o_100 P :: o_101 P :: o_102 P :: o_103 P :: o_104 P :: o_105 P :: o_106 P :: o_107 P :: o_108 P :: o_109 P :: o_110 P :: o_111 P :: o_112 P :: o_113 P :: o_114 P :: o_115 P :: o_116 P :: o_117 P :: o_118 P :: o_119 P :: o_120 P :: o_121 P :: o_122 P :: o_123 P :: o_124 P :: o_125 P :: o_126 P :: o_127 P :: o_128 P :: o_129 P :: o_130 P :: o_131 P :: o_132 P :: o_133 P :: o_134 P :: o_135 P :: o_136 P :: o_137 P :: o_138 P :: o_139 P :: o_140 P :: o_141 P :: o_142 P :: o_143 P :: o_144 P :: o_145 P :: o_146 P :: o_147 P :: o_148 P :: o_149 P :: o_150 P :: o_151 P :: o_152 P :: o_153 P :: o_154 P :: o_155 P :: o_156 P :: o_157 P :: o_160 P :: o_161 P :: o_162 P :: o_163 P :: o_164 P :: o_165 P :: o_166 P :: o_167 P :: o_168 P :: o_169 P :: o_170 P :: o_171 P :: o_172 P :: o_173 P :: o_174 P :: o_175 P :: o_176 P :: o_177 P :: o_178 P :: o_179 P :: o_180 P :: o_181 P :: o_182 P :: o_183 P :: o_184 P :: o_185 P :: o_186 P :: o_187 P :: o_188 P :: o_189 P :: o_190 P :: o_191 P :: o_192 P :: o_193 P :: o_194 P :: o_195 P :: o_196 P :: o_197 P :: o_198 P :: o_199 P :: o_200 P :: o_201 P :: o_202 P :: o_203 P :: o_204 P :: o_205 P :: o_206 P :: []), life := {} }
noncomputable def heap_46 (P : Params) : Heap := { objs := List.toArray (boot_o_0 P :: boot_o_1 P :: boot_o_2 P :: boot_o_3 P :: boot_o_4 P :: boot_o_5 P :: boot_o_6 P :: boot_o_7 P :: boot_o_8 P :: boot_o_9 P :: boot_o_10 P :: o_43 P :: o_44 P :: o_45 P :: o_46 P :: []), life := {} }
abbrev Env0 : Env := { scope := Pr.main.scope, locals := mainNs, globals := mainNs, cells := [], code := .ref 13, frame := some 14 }
abbrev cE : Code := .body (behindTheImports Pr) Env0
abbrev ps (a b c d : Nat) : Pos := { line := a, col := b, endLine := c, endCol := d }
abbrev ST (t : Params → BT) (n k : Nat) (w : World) (os : OsState) : SharedT := { tree := t w.params, n := n, life := {}, gens := #[], drawn := {}, toks := k, os := os }
def st1 : List Stmt := ((behindTheImports Pr).drop 0).take 38
def st2 : List Stmt := ((behindTheImports Pr).drop 38).take 16
def st3 : List Stmt := ((behindTheImports Pr).drop 54).take 1
def st4 : List Stmt := ((behindTheImports Pr).drop 55).take 14
def st5 : List Stmt := ((behindTheImports Pr).drop 69).take 7
set_option maxRecDepth 100000
theorem cut : behindTheImports Pr = st1 ++ (st2 ++ (st3 ++ (st4 ++ (st5 ++ [])))) := by kernel_rfl
theorem pre (w : World) (os : OsState) : topGo treeTable Pr w 11 (some (.ref 6)) 12 { heap := boot_heap w.params, gens := #[], drawn := boot_drawn, toks := boot_toks, os := os } (topStub Pr) = some ({ heap := heap_46 w.params, gens := #[], drawn := {}, toks := 187, os := os }, { cur := denote treeTable cE, code := cE, pos := ps 0 0 0 0, stack := [topFrame (ps 0 0 0 0)] }) := by
  rw [PySem.W.Fast.te15667345088766844465, PySem.W.Fast.te14364793385576792824, PySem.W.Fast.te11892475500146522536]
  kernel_rfl
theorem block (w : World) (os : OsState) : segRun treeTable Pr w 11 (some (.ref 6)) 1 1 { heap := heap_46 w.params, gens := #[], drawn := {}, toks := 187, os := os } (blockOf (behindTheImports Pr) Env0 cE (ps 0 0 0 0) [topFrame (ps 0 0 0 0)]) = some (.next, (ST tree_47 15 187 w os).abs, cE, ps 0 0 0 0) := by
  unfold blockOf
  rw [PySem.W.Fast.te14374325043358763698, PySem.W.Fast.te14364793385576792824, PySem.W.Fast.te1066825118222455980]
  kernel_rfl
theorem g1 (w : World) (os : OsState) : segRunT treeTable Pr w 11 (some (.ref 6)) 1 401 (ST tree_47 15 187 w os) (piecesOf st1 Env0 cE (ps 0 0 0 0) [topFrame (ps 0 0 0 0)]) = some (.next, ST tree_64 29 291 w os, cE, ps 76 0 76 10) := by
  unfold piecesOf
  rw [PySem.W.Fast.te10110043849684766642, PySem.W.Fast.te12563942051412417395, PySem.W.Fast.te14364793385576792824]
  kernel_rfl
theorem g2 (w : World) (os : OsState) : segRunT treeTable Pr w 11 (some (.ref 6)) 1 145 (ST tree_64 29 291 w os) (piecesOf st2 Env0 cE (ps 76 0 76 10) [topFrame (ps 0 0 0 0)]) = some (.next, ST tree_65 29 323 w os, cE, ps 92 0 92 9) := by
  unfold piecesOf
  rw [PySem.W.Fast.te10110043849684766642, PySem.W.Fast.te12563942051412417395, PySem.W.Fast.te14364793385576792824]
  kernel_rfl
abbrev G3 (w : World) : Prop := ∀ os : OsState, segRunT treeTable Pr w 11 (some (.ref 6)) 1 979 (ST tree_65 29 323 w os) (piecesOf st3 Env0 cE (ps 92 0 92 9) [topFrame (ps 0 0 0 0)]) = some (.next, ST tree_70 32 420 w os, cE, ps 93 0 93 17)
theorem g3f (w : World) : G3 (w.withFollow "special-get-raises" false) := by
  intro os
  unfold piecesOf
  rw [PySem.W.Fast.te10110043849684766642, PySem.W.Fast.te12563942051412417395, PySem.W.Fast.te14364793385576792824]
  kernel_rfl
theorem g3t (w : World) : G3 (w.withFollow "special-get-raises" true) := by
  intro os
  unfold piecesOf
  rw [PySem.W.Fast.te10110043849684766642, PySem.W.Fast.te12563942051412417395, PySem.W.Fast.te14364793385576792824]
  kernel_rfl
theorem g3 (w : World) : G3 w := byRow2 "special-get-raises" (P := G3) g3f g3t w
theorem g4 (w : World) (os : OsState) : segRunT treeTable Pr w 11 (some (.ref 6)) 1 375 (ST tree_70 32 420 w os) (piecesOf st4 Env0 cE (ps 93 0 93 17) [topFrame (ps 0 0 0 0)]) = some (.next, ST tree_157 114 518 w os, cE, ps 175 0 197 20) := by
  unfold piecesOf
  rw [PySem.W.Fast.te10110043849684766642, PySem.W.Fast.te12563942051412417395, PySem.W.Fast.te14364793385576792824]
  kernel_rfl
theorem g5 (w : World) (os : OsState) : segRunT treeTable Pr w 11 (some (.ref 6)) 1 242 (ST tree_157 114 518 w os) (piecesOf st5 Env0 cE (ps 175 0 197 20) [topFrame (ps 0 0 0 0)]) = some (.next, ST tree_206 161 607 w os, cE, ps 258 0 283 82) := by
  unfold piecesOf
  rw [PySem.W.Fast.te10110043849684766642, PySem.W.Fast.te12563942051412417395, PySem.W.Fast.te14364793385576792824]
  kernel_rfl
theorem fin (w : World) (os : OsState) : topRun treeTable Pr w 11 (some (.ref 6)) 2 (ST tree_206 161 607 w os).abs { cur := doneF .next, code := cE, pos := ps 258 0 283 82, stack := [topFrame (ps 0 0 0 0)] } = some { heap := heap_207 w.params, gens := #[], drawn := {}, toks := 607, os := os } := by
  rw [PySem.W.Fast.te14082659384304107361, PySem.W.Fast.te14364793385576792824]
  kernel_rfl
theorem run_ (w : World) (os : OsState) : topRun treeTable Pr w 11 (some (.ref 6)) (12 + (1 + (401 + (145 + (979 + (375 + (242 + 2))))))) { heap := boot_heap w.params, gens := #[], drawn := boot_drawn, toks := boot_toks, os := os } (topStub Pr) = some { heap := heap_207 w.params, gens := #[], drawn := {}, toks := 607, os := os } :=
  go_top (pre w os) (piece_block (block w os) ((congrArg (fun l => topRun treeTable Pr w 11 (some (.ref 6)) (401 + (145 + (979 + (375 + (242 + 2))))) (ST tree_47 15 187 w os).abs (restOf l Env0 cE (ps 0 0 0 0) [topFrame (ps 0 0 0 0)])) cut).trans
    (piece_app (segRun_of (g1 w os)) (piece_app (segRun_of (g2 w os)) (piece_app (segRun_of (g3 w os)) (piece_app (segRun_of (g4 w os)) (piece_app (segRun_of (g5 w os)) (piece_nil (fin w os)))))))))
theorem opens (w : World) : (fencedOpening treeTable Pr w 4400).map (fun s => (s.heap, s.gens, s.drawn, s.toks)) = some (boot_heap w.params, #[], boot_drawn, boot_toks) :=
  boot_open (p := Pr) (N := 4400) (by kernel_rfl) (by kernel_rfl) (fun _ => by kernel_rfl) w
theorem size_ (w : World) : ((boot_heap w.params).isNs mainGlobals && (#[] : Array GenState).size == 0, (boot_heap w.params).objs.size, (boot_heap w.params).nsMap mainGlobals "__annotations__") = (true, 11, some (.ref 6)) := by kernel_rfl
noncomputable abbrev Sf (w : World) (os : OsState) : Shared := { heap := heap_207 w.params, gens := #[], drawn := {}, toks := 607, os := os }
theorem look1 (w : World) (os : OsState) : (staticsOk (importedModules Pr.main.body) (boot_heap w.params) (heap_207 w.params) && namesBound Pr (heap_207 w.params) && gensDone (Sf w os) && laidKept (boot_heap w.params) (heap_207 w.params)) = true := by kernel_rfl
theorem lk_1 (w : World) (os : OsState) : Fast.tw5160383126252970620 (R.mapR (fun x => x.name) (Fast.tw3399658132070893891 view_39)) (Fast.tw5991557255702980513 view_39) [] { heap := heap_207 w.params, gens := #[], drawn := {}, toks := 607, os := os } = expectedOf view_39 := by kernel_rfl
theorem lk_2 (w : World) : (heap_207 w.params).bltView = bltViewBooted := by kernel_rfl
theorem lk_3a (w : World) : Fast.tw10880121769531294198 (heap_207 w.params) (Fast.tw821141287760084731 view_39 loose) (R.mapR (fun x => x.name) (Fast.tw3399658132070893891 view_39)) (R.mapR (fun x => x.fst) (Fast.tw7409074990110511671 view_39)) (R.mapR (fun x => x.name) (Fast.tw13664370479719496447 view_39 (Fast.tw821141287760084731 view_39 loose))) = true := by kernel_rfl
theorem lk_3b (w : World) : Fast.tw14722251495701143533 (heap_207 w.params) (importedModules Pr.main.body) = true := by kernel_rfl
theorem lk_3c (w : World) : ((heap_207 w.params).isNs mainGlobals && (heap_207 w.params).isNs builtinsNs) = true := by kernel_rfl
theorem lk_3d (w : World) : Fast.tw10994771534591457954 view_39 (heap_207 w.params) = true := by kernel_rfl
theorem lk_3e (w : World) (os : OsState) : Xt (Sf w os) = true := by kernel_rfl
theorem lk_4 (w : World) (os : OsState) : Fast.tw479339242167458305 view_39 (Sf w os) = true := by kernel_rfl
theorem lk_5 (w : World) (os : OsState) : Fast.tw16090120013241838585 view_39 (Fast.tw3247288618530077131 view_39) (Sf w os) = pinGoodD (drecsOf view_39) := by kernel_rfl
theorem lk_6 (w : World) (os : OsState) : Fast.tw2386780881361962483 view_39 (Fast.tw821141287760084731 view_39 loose) (Sf w os) = plainGoodE view_39 (looseW view_39 loose) := by kernel_rfl
theorem lk_7 (w : World) (os : OsState) : Fast.tw11698064438423848299 view_39 loose (Sf w os) = plainGoodD view_39 loose := by kernel_rfl
theorem lk_8 (w : World) (os : OsState) : Fast.tw7317090234206586261 view_39 (Sf w os) = wideGood view_39 := by kernel_rfl
theorem lk_9 (w : World) (os : OsState) : Fast.tw7369524293546568484 view_39 loose (Sf w os) = clsGoodW view_39 loose := by kernel_rfl
theorem look2 (w : World) (os : OsState) : openSeen view_39 loose (importedModules Pr.main.body) Xt true (Sf w os) = openGood view_39 loose := by
  rw [PySem.W.Fast.te4187177175401517315]
  unfold openGood PySem.W.Fast.tw4187177175401517315
  refine Prod.ext ?_ (Prod.ext ?_ (Prod.ext ?_ (Prod.ext ?_ (Prod.ext ?_ (Prod.ext ?_ (Prod.ext ?_ (Prod.ext ?_ ?_)))))))
  all_goals dsimp only
  · exact lk_1 w os
  · exact lk_2 w
  · exact look_both (look_both (look_both (look_both (look_both (look_both (lk_3a w) (lk_3b w)) (Bool.and_eq_true_iff.mp (lk_3c w)).1) (Bool.and_eq_true_iff.mp (lk_3c w)).2) (lk_3d w)) (lk_3e w os)) rfl
  · exact lk_4 w os
  · exact lk_5 w os
  · exact lk_6 w os
  · exact lk_7 w os
  · exact lk_8 w os
  · exact lk_9 w os
theorem look3 (w : World) (os : OsState) : (kHook heap_39 addrs addrs_eq).obs (Sf w os) = (kHook heap_39 addrs addrs_eq).val w := by kernel_rfl
theorem left : LeftO Pr view_39 loose Xt (kHook heap_39 addrs addrs_eq).obs (kHook heap_39 addrs addrs_eq).val 4400 :=
  LeftO.of_pieces (H₀ := boot_heap) (H₁ := heap_207) (gs₀ := #[]) (gs₁ := #[]) (d₀ := boot_drawn) (d₁ := {}) (k₀ := boot_toks) (k₁ := 607) (m₀ := 11) (ann := some (.ref 6)) (M := 12 + (1 + (401 + (145 + (979 + (375 + (242 + 2))))))) opens size_ run_ rfl
    (fun w => funext fun os => Prod.ext (look1 w os) (Prod.ext (look2 w os) (look3 w os)))
theorem said : PySem.Challenge.rw_ty0033_01.wellSaid = true := by
  unfold OpenLaw.wellSaid OpenRow.wellSaid OpenRow.partSaid looksOpen
  rw [PySem.W.Fast.te11788848310118352699, PySem.W.Fast.te8377067652309620493, PySem.W.Fast.te18344453789297297638, PySem.W.Fast.te14412699480532031325, PySem.W.Fast.te17868728402115742887, PySem.W.Fast.te8179353310426384613, PySem.W.Fast.te8326940854005059898, PySem.W.Fast.te17119622794617984870, PySem.W.Fast.te797321630700447069, PySem.W.Fast.te10501279942588096481, PySem.W.Fast.te6984425678791042302, PySem.W.Fast.named_eq]
  repeat' (with_reducible refine look_both ?_ ?_)
  all_goals decide +kernel
theorem hd_of {d : DefRec} {kwd : List (Str × Expr)} (hdef : defOf view_39 PySem.Challenge.rw_ty0033_01.row.name = some (d, kwd))
    (hp : PySem.Challenge.rw_ty0033_01.row.prog.theDef PySem.Challenge.rw_ty0033_01.row.name = some (d.params, d.body, d.scope)) (hk : kwWritten? d.params.kwonlyargs d.params.kw_defaults = some kwd)
    (walk : WalkO view_39 [Str.ofString "EXACT_TOKEN_TYPES"] (XL view_39 []) (kHook heap_39 addrs addrs_eq).says PySem.Challenge.rw_ty0033_01.row.toRowW d kwd fun f vs => call f vs) : PySem.Challenge.rw_ty0033_01.Holds :=
  holds_law said fun k1 => holds_open (q := view_39) (loose := loose) (Xt := Xt) (XP := XL view_39 []) (N := 4400) left (Hook.of (kHook heap_39 addrs addrs_eq)) (Hook.keeps (kHook heap_39 addrs addrs_eq))
    (fun s e => xl_of s (Bool.and_eq_true_iff.mp e).1) XL.keeps hdef hp hk (fun s e => recFacts_of (Bool.and_eq_true_iff.mp e).2) rfl k1 (by decide +kernel) ⟨rfl, rfl, rfl, rfl, rfl, by decide +kernel⟩ (by w_witness2) walk
end Mine.hd
end
section
open PySem PySem.W PyProof.Rows
namespace Mine
/-- a contract of the def at address f: called with vs over a ledger news, it hands back r and makes tl -/
def Ctr (w : World) (mean : ExcName → Option Value) (mg mb : Str → Option Value) (f : Addr) (kd ku : Nat) (news : List (Addr × Obj)) (vs : List Value) (R : Value → List (Addr × Obj) → Prop) : Prop :=
  ∀ (dp un : Nat) (gd : Option (List Code)) (cn : Str) (cs : Scope) (a : Addr) (ccd : Value) (cl : List (Str × Addr)) (outer : List Env) (A₀ : Around) (base h₀ : Heap) (L : Addr) (m : Str → Option Value) (s : Shared) (Q E : Value → Shared → Prop),
    Below A₀ base outer h₀ → Fr h₀ L s.heap m → (Mine.hd.heap_39 w.params).In h₀ → News h₀ L s.heap news → Top Mine.hd.view_39 (looseW Mine.hd.view_39 [Str.ofString "EXACT_TOKEN_TYPES"]) mean mg mb h₀ → cs.kind = .function → dp + kd < recursionLimit → un + ku < cLine → 0 < s.toks →
    (∀ r tl h' tk', Fr h₀ L h' m → News h₀ L h' (tl ++ news) → (∀ q ∈ news, ∀ p ∈ tl, q.1 < p.1) → R r tl → 0 < tk' → Q r { s with heap := h', toks := tk' }) →
    wpAny (model PySem.Challenge.rw_ty0033_01.row.prog w) (ktrTop dp un gd cn cs L a ccd cl outer) (call (.ref f) vs) Q E s
/-- a goal laid aside: the walk does not go on in it -/
def Hold (P : Prop) : Prop := P
theorem hold {P : Prop} (h : Hold P) : P := h
theorem hold_out {P : Prop} (h : P) : Hold P := h
theorem my_while {σ : Type} {prog : Program} {w : World} {A : Around} {E : Value → Shared → Prop} {Q : Flow → Shared → Prop} {s : Shared} {env : Env} {h₀ : Heap} {L : Addr} {test : Expr} {body : List Stmt} {pos : Pos} {m₀ : Str → Option Value} (Led : σ → List (Addr × Obj)) (ps : σ → List (Str × Value)) (stored : List Str) (P : σ → Prop) (μ : σ → Nat) (c₀ : σ)
    (F : Fr h₀ L s.heap m₀) (N : News h₀ L s.heap (Led c₀)) (hk : ∀ p ∈ ps c₀, m₀ p.1 = some p.2) (hp : P c₀)
    (turn : ∀ (c : σ) (u : Str → Option Value) h tk, P c → Fr h₀ L h (kstB (fun z => if stored.contains z then u z else m₀ z) (ps c)) → News h₀ L h (Led c) →
      wpAny (model prog w) A (isTrue test env (eval test env)) (fun b s₂ =>
        if b = true then wpAny (model prog w) A (execs body env) (fun f s₃ => Hold (KswPost h₀ L s Led ps (fun _ => True) stored m₀ P μ Q c f s₃)) E s₂ else Q .next s₂) E { s with heap := h, toks := tk })
    (hE : PassesOwn (model prog w) A env E := by passes_own) :
    wpAny (model prog w) A (exec (.While test body [] pos) env) Q E s :=
  ksw_while Led ps (fun _ => True) stored P μ c₀ F N trivial hk hp (fun c u h tk _ hp F N => turn c u h tk hp F N) hE
section
variable {α : Type} {M : Model} {A : Around} {t : Sem α} {Q : α → Shared → Prop} {E : Value → Shared → Prop} {hp : Heap} {g : Array GenState} {d : Drawn} {os : OsState} {X Y : Nat}
theorem gen_toks (h0 : 0 < X) (h : ∀ tk, 0 < tk → wpAny M A t Q E ⟨hp, g, d, tk, os⟩) : wpAny M A t Q E ⟨hp, g, d, X, os⟩ := h X h0
theorem gen_toks1 (h : ∀ tk, 0 < tk → wpAny M A t Q E ⟨hp, g, d, tk, os⟩) : wpAny M A t Q E ⟨hp, g, d, X + 1, os⟩ := h _ (Nat.succ_pos _)
end
theorem whlif_split {b : Bool} {T F : Prop} (h1 : b = true → T) (h2 : b = false → F) : WhlIf b T F := by
  cases b with
  | true => exact WhlIf.yes rfl (h1 rfl)
  | false => exact WhlIf.no rfl (h2 rfl)
theorem ctr_use {w : World} {mean : ExcName → Option Value} {mg mb : Str → Option Value} {f : Addr} {kd ku : Nat} {news : List (Addr × Obj)} {vs : List Value} {R : Value → List (Addr × Obj) → Prop}
    {dp un : Nat} {gd : Option (List Code)} {cn : Str} {cs : Scope} {a : Addr} {ccd : Value} {cl : List (Str × Addr)} {outer : List Env} {A₀ : Around} {base h₀ : Heap} {L : Addr} {m : Str → Option Value} {s : Shared} {Q E : Value → Shared → Prop}
    (C : Ctr w mean mg mb f kd ku news vs R)
    (B : Below A₀ base outer h₀) (F : Fr h₀ L s.heap m) (X : (Mine.hd.heap_39 w.params).In h₀) (N : News h₀ L s.heap news) (T : Top Mine.hd.view_39 (looseW Mine.hd.view_39 [Str.ofString "EXACT_TOKEN_TYPES"]) mean mg mb h₀) (hk : cs.kind = .function) (hd : dp + kd < recursionLimit) (hu : un + ku < cLine) (ht : 0 < s.toks)
    (ret : ∀ r tl h' tk', Fr h₀ L h' m → News h₀ L h' (tl ++ news) → (∀ q ∈ news, ∀ p ∈ tl, q.1 < p.1) → R r tl → 0 < tk' → Q r { s with heap := h', toks := tk' }) :
    wpAny (model PySem.Challenge.rw_ty0033_01.row.prog w) (ktrTop dp un gd cn cs L a ccd cl outer) (call (.ref f) vs) Q E s :=
  C _ _ _ _ _ _ _ _ _ _ _ _ _ _ _ _ _ B F X N T hk hd hu ht ret
theorem my_item {prog : Program} {w : World} {A : Around} {E : Value → Shared → Prop} {s : Shared} {value slice : PySem.Expr} {l : Addr} {xs : Array Value} {k : Int} {u : Tok} {v : Value} {Q : Value → Shared → Prop}
    (hl : s.heap.IsList l xs) (h0 : 0 ≤ k) (hhi : k < 2 ^ 63) (hx : xs[k.toNat]? = some v) (h : Q v s)
    (hs : subscripted slice false (.ref l) (.int k u) = operate [.ref l, .int k u] (getItem (.ref l) (.int k u)) := by with_unfolding_all rfl) :
    wpAny (model prog w) A (subscriptTail value slice (.ref l) (.int k u)) Q E s :=
  tail_any hl.typeIs slot_list_getitem.lookup (wpAny_getItem_list hl h0 hhi hx h) hs
theorem my_item0 {prog : Program} {w : World} {A : Around} {E : Value → Shared → Prop} {s : Shared} {value slice : PySem.Expr} {l : Addr} {r : List Value} {k : Int} {u : Tok} {v : Value} {Q : Value → Shared → Prop}
    (hl : s.heap.IsList l (v :: r).toArray) (hk : k = 0) (h : Q v s)
    (hs : subscripted slice false (.ref l) (.int k u) = operate [.ref l, .int k u] (getItem (.ref l) (.int k u)) := by with_unfolding_all rfl) :
    wpAny (model prog w) A (subscriptTail value slice (.ref l) (.int k u)) Q E s :=
  my_item hl (by omega) (by omega) (by subst hk; rfl) h hs
theorem my_item1 {prog : Program} {w : World} {A : Around} {E : Value → Shared → Prop} {s : Shared} {value slice : PySem.Expr} {l : Addr} {a0 : Value} {r : List Value} {k : Int} {u : Tok} {v : Value} {Q : Value → Shared → Prop}
    (hl : s.heap.IsList l (a0 :: v :: r).toArray) (hk : k = 1) (h : Q v s)
    (hs : subscripted slice false (.ref l) (.int k u) = operate [.ref l, .int k u] (getItem (.ref l) (.int k u)) := by with_unfolding_all rfl) :
    wpAny (model prog w) A (subscriptTail value slice (.ref l) (.int k u)) Q E s :=
  my_item hl (by omega) (by omega) (by subst hk; rfl) h hs
theorem my_item2 {prog : Program} {w : World} {A : Around} {E : Value → Shared → Prop} {s : Shared} {value slice : PySem.Expr} {l : Addr} {a0 a1 : Value} {r : List Value} {k : Int} {u : Tok} {v : Value} {Q : Value → Shared → Prop}
    (hl : s.heap.IsList l (a0 :: a1 :: v :: r).toArray) (hk : k = 2) (h : Q v s)
    (hs : subscripted slice false (.ref l) (.int k u) = operate [.ref l, .int k u] (getItem (.ref l) (.int k u)) := by with_unfolding_all rfl) :
    wpAny (model prog w) A (subscriptTail value slice (.ref l) (.int k u)) Q E s :=
  my_item hl (by omega) (by omega) (by subst hk; rfl) h hs
theorem my_item3 {prog : Program} {w : World} {A : Around} {E : Value → Shared → Prop} {s : Shared} {value slice : PySem.Expr} {l : Addr} {a0 a1 a2 : Value} {r : List Value} {k : Int} {u : Tok} {v : Value} {Q : Value → Shared → Prop}
    (hl : s.heap.IsList l (a0 :: a1 :: a2 :: v :: r).toArray) (hk : k = 3) (h : Q v s)
    (hs : subscripted slice false (.ref l) (.int k u) = operate [.ref l, .int k u] (getItem (.ref l) (.int k u)) := by with_unfolding_all rfl) :
    wpAny (model prog w) A (subscriptTail value slice (.ref l) (.int k u)) Q E s :=
  my_item hl (by omega) (by omega) (by subst hk; rfl) h hs
theorem my_item4 {prog : Program} {w : World} {A : Around} {E : Value → Shared → Prop} {s : Shared} {value slice : PySem.Expr} {l : Addr} {a0 a1 a2 a3 : Value} {r : List Value} {k : Int} {u : Tok} {v : Value} {Q : Value → Shared → Prop}
    (hl : s.heap.IsList l (a0 :: a1 :: a2 :: a3 :: v :: r).toArray) (hk : k = 4) (h : Q v s)
    (hs : subscripted slice false (.ref l) (.int k u) = operate [.ref l, .int k u] (getItem (.ref l) (.int k u)) := by with_unfolding_all rfl) :
    wpAny (model prog w) A (subscriptTail value slice (.ref l) (.int k u)) Q E s :=
  my_item hl (by omega) (by omega) (by subst hk; rfl) h hs
theorem my_item5 {prog : Program} {w : World} {A : Around} {E : Value → Shared → Prop} {s : Shared} {value slice : PySem.Expr} {l : Addr} {a0 a1 a2 a3 a4 : Value} {r : List Value} {k : Int} {u : Tok} {v : Value} {Q : Value → Shared → Prop}
    (hl : s.heap.IsList l (a0 :: a1 :: a2 :: a3 :: a4 :: v :: r).toArray) (hk : k = 5) (h : Q v s)
    (hs : subscripted slice false (.ref l) (.int k u) = operate [.ref l, .int k u] (getItem (.ref l) (.int k u)) := by with_unfolding_all rfl) :
    wpAny (model prog w) A (subscriptTail value slice (.ref l) (.int k u)) Q E s :=
  my_item hl (by omega) (by omega) (by subst hk; rfl) h hs
theorem my_extend {prog : Program} {w : World} {A : Around} {E : Value → Shared → Prop} {s : Shared} {h₀ : Heap} {L D b : Addr} {m : Str → Option Value} {news news' : List (Addr × Obj)} {xs ys : List Value} {n n2 : Nat} {Q : Value → Shared → Prop} (F : Fr h₀ L s.heap m) (N : News h₀ L s.heap news) (hb : (b, listOf ys.toArray n2) ∈ news) (hne : ys.length ≠ 0)
    (U : Upd D (listOf xs.toArray n) (listOf (xs ++ ys).toArray (n + 1)) news news') (hz : xs.length + ys.length ≤ 1000000)
    (h : ∀ h', Fr h₀ L h' m → News h₀ L h' news' → Q .none { s with heap := h' }) : wpAny (model prog w) A (call (.builtin "list.extend") [.ref D, .ref b]) Q E s := by
  refine kl_extend F N hb (l := xs ++ ys) rfl hne U ?_ ?_ ?_ h
  · have : Builtin.List.listTooLong (xs.toArray.size + ys.toArray.size) = false := by
      unfold Builtin.List.listTooLong
      rw [sizeLine_eq]
      simp
      omega
    rw [this]
    simp
  · rw [sizeLine_eq]
    show xs.length ≤ _
    omega
  · rw [sizeLine_eq]
    simp
    omega
theorem lt_new {news : List (Addr × Obj)} {x : Addr} {o : Obj} {tl : List (Addr × Obj)} (h : ∀ q ∈ news, ∀ p ∈ (x, o) :: tl, q.1 < p.1) : ∀ q ∈ news, q.1 < x := fun q hq => h q hq _ (.head _)
end Mine
end
section
open PySem PySem.W PyProof.Rows
namespace Mine
local macro_rules | `(tactic| walk_at $s:str) => `(tactic| k_extra $s)
local macro_rules | `(tactic| k_all) => `(tactic| with_reducible assumption)
local macro_rules | `(tactic| walk_at "execs cons") => `(tactic| (refine gen_toks1 ?_; intro tkp htkp))
local macro_rules | `(tactic| walk_at "execs nil") => `(tactic| (refine gen_toks1 ?_; intro tkp htkp))

/-- the same without a word of the tokens -/
def Ctr0 (w : World) (mean : ExcName → Option Value) (mg mb : Str → Option Value) (f : Addr) (kd ku : Nat) (news : List (Addr × Obj)) (vs : List Value) (R : Value → List (Addr × Obj) → Prop) : Prop :=
  ∀ (dp un : Nat) (gd : Option (List Code)) (cn : Str) (cs : Scope) (a : Addr) (ccd : Value) (cl : List (Str × Addr)) (outer : List Env) (A₀ : Around) (base h₀ : Heap) (L : Addr) (m : Str → Option Value) (s : Shared) (Q E : Value → Shared → Prop),
    Below A₀ base outer h₀ → Fr h₀ L s.heap m → (Mine.hd.heap_39 w.params).In h₀ → News h₀ L s.heap news → Top Mine.hd.view_39 (looseW Mine.hd.view_39 [Str.ofString "EXACT_TOKEN_TYPES"]) mean mg mb h₀ → cs.kind = .function → dp + kd < recursionLimit → un + ku < cLine →
    (∀ r tl h' tk', Fr h₀ L h' m → News h₀ L h' (tl ++ news) → (∀ q ∈ news, ∀ p ∈ tl, q.1 < p.1) → R r tl → Q r { s with heap := h', toks := tk' }) →
    wpAny (model PySem.Challenge.rw_ty0033_01.row.prog w) (ktrTop dp un gd cn cs L a ccd cl outer) (call (.ref f) vs) Q E s
theorem ctr0_use {w : World} {mean : ExcName → Option Value} {mg mb : Str → Option Value} {f : Addr} {kd ku : Nat} {news : List (Addr × Obj)} {vs : List Value} {R : Value → List (Addr × Obj) → Prop}
    {dp un : Nat} {gd : Option (List Code)} {cn : Str} {cs : Scope} {a : Addr} {ccd : Value} {cl : List (Str × Addr)} {outer : List Env} {A₀ : Around} {base h₀ : Heap} {L : Addr} {m : Str → Option Value} {s : Shared} {Q E : Value → Shared → Prop}
    (C : Ctr0 w mean mg mb f kd ku news vs R)
    (B : Below A₀ base outer h₀) (F : Fr h₀ L s.heap m) (X : (Mine.hd.heap_39 w.params).In h₀) (N : News h₀ L s.heap news) (T : Top Mine.hd.view_39 (looseW Mine.hd.view_39 [Str.ofString "EXACT_TOKEN_TYPES"]) mean mg mb h₀) (hk : cs.kind = .function) (hd : dp + kd < recursionLimit) (hu : un + ku < cLine)
    (ret : ∀ r tl h' tk', Fr h₀ L h' m → News h₀ L h' (tl ++ news) → (∀ q ∈ news, ∀ p ∈ tl, q.1 < p.1) → R r tl → Q r { s with heap := h', toks := tk' }) :
    wpAny (model PySem.Challenge.rw_ty0033_01.row.prog w) (ktrTop dp un gd cn cs L a ccd cl outer) (call (.ref f) vs) Q E s :=
  C _ _ _ _ _ _ _ _ _ _ _ _ _ _ _ _ _ B F X N T hk hd hu ret

theorem my_forL {σ : Type} {prog : Program} {w : World} {A : Around} {E : Value → Shared → Prop} {s : Shared} {env : Env} {h₀ : Heap} {x : Str} {body : List Stmt} {Q : Flow → Shared → Prop} {l : Addr} {vs : List Value} {ns : List Int} {nn : Nat} {m₀ : Str → Option Value} (Led : σ → List (Addr × Obj)) (ps : σ → List (Str × Value)) (stored : List Str) (P : List Int → σ → Prop) (c₀ : σ)
    (hh : A.handled = none) (hl : ∀ c : σ, (l, listOf vs.toArray nn) ∈ Led c) (hi : IntsAre vs ns) (F : Fr h₀ env.locals s.heap m₀) (N : News h₀ env.locals s.heap (Led c₀)) (hk : ∀ p ∈ ps c₀, m₀ p.1 = some p.2) (hp : P [] c₀)
    (turn : ∀ (c : σ) pre post n t (u : Str → Option Value) h tk own, ns = pre ++ n :: post → n ∈ ns → OwnOff own ((Led c₀).map (·.1)) → P pre c →
      Fr h₀ env.locals h (fun y => if y = x then some (.int n t) else kstB (fun z => if stored.contains z then u z else m₀ z) (ps c) y) → News h₀ env.locals h (Led c ++ own) →
      wpAny (model prog w) A (execs body env) (fun f s₃ => Hold (InvPostN h₀ env.locals (KstS Led ps (fun _ => True) x stored m₀ P (pre ++ [n])) own ((Led c₀).map (·.1)) { s with heap := h, toks := tk } Q f s₃)) E { s with heap := h, toks := tk })
    (done : ∀ (c : σ) (u : Str → Option Value) h tk, P ns c → Fr h₀ env.locals h (fun y => if y = x then u y else kstB (fun z => if stored.contains z then u z else m₀ z) (ps c) y) → News h₀ env.locals h (Led c) → Q .next { s with heap := h, toks := tk }) :
    wpAny (model prog w) A (pyIter (.ref l)) (fun it s₂ => LoopAtV prog w A h₀ env x body Q E it s₂) E s :=
  kst_listL Led ps (fun _ => True) stored P c₀ hh hl hi F N trivial hk hp (fun c pre post n t u h tk own e hm ho _ hp F N => turn c pre post n t u h tk own e hm ho hp F N) (fun c u h tk _ hp F N => done c u h tk hp F N)
theorem my_forR {σ : Type} {prog : Program} {w : World} {A : Around} {E : Value → Shared → Prop} {s : Shared} {env : Env} {h₀ : Heap} {x : Str} {body : List Stmt} {Q : Flow → Shared → Prop} {r : Addr} {b₀ : Int} {t₀ u₀ v₀ : Tok} {n : Nat} {m₀ : Str → Option Value} (Led : σ → List (Addr × Obj)) (ps : σ → List (Str × Value)) (stored : List Str) (P : Nat → σ → Prop) (c₀ : σ)
    (hh : A.handled = none) (hr : IsRange s.heap r 0 b₀ 1 t₀ u₀ v₀) (hsmall : Builtin.Range.small 0 b₀ 1 = true) (hn : Builtin.Range.rangeSize 0 b₀ 1 = (n : Int)) (F : Fr h₀ env.locals s.heap m₀) (N : News h₀ env.locals s.heap (Led c₀)) (hk : ∀ p ∈ ps c₀, m₀ p.1 = some p.2) (hp : P 0 c₀)
    (turn : ∀ (c : σ) (k : Nat) t (u : Str → Option Value) h tk own, k < n → OwnOff own ((Led c₀).map (·.1)) → P k c →
      Fr h₀ env.locals h (fun y => if y = x then some (.int (k : Int) t) else kstB (fun z => if stored.contains z then u z else m₀ z) (ps c) y) → News h₀ env.locals h (Led c ++ own) →
      wpAny (model prog w) A (execs body env) (fun f s₃ => Hold (InvPostN h₀ env.locals (KstS Led ps (fun _ => True) x stored m₀ (fun pre c => P pre.length c) (((List.range k).map fun i => ((i : Nat) : Int)) ++ [(k : Int)])) own ((Led c₀).map (·.1)) { s with heap := h, toks := tk } Q f s₃)) E { s with heap := h, toks := tk })
    (done : ∀ (c : σ) (u : Str → Option Value) h tk, P n c → Fr h₀ env.locals h (fun y => if y = x then u y else kstB (fun z => if stored.contains z then u z else m₀ z) (ps c) y) → News h₀ env.locals h (Led c) → Q .next { s with heap := h, toks := tk }) :
    wpAny (model prog w) A (pyIter (.ref r)) (fun it s₂ => LoopAtV prog w A h₀ env x body Q E it s₂) E s := by
  refine kst_range Led ps (fun _ => True) stored (fun pre c => P pre.length c) c₀ hh hr hsmall hn F N trivial hk hp (fun c pre k t u h tk own e hm ho _ hp F N => ?_) (fun c u h tk _ hp F N => done c u h tk (by rw [rangeKs_length] at hp; exact hp) F N)
  have ek : k = ((pre.length : Nat) : Int) := by omega
  subst ek
  refine wpAny_mono (turn c pre.length t u h tk own hm ho hp F N) (fun f s₃ q => ?_) fun _ _ x => x
  have e1 : KstS Led ps (fun _ => True) x stored m₀ (fun pre c => P pre.length c) (((List.range pre.length).map fun i => ((i : Nat) : Int)) ++ [((pre.length : Nat) : Int)]) = KstS Led ps (fun _ => True) x stored m₀ (fun pre c => P pre.length c) (pre ++ [((pre.length : Nat) : Int)]) := by
    funext m nx
    unfold KstS
    simp
  have q' : InvPostN h₀ env.locals (KstS Led ps (fun _ => True) x stored m₀ (fun pre c => P pre.length c) (((List.range pre.length).map fun i => ((i : Nat) : Int)) ++ [((pre.length : Nat) : Int)])) own ((Led c₀).map (·.1)) { s with heap := h, toks := tk } Q f s₃ := q
  rw [e1] at q'
  exact q'
theorem my_itemLast {prog : Program} {w : World} {A : Around} {E : Value → Shared → Prop} {s : Shared} {value slice : PySem.Expr} {a : Addr} {us : List Value} {l : List Int} {u : Tok} {Q : Value → Shared → Prop}
    (hl : s.heap.IsList a us.toArray) (hi : IntsAre us l) (hne : 0 < us.length) (h : ∀ t, Q (.int (l.getLastD 0) t) s)
    (hs : subscripted slice false (.ref a) (.int (-1) u) = operate [.ref a, .int (-1) u] (getItem (.ref a) (.int (-1) u)) := by with_unfolding_all rfl) :
    wpAny (model prog w) A (subscriptTail value slice (.ref a) (.int (-1) u)) Q E s := by
  obtain ⟨y, t, h1, rfl, h3⟩ := kpa_ints hi hne
  have e : (-1 + (us.toArray.size : Int)).toNat = us.dropLast.length := by
    rw [List.size_toArray, List.length_dropLast]
    omega
  have hx : us.toArray[(-1 + (us.toArray.size : Int)).toNat]? = some (.int (l.getLastD 0) t) := by
    rw [e]
    have h2 : us[us.dropLast.length]? = (us.dropLast ++ [Value.int (l.getLastD 0) t])[us.dropLast.length]? := congrArg (·[us.dropLast.length]?) h1
    rw [List.getElem?_toArray, h2]
    simp
  exact tail_any hl.typeIs slot_list_getitem.lookup (wpAny_getItem_list_neg hl (by omega) (by rw [List.size_toArray]; omega) (by omega) hx (h t)) hs
/-- a turn's end -/
theorem my_end {σ : Type} {h₀ : Heap} {x : Str} {Led : σ → List (Addr × Obj)} {ps : σ → List (Str × Value)} {stored : List Str} {m₀ : Str → Option Value} {P : List Int → σ → Prop} {pre : List Int} (c : σ) {L : Addr} {m' : Str → Option Value} {own news' : List (Addr × Obj)} {adr : List Addr} {s₁ : Shared} {h' : Heap} {tk : Nat}
    (F : Fr h₀ L h' m') (N : News h₀ L h' news') (hn : ∀ p ∈ Led c, p ∈ news') (ho : ∀ p ∈ own, p ∈ news') (ha : (Led c).map (·.1) = adr) (hk : ∀ p ∈ ps c, m' p.1 = some p.2) (hr : ∀ z, z ≠ x → (∀ p ∈ ps c, z ≠ p.1) → stored.contains z = false → m' z = m₀ z) (hp : P pre c) :
    InvEndN h₀ L (KstS Led ps (fun _ => True) x stored m₀ P pre) own adr s₁ { s₁ with heap := h', toks := tk } :=
  kst_end c F N hn ho ha trivial hk hr hp

end Mine
end
section
open PySem PySem.W PyProof.Rows
namespace Mine
local macro_rules | `(tactic| walk_at $s:str) => `(tactic| k_extra $s)
local macro_rules | `(tactic| k_all) => `(tactic| with_reducible assumption)
local macro_rules | `(tactic| walk_at "execs cons") => `(tactic| (refine gen_toks1 ?_; intro tkp htkp))
local macro_rules | `(tactic| walk_at "execs nil") => `(tactic| (refine gen_toks1 ?_; intro tkp htkp))
theorem gcd_step {a b : Int} (ha : 0 ≤ a) (h : b ≠ 0) (hb : 0 ≤ b) : 0 ≤ Int.fmod a b ∧ Int.fmod a b < b ∧ Int.gcd b (Int.fmod a b) = Int.gcd a b := by
  have e : Int.fmod a b = a % b := Int.fmod_eq_emod_of_nonneg a hb
  rw [e]
  refine ⟨Int.emod_nonneg a h, Int.emod_lt_of_pos a (by omega), ?_⟩
  rw [Int.gcd_comm]
  simp [Int.gcd_eq_natAbs_gcd_natAbs, Int.natAbs_emod_of_nonneg ha]
  exact (Nat.gcd_rec _ _ ▸ Nat.gcd_comm _ _)
theorem gcd_abs (x y : Int) : 0 ≤ (if x < 0 then -x else x) ∧ 0 ≤ (if y < 0 then -y else y) ∧ Int.gcd (if x < 0 then -x else x) (if y < 0 then -y else y) = Int.gcd x y := by
  refine ⟨by split <;> omega, by split <;> omega, ?_⟩
  split <;> split <;> simp
theorem gcd_end {a : Int} (h : 0 ≤ a) : a = (Int.gcd a 0 : Int) := by simp [Int.gcd_zero_right]; omega
set_option maxRecDepth 100000 in
set_option maxHeartbeats 8000000 in
theorem c_common (w : World) (mean : ExcName → Option Value) (mg mb : Str → Option Value) (news : List (Addr × Obj)) (x y : Int) (tx ty : Tok) :
    Ctr0 w mean mg mb 141 20 400 news [.int x tx, .int y ty] (fun r tl => tl = [] ∧ ∃ t, r = .int (Int.gcd x y) t) := by
  unfold Ctr0
  k_fill
  intro dp un gd cn cs a ccd cl outer A₀ base h₀ L m s Q E B F X N T hk hd hu hret
  refine wpAny_call ?_
  k_dflt ktr_enter
  k_with_none
  k_with "exec While" => (k_dflt (refine whl_start 100 ?_))
  k_with "eval Name" => (k_dflt (refine' name_K ?kF ?k1 ?k2 ?k3 ?_; (case kF => k_asm); (case k1 => k_asm); (case k2 => k_asm); (case k3 => k_is)))
  k_with "eval Name" => (k_dflt (refine' ld ?k1 ?k2 ?_; (case k1 => k_asm); (case k2 => exact rfl)))
  k_with "exec While" => (
    (rename Fr _ _ _ _ => lF'); (rename News _ _ _ _ => lN')
    (with_unfolding_all refine' my_while (fun _ => news) (fun c : Int × Int × Tok × Tok => [(Str.ofString "one", .int c.1 c.2.2.1), (Str.ofString "other", .int c.2.1 c.2.2.2)]) [] (fun c => 0 ≤ c.1 ∧ 0 ≤ c.2.1 ∧ Int.gcd c.1 c.2.1 = Int.gcd x y) (fun c => c.2.1.toNat) (_, _, _, _) lF' ?kn ?kk ?kp ?_)
    (case kn => exact kst_newsOf lN' (fun p h => List.Mem.tail _ h))
    (case kk => kst_all)
    (case kp => exact gcd_abs x y)
    clear lF' lN'
    rintro ⟨a1, b1, ta1, tb1⟩ u1 h1 tk1 ⟨hp1, hp2, hp3⟩ F1 N1
    dsimp only at hp1 hp2 hp3)
  k_steps
  · refine hold_out ?_
    dsimp only [KswPost]
    (rename News _ _ _ _ => nE')
    have hne : b1 ≠ 0 := by assumption
    (obtain ⟨q1, q2, q3⟩ := gcd_step hp1 hne hp2)
    refine' ksw_end (_, _, _, _) (by assumption) nE' (fun p h => List.Mem.tail _ h) trivial ?ka ?kb ?kc ?kd
    case ka => kst_all
    case kb =>
      intro z h2 h3
      have e1 := h2 _ (.head _)
      have e2 := h2 _ (.tail _ (.head _))
      dsimp only at e1 e2
      simp only [if_neg e1, if_neg e2, kstB]
      rfl
    case kc => exact ⟨hp2, q1, q3.trans hp3⟩
    case kd => (dsimp only; omega)
  · have h0 : b1 = 0 := by assumption
    refine hret _ [] _ _ (by assumption) (by assumption) (fun _ _ _ h => nomatch h) ⟨rfl, ta1, ?_⟩
    rw [← hp3, h0, ← gcd_end hp1]

end Mine
end
section
open PySem PySem.W PyProof.Rows
namespace Mine
local macro_rules | `(tactic| walk_at $s:str) => `(tactic| k_extra $s)
local macro_rules | `(tactic| walk_at "execs cons") => `(tactic| (refine gen_toks1 ?_; intro tkp htkp))
local macro_rules | `(tactic| walk_at "execs nil") => `(tactic| (refine gen_toks1 ?_; intro tkp htkp))
set_option maxRecDepth 100000 in
set_option maxHeartbeats 8000000 in
theorem c_iseof (w : World) (mean : ExcName → Option Value) (mg mb : Str → Option Value) (news : List (Addr × Obj)) (x : Int) (tx : Tok) :
    Ctr w mean mg mb 52 3 60 news [.int x tx] (fun r tl => tl = [] ∧ r = .bool (decide (x = 0))) := by
  unfold Ctr
  k_fill
  intro dp un gd cn cs a ccd cl outer A₀ base h₀ L m s Q E B F X N T hk hd hu htk hret
  refine wpAny_call ?_
  k_dflt ktr_enter
  refine gen_toks (Nat.lt_of_lt_of_le htk (Nat.le_add_right _ _)) ?_
  intro tk0 htk0
  k_with_none
  k_with "exec While" => (k_dflt (refine whl_start 100 ?_))
  k_steps
  refine hret _ [] _ _ (by assumption) (by assumption) (fun _ _ _ h => nomatch h) ⟨rfl, ?_⟩ (by assumption)
  rfl
set_option maxRecDepth 100000 in
set_option maxHeartbeats 8000000 in
theorem c_isnont (w : World) (mean : ExcName → Option Value) (mg mb : Str → Option Value) (news : List (Addr × Obj)) (x : Int) (tx : Tok) :
    Ctr w mean mg mb 45 3 60 news [.int x tx] (fun r tl => tl = [] ∧ r = .bool (decide (256 ≤ x))) := by
  unfold Ctr
  k_fill
  intro dp un gd cn cs a ccd cl outer A₀ base h₀ L m s Q E B F X N T hk hd hu htk hret
  refine wpAny_call ?_
  k_dflt ktr_enter
  refine gen_toks (Nat.lt_of_lt_of_le htk (Nat.le_add_right _ _)) ?_
  intro tk0 htk0
  k_with_none
  k_with "exec While" => (k_dflt (refine whl_start 100 ?_))
  k_steps
  refine hret _ [] _ _ (by assumption) (by assumption) (fun _ _ _ h => nomatch h) ⟨rfl, ?_⟩ (by assumption)
  rfl
set_option maxRecDepth 100000 in
set_option maxHeartbeats 8000000 in
theorem c_ister (w : World) (mean : ExcName → Option Value) (mg mb : Str → Option Value) (news : List (Addr × Obj)) (x : Int) (tx : Tok) :
    Ctr w mean mg mb 38 3 60 news [.int x tx] (fun r tl => tl = [] ∧ r = .bool (decide (x < 256))) := by
  unfold Ctr
  k_fill
  intro dp un gd cn cs a ccd cl outer A₀ base h₀ L m s Q E B F X N T hk hd hu htk hret
  refine wpAny_call ?_
  k_dflt ktr_enter
  refine gen_toks (Nat.lt_of_lt_of_le htk (Nat.le_add_right _ _)) ?_
  intro tk0 htk0
  k_with_none
  k_with "exec While" => (k_dflt (refine whl_start 100 ?_))
  k_steps
  refine hret _ [] _ _ (by assumption) (by assumption) (fun _ _ _ h => nomatch h) ⟨rfl, ?_⟩ (by assumption)
  rfl

end Mine
end
section
open PySem PySem.W PyProof.Rows
namespace Mine
local macro_rules | `(tactic| walk_at $s:str) => `(tactic| k_extra $s)
local macro_rules | `(tactic| k_all) => `(tactic| with_reducible assumption)
local macro_rules | `(tactic| walk_at "execs cons") => `(tactic| (refine gen_toks1 ?_; intro tkp htkp))
local macro_rules | `(tactic| walk_at "execs nil") => `(tactic| (refine gen_toks1 ?_; intro tkp htkp))

def tb (x : Int) : Int × Int × Int × Int := if x = 19 then (1, 1, 0, 1) else if x = 13 then (1, -1, 0, 1) else if x = 20 then (1, 0, -1, 1) else (1, 0, 1, 1)
set_option maxRecDepth 100000 in
set_option maxHeartbeats 8000000 in
theorem c_tterm (w : World) (mean : ExcName → Option Value) (mg mb : Str → Option Value) (news : List (Addr × Obj)) (rl : Addr) (x : Int) (tx : Tok) (hx : x = 19 ∨ x = 13 ∨ x = 20 ∨ x = 21) :
    Ctr0 w mean mg mb 148 20 400 news [.ref rl, .int x tx] (fun r tl => ∃ y t1 t2 t3 t4 n, r = .ref y ∧ tl = [(y, listOf #[.int (tb x).1 t1, .int (tb x).2.1 t2, .int (tb x).2.2.1 t3, .int (tb x).2.2.2 t4] n)]) := by
  unfold Ctr0
  k_fill
  intro dp un gd cn cs a ccd cl outer A₀ base h₀ L m s Q E B F X N T hk hd hu hret
  refine wpAny_call ?_
  k_dflt ktr_enter
  k_with_none
  k_with "exec While" => (k_dflt (refine whl_start 100 ?_))
  k_with "getItem" => (refine hold ?_)
  k_with "XsubscriptTail" => (
    (rcases hx with rfl | rfl | rfl | rfl) <;> (refine kda_item (knd := PySem.intKind _ _) (by k_asm) (by k_mem) (by k_asm) (intKind_is _ _ _ _) (by simp only [valueAt, intKeyPairs, List.find?]; rfl) ?_))
  have hx2 : x < 256 := by omega
  k_steps
  refine hold_out ?_
  (rcases hx with rfl | rfl | rfl | rfl) <;> refine wpAny_getItem_of (knd := PySem.intKind _ _) (intKind_is _ _ _ _) (kda_dict (by k_asm) (by k_mem) (by k_asm)).mapOf (by simp only [valueAt, intKeyPairs, List.find?]; rfl) ?_
  k_steps
  all_goals (
    refine' hret _ [(_, _)] _ _ (by assumption) (kst_newsOf (by assumption) (List.forall_mem_cons.mpr ⟨?sub1, fun p hp => ?sub⟩)) ?ord ⟨_, _, _, _, _, _, rfl, rfl⟩
    case sub1 => k_mem
    case sub => (repeat (first | exact hp | refine List.Mem.tail _ ?_))
    case ord =>
      intro q hq p hp
      rw [List.mem_singleton.mp hp]
      revert q
      first
      | exact fun q hq => (by assumption : ∀ p ∈ news, p.1 < _) q hq
      | exact ktn_ltOf (by assumption : AllLt _ news)
      | exact ktn_ltOf (by assumption : _ ∧ AllLt _ news).2
      | exact ktn_ltOf (by assumption : _ ∧ _ ∧ AllLt _ news).2.2
      | exact ktn_ltOf (by assumption : _ ∧ _ ∧ _ ∧ AllLt _ news).2.2.2
      | exact ktn_ltOf (by assumption : _ ∧ _ ∧ _ ∧ _ ∧ AllLt _ news).2.2.2.2
      | exact ktn_ltOf (by assumption : _ ∧ _ ∧ _ ∧ _ ∧ _ ∧ AllLt _ news).2.2.2.2.2
      | exact ktn_ltOf (by assumption : _ ∧ _ ∧ _ ∧ _ ∧ _ ∧ _ ∧ AllLt _ news).2.2.2.2.2.2
    )

end Mine
end
section
open PySem PySem.W PyProof.Rows
namespace Mine
local macro_rules | `(tactic| walk_at $s:str) => `(tactic| k_extra $s)
local macro_rules | `(tactic| walk_at "execs cons") => `(tactic| (refine gen_toks1 ?_; intro tkp htkp))
local macro_rules | `(tactic| walk_at "execs nil") => `(tactic| (refine gen_toks1 ?_; intro tkp htkp))

theorem pop_facts {p : List Int} (h : p ≠ []) : 0 < p.length := by
  cases p with
  | nil => exact absurd rfl h
  | cons a r => exact Nat.succ_pos _
/-- the row that the rules make: the pile from behind -/
def run (la lb lc ld : Int) : Nat → List Int → List Int → Option (List Int)
  | 0, _, _ => none
  | f + 1, p, r => if p = [] then none else if p.getLastD 0 = 0 then some r else if p.getLastD 0 = 256 then run la lb lc ld f (p.dropLast ++ [257, lb, 257, la]) r
    else if p.getLastD 0 = 257 then run la lb lc ld f (p.dropLast ++ [ld, lc]) r else if p.getLastD 0 < 256 then run la lb lc ld f p.dropLast (r ++ [p.getLastD 0]) else none
structure DS where
  p : List Int
  r : List Int
  pv : List Value
  rv : List Value
  np : Nat
  nr : Nat
  f : Nat
def DOk (la lb lc ld : Int) (res : List Int) (c : DS) : Prop := IntsAre c.pv c.p ∧ IntsAre c.rv c.r ∧ c.p.length + 4 * c.f ≤ 100 ∧ c.r.length + c.f ≤ 100 ∧ run la lb lc ld c.f c.p c.r = some res
theorem run_start {la lb lc ld : Int} (ha : 0 < la ∧ la < 256) (hb : 0 < lb ∧ lb < 256) (hc : 0 < lc ∧ lc < 256) (hld : 0 < ld ∧ ld < 256) : run la lb lc ld 20 [0, 256] [] = some [la, lc, ld, lb, lc, ld] := by
  obtain ⟨ha1, ha2⟩ := ha
  obtain ⟨hb1, hb2⟩ := hb
  obtain ⟨hc1, hc2⟩ := hc
  obtain ⟨hd1, hd2⟩ := hld
  have a1 : la ≠ 0 := by omega
  have a2 : la ≠ 256 := by omega
  have a3 : la ≠ 257 := by omega
  have b1 : lb ≠ 0 := by omega
  have b2 : lb ≠ 256 := by omega
  have b3 : lb ≠ 257 := by omega
  have c1 : lc ≠ 0 := by omega
  have c2 : lc ≠ 256 := by omega
  have c3 : lc ≠ 257 := by omega
  have d1 : ld ≠ 0 := by omega
  have d2 : ld ≠ 256 := by omega
  have d3 : ld ≠ 257 := by omega
  simp [run, a1, a2, a3, b1, b2, b3, c1, c2, c3, d1, d2, d3, ha2, hb2, hc2, hd2]
theorem run_turn {la lb lc ld : Int} {res : List Int} {c : DS} (h : DOk la lb lc ld res c) : c.p ≠ [] ∧ ∃ f, c.f = f + 1 ∧ ((c.p.getLastD 0 = 0 ∧ c.r = res) ∨ (c.p.getLastD 0 = 256 ∧ run la lb lc ld f (c.p.dropLast ++ [257, lb, 257, la]) c.r = some res) ∨ (c.p.getLastD 0 = 257 ∧ run la lb lc ld f (c.p.dropLast ++ [ld, lc]) c.r = some res) ∨ (c.p.getLastD 0 ≠ 0 ∧ c.p.getLastD 0 < 256 ∧ run la lb lc ld f c.p.dropLast (c.r ++ [c.p.getLastD 0]) = some res)) := by
  obtain ⟨_, _, _, _, h⟩ := h
  cases hf : c.f with
  | zero => rw [hf] at h; cases h
  | succ f =>
    rw [hf] at h
    unfold run at h
    split at h
    · cases h
    · rename_i h1
      refine ⟨h1, f, rfl, ?_⟩
      split at h
      · rename_i h2; exact .inl ⟨h2, Option.some.inj h⟩
      · rename_i h2
        split at h
        · rename_i h3; exact .inr (.inl ⟨h3, h⟩)
        · split at h
          · rename_i h3; exact .inr (.inr (.inl ⟨h3, h⟩))
          · split at h
            · rename_i h3; exact .inr (.inr (.inr ⟨h2, h3, h⟩))
            · cases h
set_option maxRecDepth 100000 in
set_option maxHeartbeats 8000000 in
theorem c_derived (w : World) (mean : ExcName → Option Value) (mg mb : Str → Option Value) (news : List (Addr × Obj)) (rl r0 r1 : Addr) (la lb lc ld : Int) (t1 t2 t3 t4 t5 t6 : Tok) (n1 n2 n3 : Nat) (ha : 0 < la ∧ la < 256) (hb : 0 < lb ∧ lb < 256) (hc : 0 < lc ∧ lc < 256) (hld : 0 < ld ∧ ld < 256) (h1 : (rl, listOf #[.ref r0, .ref r1] n1) ∈ news) (h2 : (r0, listOf #[.int la t1, .int 257 t2, .int lb t3, .int 257 t4] n2) ∈ news) (h3 : (r1, listOf #[.int lc t5, .int ld t6] n3) ∈ news) :
    Ctr w mean mg mb 106 20 400 news [.ref rl] (fun r tl => ∃ y vs n, r = .ref y ∧ tl = [(y, listOf vs.toArray n)] ∧ IntsAre vs [la, lc, ld, lb, lc, ld]) := by
  unfold Ctr
  k_fill
  intro dp un gd cn cs a ccd cl outer A₀ base h₀ L m s Q E B F X N T hk hd hu htk hret
  refine wpAny_call ?_
  k_dflt ktr_enter
  refine gen_toks (Nat.lt_of_lt_of_le htk (Nat.le_add_right _ _)) ?_
  intro tk0 htk0
  k_with_none
  k_with "exec While" => (k_dflt (refine whl_start 100 ?_))
  (rename News _ _ _ _ => N1)
  have N2 := kst_newsOf (l' := (rl, listOf #[.ref r0, .ref r1] n1) :: (r0, listOf #[.int la t1, .int 257 t2, .int lb t3, .int 257 t4] n2) :: (r1, listOf #[.int lc t5, .int ld t6] n3) :: news) N1 (by
    intro p hp
    rcases List.mem_cons.mp hp with rfl | hp
    · exact h1
    rcases List.mem_cons.mp hp with rfl | hp
    · exact h2
    rcases List.mem_cons.mp hp with rfl | hp
    · exact h3
    exact hp)
  clear N1
  k_with "call ref" => (
    k_dflt (refine' ctr_use (c_iseof _ _ _ _ _ _ _) ?k1 ?k2 ?k3 ?k4 ?k5 ?kK ?kd ?ku ?kt ?_; (case k1 => k_asm); (case k2 => k_asm); (case k3 => k_asm); (case k4 => k_asm); (case k5 => k_asm); (case kK => first | exact rfl | assumption); (case kd => ktr_room); (case ku => ktr_units); (case kt => first | assumption | exact Nat.succ_pos _ | (dsimp only; omega)))
    intro r9 tl9 h9 tk9 F9 N9 lt9 R9 htk9
    (obtain ⟨e9, e8⟩ := R9; subst e9; subst e8; clear lt9; (try simp only [List.nil_append] at N9))
    (try dsimp only)
    (try k_fold))
  k_with "call ref" => (
    k_dflt (refine' ctr_use (c_isnont _ _ _ _ _ _ _) ?k1 ?k2 ?k3 ?k4 ?k5 ?kK ?kd ?ku ?kt ?_; (case k1 => k_asm); (case k2 => k_asm); (case k3 => k_asm); (case k4 => k_asm); (case k5 => k_asm); (case kK => first | exact rfl | assumption); (case kd => ktr_room); (case ku => ktr_units); (case kt => first | assumption | exact Nat.succ_pos _ | (dsimp only; omega)))
    intro r9 tl9 h9 tk9 F9 N9 lt9 R9 htk9
    (obtain ⟨e9, e8⟩ := R9; subst e9; subst e8; clear lt9; (try simp only [List.nil_append] at N9))
    (try dsimp only)
    (try k_fold))
  k_with "call ref" => (
    k_dflt (refine' ctr_use (c_ister _ _ _ _ _ _ _) ?k1 ?k2 ?k3 ?k4 ?k5 ?kK ?kd ?ku ?kt ?_; (case k1 => k_asm); (case k2 => k_asm); (case k3 => k_asm); (case k4 => k_asm); (case k5 => k_asm); (case kK => first | exact rfl | assumption); (case kd => ktr_room); (case ku => ktr_units); (case kt => first | assumption | exact Nat.succ_pos _ | (dsimp only; omega)))
    intro r9 tl9 h9 tk9 F9 N9 lt9 R9 htk9
    (obtain ⟨e9, e8⟩ := R9; subst e9; subst e8; clear lt9; (try simp only [List.nil_append] at N9))
    (try dsimp only)
    (try k_fold))
  k_with "eval Name" => (k_dflt (refine' name_K ?kF ?k1 ?k2 ?k3 ?_; (case kF => k_asm); (case k1 => k_asm); (case k2 => k_asm); (case k3 => k_is)))
  k_with "eval Name" => (k_dflt (refine' ld ?k1 ?k2 ?_; (case k1 => k_asm); (case k2 => exact rfl)))
  k_with "subscriptTail" => ((with_reducible show wpAny _ _ (subscriptTail _ _ (Value.ref _) (Value.int _ _)) _ _ _); k_dflt (first
    | (refine' my_item0 ?k1 ?k2 ?_ ?k3; (case k2 => decide); (case k1 => exact News.isList (by k_asm) (by k_mem)); (case k3 => with_unfolding_all rfl))
    | (refine' my_item1 ?k1 ?k2 ?_ ?k3; (case k2 => decide); (case k1 => exact News.isList (by k_asm) (by k_mem)); (case k3 => with_unfolding_all rfl))
    | (refine' my_item2 ?k1 ?k2 ?_ ?k3; (case k2 => decide); (case k1 => exact News.isList (by k_asm) (by k_mem)); (case k3 => with_unfolding_all rfl))
    | (refine' my_item3 ?k1 ?k2 ?_ ?k3; (case k2 => decide); (case k1 => exact News.isList (by k_asm) (by k_mem)); (case k3 => with_unfolding_all rfl))
    | (refine' my_item4 ?k1 ?k2 ?_ ?k3; (case k2 => decide); (case k1 => exact News.isList (by k_asm) (by k_mem)); (case k3 => with_unfolding_all rfl))
    | (refine' my_item5 ?k1 ?k2 ?_ ?k3; (case k2 => decide); (case k1 => exact News.isList (by k_asm) (by k_mem)); (case k3 => with_unfolding_all rfl))))
  k_with "subscriptTail Name BinOp ref int" => ((with_reducible show wpAny _ _ (subscriptTail _ _ (Value.ref _) (Value.int _ _)) _ _ _); k_dflt (first
    | (refine' my_item0 ?k1 ?k2 ?_ ?k3; (case k2 => decide); (case k1 => exact News.isList (by k_asm) (by k_mem)); (case k3 => with_unfolding_all rfl))
    | (refine' my_item1 ?k1 ?k2 ?_ ?k3; (case k2 => decide); (case k1 => exact News.isList (by k_asm) (by k_mem)); (case k3 => with_unfolding_all rfl))
    | (refine' my_item2 ?k1 ?k2 ?_ ?k3; (case k2 => decide); (case k1 => exact News.isList (by k_asm) (by k_mem)); (case k3 => with_unfolding_all rfl))
    | (refine' my_item3 ?k1 ?k2 ?_ ?k3; (case k2 => decide); (case k1 => exact News.isList (by k_asm) (by k_mem)); (case k3 => with_unfolding_all rfl))
    | (refine' my_item4 ?k1 ?k2 ?_ ?k3; (case k2 => decide); (case k1 => exact News.isList (by k_asm) (by k_mem)); (case k3 => with_unfolding_all rfl))
    | (refine' my_item5 ?k1 ?k2 ?_ ?k3; (case k2 => decide); (case k1 => exact News.isList (by k_asm) (by k_mem)); (case k3 => with_unfolding_all rfl))))
  k_with "subscriptTail Name Constant ref int" => ((with_reducible show wpAny _ _ (subscriptTail _ _ (Value.ref _) (Value.int _ _)) _ _ _); k_dflt (first
    | (refine' my_item0 ?k1 ?k2 ?_ ?k3; (case k2 => decide); (case k1 => exact News.isList (by k_asm) (by k_mem)); (case k3 => with_unfolding_all rfl))
    | (refine' my_item1 ?k1 ?k2 ?_ ?k3; (case k2 => decide); (case k1 => exact News.isList (by k_asm) (by k_mem)); (case k3 => with_unfolding_all rfl))
    | (refine' my_item2 ?k1 ?k2 ?_ ?k3; (case k2 => decide); (case k1 => exact News.isList (by k_asm) (by k_mem)); (case k3 => with_unfolding_all rfl))
    | (refine' my_item3 ?k1 ?k2 ?_ ?k3; (case k2 => decide); (case k1 => exact News.isList (by k_asm) (by k_mem)); (case k3 => with_unfolding_all rfl))
    | (refine' my_item4 ?k1 ?k2 ?_ ?k3; (case k2 => decide); (case k1 => exact News.isList (by k_asm) (by k_mem)); (case k3 => with_unfolding_all rfl))
    | (refine' my_item5 ?k1 ?k2 ?_ ?k3; (case k2 => decide); (case k1 => exact News.isList (by k_asm) (by k_mem)); (case k3 => with_unfolding_all rfl))))
  k_with "subscriptTail Name Name ref int" => ((with_reducible show wpAny _ _ (subscriptTail _ _ (Value.ref _) (Value.int _ _)) _ _ _); k_dflt (first
    | (refine' my_item0 ?k1 ?k2 ?_ ?k3; (case k2 => decide); (case k1 => exact News.isList (by k_asm) (by k_mem)); (case k3 => with_unfolding_all rfl))
    | (refine' my_item1 ?k1 ?k2 ?_ ?k3; (case k2 => decide); (case k1 => exact News.isList (by k_asm) (by k_mem)); (case k3 => with_unfolding_all rfl))
    | (refine' my_item2 ?k1 ?k2 ?_ ?k3; (case k2 => decide); (case k1 => exact News.isList (by k_asm) (by k_mem)); (case k3 => with_unfolding_all rfl))
    | (refine' my_item3 ?k1 ?k2 ?_ ?k3; (case k2 => decide); (case k1 => exact News.isList (by k_asm) (by k_mem)); (case k3 => with_unfolding_all rfl))
    | (refine' my_item4 ?k1 ?k2 ?_ ?k3; (case k2 => decide); (case k1 => exact News.isList (by k_asm) (by k_mem)); (case k3 => with_unfolding_all rfl))
    | (refine' my_item5 ?k1 ?k2 ?_ ?k3; (case k2 => decide); (case k1 => exact News.isList (by k_asm) (by k_mem)); (case k3 => with_unfolding_all rfl))))
  k_with "exec While" => refine hold ?_
  k_steps
  refine hold_out ?_
  (rename Fr _ _ _ _ => lF'); (rename News _ _ _ _ => lN')
  (with_unfolding_all refine' my_while (fun c : DS => (_, listOf c.rv.toArray c.nr) :: (_, listOf c.pv.toArray c.np) :: (rl, listOf #[.ref r0, .ref r1] n1) :: (r0, listOf #[.int la t1, .int 257 t2, .int lb t3, .int 257 t4] n2) :: (r1, listOf #[.int lc t5, .int ld t6] n3) :: news) (fun _ => []) [Str.ofString "symbol"] (DOk la lb lc ld [la, lc, ld, lb, lc, ld]) (fun c => c.f) ⟨[0, 256], [], [.int 0 _, .int 256 _], [], 0, 0, 20⟩ lF' ?kn ?kk ?kp ?_)
  (case kn => exact lN')
  (case kk => exact List.forall_mem_nil _)
  (case kp => exact ⟨.cons _ _ (.cons _ _ .nil), .nil, by simp, by simp, run_start ha hb hc hld⟩)
  clear lF' lN'
  intro c1 u1 h1' tk1 hp1 F1 N1
  obtain ⟨c1p, c1r, c1pv, c1rv, np1, nr1, f1⟩ := c1
  have hq1 := hp1.1
  have hq2 := hp1.2.1
  have hl1 := IntsAre.length hq1
  have hl2 := IntsAre.length hq2
  have hq3 := hp1.2.2.1
  have hq4 := hp1.2.2.2.1
  have ht1 := run_turn hp1
  dsimp only [kstB] at F1 N1 hq1 hq2 hl1 hl2 hq3 hq4 ht1
  k_with "call builtin:list.pop" => refine hold ?_
  k_steps
  · exact absurd (of_decide_eq_true (by assumption)) ht1.1
  refine hold_out ?_
  dsimp only
  refine' kpa_pop ?F ?N ?U ?hi ?hne ?hz ?_
  case F => k_asm
  case N => k_asm
  case U => k_upd
  case hi => exact hq1
  case hne => (rw [hl1]; exact pop_facts ht1.1)
  case hz => (rw [sizeLine_eq]; omega)
  intro h5 t5' F5 N5 hi5
  generalize c1p.getLastD 0 = s5 at ht1 ⊢
  obtain ⟨hne5, f5, hf5, hc5⟩ := ht1

  k_with "subscriptTail Name BinOp ref int" => refine hold ?_
  k_steps
  · dsimp only
    refine hold_out ?_
    dsimp only [KswPost]
    k_steps
    have hrr : c1r = [la, lc, ld, lb, lc, ld] := by
      rcases hc5 with ⟨_, h⟩ | ⟨h, _⟩ | ⟨h, _⟩ | ⟨h, _⟩ <;> first | exact h | omega
    subst hrr
    refine' hret _ [(_, _)] _ _ (by assumption) (kst_newsOf (by assumption) (List.forall_mem_cons.mpr ⟨?sub1, fun p hp => ?sub⟩)) ?ord ⟨_, _, _, rfl, rfl, hq2⟩ (by first | assumption | exact Nat.succ_pos _ | (dsimp only; omega) | exact Nat.lt_of_lt_of_le (Nat.succ_pos _) (Nat.le_add_right _ _))
    case sub1 => k_mem
    case sub => (repeat (first | exact hp | refine List.Mem.tail _ ?_))
    case ord =>
      intro q hq p hp
      rw [List.mem_singleton.mp hp]
      revert q
      first
      | exact fun q hq => (by assumption : ∀ p ∈ news, p.1 < _) q hq
      | exact ktn_ltOf (by assumption : AllLt _ news)
      | exact ktn_ltOf (by assumption : _ ∧ AllLt _ news).2
      | exact ktn_ltOf (by assumption : _ ∧ _ ∧ AllLt _ news).2.2
      | exact ktn_ltOf (by assumption : _ ∧ _ ∧ _ ∧ AllLt _ news).2.2.2
      | exact ktn_ltOf (by assumption : _ ∧ _ ∧ _ ∧ _ ∧ AllLt _ news).2.2.2.2
      | exact ktn_ltOf (by assumption : _ ∧ _ ∧ _ ∧ _ ∧ _ ∧ AllLt _ news).2.2.2.2.2
      | exact ktn_ltOf (by assumption : _ ∧ _ ∧ _ ∧ _ ∧ _ ∧ _ ∧ AllLt _ news).2.2.2.2.2.2
  · exfalso
    rename (decide _ == decide _) = true => hx
    by_cases hx2 : 256 ≤ s5
    · simp [hx2, show ¬ s5 < 256 by omega] at hx
    · simp [hx2, show s5 < 256 by omega] at hx
  · refine hold_out ?_
    have h56 : (s5 = 256 ∧ run la lb lc ld f5 (c1p.dropLast ++ [257, lb, 257, la]) c1r = some [la, lc, ld, lb, lc, ld]) ∨ (s5 = 257 ∧ run la lb lc ld f5 (c1p.dropLast ++ [ld, lc]) c1r = some [la, lc, ld, lb, lc, ld]) := by
      rcases hc5 with ⟨h, _⟩ | h | h | ⟨_, h, _⟩
      · omega
      · exact .inl h
      · exact .inr h
      · omega
    clear hc5
    have hdl : c1p.dropLast.length ≤ c1p.length := by simp
    have hdl2 := IntsAre.length hi5
    k_with_none
    k_with "eval Name" => (k_dflt (refine' name_K ?kF ?k1 ?k2 ?k3 ?_; (case kF => k_asm); (case k1 => k_asm); (case k2 => k_asm); (case k3 => k_is)))
    k_with "eval Name" => (k_dflt (refine' ld ?k1 ?k2 ?_; (case k1 => k_asm); (case k2 => exact rfl)))
    k_with "call builtin:list.extend" => refine hold ?_
    rcases h56 with ⟨rfl, hr5⟩ | ⟨rfl, hr5⟩
    · refine' my_item0 ?k1 ?k2 ?_ ?k3
      case k2 => decide
      case k1 => exact News.isList (by k_asm) (by k_mem)
      case k3 => with_unfolding_all rfl
      k_steps
      refine hold_out ?_
      refine' my_extend ?F ?N ?b ?ne ?U ?z ?_
      case F => k_asm
      case N => k_asm
      case b => k_mem
      case ne => exact Nat.succ_ne_zero _
      case U => k_upd
      case z => (simp only [List.length_cons, List.length_nil]; omega)
      intro h6 F6 N6
      k_steps
      refine hold_out ?_
      dsimp only [KswPost]
      (rename News _ _ _ _ => nE)
      refine' ksw_end ⟨c1p.dropLast ++ [257, lb, 257, la], c1r, _, _, _, _, f5⟩ (by assumption) nE (fun p h => (by repeat (first | exact h | refine List.Mem.tail _ ?_))) trivial ?ka ?kb ?kc ?kd
      case ka => exact List.forall_mem_nil _
      case kb =>
        intro z h2 h3
        simp only [List.contains_cons, List.contains_nil, Bool.or_false, beq_eq_false_iff_ne, ne_eq] at h3
        simp only [if_neg h3, kstB, List.contains_cons, List.contains_nil, Bool.or_false, beq_iff_eq]
      case kc => exact ⟨IntsAre.append hi5 (.cons _ _ (.cons _ _ (.cons _ _ (.cons _ _ .nil)))), hq2, by simp only [List.length_append, List.length_cons, List.length_nil]; omega, by simp only; omega, hr5⟩
      case kd => (dsimp only; omega)
    · refine' my_item1 ?k1 ?k2 ?_ ?k3
      case k2 => decide
      case k1 => exact News.isList (by k_asm) (by k_mem)
      case k3 => with_unfolding_all rfl
      k_steps
      refine hold_out ?_
      refine' my_extend ?F ?N ?b ?ne ?U ?z ?_
      case F => k_asm
      case N => k_asm
      case b => k_mem
      case ne => exact Nat.succ_ne_zero _
      case U => k_upd
      case z => (simp only [List.length_cons, List.length_nil]; omega)
      intro h6 F6 N6
      k_steps
      refine hold_out ?_
      dsimp only [KswPost]
      (rename News _ _ _ _ => nE)
      refine' ksw_end ⟨c1p.dropLast ++ [ld, lc], c1r, _, _, _, _, f5⟩ (by assumption) nE (fun p h => (by repeat (first | exact h | refine List.Mem.tail _ ?_))) trivial ?ka ?kb ?kc ?kd
      case ka => exact List.forall_mem_nil _
      case kb =>
        intro z h2 h3
        simp only [List.contains_cons, List.contains_nil, Bool.or_false, beq_eq_false_iff_ne, ne_eq] at h3
        simp only [if_neg h3, kstB, List.contains_cons, List.contains_nil, Bool.or_false, beq_iff_eq]
      case kc => exact ⟨IntsAre.append hi5 (.cons _ _ (.cons _ _ .nil)), hq2, by simp only [List.length_append, List.length_cons, List.length_nil]; omega, by simp only; omega, hr5⟩
      case kd => (dsimp only; omega)
  · refine hold_out ?_
    dsimp only [KswPost]
    (rename News _ _ _ _ => nE)
    simp only [List.push_toArray] at nE
    have hc6 : run la lb lc ld f5 c1p.dropLast (c1r ++ [s5]) = some [la, lc, ld, lb, lc, ld] := by
      rcases hc5 with ⟨h, _⟩ | ⟨h, _⟩ | ⟨h, _⟩ | ⟨_, _, h⟩ <;> first | exact h | omega
    have hdl : c1p.dropLast.length ≤ c1p.length := by simp
    refine' ksw_end ⟨c1p.dropLast, c1r ++ [s5], _, _, _, _, f5⟩ (by assumption) nE (fun p h => (by repeat (first | exact h | refine List.Mem.tail _ ?_))) trivial ?ka ?kb ?kc ?kd
    case ka => exact List.forall_mem_nil _
    case kb =>
      intro z h2 h3
      simp only [List.contains_cons, List.contains_nil, Bool.or_false, beq_eq_false_iff_ne, ne_eq] at h3
      simp only [if_neg h3, kstB, List.contains_cons, List.contains_nil, Bool.or_false, beq_iff_eq]
    case kc => exact ⟨hi5, IntsAre.append hq2 (.cons _ _ .nil), by simp only; omega, by simp only [List.length_append, List.length_cons, List.length_nil]; omega, hc6⟩
    case kd => (dsimp only; omega)

end Mine
end
section
open PySem
namespace Mine
def rp (c : Nat) (z : List Nat) (l : List Nat) : List Nat := l.flatMap fun d => if d = c then z else [d]
theorem rp_append (c : Nat) (z a b : List Nat) : rp c z (a ++ b) = rp c z a ++ rp c z b := by simp [rp]
theorem rp_free (c : Nat) (z : List Nat) : ∀ l : List Nat, c ∉ l → rp c z l = l
  | [], _ => rfl
  | k :: r, h => by
    have h1 : ¬ k = c := fun e => h (e ▸ List.mem_cons_self ..)
    have h2 : c ∉ r := fun m => h (List.mem_cons_of_mem _ m)
    have ih := rp_free c z r h2
    simp only [rp, List.flatMap_cons, if_neg h1] at ih ⊢
    rw [ih]; rfl
theorem rp_one (c : Nat) (z : List Nat) : rp c z [c] = z := by simp [rp]
theorem rp_join (c : Nat) (z : Str) : ∀ parts : List Str, (∀ p ∈ parts, c ∉ p.cps.toList) → rp c z.cps.toList (Str.join ⟨#[c]⟩ parts).cps.toList = (Str.join z parts).cps.toList
  | [], _ => rfl
  | [p], h => rp_free c _ _ (h p (List.mem_singleton.mpr rfl))
  | p :: q :: r, h => by
    have ih := rp_join c z (q :: r) fun a ha => h a (List.mem_cons_of_mem _ ha)
    show rp c z.cps.toList (p ++ ⟨#[c]⟩ ++ Str.join ⟨#[c]⟩ (q :: r)).cps.toList = (p ++ z ++ Str.join z (q :: r)).cps.toList
    simp only [Str.cps_append, Array.toList_append]
    rw [rp_append, rp_append, ih, rp_free c _ _ (h p (List.mem_cons_self ..)), rp_one]
theorem replace_cps (x z : Str) (c : Nat) : (Txt.replace x ⟨#[c]⟩ z).cps.toList = rp c z.cps.toList x.cps.toList := by
  rw [StrLaws.replace_one, ← rp_join c z _ (StrLaws.split_free x c), StrLaws.join_split]
theorem rp_len (c : Nat) (z : List Nat) (hz : z.length ≤ 6) : ∀ l : List Nat, (rp c z l).length ≤ 6 * l.length
  | [] => by simp [rp]
  | k :: r => by
    have ih := rp_len c z hz r
    simp only [rp, List.flatMap_cons, List.length_append, List.length_cons] at ih ⊢
    by_cases h : k = c
    · rw [if_pos h]; omega
    · rw [if_neg h]; simp only [List.length_cons, List.length_nil]; omega
theorem len_replace (x z : Str) (c : Nat) (hz : z.length ≤ 6) : (Txt.replace x ⟨#[c]⟩ z).length ≤ 6 * x.length := by
  have h := congrArg List.length (replace_cps x z c)
  have h2 := rp_len c z.cps.toList (by simpa [Str.length] using hz) x.cps.toList
  simp only [Array.length_toList] at h h2
  show (Txt.replace x ⟨#[c]⟩ z).cps.size ≤ 6 * x.cps.size
  omega
/-- a sign, written -/
def escC (c : Nat) : List Nat := if c = 38 then [38, 97, 109, 112, 59] else if c = 60 then [38, 108, 116, 59] else if c = 62 then [38, 103, 116, 59] else [c]
def escL (l : List Nat) : List Nat := l.flatMap escC
def esc (x : Str) : Str := ⟨(escL x.cps.toList).toArray⟩
theorem chain_escL (l : List Nat) : rp 62 [38, 103, 116, 59] (rp 60 [38, 108, 116, 59] (rp 38 [38, 97, 109, 112, 59] l)) = escL l := by
  induction l with
  | nil => rfl
  | cons k r ih =>
    have e : k :: r = [k] ++ r := rfl
    rw [e, rp_append, rp_append, rp_append, ih]
    show _ = escL ([k] ++ r)
    unfold escL
    rw [List.flatMap_append]
    congr 1
    by_cases h1 : k = 38
    · subst h1; rfl
    · by_cases h2 : k = 60
      · subst h2; rfl
      · by_cases h3 : k = 62
        · subst h3; rfl
        · simp [rp, escC, h1, h2, h3]
def lit (s : String) : Str := Str.ofString s
abbrev rep3 (x : Str) : Str := Txt.replace (Txt.replace (Txt.replace x (Str.ofString "&") (Str.ofString "&amp;")) (Str.ofString "<") (Str.ofString "&lt;")) (Str.ofString ">") (Str.ofString "&gt;")
theorem l_amp : Str.ofString "&" = ⟨#[38]⟩ := by decide +kernel
theorem l_lt : Str.ofString "<" = ⟨#[60]⟩ := by decide +kernel
theorem l_gt : Str.ofString ">" = ⟨#[62]⟩ := by decide +kernel
theorem l_quo : Str.ofString "\"" = ⟨#[34]⟩ := by decide +kernel
theorem l_cr : Str.ofString "\r" = ⟨#[13]⟩ := by decide +kernel
theorem l_nl : Str.ofString "\n" = ⟨#[10]⟩ := by decide +kernel
theorem l_tab : Str.ofString "\t" = ⟨#[9]⟩ := by decide +kernel
theorem l_eamp : Str.ofString "&amp;" = ⟨#[38, 97, 109, 112, 59]⟩ := by decide +kernel
theorem l_elt : Str.ofString "&lt;" = ⟨#[38, 108, 116, 59]⟩ := by decide +kernel
theorem l_egt : Str.ofString "&gt;" = ⟨#[38, 103, 116, 59]⟩ := by decide +kernel
theorem rep3_esc (x : Str) : rep3 x = esc x := by
  refine Str.ext' ?_
  unfold rep3
  rw [l_amp, l_lt, l_gt, l_eamp, l_elt, l_egt]
  apply Array.toList_inj.mp
  rw [replace_cps, replace_cps, replace_cps]
  exact chain_escL _
/-- no sign of the attribute's own -/
def Plain (x : Str) : Prop := 34 ∉ x.cps.toList ∧ 13 ∉ x.cps.toList ∧ 10 ∉ x.cps.toList ∧ 9 ∉ x.cps.toList
theorem escC_mem {k c : Nat} (h : k ∈ escC c) : k = c ∨ k = 38 ∨ k = 97 ∨ k = 109 ∨ k = 112 ∨ k = 59 ∨ k = 108 ∨ k = 116 ∨ k = 103 := by
  unfold escC at h
  split at h
  · simp at h; omega
  · split at h
    · simp at h; omega
    · split at h
      · simp at h; omega
      · simp at h; omega
theorem Plain.esc {x : Str} (h : Plain x) : Plain (esc x) := by
  have key : ∀ c : Nat, c ∉ x.cps.toList → c < 38 → c ∉ (Mine.esc x).cps.toList := by
    intro c hc h38 hm
    have hm' : c ∈ x.cps.toList.flatMap escC := hm
    obtain ⟨d, hd, hcd⟩ := List.mem_flatMap.mp hm'
    rcases escC_mem hcd with rfl | h | h | h | h | h | h | h | h
    · exact hc hd
    all_goals omega
  exact ⟨key _ h.1 (by decide), key _ h.2.1 (by decide), key _ h.2.2.1 (by decide), key _ h.2.2.2 (by decide)⟩
theorem replace_none (x z : Str) (c : Nat) (h : c ∉ x.cps.toList) : Txt.replace x ⟨#[c]⟩ z = x := by
  refine Str.ext' ?_
  apply Array.toList_inj.mp
  rw [replace_cps, rp_free c _ _ h]
theorem rep4_esc {x : Str} (h : Plain x) : Txt.replace (esc x) (Str.ofString "\r") (Str.ofString "&#xD;") = esc x := by
  rw [l_cr]; exact replace_none _ _ _ h.esc.2.1
theorem rep7_esc {x : Str} (h : Plain x) : Txt.replace (Txt.replace (Txt.replace (Txt.replace (esc x) (Str.ofString "\"") (Str.ofString "&quot;")) (Str.ofString "\r") (Str.ofString "&#13;")) (Str.ofString "\n") (Str.ofString "&#10;")) (Str.ofString "\t") (Str.ofString "&#09;") = esc x := by
  rw [l_cr, l_quo, l_nl, l_tab, replace_none _ _ _ h.esc.1, replace_none _ _ _ h.esc.2.1, replace_none _ _ _ h.esc.2.2.1, replace_none _ _ _ h.esc.2.2.2]
theorem esc_len (x : Str) : (esc x).length ≤ 5 * x.length := by
  show (esc x).cps.size ≤ 5 * x.cps.size
  have key : ∀ l : List Nat, (escL l).length ≤ 5 * l.length := by
    intro l
    induction l with
    | nil => simp [escL]
    | cons k r ih =>
      simp only [escL, List.flatMap_cons, List.length_append, List.length_cons] at ih ⊢
      have : (escC k).length ≤ 5 := by unfold escC; split <;> (try split) <;> (try split) <;> simp
      omega
  simpa [esc] using key x.cps.toList
end Mine
end
section
open PySem PySem.W PyProof.Rows
namespace Mine
local macro_rules | `(tactic| walk_at $s:str) => `(tactic| k_extra $s)
local macro_rules | `(tactic| walk_at "execs cons") => `(tactic| (refine gen_toks1 ?_; intro tkp htkp))
local macro_rules | `(tactic| walk_at "execs nil") => `(tactic| (refine gen_toks1 ?_; intro tkp htkp))

abbrev SCT : Scope := { kind := ScopeKind.function, names := [(Str.ofString "text", NameKind.local), (Str.ofString "TypeError", NameKind.globalImplicit), (Str.ofString "AttributeError", NameKind.globalImplicit), (Str.ofString "_raise_serialization_error", NameKind.globalImplicit)], isGenerator := false, isCoroutine := false }
theorem split_free_one (x : Str) (c : Nat) (h : c ∉ x.cps.toList) : Builtin.Str.occurrences x ⟨#[c]⟩ 0 x.length (x.length + 1) = [] := by
  cases ho : Builtin.Str.occurrences x ⟨#[c]⟩ 0 x.length (x.length + 1) with
  | nil => rfl
  | cons i r =>
    exfalso
    obtain ⟨f, hc⟩ := StrLaws.occ_chain x ⟨#[c]⟩ (x.length + 1)
    rw [ho] at hc
    have hm := (StrLaws.subAt_one x c i).mp hc.2.1
    exact h (List.mem_of_getElem? hm)
theorem replace_absent (x z : Str) (c : Nat) (h : (Builtin.Str.occurrences x ⟨#[c]⟩ 0 x.length 1).isEmpty = true) : Txt.replace x ⟨#[c]⟩ z = x := by
  have h1 := StrLaws.found_one x c
  rw [h] at h1
  have h2 : c ∉ x.cps.toList := of_decide_eq_false h1.symm
  unfold Txt.replace
  rw [split_free_one x c h2]
  rfl
theorem frame_same {h₀ h : Heap} {L : Addr} {m : Str → Option Value} {x : Str} {v : Value} (F : Fr h₀ L h m) (hm : m x = some v) : Fr h₀ L h (fun y => if y = x then some v else m y) := by
  have e : (fun y => if y = x then some v else m y) = m := by
    funext y
    by_cases h : y = x
    · rw [if_pos h, h, hm]
    · rw [if_neg h]
  rw [e]; exact F
set_option maxRecDepth 100000 in
set_option maxHeartbeats 8000000 in
theorem if_rep {w : World} {mean : ExcName → Option Value} {mg mb : Str → Option Value} {A : Around} {name : Str} {a : Addr} {cd : Value} {h₀ : Heap} {L : Addr} {m : Str → Option Value} {news : List (Addr × Obj)} {s : Shared} {x r : Str} {c : Nat} {cs : Str} {tx : Tok} {p1 p2 p3 p4 p5 p6 p7 p8 p9 p10 p11 : Pos} {Q : Flow → Shared → Prop} {E : Value → Shared → Prop}
    (F : Fr h₀ L s.heap m) (hm : m (Str.ofString "text") = some (.str x tx)) (N : News h₀ L s.heap news) (X : (Mine.hd.heap_39 w.params).In h₀) (T : Top Mine.hd.view_39 (looseW Mine.hd.view_39 [Str.ofString "EXACT_TOKEN_TYPES"]) mean mg mb h₀)
    (hcs : cs = ⟨#[c]⟩) (hcr : (cs == r) = false) (hr : r.length ≤ 14) (hx : x.length ≤ 1048576) (ht : 0 < s.toks)
    (he : ∃ pl : Sem Bool, eval (((Expr.Name (Str.ofString "text") p5).Attribute (Str.ofString "replace") p6).Call [Expr.Constant (Const.str cs) 0 p7, Expr.Constant (Const.str r) 0 p8] [] p9) (envOf name SCT L a cd) = (do
      let ov ← eval (Expr.Name (Str.ofString "text") p5) (envOf name SCT L a cd)
      standAt p6.atName
      let (f, first) ← holding [ov] (getMethod ov (Str.ofString "replace") pl)
      callWith p9 f first (backTo p9 (starEach [Expr.Constant (Const.str cs) 0 p7, Expr.Constant (Const.str r) 0 p8] (envOf name SCT L a cd))) []))
    (h : ∀ h' t' tk', Fr h₀ L h' (fun y => if y = Str.ofString "text" then some (.str (Txt.replace x cs r) t') else m y) → News h₀ L h' news → 0 < tk' → Q .next { s with heap := h', toks := tk' }) :
    wpAny (model PySem.Challenge.rw_ty0033_01.row.prog w) A (exec (Stmt.If ((Expr.Constant (Const.str cs) 0 p1).Compare [CmpOp.In] [Expr.Name (Str.ofString "text") p2] p3) [Stmt.Assign [Expr.Name (Str.ofString "text") p4] (((Expr.Name (Str.ofString "text") p5).Attribute (Str.ofString "replace") p6).Call [Expr.Constant (Const.str cs) 0 p7, Expr.Constant (Const.str r) 0 p8] [] p9) p10] [] p11) (envOf name SCT L a cd)) Q E s := by
  k_fill
  k_with_none
  obtain ⟨plx, hex⟩ := he
  k_with "eval Call Attribute" => (refine MethodCall_ ?_ hex)
  k_with "call builtin:str.replace" => (refine SC.replaceW (by (show @Ne Nat _ _); omega) (by (show @Ne Nat _ _); omega) (by (show @Ne Nat _ _); omega) hcr hx hr ?_; intro t5 k5)
  k_with "eval Name" => (k_dflt (refine' ld F ?k2 ?_; (case k2 => exact hm)))
  k_steps
  · rename (List.isEmpty _ = true) => hem
    subst hcs
    refine h _ tx _ ?_ N (by first | assumption | exact Nat.succ_pos _)
    rw [replace_absent x r c hem]
    exact frame_same F hm
  · exact h _ _ _ (by assumption) (by assumption) (by assumption)

end Mine
end
section
open PySem PySem.W PyProof.Rows
namespace Mine
local macro_rules | `(tactic| walk_at $s:str) => `(tactic| k_extra $s)
local macro_rules | `(tactic| walk_at "execs cons") => `(tactic| (refine gen_toks1 ?_; intro tkp htkp))
local macro_rules | `(tactic| walk_at "execs nil") => `(tactic| (refine gen_toks1 ?_; intro tkp htkp))

theorem e3 (x : Str) : Txt.replace (Txt.replace (Txt.replace x (Str.ofString "&") (Str.ofString "&amp;")) (Str.ofString "<") (Str.ofString "&lt;")) (Str.ofString ">") (Str.ofString "&gt;") = esc x := rep3_esc x
theorem e_quo {x : Str} (h : Plain x) : Txt.replace (esc x) (Str.ofString "\"") (Str.ofString "&quot;") = esc x := by rw [l_quo]; exact replace_none _ _ _ h.esc.1
theorem e_cr {x : Str} (h : Plain x) : Txt.replace (esc x) (Str.ofString "\r") (Str.ofString "&#13;") = esc x := by rw [l_cr]; exact replace_none _ _ _ h.esc.2.1
theorem e_crD {x : Str} (h : Plain x) : Txt.replace (esc x) (Str.ofString "\r") (Str.ofString "&#xD;") = esc x := by rw [l_cr]; exact replace_none _ _ _ h.esc.2.1
theorem e_nl {x : Str} (h : Plain x) : Txt.replace (esc x) (Str.ofString "\n") (Str.ofString "&#10;") = esc x := by rw [l_nl]; exact replace_none _ _ _ h.esc.2.2.1
theorem e_tab {x : Str} (h : Plain x) : Txt.replace (esc x) (Str.ofString "\t") (Str.ofString "&#09;") = esc x := by rw [l_tab]; exact replace_none _ _ _ h.esc.2.2.2
theorem len_amp (x : Str) : (Txt.replace x (Str.ofString "&") (Str.ofString "&amp;")).length ≤ 6 * x.length := by rw [l_amp]; exact len_replace _ _ _ (by decide)
theorem len_lt (x : Str) : (Txt.replace x (Str.ofString "<") (Str.ofString "&lt;")).length ≤ 6 * x.length := by rw [l_lt]; exact len_replace _ _ _ (by decide)
set_option maxRecDepth 100000 in
set_option maxHeartbeats 8000000 in
theorem c_cdata (w : World) (mean : ExcName → Option Value) (mg mb : Str → Option Value) (news : List (Addr × Obj)) (x : Str) (tx : Tok) (hl : x.length ≤ 200) (hpl : Plain x) :
    Ctr w mean mg mb 66 20 400 news [.str x tx] (fun r tl => tl = [] ∧ ∃ t, r = .str (esc x) t) := by
  unfold Ctr
  k_fill
  intro dp un gd cn cs a ccd cl outer A₀ base h₀ L m s Q E B F X N T hk hd hu htk hret
  refine wpAny_call ?_
  k_dflt ktr_enter
  refine gen_toks (Nat.lt_of_lt_of_le htk (Nat.le_add_right _ _)) ?_
  intro tk0 htk0
  k_with_none
  k_with "exec While" => (k_dflt (refine whl_start 100 ?_))
  have hla := len_amp x
  have hlb := len_lt (Txt.replace x (Str.ofString "&") (Str.ofString "&amp;"))
  have hlc := esc_len x
  k_with "exec If" => (
    k_dflt (refine' if_rep ?F ?hm ?N ?X ?T ?hcs ?hcr ?hr ?hx ?ht ?he ?_; (case F => k_asm); (case N => k_asm); (case X => k_asm); (case T => k_asm); (case hm => exact rfl); (case hcs => first | exact l_amp | exact l_lt | exact l_gt | exact l_quo | exact l_cr | exact l_nl | exact l_tab); (case hcr => decide); (case hr => decide); (case hx => omega); (case ht => first | assumption | exact Nat.succ_pos _); (case he => exact ⟨_, rfl⟩))
    intro h7 t7 tk7 F7 N7 htk7
    (try simp only [e3, e_quo hpl, e_cr hpl, e_crD hpl, e_nl hpl, e_tab hpl] at F7))
  k_steps
  refine hret _ [] _ _ (by assumption) (by assumption) (fun _ _ _ h => nomatch h) ⟨rfl, _, rfl⟩ (by assumption)
set_option maxRecDepth 100000 in
set_option maxHeartbeats 8000000 in
theorem c_attrib (w : World) (mean : ExcName → Option Value) (mg mb : Str → Option Value) (news : List (Addr × Obj)) (x : Str) (tx : Tok) (hl : x.length ≤ 200) (hpl : Plain x) :
    Ctr w mean mg mb 73 20 400 news [.str x tx] (fun r tl => tl = [] ∧ ∃ t, r = .str (esc x) t) := by
  unfold Ctr
  k_fill
  intro dp un gd cn cs a ccd cl outer A₀ base h₀ L m s Q E B F X N T hk hd hu htk hret
  refine wpAny_call ?_
  k_dflt ktr_enter
  refine gen_toks (Nat.lt_of_lt_of_le htk (Nat.le_add_right _ _)) ?_
  intro tk0 htk0
  k_with_none
  k_with "exec While" => (k_dflt (refine whl_start 100 ?_))
  have hla := len_amp x
  have hlb := len_lt (Txt.replace x (Str.ofString "&") (Str.ofString "&amp;"))
  have hlc := esc_len x
  k_with "exec If" => (
    k_dflt (refine' if_rep ?F ?hm ?N ?X ?T ?hcs ?hcr ?hr ?hx ?ht ?he ?_; (case F => k_asm); (case N => k_asm); (case X => k_asm); (case T => k_asm); (case hm => exact rfl); (case hcs => first | exact l_amp | exact l_lt | exact l_gt | exact l_quo | exact l_cr | exact l_nl | exact l_tab); (case hcr => decide); (case hr => decide); (case hx => omega); (case ht => first | assumption | exact Nat.succ_pos _); (case he => exact ⟨_, rfl⟩))
    intro h7 t7 tk7 F7 N7 htk7
    (try simp only [e3, e_quo hpl, e_cr hpl, e_crD hpl, e_nl hpl, e_tab hpl] at F7))
  k_steps
  refine hret _ [] _ _ (by assumption) (by assumption) (fun _ _ _ h => nomatch h) ⟨rfl, _, rfl⟩ (by assumption)
set_option maxRecDepth 100000 in
set_option maxHeartbeats 8000000 in
theorem c_c14n (w : World) (mean : ExcName → Option Value) (mg mb : Str → Option Value) (news : List (Addr × Obj)) (x : Str) (tx : Tok) (hl : x.length ≤ 200) (hpl : Plain x) :
    Ctr w mean mg mb 80 20 400 news [.str x tx] (fun r tl => tl = [] ∧ ∃ t, r = .str (esc x) t) := by
  unfold Ctr
  k_fill
  intro dp un gd cn cs a ccd cl outer A₀ base h₀ L m s Q E B F X N T hk hd hu htk hret
  refine wpAny_call ?_
  k_dflt ktr_enter
  refine gen_toks (Nat.lt_of_lt_of_le htk (Nat.le_add_right _ _)) ?_
  intro tk0 htk0
  k_with_none
  k_with "exec While" => (k_dflt (refine whl_start 100 ?_))
  have hla := len_amp x
  have hlb := len_lt (Txt.replace x (Str.ofString "&") (Str.ofString "&amp;"))
  have hlc := esc_len x
  k_with "exec If" => (
    k_dflt (refine' if_rep ?F ?hm ?N ?X ?T ?hcs ?hcr ?hr ?hx ?ht ?he ?_; (case F => k_asm); (case N => k_asm); (case X => k_asm); (case T => k_asm); (case hm => exact rfl); (case hcs => first | exact l_amp | exact l_lt | exact l_gt | exact l_quo | exact l_cr | exact l_nl | exact l_tab); (case hcr => decide); (case hr => decide); (case hx => omega); (case ht => first | assumption | exact Nat.succ_pos _); (case he => exact ⟨_, rfl⟩))
    intro h7 t7 tk7 F7 N7 htk7
    (try simp only [e3, e_quo hpl, e_cr hpl, e_crD hpl, e_nl hpl, e_tab hpl] at F7))
  k_steps
  refine hret _ [] _ _ (by assumption) (by assumption) (fun _ _ _ h => nomatch h) ⟨rfl, _, rfl⟩ (by assumption)
set_option maxRecDepth 100000 in
set_option maxHeartbeats 8000000 in
theorem c_written (w : World) (mean : ExcName → Option Value) (mg mb : Str → Option Value) (news : List (Addr × Obj)) (hd9 : Int) (th : Tok) (x : Str) (tx : Tok) (hl : x.length ≤ 200) (hpl : Plain x) :
    Ctr w mean mg mb 94 40 800 news [.int hd9 th, .str x tx] (fun r tl => tl = [] ∧ ∃ t, r = .str (esc x) t) := by
  unfold Ctr
  k_fill
  intro dp un gd cn cs a ccd cl outer A₀ base h₀ L m s Q E B F X N T hk hd hu htk hret
  refine wpAny_call ?_
  k_dflt ktr_enter
  refine gen_toks (Nat.lt_of_lt_of_le htk (Nat.le_add_right _ _)) ?_
  intro tk0 htk0
  k_with_none
  k_with "exec While" => (k_dflt (refine whl_start 100 ?_))
  k_with "eval Name" => (k_dflt (refine' name_K ?kF ?k1 ?k2 ?k3 ?_; (case kF => k_asm); (case k1 => k_asm); (case k2 => k_asm); (case k3 => k_is)))
  k_with "eval Name" => (k_dflt (refine' ld ?k1 ?k2 ?_; (case k1 => k_asm); (case k2 => exact rfl)))
  k_with "call ref" => (
    k_dflt (refine' ctr_use (c_cdata _ _ _ _ _ _ _ hl hpl) ?k1 ?k2 ?k3 ?k4 ?k5 ?kK ?kd ?ku ?kt ?_; (case k1 => k_asm); (case k2 => k_asm); (case k3 => k_asm); (case k4 => k_asm); (case k5 => k_asm); (case kK => first | exact rfl | assumption); (case kd => ktr_room); (case ku => ktr_units); (case kt => first | assumption | exact Nat.succ_pos _ | (dsimp only; omega)))
    intro r9 tl9 h9 tk9 F9 N9 lt9 R9 htk9
    (obtain ⟨e9, t9, e8⟩ := R9; subst e9; subst e8; clear lt9; (try simp only [List.nil_append] at N9))
    (try dsimp only)
    (try k_fold))
  k_with "call ref" => (
    k_dflt (refine' ctr_use (c_attrib _ _ _ _ _ _ _ hl hpl) ?k1 ?k2 ?k3 ?k4 ?k5 ?kK ?kd ?ku ?kt ?_; (case k1 => k_asm); (case k2 => k_asm); (case k3 => k_asm); (case k4 => k_asm); (case k5 => k_asm); (case kK => first | exact rfl | assumption); (case kd => ktr_room); (case ku => ktr_units); (case kt => first | assumption | exact Nat.succ_pos _ | (dsimp only; omega)))
    intro r9 tl9 h9 tk9 F9 N9 lt9 R9 htk9
    (obtain ⟨e9, t9, e8⟩ := R9; subst e9; subst e8; clear lt9; (try simp only [List.nil_append] at N9))
    (try dsimp only)
    (try k_fold))
  k_with "call ref" => (
    k_dflt (refine' ctr_use (c_c14n _ _ _ _ _ _ _ hl hpl) ?k1 ?k2 ?k3 ?k4 ?k5 ?kK ?kd ?ku ?kt ?_; (case k1 => k_asm); (case k2 => k_asm); (case k3 => k_asm); (case k4 => k_asm); (case k5 => k_asm); (case kK => first | exact rfl | assumption); (case kd => ktr_room); (case ku => ktr_units); (case kt => first | assumption | exact Nat.succ_pos _ | (dsimp only; omega)))
    intro r9 tl9 h9 tk9 F9 N9 lt9 R9 htk9
    (obtain ⟨e9, t9, e8⟩ := R9; subst e9; subst e8; clear lt9; (try simp only [List.nil_append] at N9))
    (try dsimp only)
    (try k_fold))
  k_steps
  all_goals (refine hret _ [] _ _ (by assumption) (by assumption) (fun _ _ _ h => nomatch h) ⟨rfl, _, rfl⟩ (by first | assumption | exact Nat.succ_pos _))

end Mine
end
section
open PySem PySem.W PyProof.Rows
namespace Mine
local macro_rules | `(tactic| walk_at $s:str) => `(tactic| k_extra $s)
local macro_rules | `(tactic| k_all) => `(tactic| with_reducible assumption)
local macro_rules | `(tactic| walk_at "execs cons") => `(tactic| (refine gen_toks1 ?_; intro tkp htkp))
local macro_rules | `(tactic| walk_at "execs nil") => `(tactic| (refine gen_toks1 ?_; intro tkp htkp))

def cancels (a b : Int) : Bool := decide ((a = 13 ∧ b = 19) ∨ (a = 19 ∧ b = 13) ∨ (a = 20 ∧ b = 21) ∨ (a = 21 ∧ b = 20))
def strikeStep (p : List Int) (n : Int) : List Int := if p ≠ [] ∧ cancels (p.getLastD 0) n = true then p.dropLast else p ++ [n]
def struckL (ns : List Int) : List Int := ns.foldl strikeStep []
theorem in_pairs {prog : Program} {w : World} {A : Around} {E : Value → Shared → Prop} {s : Shared} {c x : Value} {a b : Int} {as bs : List Addr} {Q : Value → Shared → Prop}
    (rc : Reads s.heap c (.list [.tuple [.int 13, .int 19], .tuple [.int 19, .int 13], .tuple [.int 20, .int 21], .tuple [.int 21, .int 20]]) as) (rx : Reads s.heap x (.tuple [.int a, .int b]) bs) (hu : A.units + 65 < cLine) (h : Q (.bool (cancels a b)) s) : wpAny (model prog w) A (compareOp .In x c) Q E s := by
  refine in_list_dataH rc rx (by decide +kernel) (by rfl) hu ?_ ?_
  · intro y hy
    simp only [List.mem_cons, List.not_mem_nil, or_false] at hy
    rcases hy with rfl | rfl | rfl | rfl <;> rfl
  · have e : decide (PySem.Spec.countIn (.tuple [.int a, .int b]) [.tuple [.int 13, .int 19], .tuple [.int 19, .int 13], .tuple [.int 20, .int 21], .tuple [.int 21, .int 20]] ≠ 0) = cancels a b := by
      unfold cancels
      apply decide_eq_decide.mpr
      simp only [PySem.Spec.countIn, PySem.Spec.same, PySem.Spec.sameAll, Bool.and_true, Bool.and_eq_true, beq_iff_eq]
      (repeat' split) <;> omega
    rw [e]
    exact h

structure SS where
  p : List Int
  pv : List Value
  np : Nat
def SOk (pre : List Int) (c : SS) : Prop := IntsAre c.pv c.p ∧ c.p.length ≤ pre.length ∧ c.p = struckL pre
theorem struck_snoc (pre : List Int) (n : Int) : struckL (pre ++ [n]) = strikeStep (struckL pre) n := by simp [struckL]
theorem s_pos {p : List Int} {v : List Value} (h : decide (p = []) = false) (hl : v.length = p.length) : 0 < v.length := by
  cases p with
  | nil => simp at h
  | cons a r => simp at hl; omega
set_option maxRecDepth 100000 in
set_option maxHeartbeats 8000000 in
theorem c_struck (w : World) (mean : ExcName → Option Value) (mg mb : Str → Option Value) (news : List (Addr × Obj)) (xl : Addr) (vs : List Value) (ns : List Int) (nn : Nat) (hi : IntsAre vs ns) (hlen : ns.length ≤ 200) (hm : (xl, listOf vs.toArray nn) ∈ news) :
    Ctr0 w mean mg mb 120 20 400 news [.ref xl] (fun r tl => ∃ y ys n, r = .ref y ∧ tl = [(y, listOf ys.toArray n)] ∧ IntsAre ys (struckL ns)) := by
  unfold Ctr0
  k_fill
  intro dp un gd cn cs a ccd cl outer A₀ base h₀ L m s Q E B F X N T hk hd hu hret
  refine wpAny_call ?_
  k_dflt ktr_enter
  k_with_none
  k_with "exec While" => (k_dflt (refine whl_start 100 ?_))
  k_with "eval Name" => (k_dflt (refine' name_K ?kF ?k1 ?k2 ?k3 ?_; (case kF => k_asm); (case k1 => k_asm); (case k2 => k_asm); (case k3 => k_is)))
  k_with "eval Name" => (k_dflt (refine' ld ?k1 ?k2 ?_; (case k1 => k_asm); (case k2 => exact rfl)))
  k_with "pyIter ref" => refine hold ?_
  k_steps
  refine hold_out ?_
  (rename Fr _ _ _ _ => lF'); (rename News _ _ _ _ => lN')
  (rename (∀ p ∈ news, p.1 < _) => hpl)
  with_unfolding_all refine' my_forL (nn := nn) (fun c : SS => (_, listOf c.pv.toArray c.np) :: news) (fun _ => []) [] SOk ⟨[], [], 0⟩ ?kh ?kl hi lF' ?kn ?kk ?kp ?kt ?kd
  case kh => rfl
  case kl => exact fun c => .tail _ hm
  case kn => exact lN'
  case kk => exact List.forall_mem_nil _
  case kp => exact ⟨.nil, Nat.le_refl _, rfl⟩
  case kd =>
    clear lF' lN'
    intro c1 u1 h1 tk1 hp1 F1 N1
    obtain ⟨c1p, c1pv, c1n⟩ := c1
    obtain ⟨hq1, hq2, hq3⟩ := hp1
    dsimp only [kstB] at F1 N1 hq1 hq2 hq3
    k_steps
    subst hq3
    refine' hret _ [(_, _)] _ _ (by assumption) (kst_newsOf (by assumption) (List.forall_mem_cons.mpr ⟨?sub1, fun p hp => ?sub⟩)) ?ord ⟨_, _, _, rfl, rfl, hq1⟩
    case sub1 => k_mem
    case sub => (repeat (first | exact hp | refine List.Mem.tail _ ?_))
    case ord =>
      intro q hq p hp
      rw [List.mem_singleton.mp hp]
      revert q
      first
      | exact fun q hq => (by assumption : ∀ p ∈ news, p.1 < _) q hq
      | exact ktn_ltOf (by assumption : AllLt _ news)
      | exact ktn_ltOf (by assumption : _ ∧ AllLt _ news).2
      | exact ktn_ltOf (by assumption : _ ∧ _ ∧ AllLt _ news).2.2
      | exact ktn_ltOf (by assumption : _ ∧ _ ∧ _ ∧ AllLt _ news).2.2.2
      | exact ktn_ltOf (by assumption : _ ∧ _ ∧ _ ∧ _ ∧ AllLt _ news).2.2.2.2
      | exact ktn_ltOf (by assumption : _ ∧ _ ∧ _ ∧ _ ∧ _ ∧ AllLt _ news).2.2.2.2.2
      | exact ktn_ltOf (by assumption : _ ∧ _ ∧ _ ∧ _ ∧ _ ∧ _ ∧ AllLt _ news).2.2.2.2.2.2

  case kt =>
    clear lF' lN'
    intro c1 pre post n1 t1 u1 h1 tk1 own e1 hm1 ho1 hp1 F1 N1
    obtain ⟨c1p, c1pv, c1n⟩ := c1
    obtain ⟨hq1, hq2, hq3⟩ := hp1
    dsimp only [kstB] at F1 N1 hq1 hq2 hq3
    have hl1 := IntsAre.length hq1
    have hpre : pre.length ≤ 200 := by rw [e1] at hlen; simp at hlen; omega
    have hno := fun (p : Addr × Obj) (hp : p ∈ news ++ own) => (List.mem_append.mp hp).elim (fun h => Nat.ne_of_lt (hpl p h)) (OwnOff.ne ho1 (List.Mem.head _) p)
    simp only [List.cons_append] at N1
    k_with "subscriptTail Name UnaryOp ref int" => refine hold ?_
    k_with "call builtin:list.pop" => refine hold ?_
    k_with "compareOp In" => refine hold ?_
    k_with "call builtin:list.append" => (k_dflt (refine' append_K ?k1 ?k2 ?k3 ?_ ?z; (case k1 => k_asm); (case k2 => k_asm); (case k3 => k_upd); (case z => (rw [List.size_toArray, sizeLine_eq]; omega)); k_whole); intro h' F' N')
    k_steps
    · have hc1 : c1p = [] := of_decide_eq_true (by assumption)
      refine hold_out ?_
      dsimp only [InvPostN]
      (rename News _ _ _ _ => nE)
      (try simp only [List.push_toArray] at nE)
      refine' my_end ⟨c1p ++ [n1], c1pv ++ [.int n1 t1], _⟩ (by assumption) nE ?sub ?own ?adr ?kk ?kr ?kp
      case sub => exact List.forall_mem_cons.mpr ⟨(by k_mem), fun p hp => by repeat (first | exact List.mem_append_left _ hp | refine List.Mem.tail _ ?_)⟩
      case own => exact fun p hp => by repeat (first | exact List.mem_append_right _ hp | refine List.Mem.tail _ ?_)
      case adr => rfl
      case kk => exact List.forall_mem_nil _
      case kr =>
        intro z hz _ _
        simp only [if_neg hz, kstB, List.contains_nil, Bool.false_eq_true, if_false]
      case kp => exact ⟨IntsAre.append hq1 (.cons _ _ .nil), by simp only [List.length_append, List.length_cons, List.length_nil]; omega, by rw [struck_snoc, ← hq3, hc1]; rfl⟩

    · have hc1 : decide (c1p = []) = false := by assumption
      have hc2 : c1p ≠ [] := of_decide_eq_false hc1
      have hps : 0 < c1pv.length := s_pos hc1 hl1
      refine hold_out ?_
      refine my_itemLast (News.isList (by k_asm) (by k_mem)) hq1 hps ?_
      intro t3
      k_steps
      refine hold_out ?_
      refine in_pairs (by ke_read) (by ke_read) (by units_room) ?_
      generalize hc : cancels (c1p.getLastD 0) n1 = cb
      cases cb
      · k_steps
        refine hold_out ?_
        dsimp only [InvPostN]
        (rename News _ _ _ _ => nE)
        (try simp only [List.push_toArray] at nE)
        refine' my_end ⟨c1p ++ [n1], c1pv ++ [.int n1 t1], _⟩ (by assumption) nE ?sub ?own ?adr ?kk ?kr ?kp
        case sub => exact List.forall_mem_cons.mpr ⟨(by k_mem), fun p hp => by repeat (first | exact List.mem_append_left _ hp | refine List.Mem.tail _ ?_)⟩
        case own => exact fun p hp => by repeat (first | exact List.mem_append_right _ hp | refine List.Mem.tail _ ?_)
        case adr => rfl
        case kk => exact List.forall_mem_nil _
        case kr =>
          intro z hz _ _
          simp only [if_neg hz, kstB, List.contains_nil, Bool.false_eq_true, if_false]
        case kp => exact ⟨IntsAre.append hq1 (.cons _ _ .nil), by simp only [List.length_append, List.length_cons, List.length_nil]; omega, by rw [struck_snoc, ← hq3]; unfold strikeStep; rw [hc]; simp⟩

      · k_steps
        refine hold_out ?_
        dsimp only
        refine' kpa_pop ?F ?N ?U ?hi ?hne ?hz ?_
        case F => k_asm
        case N => k_asm
        case U => k_upd
        case hi => exact hq1
        case hne => exact hps
        case hz => (rw [sizeLine_eq]; omega)
        intro h5 t5' F5 N5 hi5
        k_steps
        have hdl : c1p.dropLast.length ≤ c1p.length := by simp
        refine hold_out ?_
        dsimp only [InvPostN]
        (rename News _ _ _ _ => nE)
        (try simp only [List.push_toArray] at nE)
        refine' my_end ⟨c1p.dropLast, c1pv.dropLast, _⟩ (by assumption) nE ?sub ?own ?adr ?kk ?kr ?kp
        case sub => exact List.forall_mem_cons.mpr ⟨(by k_mem), fun p hp => by repeat (first | exact List.mem_append_left _ hp | refine List.Mem.tail _ ?_)⟩
        case own => exact fun p hp => by repeat (first | exact List.mem_append_right _ hp | refine List.Mem.tail _ ?_)
        case adr => rfl
        case kk => exact List.forall_mem_nil _
        case kr =>
          intro z hz _ _
          simp only [if_neg hz, kstB, List.contains_nil, Bool.false_eq_true, if_false]
        case kp => exact ⟨hi5, by simp only [List.length_append, List.length_cons, List.length_nil]; omega, by rw [struck_snoc, ← hq3]; unfold strikeStep; rw [hc]; simp [hc2]⟩


end Mine
end
section
open PySem PySem.W PyProof.Rows
namespace Mine
local macro_rules | `(tactic| walk_at $s:str) => `(tactic| k_extra $s)
local macro_rules | `(tactic| k_all) => `(tactic| with_reducible assumption)
local macro_rules | `(tactic| walk_at "execs cons") => `(tactic| (refine gen_toks1 ?_; intro tkp htkp))
local macro_rules | `(tactic| walk_at "execs nil") => `(tactic| (refine gen_toks1 ?_; intro tkp htkp))

open PySem
def fgt (a b : UInt64) : Bool := PySem.Float64.cmp a b == some Ordering.gt
def flt (a b : UInt64) : Bool := PySem.Float64.cmp a b == some Ordering.lt
def feq (a b : UInt64) : Bool := PySem.Float64.cmp a b == some Ordering.eq
def max3 (a b c : UInt64) : UInt64 := if fgt b a = true then (if fgt c b = true then c else b) else if fgt c a = true then c else a
def min3 (a b c : UInt64) : UInt64 := if flt b a = true then (if flt c b = true then c else b) else if flt c a = true then c else a
def fAt (a b c : UInt64) (i : Nat) : UInt64 := if i = 0 then a else if i = 1 then b else c
theorem fAt_of {a b c : UInt64} {t u x : Tok} {i : Nat} {v : Value} (h : (#[Value.float a t, .float b u, .float c x])[i]? = some v) : ∃ t', v = .float (fAt a b c i) t' := by
  match i, h with
  | 0, h => exact ⟨t, by simpa [fAt] using h.symm⟩
  | 1, h => exact ⟨u, by simpa [fAt] using h.symm⟩
  | 2, h => exact ⟨x, by simpa [fAt] using h.symm⟩
  | n + 3, h => simp at h

theorem max3_floats {prog : Program} {w : World} {A : Around} {E : Value → Shared → Prop} {s : Shared} {a b c : UInt64} {t u x : Tok} {Q : Value → Shared → Prop} (hh : A.handled = none) (pt : 0 < t) (pu : 0 < u) (px : 0 < x)
    (h : ∀ t' h' tk, 0 < t' → (∀ d o, s.heap.get? d = some o → h'.get? d = some o) → Q (.float (max3 a b c) t') { s with heap := h', toks := tk }) :
    wpAny (model prog w) A (call (.builtin "max") [.float a t, .float b u, .float c x]) Q E s := by
  have hT : (s.heap.push { cls := .type "tuple", data := .seq #[.float a t, .float b u, .float c x] }).IsTuple s.heap.objs.size #[.float a t, .float b u, .float c x] := ⟨_, Heap.get?_push_size _ rfl, rfl, 0, rfl⟩
  refine call_max_three (wpAny_pyIter_tuple hT ?_)
  have hsz : (s.heap.push { cls := .type "tuple", data := .seq #[.float a t, .float b u, .float c x] }).objs.size = s.heap.objs.size + 1 := Heap.size_push ..
  have hC : CmpOf prog w A.in1 .Gt (fun i v => (#[Value.float a t, .float b u, .float c x])[i]? = some v) (fun i j => fgt (fAt a b c i) (fAt a b c j)) := by
    intro i j vi vj s' Q' E' hi hj hq
    obtain ⟨t1, rfl⟩ := fAt_of hi
    obtain ⟨t2, rfl⟩ := fAt_of hj
    exact PySem.AutoFloatOps.gt_0 hq
  refine ⟨_, [_, s.heap.objs.size], [_], _, _, _, _, rfl, Walks.tuple (A := A.in1) hh _ s.heap.objs.size (by rw [hsz]; exact Nat.ne_of_lt (Nat.lt_succ_self _)) #[.float a t, .float b u, .float c x],
    ⟨⟨_, Heap.get?_push_size _ rfl, rfl, rfl⟩, hT.push _⟩, fun d hd => ?_, by simp, hC, fun v h' tk hP hk => ?_⟩
  · show d < ((s.heap.push _).push _).objs.size
    rw [Heap.size_push, hsz]
    rcases List.mem_cons.mp hd with rfl | hd
    · rw [hsz]; exact Nat.lt_succ_self _
    · rcases List.mem_cons.mp hd with rfl | hd
      · exact Nat.lt_succ_of_lt (Nat.lt_succ_self _)
      · cases hd
  · have hold : ∀ d o, s.heap.get? d = some o → h'.get? d = some o := fun d o e => by
      refine hk d o (fun hm => ?_) (Heap.get?_push_of_some _ (Heap.get?_push_of_some _ e))
      rcases List.mem_cons.mp hm with e1 | hm
      · have := Heap.lt_size e; rw [e1, hsz] at this; exact Nat.lt_irrefl _ (Nat.lt_of_succ_lt this)
      · cases hm
    have hP' : (#[Value.float a t, .float b u, .float c x])[argBest (fun i j => fgt (fAt a b c i) (fAt a b c j)) 2]? = some v := hP
    have hv : ∃ t', 0 < t' ∧ v = .float (max3 a b c) t' := by
      unfold max3
      by_cases hba : fgt b a = true
      · by_cases hc : fgt c b = true
        · have e : argBest (fun i j => fgt (fAt a b c i) (fAt a b c j)) 2 = 2 := by simp [argBest, fAt, hba, hc]
          rw [e] at hP'
          exact ⟨x, px, by simpa [hba, hc] using hP'.symm⟩
        · have e : argBest (fun i j => fgt (fAt a b c i) (fAt a b c j)) 2 = 1 := by simp [argBest, fAt, hba, hc]
          rw [e] at hP'
          exact ⟨u, pu, by simpa [hba, hc] using hP'.symm⟩
      · by_cases hc : fgt c a = true
        · have e : argBest (fun i j => fgt (fAt a b c i) (fAt a b c j)) 2 = 2 := by simp [argBest, fAt, hba, hc]
          rw [e] at hP'
          exact ⟨x, px, by simpa [hba, hc] using hP'.symm⟩
        · have e : argBest (fun i j => fgt (fAt a b c i) (fAt a b c j)) 2 = 0 := by simp [argBest, fAt, hba, hc]
          rw [e] at hP'
          exact ⟨t, pt, by simpa [hba, hc] using hP'.symm⟩
    obtain ⟨t', hpt, rfl⟩ := hv
    exact h t' h' tk hpt hold

theorem min3_floats {prog : Program} {w : World} {A : Around} {E : Value → Shared → Prop} {s : Shared} {a b c : UInt64} {t u x : Tok} {Q : Value → Shared → Prop} (hh : A.handled = none) (pt : 0 < t) (pu : 0 < u) (px : 0 < x)
    (h : ∀ t' h' tk, 0 < t' → (∀ d o, s.heap.get? d = some o → h'.get? d = some o) → Q (.float (min3 a b c) t') { s with heap := h', toks := tk }) :
    wpAny (model prog w) A (call (.builtin "min") [.float a t, .float b u, .float c x]) Q E s := by
  have hT : (s.heap.push { cls := .type "tuple", data := .seq #[.float a t, .float b u, .float c x] }).IsTuple s.heap.objs.size #[.float a t, .float b u, .float c x] := ⟨_, Heap.get?_push_size _ rfl, rfl, 0, rfl⟩
  refine call_min_three (wpAny_pyIter_tuple hT ?_)
  have hsz : (s.heap.push { cls := .type "tuple", data := .seq #[.float a t, .float b u, .float c x] }).objs.size = s.heap.objs.size + 1 := Heap.size_push ..
  have hC : CmpOf prog w A.in1 .Lt (fun i v => (#[Value.float a t, .float b u, .float c x])[i]? = some v) (fun i j => flt (fAt a b c i) (fAt a b c j)) := by
    intro i j vi vj s' Q' E' hi hj hq
    obtain ⟨t1, rfl⟩ := fAt_of hi
    obtain ⟨t2, rfl⟩ := fAt_of hj
    exact PySem.AutoFloatOps.lt_0 hq
  refine ⟨_, [_, s.heap.objs.size], [_], _, _, _, _, rfl, Walks.tuple (A := A.in1) hh _ s.heap.objs.size (by rw [hsz]; exact Nat.ne_of_lt (Nat.lt_succ_self _)) #[.float a t, .float b u, .float c x],
    ⟨⟨_, Heap.get?_push_size _ rfl, rfl, rfl⟩, hT.push _⟩, fun d hd => ?_, by simp, hC, fun v h' tk hP hk => ?_⟩
  · show d < ((s.heap.push _).push _).objs.size
    rw [Heap.size_push, hsz]
    rcases List.mem_cons.mp hd with rfl | hd
    · rw [hsz]; exact Nat.lt_succ_self _
    · rcases List.mem_cons.mp hd with rfl | hd
      · exact Nat.lt_succ_of_lt (Nat.lt_succ_self _)
      · cases hd
  · have hold : ∀ d o, s.heap.get? d = some o → h'.get? d = some o := fun d o e => by
      refine hk d o (fun hm => ?_) (Heap.get?_push_of_some _ (Heap.get?_push_of_some _ e))
      rcases List.mem_cons.mp hm with e1 | hm
      · have := Heap.lt_size e; rw [e1, hsz] at this; exact Nat.lt_irrefl _ (Nat.lt_of_succ_lt this)
      · cases hm
    have hP' : (#[Value.float a t, .float b u, .float c x])[argBest (fun i j => flt (fAt a b c i) (fAt a b c j)) 2]? = some v := hP
    have hv : ∃ t', 0 < t' ∧ v = .float (min3 a b c) t' := by
      unfold min3
      by_cases hba : flt b a = true
      · by_cases hc : flt c b = true
        · have e : argBest (fun i j => flt (fAt a b c i) (fAt a b c j)) 2 = 2 := by simp [argBest, fAt, hba, hc]
          rw [e] at hP'
          exact ⟨x, px, by simpa [hba, hc] using hP'.symm⟩
        · have e : argBest (fun i j => flt (fAt a b c i) (fAt a b c j)) 2 = 1 := by simp [argBest, fAt, hba, hc]
          rw [e] at hP'
          exact ⟨u, pu, by simpa [hba, hc] using hP'.symm⟩
      · by_cases hc : flt c a = true
        · have e : argBest (fun i j => flt (fAt a b c i) (fAt a b c j)) 2 = 2 := by simp [argBest, fAt, hba, hc]
          rw [e] at hP'
          exact ⟨x, px, by simpa [hba, hc] using hP'.symm⟩
        · have e : argBest (fun i j => flt (fAt a b c i) (fAt a b c j)) 2 = 0 := by simp [argBest, fAt, hba, hc]
          rw [e] at hP'
          exact ⟨t, pt, by simpa [hba, hc] using hP'.symm⟩
    obtain ⟨t', hpt, rfl⟩ := hv
    exact h t' h' tk hpt hold

end Mine
end
section
open PySem PySem.W PyProof.Rows
namespace Mine
local macro_rules | `(tactic| walk_at $s:str) => `(tactic| k_extra $s)
local macro_rules | `(tactic| k_all) => `(tactic| with_reducible assumption)
local macro_rules | `(tactic| walk_at "execs cons") => `(tactic| (refine gen_toks1 ?_; intro tkp htkp))
local macro_rules | `(tactic| walk_at "execs nil") => `(tactic| (refine gen_toks1 ?_; intro tkp htkp))

open PySem in
section
abbrev c1f : UInt64 := 4607182418800017408
abbrev c2f : UInt64 := 4611686018427387904
abbrev c4f : UInt64 := 4616189618054758400
abbrev c6f : UInt64 := 4618441417868443648
theorem fin_nan {x : UInt64} (h : PySem.Float64.isFinite x = true) (h2 : PySem.Float64.isNaN x = true) : False := by
  unfold PySem.Float64.isFinite at h
  unfold PySem.Float64.isNaN at h2
  cases hd : PySem.Float64.decode x <;> rw [hd] at h h2 <;> simp at h h2
theorem fin_inf {x : UInt64} (h : PySem.Float64.isFinite x = true) (h2 : PySem.Float64.isInf x = true) : False := by
  unfold PySem.Float64.isFinite at h
  unfold PySem.Float64.isInf at h2
  cases hd : PySem.Float64.decode x <;> rw [hd] at h h2 <;> simp at h h2
/-- hsv_to_rgb's pieces -/
def hvI (h : UInt64) : Int := PySem.Flt.toInt PySem.Float64.truncOf (PySem.Float64.mul h c6f)
def hvF (h : UInt64) : UInt64 := PySem.Float64.sub (PySem.Float64.mul h c6f) (PySem.Float64.ofInt (hvI h))
def hvP (s v : UInt64) : UInt64 := PySem.Float64.mul v (PySem.Float64.sub c1f s)
def hvQ (h s v : UInt64) : UInt64 := PySem.Float64.mul v (PySem.Float64.sub c1f (PySem.Float64.mul s (hvF h)))
def hvT (h s v : UInt64) : UInt64 := PySem.Float64.mul v (PySem.Float64.sub c1f (PySem.Float64.mul s (PySem.Float64.sub c1f (hvF h))))
def hsvF (h s v : UInt64) : UInt64 × UInt64 × UInt64 :=
  let i := Int.fmod (hvI h) 6
  if i = 0 then (v, hvT h s v, hvP s v) else if i = 1 then (hvQ h s v, v, hvP s v) else if i = 2 then (hvP s v, v, hvT h s v) else if i = 3 then (hvP s v, hvQ h s v, v) else if i = 4 then (hvT h s v, hvP s v, v) else (v, hvP s v, hvQ h s v)
/-- what the call asks -/
def HsvOk (h s : UInt64) : Prop := (PySem.Float64.cmp s 0 == some Ordering.eq) = false ∧ PySem.Float64.isFinite (PySem.Float64.mul h c6f) = true ∧ (hvI h).natAbs < 1000000
def rgbC (r g b x : UInt64) : UInt64 := PySem.Float64.div (PySem.Float64.sub (max3 r g b) x) (PySem.Float64.sub (max3 r g b) (min3 r g b))
def rgbH (r g b : UInt64) : UInt64 := if feq r (max3 r g b) = true then PySem.Float64.sub (rgbC r g b b) (rgbC r g b g) else if feq g (max3 r g b) = true then PySem.Float64.sub (PySem.Float64.add c2f (rgbC r g b r)) (rgbC r g b b) else PySem.Float64.sub (PySem.Float64.add c4f (rgbC r g b g)) (rgbC r g b r)
def rgbF (r g b : UInt64) : UInt64 × UInt64 × UInt64 := ((PySem.Float64.divmod (PySem.Float64.div (rgbH r g b) c6f) c1f).2, PySem.Float64.div (PySem.Float64.sub (max3 r g b) (min3 r g b)) (max3 r g b), max3 r g b)
def RgbOk (r g b : UInt64) : Prop := feq (min3 r g b) (max3 r g b) = false ∧ PySem.Float64.isZero (max3 r g b) = false ∧ PySem.Float64.isZero (PySem.Float64.sub (max3 r g b) (min3 r g b)) = false
abbrev tup3 (a b c : UInt64) (t1 t2 t3 : Tok) : Obj := { cls := .type "tuple", data := .seq #[.float a t1, .float b t2, .float c t3] }
end

theorem ne_true {b : Bool} (h : b = false) : ¬ b = true := by rw [h]; decide
set_option maxRecDepth 100000 in
set_option maxHeartbeats 8000000 in
theorem c_hsv (w : World) (mean : ExcName → Option Value) (mg mb : Str → Option Value) (news : List (Addr × Obj)) (h s v : UInt64) (th ts tv : Tok) (hok : HsvOk h s) (hptv : 0 < tv) :
    Ctr0 w mean mg mb 28 20 400 news [.float h th, .float s ts, .float v tv] (fun r tl => ∃ y t1 t2 t3, r = .ref y ∧ tl = [(y, tup3 (hsvF h s v).1 (hsvF h s v).2.1 (hsvF h s v).2.2 t1 t2 t3)] ∧ 0 < t1 ∧ 0 < t2 ∧ 0 < t3) := by
  unfold Ctr0
  k_fill
  intro dp un gd cn cs a ccd cl outer A₀ base h₀ L m sh Q E B F X N T hk hd hu hret
  refine wpAny_call ?_
  k_dflt ktr_enter
  k_with_none
  k_with "exec While" => (k_dflt (refine whl_start 100 ?_))
  k_with "eval Name" => (k_dflt (refine' name_K ?kF ?k1 ?k2 ?k3 ?_; (case kF => k_asm); (case k1 => k_asm); (case k2 => k_asm); (case k3 => k_is)))
  k_with "eval Name" => (k_dflt (refine' ld ?k1 ?k2 ?_; (case k1 => k_asm); (case k2 => exact rfl)))
  obtain ⟨hz, hfin, hsm⟩ := hok
  have hsm2 : (PySem.Flt.toInt PySem.Float64.truncOf (PySem.Float64.mul h c6f)).natAbs < 2 ^ 1023 := Nat.lt_of_lt_of_le hsm (by decide)
  k_with "call type:int" => (k_dflt (refine PySem.Flt.call_int_float3 rfl (fun q => (fin_nan hfin q).elim) (fun q => (fin_inf hfin q).elim) (fun _ => ?_)))
  k_with "binaryOp Sub float int" => (refine sub_fi_fits hsm2 ?_)
  k_steps
  · have e : hsvF h s v = (v, hvT h s v, hvP s v) := by simp only [hsvF, if_pos (show Int.fmod (hvI h) 6 = 0 by assumption)]
    rw [e] at hret
    refine' hret _ [(_, _)] _ _ (by assumption) (kst_newsOf (by assumption) (List.forall_mem_cons.mpr ⟨?sub1, fun p hp => ?sub⟩)) ?ord ⟨_, _, _, _, rfl, rfl, ?p1, ?p2, ?p3⟩
    case sub1 => k_mem
    case sub => (repeat (first | exact hp | refine List.Mem.tail _ ?_))
    case ord =>
      intro q hq p hp
      rw [List.mem_singleton.mp hp]
      revert q
      first
      | exact fun q hq => (by assumption : ∀ p ∈ news, p.1 < _) q hq
      | exact ktn_ltOf (by assumption : AllLt _ news)
      | exact ktn_ltOf (by assumption : _ ∧ AllLt _ news).2
      | exact ktn_ltOf (by assumption : _ ∧ _ ∧ AllLt _ news).2.2
      | exact ktn_ltOf (by assumption : _ ∧ _ ∧ _ ∧ AllLt _ news).2.2.2
      | exact ktn_ltOf (by assumption : _ ∧ _ ∧ _ ∧ _ ∧ AllLt _ news).2.2.2.2
      | exact ktn_ltOf (by assumption : _ ∧ _ ∧ _ ∧ _ ∧ _ ∧ AllLt _ news).2.2.2.2.2
      | exact ktn_ltOf (by assumption : _ ∧ _ ∧ _ ∧ _ ∧ _ ∧ _ ∧ AllLt _ news).2.2.2.2.2.2
    case p1 => first | assumption | exact Nat.succ_pos _ | (dsimp only; first | assumption | exact Nat.succ_pos _)
    case p2 => first | assumption | exact Nat.succ_pos _ | (dsimp only; first | assumption | exact Nat.succ_pos _)
    case p3 => first | assumption | exact Nat.succ_pos _ | (dsimp only; first | assumption | exact Nat.succ_pos _)
  · have e : hsvF h s v = (hvQ h s v, v, hvP s v) := by simp only [hsvF, if_neg (show ¬ Int.fmod (hvI h) 6 = 0 by assumption), if_pos (show Int.fmod (hvI h) 6 = 1 by assumption)]
    rw [e] at hret
    refine' hret _ [(_, _)] _ _ (by assumption) (kst_newsOf (by assumption) (List.forall_mem_cons.mpr ⟨?sub1, fun p hp => ?sub⟩)) ?ord ⟨_, _, _, _, rfl, rfl, ?p1, ?p2, ?p3⟩
    case sub1 => k_mem
    case sub => (repeat (first | exact hp | refine List.Mem.tail _ ?_))
    case ord =>
      intro q hq p hp
      rw [List.mem_singleton.mp hp]
      revert q
      first
      | exact fun q hq => (by assumption : ∀ p ∈ news, p.1 < _) q hq
      | exact ktn_ltOf (by assumption : AllLt _ news)
      | exact ktn_ltOf (by assumption : _ ∧ AllLt _ news).2
      | exact ktn_ltOf (by assumption : _ ∧ _ ∧ AllLt _ news).2.2
      | exact ktn_ltOf (by assumption : _ ∧ _ ∧ _ ∧ AllLt _ news).2.2.2
      | exact ktn_ltOf (by assumption : _ ∧ _ ∧ _ ∧ _ ∧ AllLt _ news).2.2.2.2
      | exact ktn_ltOf (by assumption : _ ∧ _ ∧ _ ∧ _ ∧ _ ∧ AllLt _ news).2.2.2.2.2
      | exact ktn_ltOf (by assumption : _ ∧ _ ∧ _ ∧ _ ∧ _ ∧ _ ∧ AllLt _ news).2.2.2.2.2.2
    case p1 => first | assumption | exact Nat.succ_pos _ | (dsimp only; first | assumption | exact Nat.succ_pos _)
    case p2 => first | assumption | exact Nat.succ_pos _ | (dsimp only; first | assumption | exact Nat.succ_pos _)
    case p3 => first | assumption | exact Nat.succ_pos _ | (dsimp only; first | assumption | exact Nat.succ_pos _)
  · have e : hsvF h s v = (hvP s v, v, hvT h s v) := by simp only [hsvF, if_neg (show ¬ Int.fmod (hvI h) 6 = 0 by assumption), if_neg (show ¬ Int.fmod (hvI h) 6 = 1 by assumption), if_pos (show Int.fmod (hvI h) 6 = 2 by assumption)]
    rw [e] at hret
    refine' hret _ [(_, _)] _ _ (by assumption) (kst_newsOf (by assumption) (List.forall_mem_cons.mpr ⟨?sub1, fun p hp => ?sub⟩)) ?ord ⟨_, _, _, _, rfl, rfl, ?p1, ?p2, ?p3⟩
    case sub1 => k_mem
    case sub => (repeat (first | exact hp | refine List.Mem.tail _ ?_))
    case ord =>
      intro q hq p hp
      rw [List.mem_singleton.mp hp]
      revert q
      first
      | exact fun q hq => (by assumption : ∀ p ∈ news, p.1 < _) q hq
      | exact ktn_ltOf (by assumption : AllLt _ news)
      | exact ktn_ltOf (by assumption : _ ∧ AllLt _ news).2
      | exact ktn_ltOf (by assumption : _ ∧ _ ∧ AllLt _ news).2.2
      | exact ktn_ltOf (by assumption : _ ∧ _ ∧ _ ∧ AllLt _ news).2.2.2
      | exact ktn_ltOf (by assumption : _ ∧ _ ∧ _ ∧ _ ∧ AllLt _ news).2.2.2.2
      | exact ktn_ltOf (by assumption : _ ∧ _ ∧ _ ∧ _ ∧ _ ∧ AllLt _ news).2.2.2.2.2
      | exact ktn_ltOf (by assumption : _ ∧ _ ∧ _ ∧ _ ∧ _ ∧ _ ∧ AllLt _ news).2.2.2.2.2.2
    case p1 => first | assumption | exact Nat.succ_pos _ | (dsimp only; first | assumption | exact Nat.succ_pos _)
    case p2 => first | assumption | exact Nat.succ_pos _ | (dsimp only; first | assumption | exact Nat.succ_pos _)
    case p3 => first | assumption | exact Nat.succ_pos _ | (dsimp only; first | assumption | exact Nat.succ_pos _)
  · have e : hsvF h s v = (hvP s v, hvQ h s v, v) := by simp only [hsvF, if_neg (show ¬ Int.fmod (hvI h) 6 = 0 by assumption), if_neg (show ¬ Int.fmod (hvI h) 6 = 1 by assumption), if_neg (show ¬ Int.fmod (hvI h) 6 = 2 by assumption), if_pos (show Int.fmod (hvI h) 6 = 3 by assumption)]
    rw [e] at hret
    refine' hret _ [(_, _)] _ _ (by assumption) (kst_newsOf (by assumption) (List.forall_mem_cons.mpr ⟨?sub1, fun p hp => ?sub⟩)) ?ord ⟨_, _, _, _, rfl, rfl, ?p1, ?p2, ?p3⟩
    case sub1 => k_mem
    case sub => (repeat (first | exact hp | refine List.Mem.tail _ ?_))
    case ord =>
      intro q hq p hp
      rw [List.mem_singleton.mp hp]
      revert q
      first
      | exact fun q hq => (by assumption : ∀ p ∈ news, p.1 < _) q hq
      | exact ktn_ltOf (by assumption : AllLt _ news)
      | exact ktn_ltOf (by assumption : _ ∧ AllLt _ news).2
      | exact ktn_ltOf (by assumption : _ ∧ _ ∧ AllLt _ news).2.2
      | exact ktn_ltOf (by assumption : _ ∧ _ ∧ _ ∧ AllLt _ news).2.2.2
      | exact ktn_ltOf (by assumption : _ ∧ _ ∧ _ ∧ _ ∧ AllLt _ news).2.2.2.2
      | exact ktn_ltOf (by assumption : _ ∧ _ ∧ _ ∧ _ ∧ _ ∧ AllLt _ news).2.2.2.2.2
      | exact ktn_ltOf (by assumption : _ ∧ _ ∧ _ ∧ _ ∧ _ ∧ _ ∧ AllLt _ news).2.2.2.2.2.2
    case p1 => first | assumption | exact Nat.succ_pos _ | (dsimp only; first | assumption | exact Nat.succ_pos _)
    case p2 => first | assumption | exact Nat.succ_pos _ | (dsimp only; first | assumption | exact Nat.succ_pos _)
    case p3 => first | assumption | exact Nat.succ_pos _ | (dsimp only; first | assumption | exact Nat.succ_pos _)
  · have e : hsvF h s v = (hvT h s v, hvP s v, v) := by simp only [hsvF, if_neg (show ¬ Int.fmod (hvI h) 6 = 0 by assumption), if_neg (show ¬ Int.fmod (hvI h) 6 = 1 by assumption), if_neg (show ¬ Int.fmod (hvI h) 6 = 2 by assumption), if_neg (show ¬ Int.fmod (hvI h) 6 = 3 by assumption), if_pos (show Int.fmod (hvI h) 6 = 4 by assumption)]
    rw [e] at hret
    refine' hret _ [(_, _)] _ _ (by assumption) (kst_newsOf (by assumption) (List.forall_mem_cons.mpr ⟨?sub1, fun p hp => ?sub⟩)) ?ord ⟨_, _, _, _, rfl, rfl, ?p1, ?p2, ?p3⟩
    case sub1 => k_mem
    case sub => (repeat (first | exact hp | refine List.Mem.tail _ ?_))
    case ord =>
      intro q hq p hp
      rw [List.mem_singleton.mp hp]
      revert q
      first
      | exact fun q hq => (by assumption : ∀ p ∈ news, p.1 < _) q hq
      | exact ktn_ltOf (by assumption : AllLt _ news)
      | exact ktn_ltOf (by assumption : _ ∧ AllLt _ news).2
      | exact ktn_ltOf (by assumption : _ ∧ _ ∧ AllLt _ news).2.2
      | exact ktn_ltOf (by assumption : _ ∧ _ ∧ _ ∧ AllLt _ news).2.2.2
      | exact ktn_ltOf (by assumption : _ ∧ _ ∧ _ ∧ _ ∧ AllLt _ news).2.2.2.2
      | exact ktn_ltOf (by assumption : _ ∧ _ ∧ _ ∧ _ ∧ _ ∧ AllLt _ news).2.2.2.2.2
      | exact ktn_ltOf (by assumption : _ ∧ _ ∧ _ ∧ _ ∧ _ ∧ _ ∧ AllLt _ news).2.2.2.2.2.2
    case p1 => first | assumption | exact Nat.succ_pos _ | (dsimp only; first | assumption | exact Nat.succ_pos _)
    case p2 => first | assumption | exact Nat.succ_pos _ | (dsimp only; first | assumption | exact Nat.succ_pos _)
    case p3 => first | assumption | exact Nat.succ_pos _ | (dsimp only; first | assumption | exact Nat.succ_pos _)
  · have e : hsvF h s v = (v, hvP s v, hvQ h s v) := by simp only [hsvF, if_neg (show ¬ Int.fmod (hvI h) 6 = 0 by assumption), if_neg (show ¬ Int.fmod (hvI h) 6 = 1 by assumption), if_neg (show ¬ Int.fmod (hvI h) 6 = 2 by assumption), if_neg (show ¬ Int.fmod (hvI h) 6 = 3 by assumption), if_neg (show ¬ Int.fmod (hvI h) 6 = 4 by assumption)]
    rw [e] at hret
    refine' hret _ [(_, _)] _ _ (by assumption) (kst_newsOf (by assumption) (List.forall_mem_cons.mpr ⟨?sub1, fun p hp => ?sub⟩)) ?ord ⟨_, _, _, _, rfl, rfl, ?p1, ?p2, ?p3⟩
    case sub1 => k_mem
    case sub => (repeat (first | exact hp | refine List.Mem.tail _ ?_))
    case ord =>
      intro q hq p hp
      rw [List.mem_singleton.mp hp]
      revert q
      first
      | exact fun q hq => (by assumption : ∀ p ∈ news, p.1 < _) q hq
      | exact ktn_ltOf (by assumption : AllLt _ news)
      | exact ktn_ltOf (by assumption : _ ∧ AllLt _ news).2
      | exact ktn_ltOf (by assumption : _ ∧ _ ∧ AllLt _ news).2.2
      | exact ktn_ltOf (by assumption : _ ∧ _ ∧ _ ∧ AllLt _ news).2.2.2
      | exact ktn_ltOf (by assumption : _ ∧ _ ∧ _ ∧ _ ∧ AllLt _ news).2.2.2.2
      | exact ktn_ltOf (by assumption : _ ∧ _ ∧ _ ∧ _ ∧ _ ∧ AllLt _ news).2.2.2.2.2
      | exact ktn_ltOf (by assumption : _ ∧ _ ∧ _ ∧ _ ∧ _ ∧ _ ∧ AllLt _ news).2.2.2.2.2.2
    case p1 => first | assumption | exact Nat.succ_pos _ | (dsimp only; first | assumption | exact Nat.succ_pos _)
    case p2 => first | assumption | exact Nat.succ_pos _ | (dsimp only; first | assumption | exact Nat.succ_pos _)
    case p3 => first | assumption | exact Nat.succ_pos _ | (dsimp only; first | assumption | exact Nat.succ_pos _)
  · exfalso
    have h1 := Int.fmod_nonneg_of_pos (PySem.Flt.toInt PySem.Float64.truncOf (PySem.Float64.mul h 4618441417868443648)) (show (0 : Int) < 6 by decide)
    have h2 := Int.fmod_lt_of_pos (PySem.Flt.toInt PySem.Float64.truncOf (PySem.Float64.mul h 4618441417868443648)) (show (0 : Int) < 6 by decide)
    omega

set_option maxRecDepth 100000 in
set_option maxHeartbeats 8000000 in
theorem c_rgb (w : World) (mean : ExcName → Option Value) (mg mb : Str → Option Value) (news : List (Addr × Obj)) (r g b : UInt64) (tr tg tb : Tok) (hok : RgbOk r g b) (hptr : 0 < tr) (hptg : 0 < tg) (hptb : 0 < tb) :
    Ctr0 w mean mg mb 21 20 400 news [.float r tr, .float g tg, .float b tb] (fun r9 tl => ∃ y t1 t2 t3, r9 = .ref y ∧ tl = [(y, tup3 (rgbF r g b).1 (rgbF r g b).2.1 (rgbF r g b).2.2 t1 t2 t3)] ∧ 0 < t1 ∧ 0 < t2 ∧ 0 < t3) := by
  unfold Ctr0
  k_fill
  intro dp un gd cn cs a ccd cl outer A₀ base h₀ L m s Q E B F X N T hk hd hu hret
  refine wpAny_call ?_
  k_dflt ktr_enter
  k_with_none
  k_with "exec While" => (k_dflt (refine whl_start 100 ?_))
  k_with "eval Name" => (k_dflt (refine' name_K ?kF ?k1 ?k2 ?k3 ?_; (case kF => k_asm); (case k1 => k_asm); (case k2 => k_asm); (case k3 => k_is)))
  k_with "eval Name" => (k_dflt (refine' ld ?k1 ?k2 ?_; (case k1 => k_asm); (case k2 => exact rfl)))
  obtain ⟨hne, hz1, hz2⟩ := hok
  k_with "call builtin:max" => (k_dflt (refine max3_floats rfl hptr hptg hptb ?_); (intro t5 h5 tk5 pt5 k5); (rename Fr _ _ _ _ => F5); (rename News _ _ _ _ => N5); (have F6 := F5.keeps k5); (have N6 := News.grown N5 k5); clear F5 N5)
  k_with "call builtin:min" => (k_dflt (refine min3_floats rfl hptr hptg hptb ?_); (intro t5 h5 tk5 pt5 k5); (rename Fr _ _ _ _ => F5); (rename News _ _ _ _ => N5); (have F6 := F5.keeps k5); (have N6 := News.grown N5 k5); clear F5 N5)
  k_with "binaryOp Div float float" => (k_dflt (refine' truediv_float_or rfl ?kz (fun _ => ?_)); (case kz => first | exact fun q => absurd (hz1.symm.trans q) Bool.false_ne_true | exact fun q => absurd (hz2.symm.trans q) Bool.false_ne_true | exact fun q => absurd q (by decide +kernel)))
  k_with "binaryOp Mod float float" => (k_dflt (refine PySem.Flt.mod_ff rfl (fun q => absurd q (by decide +kernel)) (fun _ => ?_)))
  k_steps
  · exact absurd (hne.symm.trans (by assumption)) Bool.false_ne_true
  · have e : rgbF r g b = ((PySem.Float64.divmod (PySem.Float64.div (PySem.Float64.sub (rgbC r g b b) (rgbC r g b g)) c6f) c1f).2, PySem.Float64.div (PySem.Float64.sub (max3 r g b) (min3 r g b)) (max3 r g b), max3 r g b) := by simp only [rgbF, rgbH, if_pos (show feq r (max3 r g b) = true by assumption)]
    rw [e] at hret
    refine' hret _ [(_, _)] _ _ (by assumption) (kst_newsOf (by assumption) (List.forall_mem_cons.mpr ⟨?sub1, fun p hp => ?sub⟩)) ?ord ⟨_, _, _, _, rfl, rfl, ?p1, ?p2, ?p3⟩
    case sub1 => k_mem
    case sub => (repeat (first | exact hp | refine List.Mem.tail _ ?_))
    case ord =>
      intro q hq p hp
      rw [List.mem_singleton.mp hp]
      revert q
      first
      | exact fun q hq => (by assumption : ∀ p ∈ news, p.1 < _) q hq
      | exact ktn_ltOf (by assumption : AllLt _ news)
      | exact ktn_ltOf (by assumption : _ ∧ AllLt _ news).2
      | exact ktn_ltOf (by assumption : _ ∧ _ ∧ AllLt _ news).2.2
      | exact ktn_ltOf (by assumption : _ ∧ _ ∧ _ ∧ AllLt _ news).2.2.2
      | exact ktn_ltOf (by assumption : _ ∧ _ ∧ _ ∧ _ ∧ AllLt _ news).2.2.2.2
      | exact ktn_ltOf (by assumption : _ ∧ _ ∧ _ ∧ _ ∧ _ ∧ AllLt _ news).2.2.2.2.2
      | exact ktn_ltOf (by assumption : _ ∧ _ ∧ _ ∧ _ ∧ _ ∧ _ ∧ AllLt _ news).2.2.2.2.2.2
    case p1 => first | assumption | exact Nat.succ_pos _ | (dsimp only; first | assumption | exact Nat.succ_pos _)
    case p2 => first | assumption | exact Nat.succ_pos _ | (dsimp only; first | assumption | exact Nat.succ_pos _)
    case p3 => first | assumption | exact Nat.succ_pos _ | (dsimp only; first | assumption | exact Nat.succ_pos _)
  · have e : rgbF r g b = ((PySem.Float64.divmod (PySem.Float64.div (PySem.Float64.sub (PySem.Float64.add c2f (rgbC r g b r)) (rgbC r g b b)) c6f) c1f).2, PySem.Float64.div (PySem.Float64.sub (max3 r g b) (min3 r g b)) (max3 r g b), max3 r g b) := by simp only [rgbF, rgbH, if_neg (ne_true (show feq r (max3 r g b) = false by assumption)), if_pos (show feq g (max3 r g b) = true by assumption)]
    rw [e] at hret
    refine' hret _ [(_, _)] _ _ (by assumption) (kst_newsOf (by assumption) (List.forall_mem_cons.mpr ⟨?sub1, fun p hp => ?sub⟩)) ?ord ⟨_, _, _, _, rfl, rfl, ?p1, ?p2, ?p3⟩
    case sub1 => k_mem
    case sub => (repeat (first | exact hp | refine List.Mem.tail _ ?_))
    case ord =>
      intro q hq p hp
      rw [List.mem_singleton.mp hp]
      revert q
      first
      | exact fun q hq => (by assumption : ∀ p ∈ news, p.1 < _) q hq
      | exact ktn_ltOf (by assumption : AllLt _ news)
      | exact ktn_ltOf (by assumption : _ ∧ AllLt _ news).2
      | exact ktn_ltOf (by assumption : _ ∧ _ ∧ AllLt _ news).2.2
      | exact ktn_ltOf (by assumption : _ ∧ _ ∧ _ ∧ AllLt _ news).2.2.2
      | exact ktn_ltOf (by assumption : _ ∧ _ ∧ _ ∧ _ ∧ AllLt _ news).2.2.2.2
      | exact ktn_ltOf (by assumption : _ ∧ _ ∧ _ ∧ _ ∧ _ ∧ AllLt _ news).2.2.2.2.2
      | exact ktn_ltOf (by assumption : _ ∧ _ ∧ _ ∧ _ ∧ _ ∧ _ ∧ AllLt _ news).2.2.2.2.2.2
    case p1 => first | assumption | exact Nat.succ_pos _ | (dsimp only; first | assumption | exact Nat.succ_pos _)
    case p2 => first | assumption | exact Nat.succ_pos _ | (dsimp only; first | assumption | exact Nat.succ_pos _)
    case p3 => first | assumption | exact Nat.succ_pos _ | (dsimp only; first | assumption | exact Nat.succ_pos _)
  · have e : rgbF r g b = ((PySem.Float64.divmod (PySem.Float64.div (PySem.Float64.sub (PySem.Float64.add c4f (rgbC r g b g)) (rgbC r g b r)) c6f) c1f).2, PySem.Float64.div (PySem.Float64.sub (max3 r g b) (min3 r g b)) (max3 r g b), max3 r g b) := by simp only [rgbF, rgbH, if_neg (ne_true (show feq r (max3 r g b) = false by assumption)), if_neg (ne_true (show feq g (max3 r g b) = false by assumption))]
    rw [e] at hret
    refine' hret _ [(_, _)] _ _ (by assumption) (kst_newsOf (by assumption) (List.forall_mem_cons.mpr ⟨?sub1, fun p hp => ?sub⟩)) ?ord ⟨_, _, _, _, rfl, rfl, ?p1, ?p2, ?p3⟩
    case sub1 => k_mem
    case sub => (repeat (first | exact hp | refine List.Mem.tail _ ?_))
    case ord =>
      intro q hq p hp
      rw [List.mem_singleton.mp hp]
      revert q
      first
      | exact fun q hq => (by assumption : ∀ p ∈ news, p.1 < _) q hq
      | exact ktn_ltOf (by assumption : AllLt _ news)
      | exact ktn_ltOf (by assumption : _ ∧ AllLt _ news).2
      | exact ktn_ltOf (by assumption : _ ∧ _ ∧ AllLt _ news).2.2
      | exact ktn_ltOf (by assumption : _ ∧ _ ∧ _ ∧ AllLt _ news).2.2.2
      | exact ktn_ltOf (by assumption : _ ∧ _ ∧ _ ∧ _ ∧ AllLt _ news).2.2.2.2
      | exact ktn_ltOf (by assumption : _ ∧ _ ∧ _ ∧ _ ∧ _ ∧ AllLt _ news).2.2.2.2.2
      | exact ktn_ltOf (by assumption : _ ∧ _ ∧ _ ∧ _ ∧ _ ∧ _ ∧ AllLt _ news).2.2.2.2.2.2
    case p1 => first | assumption | exact Nat.succ_pos _ | (dsimp only; first | assumption | exact Nat.succ_pos _)
    case p2 => first | assumption | exact Nat.succ_pos _ | (dsimp only; first | assumption | exact Nat.succ_pos _)
    case p3 => first | assumption | exact Nat.succ_pos _ | (dsimp only; first | assumption | exact Nat.succ_pos _)

end Mine
end
section
open PySem PySem.W PyProof.Rows
namespace Mine
local macro_rules | `(tactic| walk_at $s:str) => `(tactic| k_extra $s)
local macro_rules | `(tactic| k_all) => `(tactic| with_reducible assumption)
local macro_rules | `(tactic| walk_at "execs cons") => `(tactic| (refine gen_toks1 ?_; intro tkp htkp))
local macro_rules | `(tactic| walk_at "execs nil") => `(tactic| (refine gen_toks1 ?_; intro tkp htkp))

theorem none_booked_of {w : World} {h₀ h : Heap} {L : Addr} {m : Str → Option Value} (X : (Mine.hd.heap_39 w.params).In h₀) (F : Fr h₀ L h m) : NoneBooked h := by
  have h2 := F.keep _ _ (X cStatics { cls := Value.none, data := Data.dict #[] } rfl)
  exact ⟨fun _ => none, ⟨_, #[], _, h2, rfl, by intro e he; simp at he, fun name => rfl⟩, rfl⟩
theorem isSame_float {M : Model} {A : Around} {E : Value → Shared → Prop} {s : Shared} {y z : UInt64} {u v : Tok} {Q : Bool → Shared → Prop}
    (h0 : (u == 0 || v == 0) = false) (hb : NoneBooked s.heap) (hq : ∀ b, Q b s) : wpAny M A (isSame (.float y u) (.float z v)) Q E s := by
  show wpAny M A (isSame.created (y == z && !PySem.Float64.isNaN y) u v) Q E s
  unfold isSame.created
  refine wpAny_ite ?_
  split
  · rename_i h; rw [h0] at h; exact absurd h Bool.false_ne_true
  refine wpAny_ite ?_
  split
  · exact wpAny_pure (hq _)
  refine wpAny_ite ?_
  split
  · exact wpAny_pure (hq _)
  refine wpAny_bind (wpAny_sharingNotTold_none hb ?_)
  first | rw [if_neg Bool.false_ne_true] | simp only [Bool.false_eq_true, if_false]
  refine wpAny_bind (wpAny_sharingNotTold_none hb ?_)
  first | rw [if_neg Bool.false_ne_true] | simp only [Bool.false_eq_true, if_false]
  exact wpAny_bind (wpAny_rule (wpAny_bind (wpAny_askSetting (wpAny_pure (hq _)))))
theorem eqAt_float {A : Around} {s : Shared} {a b : UInt64} {t u : Tok} (hb : NoneBooked s.heap) (ht : 0 < t) (hu : 0 < u) (h : feq a b = true) : PySem.SeqAt.EqAt A s (.float a t) (.float b u) true := fun prog w E Q hq => by
  have h0 : (t == 0 || u == 0) = false := by
    simp only [Bool.or_eq_false_iff, beq_eq_false_iff_ne]
    exact ⟨Nat.ne_of_gt ht, Nat.ne_of_gt hu⟩
  unfold eqBool
  refine wpAny_holding ?_
  refine wpAny_ite_split (fun _ => wpAny_bind (wpAny_rule (wpAny_pure hq))) (fun _ => ?_)
  refine wpAny_bind (isSame_float h0 hb fun c => ?_)
  cases c with
  | true => exact wpAny_pure hq
  | false =>
    refine wpAny_bind (PySem.AutoFloatOps.eq_0 ?_)
    have h' : (PySem.Float64.cmp a b == some Ordering.eq) = true := h
    rw [h']
    exact wpAny_truthy_bool hq
theorem ne_tup3 {prog : Program} {w : World} {A : Around} {E : Value → Shared → Prop} {s : Shared} {l k : Addr} {a b c a' b' c' : UInt64} {t1 t2 t3 u1 u2 u3 : Tok} {Q : Value → Shared → Prop} (hb : NoneBooked s.heap)
    (hl : s.heap.IsTuple l #[.float a t1, .float b t2, .float c t3]) (hk : s.heap.IsTuple k #[.float a' u1, .float b' u2, .float c' u3]) (hu : A.units < cLine)
    (p1 : 0 < t1) (p2 : 0 < t2) (p3 : 0 < t3) (q1 : 0 < u1) (q2 : 0 < u2) (q3 : 0 < u3) (h1 : feq a a' = true) (h2 : feq b b' = true) (h3 : feq c c' = true) (h : Q (.bool false) s) :
    wpAny (model prog w) A (compareOp .NotEq (.ref l) (.ref k)) Q E s := by
  refine PySem.SeqAt.RcNeAt.tuples (e := fun _ => true) hl hk hu (fun j g1 g2 => ?_) prog w E Q ?_
  · match j, g1, g2 with
    | 0, _, _ => exact eqAt_float hb p1 q1 h1
    | 1, _, _ => exact eqAt_float hb p2 q2 h2
    | 2, _, _ => exact eqAt_float hb p3 q3 h3
    | n + 3, g1, _ => exact absurd g1 (by simp)
  · exact h
theorem call_int_is {prog : Program} {w : World} {A : Around} {E : Value → Shared → Prop} {s : Shared} {x : UInt64} {t : Tok} {p : Int} {Q : Value → Shared → Prop} (hA : A.handled = none) (hf : PySem.Float64.isFinite x = true) (hp : PySem.Flt.toInt PySem.Float64.truncOf x = p) (h : Q (.int p s.toks) { s with toks := s.toks + 1 }) : wpAny (model prog w) A (call (.type "int") [.float x t]) Q E s := by
  subst hp
  exact PySem.Flt.call_int_float3 hA (fun q => (fin_nan hf q).elim) (fun q => (fin_inf hf q).elim) (fun _ => h)

end Mine
end
section
open PySem PySem.W PyProof.Rows
namespace Mine
local macro_rules | `(tactic| walk_at $s:str) => `(tactic| k_extra $s)
local macro_rules | `(tactic| k_all) => `(tactic| with_reducible assumption)
local macro_rules | `(tactic| walk_at "execs cons") => `(tactic| (refine gen_toks1 ?_; intro tkp htkp))
local macro_rules | `(tactic| walk_at "execs nil") => `(tactic| (refine gen_toks1 ?_; intro tkp htkp))

def mt (u o : Int) : Int := (2 * o - u) % 4
def mH (turn : UInt64) (u : Int) : UInt64 := PySem.Float64.div (PySem.Float64.add (PySem.Float64.ofInt u) turn) (PySem.Float64.ofInt 4)
def mA (turn share level : UInt64) (u : Int) : UInt64 × UInt64 × UInt64 := hsvF (mH turn u) share level
def mB (turn share level : UInt64) (u : Int) : UInt64 × UInt64 × UInt64 := rgbF (mA turn share level u).1 (mA turn share level u).2.2 (mA turn share level u).2.1
def mG (turn share level : UInt64) (u o : Int) : UInt64 := PySem.Float64.add (mB turn share level u).1 (PySem.Float64.div (PySem.Float64.add (PySem.Float64.ofInt o) turn) (PySem.Float64.ofInt 2))
def mC (turn share level : UInt64) (u o : Int) : UInt64 × UInt64 × UInt64 := hsvF (mG turn share level u o) (mB turn share level u).2.1 (mB turn share level u).2.2
def mD (turn share level : UInt64) (u o : Int) : UInt64 × UInt64 × UInt64 := rgbF (mC turn share level u o).1 (mC turn share level u o).2.1 (mC turn share level u o).2.2
def mX (turn share level : UInt64) (u o : Int) : UInt64 := PySem.Float64.mul (mD turn share level u o).1 (PySem.Float64.ofInt 4)
structure CellOk (turn share level : UInt64) (u o : Int) : Prop where
  h1 : HsvOk (mH turn u) share
  h2 : RgbOk (mA turn share level u).1 (mA turn share level u).2.2 (mA turn share level u).2.1
  h3 : HsvOk (mG turn share level u o) (mB turn share level u).2.1
  h4 : RgbOk (mC turn share level u o).1 (mC turn share level u o).2.1 (mC turn share level u o).2.2
  h5 : PySem.Float64.isFinite (mX turn share level u o) = true
  h6 : PySem.Flt.toInt PySem.Float64.truncOf (mX turn share level u o) = mt u o
  h7 : feq (mD turn share level u o).1 (mH turn (mt u o)) = true
  h8 : feq (mD turn share level u o).2.1 share = true
  h9 : feq (mD turn share level u o).2.2 level = true
structure RS where
  rv : List Value
  n : Nat
def mrow (u : Int) (k : Nat) : List Int := (List.range k).map fun (i : Nat) => mt u (i : Int)

theorem mrow_end {u : Int} {k : Nat} {v : List Value} {t : Tok} (h : IntsAre v (mrow u k)) : IntsAre (v ++ [.int (mt (0 + u) (k : Int)) t]) (mrow u (((List.range k).map fun i => ((i : Nat) : Int)) ++ [(k : Int)]).length) := by
  have e : mrow u (((List.range k).map fun i => ((i : Nat) : Int)) ++ [(k : Int)]).length = mrow u k ++ [mt (0 + u) (k : Int)] := by
    rw [List.length_append, List.length_map, List.length_range]
    simp [mrow, List.range_succ]
  rw [e]
  exact IntsAre.append h (.cons _ _ .nil)
/-- a frame told anew: the names that count, and a rest -/
theorem fr_norm {h₀ h : Heap} {L : Addr} {m : Str → Option Value} (ps : List (Str × Value)) (F : Fr h₀ L h m) (hk : ∀ p ∈ ps, m p.1 = some p.2) : ∃ z, Fr h₀ L h (kstB z ps) := by
  refine ⟨m, ?_⟩
  have e : kstB m ps = m := funext fun y => kstB_eq hk fun _ => rfl
  rw [e]
  exact F
/-- the table of the mirrors lies in the ledger -/
structure MirAt (news : List (Addr × Obj)) (ml : Addr) : Prop where
  at_ : ∃ (r0 r1 r2 r3 : Addr) (v0 v1 v2 v3 : List Value) (n n0 n1 n2 n3 : Nat), (ml, listOf #[.ref r0, .ref r1, .ref r2, .ref r3] n) ∈ news ∧ (r0, listOf v0.toArray n0) ∈ news ∧ (r1, listOf v1.toArray n1) ∈ news ∧ (r2, listOf v2.toArray n2) ∈ news ∧ (r3, listOf v3.toArray n3) ∈ news ∧
    IntsAre v0 (mrow 0 4) ∧ IntsAre v1 (mrow 1 4) ∧ IntsAre v2 (mrow 2 4) ∧ IntsAre v3 (mrow 3 4)
inductive RowsOk (acc : List (Addr × Obj)) : List Value → Nat → Prop
  | nil : RowsOk acc [] 0
  | snoc {rs : List Value} {i : Nat} {r : Addr} {v : List Value} {n : Nat} : RowsOk acc rs i → (r, listOf v.toArray n) ∈ acc → IntsAre v (mrow (i : Int) 4) → RowsOk acc (rs ++ [.ref r]) (i + 1)
theorem RowsOk.mono {acc acc' : List (Addr × Obj)} (hs : ∀ p ∈ acc, p ∈ acc') : ∀ {rs i}, RowsOk acc rs i → RowsOk acc' rs i
  | _, _, .nil => .nil
  | _, _, .snoc h1 h2 h3 => .snoc (RowsOk.mono hs h1) (hs _ h2) h3
theorem RowsOk.length {acc : List (Addr × Obj)} : ∀ {rs i}, RowsOk acc rs i → rs.length = i
  | _, _, .nil => rfl
  | _, _, .snoc h1 h2 h3 => by rw [List.length_append, RowsOk.length h1]; rfl
theorem RowsOk.mir {acc all : List (Addr × Obj)} {rs : List Value} {ml : Addr} {n : Nat} (h : RowsOk acc rs 4) (hs : ∀ p ∈ acc, p ∈ all) (hm : (ml, listOf rs.toArray n) ∈ all) : MirAt all ml := by
  cases h with
  | snoc h a3 i3 =>
  cases h with
  | snoc h a2 i2 =>
  cases h with
  | snoc h a1 i1 =>
  cases h with
  | snoc h a0 i0 =>
  cases h with
  | nil => exact ⟨_, _, _, _, _, _, _, _, _, _, _, _, _, hm, hs _ a0, hs _ a1, hs _ a2, hs _ a3, i0, i1, i2, i3⟩
structure RInv (ml I : Addr) (news : List (Addr × Obj)) (ps : List (Str × Value)) (i : Nat) (m : Str → Option Value) (all : List (Addr × Obj)) : Prop where
  ex : ∃ rs n acc, all = (ml, listOf rs.toArray n) :: (acc ++ news) ∧ RowsOk acc rs i ∧ (∀ p ∈ acc, @LT.lt Nat _ I p.1)
  nm : ∀ p ∈ ps, m p.1 = some p.2
section
variable {prog : Program} {w : World} {A : Around} {E : Value → Shared → Prop} {s : Shared} {env : Env} {h₀ : Heap} {x : Str} {body : List Stmt} {Q : Flow → Shared → Prop}
theorem unrEnd_mono {L I : Addr} {it : Obj} {r r' : (Str → Option Value) → List (Addr × Obj) → Prop} {s₁ s₂ : Shared} (hr : ∀ m n, r m n → r' m n) (h : UnrEnd h₀ L s₁ I it r s₂) : UnrEnd h₀ L s₁ I it r' s₂ := by
  obtain ⟨h', tk, m', n', e, F, N, o, q⟩ := h
  exact ⟨h', tk, m', n', e, F, N, o, hr _ _ q⟩
theorem unrPost_mono {L I : Addr} {it : Obj} {r r' : (Str → Option Value) → List (Addr × Obj) → Prop} {s₁ s₂ : Shared} {f : Flow} (hr : ∀ m n, r m n → r' m n) (h : UnrPost h₀ L s₁ I it r Q f s₂) : UnrPost h₀ L s₁ I it r' Q f s₂ := by
  cases f with
  | ret v => exact h
  | brk => exact h
  | next => exact unrEnd_mono hr h
  | cont => exact unrEnd_mono hr h
/-- a range loop whose ledger grows -/
theorem rr_ind {I : Addr} {a : Int} {n : Nat} (P : Nat → (Str → Option Value) → List (Addr × Obj) → Prop)
    (turn : ∀ i m news t h tk, i < n → P i m news → Fr h₀ env.locals h (fun y => if y = x then some (.int (a + (i : Int)) t) else m y) →
      News h₀ env.locals h ((I, itR (a + ((i + 1 : Nat) : Int)) ((n : Int) - ((i + 1 : Nat) : Int))) :: news) →
      wpAny (model prog w) A (execs body env) (UnrPost h₀ env.locals { s with heap := h, toks := tk } I (itR (a + ((i + 1 : Nat) : Int)) ((n : Int) - ((i + 1 : Nat) : Int))) (P (i + 1)) Q) E { s with heap := h, toks := tk })
    (done : ∀ m news h tk, P n m news → Fr h₀ env.locals h m → News h₀ env.locals h news → Q .next { s with heap := h, toks := tk }) :
    ∀ k i m news, i + k = n → P i m news → RangeRest prog w A E h₀ env x body Q s I a n k i m news
  | 0, i, m, news, e, p => by
    have e' : i = n := e
    subst e'
    exact fun h tk F N => done m news h tk p F N
  | k + 1, i, m, news, e, p => fun t h tk F N =>
    wpAny_mono (turn i m news t h tk (by omega) p F N) (fun f s₂ q => unrPost_mono (fun m' n' p' => rr_ind P turn done k (i + 1) m' n' (by omega) p') q) fun _ _ x => x
end

theorem nm_new {h₀ h : Heap} {L a : Addr} {o : Obj} {news : List (Addr × Obj)} (_ : News h₀ L h ((a, o) :: news)) : ∃ x : Addr, x = a := ⟨a, rfl⟩
theorem nm_rhs {a b : Addr} (_ : @LT.lt Nat _ a b) : ∃ x : Addr, x = b := ⟨b, rfl⟩


def kStep (c : Int × Int × Int) (n : Int) : Int × Int × Int :=
  if n = 19 then (c.1, c.2.2, mt c.2.1 c.2.2) else if n = 13 then (c.1, mt c.2.2 c.2.1, c.2.1) else if n = 20 then (c.2.1, mt c.1 c.2.1, c.2.2) else (mt c.2.1 c.1, c.1, c.2.2)
def kRun (ns : List Int) (a b : Int) : Int × Int × Int := ns.foldl kStep (0, a, b)
def kHit (ns : List Int) (a b : Int) : Int := if kRun ns a b = (0, a, b) then 1 else 0
def kRow (ns : List Int) (a : Int) (k : Nat) : Int := ((List.range k).map fun (b : Nat) => kHit ns a (b : Int)).sum
def kAll (ns : List Int) (k : Nat) : Int := ((List.range k).map fun (a : Nat) => kRow ns (a : Int) 4).sum
def In4 (c : Int × Int × Int) : Prop := (0 ≤ c.1 ∧ c.1 < 4) ∧ (0 ≤ c.2.1 ∧ c.2.1 < 4) ∧ (0 ≤ c.2.2 ∧ c.2.2 < 4)
theorem mt_in (a b : Int) : 0 ≤ mt a b ∧ mt a b < 4 := ⟨Int.emod_nonneg _ (by decide), Int.emod_lt_of_pos _ (by decide)⟩
theorem kStep_in {c : Int × Int × Int} (h : In4 c) (n : Int) : In4 (kStep c n) := by
  obtain ⟨h1, h2, h3⟩ := h
  unfold kStep
  split
  · exact ⟨h1, h3, mt_in _ _⟩
  · split
    · exact ⟨h1, mt_in _ _, h2⟩
    · split
      · exact ⟨h2, mt_in _ _, h3⟩
      · exact ⟨mt_in _ _, h1, h3⟩
structure KS where
  one : Int
  two : Int
  three : Int
  t1 : Tok
  t2 : Tok
  t3 : Tok
def KOk (a b : Int) (pre : List Int) (c : KS) : Prop := (c.one, c.two, c.three) = kRun pre a b ∧ In4 (c.one, c.two, c.three)
def pk {α : Type} (a b c d : α) (i : Int) : α := if i = 0 then a else if i = 1 then b else if i = 2 then c else d
theorem pk_item {a b c d : Addr} {i : Int} (h0 : 0 ≤ i) (h4 : i < 4) : (#[Value.ref a, .ref b, .ref c, .ref d])[i.toNat]? = some (.ref (pk a b c d i)) := by
  have : i = 0 ∨ i = 1 ∨ i = 2 ∨ i = 3 := by omega
  rcases this with rfl | rfl | rfl | rfl <;> rfl
theorem pk_list {h₀ h : Heap} {L a b c d : Addr} {v0 v1 v2 v3 : List Value} {n0 n1 n2 n3 : Nat} {news : List (Addr × Obj)} (N : News h₀ L h news) (m0 : (a, listOf v0.toArray n0) ∈ news) (m1 : (b, listOf v1.toArray n1) ∈ news) (m2 : (c, listOf v2.toArray n2) ∈ news) (m3 : (d, listOf v3.toArray n3) ∈ news) {i : Int} (h0 : 0 ≤ i) (h4 : i < 4) :
    h.IsList (pk a b c d i) (pk v0 v1 v2 v3 i).toArray := by
  have : i = 0 ∨ i = 1 ∨ i = 2 ∨ i = 3 := by omega
  rcases this with rfl | rfl | rfl | rfl
  · exact News.isList N m0
  · exact News.isList N m1
  · exact News.isList N m2
  · exact News.isList N m3
theorem pk_ints {v0 v1 v2 v3 : List Value} (i0 : IntsAre v0 (mrow 0 4)) (i1 : IntsAre v1 (mrow 1 4)) (i2 : IntsAre v2 (mrow 2 4)) (i3 : IntsAre v3 (mrow 3 4)) {i : Int} (h0 : 0 ≤ i) (h4 : i < 4) : IntsAre (pk v0 v1 v2 v3 i) (mrow i 4) := by
  have : i = 0 ∨ i = 1 ∨ i = 2 ∨ i = 3 := by omega
  rcases this with rfl | rfl | rfl | rfl
  · exact i0
  · exact i1
  · exact i2
  · exact i3
theorem mrow_at {i j : Int} (h0 : 0 ≤ j) (h4 : j < 4) : (mrow i 4)[j.toNat]? = some (mt i j) := by
  have : j = 0 ∨ j = 1 ∨ j = 2 ∨ j = 3 := by omega
  rcases this with rfl | rfl | rfl | rfl <;> rfl
theorem my_itemI {prog : Program} {w : World} {A : Around} {E : Value → Shared → Prop} {s : Shared} {value slice : PySem.Expr} {a : Addr} {us : List Value} {l : List Int} {k y : Int} {u : Tok} {Q : Value → Shared → Prop}
    (hl : s.heap.IsList a us.toArray) (hi : IntsAre us l) (h0 : 0 ≤ k) (hhi : k < 2 ^ 63) (hx : l[k.toNat]? = some y) (h : ∀ t, Q (.int y t) s)
    (hs : subscripted slice false (.ref a) (.int k u) = operate [.ref a, .int k u] (getItem (.ref a) (.int k u))) :
    wpAny (model prog w) A (subscriptTail value slice (.ref a) (.int k u)) Q E s := by
  obtain ⟨t, ht⟩ := hi.get k.toNat y hx
  exact tail_any hl.typeIs slot_list_getitem.lookup (wpAny_getItem_list hl h0 hhi (by rw [List.getElem?_toArray]; exact ht) (h t)) hs

end Mine
end
section
open PySem PySem.W PyProof.Rows
namespace Mine
local macro_rules | `(tactic| walk_at $s:str) => `(tactic| k_extra $s)
local macro_rules | `(tactic| k_all) => `(tactic| with_reducible assumption)
local macro_rules | `(tactic| walk_at "execs cons") => `(tactic| (refine gen_toks1 ?_; intro tkp htkp))
local macro_rules | `(tactic| walk_at "execs nil") => `(tactic| (refine gen_toks1 ?_; intro tkp htkp))
set_option maxRecDepth 100000 in
set_option maxHeartbeats 8000000 in
theorem c_mir (w : World) (mean : ExcName → Option Value) (mg mb : Str → Option Value) (news : List (Addr × Obj)) (turn share level : UInt64) (t1 t2 t3 : Tok) (hp2 : 0 < t2) (hp3 : 0 < t3) (hall : ∀ u o : Int, 0 ≤ u → u < 4 → 0 ≤ o → o < 4 → CellOk turn share level u o) :
    Ctr0 w mean mg mb 127 60 1200 news [.float turn t1, .float share t2, .float level t3] (fun r tl => ∃ ml, r = .ref ml ∧ MirAt tl ml) := by
  unfold Ctr0
  k_fill
  intro dp un gd cn cs a ccd cl outer A₀ base h₀ L m s Q E B F X N T hk hd hu hret
  refine wpAny_call ?_
  k_dflt ktr_enter
  k_with_none
  k_with "exec While" => (k_dflt (refine whl_start 100 ?_))
  k_with "eval Name" => (k_dflt (refine' name_K ?kF ?k1 ?k2 ?k3 ?_; (case kF => k_asm); (case k1 => k_asm); (case k2 => k_asm); (case k3 => k_is)))
  k_with "eval Name" => (k_dflt (refine' ld ?k1 ?k2 ?_; (case k1 => k_asm); (case k2 => exact rfl)))
  k_with "RangeRest" => refine hold ?_
  k_steps
  refine hold_out ?_
  obtain ⟨ml, eml⟩ := nm_new (by assumption)
  subst eml
  (rename (_ < _ ∧ AllLt _ news) => hlti)
  obtain ⟨ii, eii⟩ := nm_rhs hlti.1
  subst eii
  (rename (∀ p ∈ news, p.1 < ml) => hrw)
  have hnr := fun (p : Addr × Obj) (hp : p ∈ news) => Nat.ne_of_lt (hrw p hp)
  with_unfolding_all refine' rr_ind (RInv ml ii news [(Str.ofString "rows", .ref ml), (Str.ofString "turn", .float turn t1), (Str.ofString "share", .float share t2), (Str.ofString "level", .float level t3)]) ?kt ?fin 4 0 _ _ rfl ?k0
  case k0 => exact ⟨⟨[], _, [], rfl, .nil, (fun _ hp => nomatch hp)⟩, by kst_all⟩
  case kt =>
    intro i m1 all t77 h1 tk1 hi P1 F1 N1
    obtain ⟨⟨rs, n, acc, e, hro, hra⟩, hnm⟩ := P1
    subst e
    have hrl := hro.length
    have q1 := hnm _ (List.Mem.head _)
    have q2 := hnm _ (.tail _ (List.Mem.head _))
    have q3 := hnm _ (.tail _ (.tail _ (List.Mem.head _)))
    have q4 := hnm _ (.tail _ (.tail _ (.tail _ (List.Mem.head _))))
    obtain ⟨z1, F2⟩ := fr_norm ((Str.ofString "under", .int (0 + (i : Int)) t77) :: [(Str.ofString "rows", .ref ml), (Str.ofString "turn", .float turn t1), (Str.ofString "share", .float share t2), (Str.ofString "level", .float level t3)]) F1 (List.forall_mem_cons.mpr ⟨rfl, List.forall_mem_cons.mpr ⟨q1, List.forall_mem_cons.mpr ⟨q2, List.forall_mem_cons.mpr ⟨q3, List.forall_mem_cons.mpr ⟨q4, List.forall_mem_nil _⟩⟩⟩⟩⟩)
    clear F1 q1 q2 q3 q4
    dsimp only [kstB] at F2
    have hni : ∀ p ∈ acc ++ news, p.1 ≠ ii := fun p hp => (List.mem_append.mp hp).elim (fun h => Nat.ne_of_gt (hra p h)) (fun h => Nat.ne_of_lt (ktn_ltOf hlti.2 p h))
    have hnr2 : ∀ p ∈ acc ++ news, p.1 ≠ ml := fun p hp => (List.mem_append.mp hp).elim (fun h => Nat.ne_of_gt (Nat.lt_trans hlti.1 (hra p h))) (hnr p)
    k_with_none
    k_with "eval Name" => (k_dflt (refine' name_K ?kF ?k1 ?k2 ?k3 ?_; (case kF => k_asm); (case k1 => k_asm); (case k2 => k_asm); (case k3 => k_is)))
    k_with "eval Name" => (k_dflt (refine' ld ?k1 ?k2 ?_; (case k1 => k_asm); (case k2 => exact rfl)))
    k_with "call ref" => (
      k_dflt (refine' ctr0_use (c_hsv _ _ _ _ _ _ _ _ _ _ _ ((hall _ 0 (by omega) (by omega) (by decide) (by decide)).h1) ?pv) ?k1 ?k2 ?k3 ?k4 ?k5 ?kK ?cdep ?cuni ?_; (case k1 => k_asm); (case k2 => k_asm); (case k3 => k_asm); (case k4 => k_asm); (case k5 => k_asm); (case kK => first | exact rfl | assumption); (case cdep => ktr_room); (case cuni => ktr_units))
      (case pv => assumption)
      intro r9 tl9 h9 tk9 F9 N9 lt9 R9
      (obtain ⟨y9, t91, t92, t93, e9, e8, p91, p92, p93⟩ := R9; subst e9; subst e8; (try simp only [List.cons_append, List.nil_append] at N9); (have l19 := lt_new lt9); clear lt9; (try k_lt l19))
      (try dsimp only)
      (try k_fold))
    k_with "call ref" => (
      k_dflt (refine' ctr0_use (c_rgb _ _ _ _ _ _ _ _ _ _ _ ((hall _ 0 (by omega) (by omega) (by decide) (by decide)).h2) ?pr ?pg ?pb) ?k1 ?k2 ?k3 ?k4 ?k5 ?kK ?cdep ?cuni ?_; (case k1 => k_asm); (case k2 => k_asm); (case k3 => k_asm); (case k4 => k_asm); (case k5 => k_asm); (case kK => first | exact rfl | assumption); (case cdep => ktr_room); (case cuni => ktr_units))
      (case pr => assumption); (case pg => assumption); (case pb => assumption)
      intro r9 tl9 h9 tk9 F9 N9 lt9 R9
      (obtain ⟨y9, t91, t92, t93, e9, e8, p91, p92, p93⟩ := R9; subst e9; subst e8; (try simp only [List.cons_append, List.nil_append] at N9); (have l19 := lt_new lt9); clear lt9; (try k_lt l19))
      (try dsimp only)
      (try k_fold))
    k_with "pyIter ref" => ((with_reducible show wpAny _ _ _ (fun it s₂ => LoopAtV _ _ _ _ _ (Str.ofString "over") _ _ _ it s₂) _ _); refine hold ?_)
    k_steps
    refine hold_out ?_
    obtain ⟨rr, err⟩ := nm_new (by assumption)
    subst err
    (rename Fr _ _ _ _ => lF'); (rename News _ _ _ _ => lN'); (rename IsRange _ _ _ _ _ _ _ _ => lR')
    (rename (_ < _ ∧ _) => hlt)
    have hlast : ∀ p ∈ acc ++ news, p.1 < rr := ktn_ltOf hlt.2.2.2.2
    with_unfolding_all refine' my_forR (x := Str.ofString "over") (n := 4) (fun c : RS => (_, listOf c.rv.toArray c.n) :: _) (fun _ => []) [Str.ofString "red", Str.ofString "green", Str.ofString "blue", Str.ofString "told", Str.ofString "place"] (fun k c => IntsAre c.rv (mrow (i : Int) k)) ⟨[], 0⟩ ?kh lR' ?ks ?kz lF' ?kn ?kk ?kp ?kt2 ?fin2
    case kh => rfl
    case ks => decide
    case kz => rfl
    case kn => exact lN'
    case kk => exact List.forall_mem_nil _
    case kp => exact .nil
    case kt2 =>
      clear lF' lN' lR'
      intro c1 k1 t1 u1 h1 tk1 own hk1 ho1 hp1 F1 N1
      obtain ⟨c1v, c1n⟩ := c1
      dsimp only [kstB] at F1 N1 hp1
      have hl1 := IntsAre.length hp1
      have hl2 : c1v.length = k1 := by rw [hl1]; simp [mrow]
      simp only [List.cons_append] at N1
      have hmt : 0 ≤ mt (0 + (i : Int)) (k1 : Int) ∧ mt (0 + (i : Int)) (k1 : Int) < 4 := mt_in _ _
      have cell := hall (0 + (i : Int)) (k1 : Int) (by omega) (by omega) (by omega) (by omega)
      have hno := fun (p : Addr × Obj) (hp : p ∈ (acc ++ news) ++ own) => (List.mem_append.mp hp).elim (fun h => Nat.ne_of_lt (hlast p h)) (OwnOff.ne ho1 (List.Mem.head _) p)
      k_with_none
      k_with "eval Name" => (k_dflt (refine' name_K ?kF ?k1 ?k2 ?k3 ?_; (case kF => k_asm); (case k1 => k_asm); (case k2 => k_asm); (case k3 => k_is)))
      k_with "eval Name" => (k_dflt (refine' ld ?k1 ?k2 ?_; (case k1 => k_asm); (case k2 => exact rfl)))
      k_with "call ref" => (
        k_dflt (refine' ctr0_use (c_hsv _ _ _ _ _ _ _ _ _ _ _ cell.h3 ?pv) ?k1 ?k2 ?k3 ?k4 ?k5 ?kK ?cdep ?cuni ?_; (case k1 => k_asm); (case k2 => k_asm); (case k3 => k_asm); (case k4 => k_asm); (case k5 => k_asm); (case kK => first | exact rfl | assumption); (case cdep => ktr_room); (case cuni => ktr_units))
        (case pv => assumption)
        intro r9 tl9 h9 tk9 F9 N9 lt9 R9
        (obtain ⟨y9, t91, t92, t93, e9, e8, p91, p92, p93⟩ := R9; subst e9; subst e8; (try simp only [List.cons_append, List.nil_append] at N9); (have l19 := lt_new lt9); clear lt9; (try k_lt l19))
        (try dsimp only)
        (try k_fold))
      k_with "call ref" => (
        k_dflt (refine' ctr0_use (c_rgb _ _ _ _ _ _ _ _ _ _ _ cell.h4 ?pr ?pg ?pb) ?k1 ?k2 ?k3 ?k4 ?k5 ?kK ?cdep ?cuni ?_; (case k1 => k_asm); (case k2 => k_asm); (case k3 => k_asm); (case k4 => k_asm); (case k5 => k_asm); (case kK => first | exact rfl | assumption); (case cdep => ktr_room); (case cuni => ktr_units))
        (case pr => assumption); (case pg => assumption); (case pb => assumption)
        intro r9 tl9 h9 tk9 F9 N9 lt9 R9
        (obtain ⟨y9, t91, t92, t93, e9, e8, p91, p92, p93⟩ := R9; subst e9; subst e8; (try simp only [List.cons_append, List.nil_append] at N9); (have l19 := lt_new lt9); clear lt9; (try k_lt l19))
        (try dsimp only)
        (try k_fold))
      k_with "call type:int" => (k_dflt (refine call_int_is rfl cell.h5 cell.h6 ?_))
      k_with "compareOp NotEq ref ref" => refine hold ?_
      k_steps
      · refine hold_out ?_
        refine ne_tup3 (none_booked_of (by k_asm) (by k_asm)) (News.isTup (by k_asm) (by k_mem)) (News.isTup (by k_asm) (by k_mem)) (by ktr_units) (by assumption) (by assumption) (by assumption) (by first | assumption | exact Nat.succ_pos _ | (dsimp only; first | assumption | exact Nat.succ_pos _)) hp2 hp3 cell.h7 cell.h8 cell.h9 ?_
        k_with_none
        k_with "call builtin:list.append" => (k_dflt (refine' append_K ?k1 ?k2 ?k3 ?_ ?z; (case k1 => k_asm); (case k2 => k_asm); (case k3 => k_upd); (case z => (rw [List.size_toArray, sizeLine_eq]; omega)); k_whole); intro h' F' N')
        k_steps
        refine hold_out ?_
        dsimp only [InvPostN]
        (rename News _ _ _ _ => nE)
        simp only [List.push_toArray] at nE
        refine' my_end ⟨c1v ++ [.int (mt (0 + (i : Int)) (k1 : Int)) _], _⟩ (by assumption) nE ?sub ?own ?adr ?kk ?kr ?kp
        case sub =>
          refine List.forall_mem_cons.mpr ⟨by k_mem, ?_⟩
          repeat (refine List.forall_mem_cons.mpr ⟨by k_mem, ?_⟩)
          exact fun p hp => by repeat (first | exact List.mem_append_left _ hp | refine List.Mem.tail _ ?_)
        case own => exact fun p hp => by repeat (first | exact List.mem_append_right _ hp | refine List.Mem.tail _ ?_)
        case adr => rfl
        case kk => exact List.forall_mem_nil _
        case kr =>
          intro z hz _ h3
          have h4 := h3
          simp only [List.contains_cons, List.contains_nil, Bool.or_false, Bool.or_eq_false_iff, beq_eq_false_iff_ne, ne_eq] at h4
          obtain ⟨e1, e2, e3, e4, e5⟩ := h4
          simp only [if_neg hz, if_neg e1, if_neg e2, if_neg e3, if_neg e4, if_neg e5, kstB, h3, Bool.false_eq_true, if_false]
        case kp => exact mrow_end hp1
      · exfalso
        (rename (List.any _ _ = false) => hany)
        obtain ⟨hm1, hm2⟩ := hmt
        generalize mt (0 + (i : Int)) (k1 : Int) = p at hany hm1 hm2
        have hp4 : p = 0 ∨ p = 1 ∨ p = 2 ∨ p = 3 := by omega
        rcases hp4 with rfl | rfl | rfl | rfl <;> simp at hany
    clear lF' lN' lR'
    intro c1 u1 h1 tk1 hp1 F1 N1
    obtain ⟨c1v, c1n⟩ := c1
    dsimp only [kstB] at F1 N1 hp1
    k_with_none
    k_with "eval Name" => (k_dflt (refine' name_K ?kF ?k1 ?k2 ?k3 ?_; (case kF => k_asm); (case k1 => k_asm); (case k2 => k_asm); (case k3 => k_is)))
    k_with "eval Name" => (k_dflt (refine' ld ?k1 ?k2 ?_; (case k1 => k_asm); (case k2 => exact rfl)))
    k_with "UnrEnd" => refine hold ?_
    k_steps
    refine hold_out ?_
    (rename News _ _ _ _ => nE)
    simp only [List.push_toArray] at nE
    have ⟨nn, h5⟩ : ∃ nn, News _ _ _ [(ml, listOf (rs ++ [Value.ref rr]).toArray nn)] := ⟨_, fun p hp => nE p (by rw [List.mem_singleton.mp hp]; k_mem)⟩
    have nE2 : News _ _ _ (_ :: _) := List.forall_mem_cons.mpr ⟨h5 _ (.head _), nE⟩
    refine UnrEnd.intro (by assumption) nE2 ((ml, listOf (rs ++ [Value.ref rr]).toArray nn) :: (((rr, listOf c1v.toArray c1n) :: acc) ++ news)) ?sub ?off ?r
    case sub =>
      refine List.forall_mem_cons.mpr ⟨by k_mem, ?_⟩
      repeat (refine List.forall_mem_cons.mpr ⟨by k_mem, ?_⟩)
      exact fun p hp => by repeat (first | exact hp | refine List.Mem.tail _ ?_)
    case off => exact List.forall_mem_cons.mpr ⟨Nat.ne_of_lt hlti.1, List.forall_mem_cons.mpr ⟨Nat.ne_of_gt hlt.2.2.1, hni⟩⟩
    case r => exact ⟨⟨rs ++ [.ref rr], _, (rr, listOf c1v.toArray c1n) :: acc, rfl, .snoc (hro.mono fun p hp => .tail _ hp) (List.Mem.head _) hp1, List.forall_mem_cons.mpr ⟨hlt.2.2.1, hra⟩⟩, by kst_all⟩
  intro m1 all h1 tk1 P1 F1 N1
  obtain ⟨⟨rs, n, acc, e, hro, hra⟩, hnm⟩ := P1
  subst e
  have q1 := hnm _ (List.Mem.head _)
  k_with_none
  k_with "eval Name" => (k_dflt (refine' name_K ?kF ?k1 ?k2 ?k3 ?_; (case kF => k_asm); (case k1 => k_asm); (case k2 => k_asm); (case k3 => k_is)))
  k_with "eval Name" => (k_dflt (refine' ld ?k1 ?k2 ?_; (case k1 => k_asm); (case k2 => first | exact rfl | exact q1)))
  k_steps
  refine' hret _ ((ml, listOf rs.toArray n) :: acc) _ _ (by assumption) (by assumption) ?ord ⟨ml, rfl, hro.mir (fun p hp => .tail _ hp) (List.Mem.head _)⟩
  intro q hq p hp
  rcases List.mem_cons.mp hp with rfl | hp
  · exact hrw q hq
  · exact Nat.lt_trans (hrw q hq) (Nat.lt_trans hlti.1 (hra p hp))

end Mine
end
section
open PySem PySem.W PyProof.Rows
namespace Mine
local macro_rules | `(tactic| walk_at $s:str) => `(tactic| k_extra $s)
local macro_rules | `(tactic| k_all) => `(tactic| with_reducible assumption)
local macro_rules | `(tactic| walk_at "execs cons") => `(tactic| (refine gen_toks1 ?_; intro tkp htkp))
local macro_rules | `(tactic| walk_at "execs nil") => `(tactic| (refine gen_toks1 ?_; intro tkp htkp))
local macro_rules | `(tactic| walk_at "my mem") => `(tactic| first | assumption | (refine List.mem_append_left _ ?_; walk_at "my mem") | (refine List.Mem.tail _ ?_; walk_at "my mem"))


theorem kok0 {a b : Nat} (h1 : a < 4) (h2 : b < 4) : In4 (0, (a : Int), (b : Int)) := ⟨⟨Int.le_refl _, by dsimp only; omega⟩, ⟨Int.natCast_nonneg _, by dsimp only; omega⟩, ⟨Int.natCast_nonneg _, by dsimp only; omega⟩⟩
theorem kOk_step {a b : Int} {pre : List Int} {c : KS} (h : KOk a b pre c) (n o t r : Int) (t1 t2 t3 : Tok) (e : (o, t, r) = kStep (c.one, c.two, c.three) n) : KOk a b (pre ++ [n]) ⟨o, t, r, t1, t2, t3⟩ := by
  refine ⟨?_, ?_⟩
  · show (o, t, r) = kRun (pre ++ [n]) a b
    rw [e, h.1]
    unfold kRun
    rw [List.foldl_append]
    rfl
  · show In4 (o, t, r)
    rw [e]
    exact kStep_in h.2 n
theorem klen (k : Nat) : (((List.range k).map fun i => ((i : Nat) : Int)) ++ [(k : Int)]).length = k + 1 := by simp
theorem kRow_succ (ns : List Int) (a : Int) (k : Nat) : kRow ns a (k + 1) = kRow ns a k + kHit ns a (k : Int) := by
  unfold kRow
  rw [List.range_succ, List.map_append, List.sum_append]
  simp
theorem kAll_succ (ns : List Int) (k : Nat) : kAll ns (k + 1) = kAll ns k + kRow ns (k : Int) 4 := by
  unfold kAll
  rw [List.range_succ, List.map_append, List.sum_append]
  simp
theorem kCell_true {ns : List Int} {k1 k2 : Nat} {one two three c : Int} (h : c = kAll ns k1 + kRow ns (k1 : Int) k2) (hr : (one, two, three) = kRun ns k1 k2) (cc : (one == 0 && (two == (k1 : Int) && three == (k2 : Int))) = true) :
    c + 1 = kAll ns k1 + kRow ns (k1 : Int) (((List.range k2).map fun i => ((i : Nat) : Int)) ++ [(k2 : Int)]).length := by
  rw [klen, kRow_succ, h]
  have hh : kHit ns (k1 : Int) (k2 : Int) = 1 := by
    unfold kHit
    rw [← hr]
    simp only [Bool.and_eq_true, beq_iff_eq] at cc
    rw [if_pos (by rw [cc.1, cc.2.1, cc.2.2])]
  rw [hh]
  omega
theorem kCell_false {ns : List Int} {k1 k2 : Nat} {one two three c : Int} (h : c = kAll ns k1 + kRow ns (k1 : Int) k2) (hr : (one, two, three) = kRun ns k1 k2) (cc : (one == 0 && (two == (k1 : Int) && three == (k2 : Int))) = false) :
    c = kAll ns k1 + kRow ns (k1 : Int) (((List.range k2).map fun i => ((i : Nat) : Int)) ++ [(k2 : Int)]).length := by
  rw [klen, kRow_succ, h]
  have hh : kHit ns (k1 : Int) (k2 : Int) = 0 := by
    unfold kHit
    rw [← hr]
    rw [if_neg]
    intro e
    rw [Prod.mk.injEq, Prod.mk.injEq] at e
    rw [e.1, e.2.1, e.2.2] at cc
    simp at cc
  rw [hh]
  omega
theorem kRun_snoc (ns : List Int) (n a b : Int) : kRun (ns ++ [n]) a b = kStep (kRun ns a b) n := by
  unfold kRun
  rw [List.foldl_append]
  rfl
set_option maxRecDepth 100000 in
set_option maxHeartbeats 8000000 in
theorem c_kept (w : World) (mean : ExcName → Option Value) (mg mb : Str → Option Value) (news : List (Addr × Obj)) (xl ml : Addr) (vs : List Value) (ns : List Int) (nn : Nat) (hi : IntsAre vs ns) (hlen : ns.length ≤ 200) (hxl : (xl, listOf vs.toArray nn) ∈ news) (hmir : MirAt news ml) :
    Ctr0 w mean mg mb 134 20 400 news [.ref xl, .ref ml] (fun r tl => tl = [] ∧ ∃ t, r = .int (kAll ns 4) t) := by
  unfold Ctr0
  k_fill
  intro dp un gd cn cs a ccd cl outer A₀ base h₀ L m s Q E B F X N T hk hd hu hret
  refine wpAny_call ?_
  k_dflt ktr_enter
  k_with_none
  k_with "exec While" => (k_dflt (refine whl_start 100 ?_))
  k_with "eval Name" => (k_dflt (refine' name_K ?kF ?k1 ?k2 ?k3 ?_; (case kF => k_asm); (case k1 => k_asm); (case k2 => k_asm); (case k3 => k_is)))
  k_with "eval Name" => (k_dflt (refine' ld ?k1 ?k2 ?_; (case k1 => k_asm); (case k2 => exact rfl)))
  obtain ⟨r0, r1, r2, r3, v0, v1, v2, v3, n, n0, n1, n2, n3, hm, m0, m1, m2, m3, i0, i1, i2, i3⟩ := hmir.at_
  k_with "pyIter ref" => refine hold ?_
  k_steps
  refine hold_out ?_
  (rename Fr _ _ _ _ => lF'); (rename News _ _ _ _ => lN'); (rename IsRange _ _ _ _ _ _ _ _ => lR')
  with_unfolding_all refine' my_forR (x := Str.ofString "second") (n := 4) (fun _ => _) (fun c : Int × Tok => [(Str.ofString "kept", .int c.1 c.2)]) [Str.ofString "third", Str.ofString "one", Str.ofString "two", Str.ofString "three", Str.ofString "crossing"] (fun k c => c.1 = kAll ns k) (0, _) ?kh lR' ?ks ?kz lF' ?kn ?kk ?kp ?kt ?fin1
  case kh => rfl
  case ks => decide
  case kz => rfl
  case kn => exact lN'
  case kk => kst_all
  case kp => rfl
  case kt =>
    clear lF' lN' lR'
    intro c1 k1 t1 u1 h1 tk1 own hk1 ho1 hp1 F1 N1
    obtain ⟨c1v, c1t⟩ := c1
    dsimp only [kstB] at F1 N1 hp1
    k_steps
    refine hold_out ?_
    (rename Fr _ _ _ _ => lF'); (rename News _ _ _ _ => lN'); (rename IsRange _ _ _ _ _ _ _ _ => lR')
    with_unfolding_all refine' my_forR (x := Str.ofString "third") (n := 4) (fun _ => _) (fun c : Int × Tok => [(Str.ofString "kept", .int c.1 c.2)]) [Str.ofString "one", Str.ofString "two", Str.ofString "three", Str.ofString "crossing"] (fun k c => c.1 = kAll ns k1 + kRow ns (k1 : Int) k) (c1v, _) ?kh lR' ?ks ?kz lF' ?kn ?kk ?kp ?kt ?fin2
    case kh => rfl
    case ks => decide
    case kz => rfl
    case kn => exact lN'
    case kk => kst_all
    case kp => show c1v = kAll ns k1 + kRow ns (k1 : Int) 0; rw [hp1]; simp [kRow]
    case kt =>
      clear lF' lN' lR'
      intro c2 k2 t2 u2 h2 tk2 own2 hk2 ho2 hp2 F2 N2
      obtain ⟨c2v, c2t⟩ := c2
      dsimp only [kstB] at F2 N2 hp2
      k_steps
      refine hold_out ?_
      (rename Fr _ _ _ _ => lF'); (rename News _ _ _ _ => lN')
      with_unfolding_all refine' my_forL (x := Str.ofString "crossing") (nn := nn) (fun _ : KS => _) (fun c : KS => [(Str.ofString "one", .int c.one c.t1), (Str.ofString "two", .int c.two c.t2), (Str.ofString "three", .int c.three c.t3)]) [] (KOk (k1 : Int) (k2 : Int)) ⟨0, k1, k2, _, _, _⟩ ?kh ?kl hi lF' ?kn ?kk ?kp ?kt ?fin3
      case kh => rfl
      case kn => exact lN'
      case kl => exact fun _ => by walk_at "my mem"
      case kk => kst_all
      case kp => exact ⟨rfl, kok0 hk1 hk2⟩
      case kt =>
        clear lF' lN'
        intro c3 pre post n3' t3 u3 h3 tk3 own3 e3 hm3 ho3 hp3 F3 N3
        obtain ⟨one, two, three, tone, ttwo, tthree⟩ := c3
        have hok := hp3
        obtain ⟨hp31, ⟨ha1, ha2⟩, ⟨hb1, hb2⟩, ⟨hc1, hc2⟩⟩ := hp3
        dsimp only [kstB] at F3 N3 hp31 ha1 ha2 hb1 hb2 hc1 hc2
        k_with_none
        k_with "eval Name" => (k_dflt (refine' name_K ?kF ?k1 ?k2 ?k3 ?_; (case kF => k_asm); (case k1 => k_asm); (case k2 => k_asm); (case k3 => k_is)))
        k_with "eval Name" => (k_dflt (refine' ld ?k1 ?k2 ?_; (case k1 => k_asm); (case k2 => exact rfl)))
        k_with "subscriptTail Name Name ref int" => (first
          | (k_dflt (refine' my_item (xs := #[Value.ref r0, .ref r1, .ref r2, .ref r3]) ?k1 ?k2 ?k3 (pk_item ?k4 ?k5) ?_ ?k6; (case k1 => exact News.isList (by k_asm) (by walk_at "my mem")); (case k2 => omega); (case k3 => omega); (case k4 => omega); (case k5 => omega); (case k6 => with_unfolding_all rfl)))
          | ((k_dflt (refine' my_itemI (pk_list ?k1 ?m0 ?m1 ?m2 ?m3 ?b1 ?b2) (pk_ints i0 i1 i2 i3 ?b3 ?b4) ?k2 ?k3 (mrow_at ?k4 ?k5) ?_ ?k6; (case k1 => k_asm); (case m0 => walk_at "my mem"); (case m1 => walk_at "my mem"); (case m2 => walk_at "my mem"); (case m3 => walk_at "my mem"); (case b1 => omega); (case b2 => omega); (case b3 => omega); (case b4 => omega); (case k2 => omega); (case k3 => omega); (case k4 => omega); (case k5 => omega); (case k6 => with_unfolding_all rfl)); intro t77)))
        k_with "subscriptTail" => ((k_dflt (refine' my_itemI (pk_list ?k1 ?m0 ?m1 ?m2 ?m3 ?b1 ?b2) (pk_ints i0 i1 i2 i3 ?b3 ?b4) ?k2 ?k3 (mrow_at ?k4 ?k5) ?_ ?k6; (case k1 => k_asm); (case m0 => walk_at "my mem"); (case m1 => walk_at "my mem"); (case m2 => walk_at "my mem"); (case m3 => walk_at "my mem"); (case b1 => omega); (case b2 => omega); (case b3 => omega); (case b4 => omega); (case k2 => omega); (case k3 => omega); (case k4 => omega); (case k5 => omega); (case k6 => with_unfolding_all rfl)); intro t77))
        k_steps
        · refine hold_out ?_
          dsimp only [InvPostN]
          (rename News _ _ _ _ => nE)
          have c19 : n3' = 19 := by assumption
          refine' my_end (σ := KS) ⟨one, three, mt two three, _, _, _⟩ (by assumption) nE (fun p hp => .tail _ (List.mem_append_left _ hp)) (fun p hp => .tail _ (List.mem_append_right _ hp)) rfl ?kk ?kr ?kp
          case kk => kst_all
          case kr =>
            intro z hz h2 _
            have e1 := h2 _ (List.Mem.head _)
            have e2 := h2 _ (.tail _ (List.Mem.head _))
            have e3 := h2 _ (.tail _ (.tail _ (List.Mem.head _)))
            dsimp only at e1 e2 e3
            simp only [if_neg hz, if_neg e1, if_neg e2, if_neg e3, kstB, List.contains_nil, Bool.false_eq_true, if_false]
          case kp => exact kOk_step hok _ _ _ _ _ _ _ (by simp [kStep, c19])
        · refine hold_out ?_
          dsimp only [InvPostN]
          (rename News _ _ _ _ => nE)
          have c19 : n3' ≠ 19 := by assumption
          have c13 : n3' = 13 := by assumption
          refine' my_end (σ := KS) ⟨one, mt three two, two, _, _, _⟩ (by assumption) nE (fun p hp => .tail _ (List.mem_append_left _ hp)) (fun p hp => .tail _ (List.mem_append_right _ hp)) rfl ?kk ?kr ?kp
          case kk => kst_all
          case kr =>
            intro z hz h2 _
            have e1 := h2 _ (List.Mem.head _)
            have e2 := h2 _ (.tail _ (List.Mem.head _))
            have e3 := h2 _ (.tail _ (.tail _ (List.Mem.head _)))
            dsimp only at e1 e2 e3
            simp only [if_neg hz, if_neg e1, if_neg e2, if_neg e3, kstB, List.contains_nil, Bool.false_eq_true, if_false]
          case kp => exact kOk_step hok _ _ _ _ _ _ _ (by simp [kStep, c19, c13])
        · refine hold_out ?_
          dsimp only [InvPostN]
          (rename News _ _ _ _ => nE)
          have c19 : n3' ≠ 19 := by assumption
          have c13 : n3' ≠ 13 := by assumption
          have c20 : n3' = 20 := by assumption
          refine' my_end (σ := KS) ⟨two, mt one two, three, _, _, _⟩ (by assumption) nE (fun p hp => .tail _ (List.mem_append_left _ hp)) (fun p hp => .tail _ (List.mem_append_right _ hp)) rfl ?kk ?kr ?kp
          case kk => kst_all
          case kr =>
            intro z hz h2 _
            have e1 := h2 _ (List.Mem.head _)
            have e2 := h2 _ (.tail _ (List.Mem.head _))
            have e3 := h2 _ (.tail _ (.tail _ (List.Mem.head _)))
            dsimp only at e1 e2 e3
            simp only [if_neg hz, if_neg e1, if_neg e2, if_neg e3, kstB, List.contains_nil, Bool.false_eq_true, if_false]
          case kp => exact kOk_step hok _ _ _ _ _ _ _ (by simp [kStep, c19, c13, c20])
        · refine hold_out ?_
          dsimp only [InvPostN]
          (rename News _ _ _ _ => nE)
          have c19 : n3' ≠ 19 := by assumption
          have c13 : n3' ≠ 13 := by assumption
          have c20 : n3' ≠ 20 := by assumption
          refine' my_end (σ := KS) ⟨mt two one, one, three, _, _, _⟩ (by assumption) nE (fun p hp => .tail _ (List.mem_append_left _ hp)) (fun p hp => .tail _ (List.mem_append_right _ hp)) rfl ?kk ?kr ?kp
          case kk => kst_all
          case kr =>
            intro z hz h2 _
            have e1 := h2 _ (List.Mem.head _)
            have e2 := h2 _ (.tail _ (List.Mem.head _))
            have e3 := h2 _ (.tail _ (.tail _ (List.Mem.head _)))
            dsimp only at e1 e2 e3
            simp only [if_neg hz, if_neg e1, if_neg e2, if_neg e3, kstB, List.contains_nil, Bool.false_eq_true, if_false]
          case kp => exact kOk_step hok _ _ _ _ _ _ _ (by simp [kStep, c19, c13, c20])
      intro c3 u3 h3 tk3 hp3 F3 N3
      obtain ⟨one, two, three, tone, ttwo, tthree⟩ := c3
      obtain ⟨hp31, ⟨ha1, ha2⟩, ⟨hb1, hb2⟩, ⟨hc1, hc2⟩⟩ := hp3
      dsimp only [kstB] at F3 N3 hp31 ha1 ha2 hb1 hb2 hc1 hc2
      k_with_none
      k_with "eval Name" => (k_dflt (refine' name_K ?kF ?k1 ?k2 ?k3 ?_; (case kF => k_asm); (case k1 => k_asm); (case k2 => k_asm); (case k3 => k_is)))
      k_with "eval Name" => (k_dflt (refine' ld ?k1 ?k2 ?_; (case k1 => k_asm); (case k2 => exact rfl)))
      k_steps
      · have cc : (one == 0 && (two == (k1 : Int) && three == (k2 : Int))) = true := by assumption
        refine hold_out ?_
        dsimp only [InvPostN]
        (rename News _ _ _ _ => nE)
        refine' my_end (σ := Int × Tok) (c2v + 1, _) (by assumption) nE ?sub ?own rfl ?kk ?kr ?kp
        case sub => exact fun p hp => by repeat (first | exact List.mem_append_left _ hp | refine List.Mem.tail _ ?_)
        case own => exact fun p hp => by repeat (first | exact List.mem_append_right _ hp | refine List.Mem.tail _ ?_)
        case kk => kst_all
        case kr =>
          intro z hz h2 h3
          have e1 := h2 _ (List.Mem.head _)
          dsimp only at e1
          have h4 := h3
          simp only [List.contains_cons, List.contains_nil, Bool.or_false, Bool.or_eq_false_iff, beq_eq_false_iff_ne, ne_eq] at h4
          obtain ⟨e2, e3, e4, e5⟩ := h4
          simp only [if_neg hz, if_neg e1, if_neg e2, if_neg e3, if_neg e4, if_neg e5, kstB, h3, List.contains_nil, Bool.false_eq_true, if_false]
        case kp => exact kCell_true hp2 hp31 cc
      · have cc : (one == 0 && (two == (k1 : Int) && three == (k2 : Int))) = false := by assumption
        refine hold_out ?_
        dsimp only [InvPostN]
        (rename News _ _ _ _ => nE)
        refine' my_end (σ := Int × Tok) (c2v, _) (by assumption) nE ?sub ?own rfl ?kk ?kr ?kp
        case sub => exact fun p hp => by repeat (first | exact List.mem_append_left _ hp | refine List.Mem.tail _ ?_)
        case own => exact fun p hp => by repeat (first | exact List.mem_append_right _ hp | refine List.Mem.tail _ ?_)
        case kk => kst_all
        case kr =>
          intro z hz h2 h3
          have e1 := h2 _ (List.Mem.head _)
          dsimp only at e1
          have h4 := h3
          simp only [List.contains_cons, List.contains_nil, Bool.or_false, Bool.or_eq_false_iff, beq_eq_false_iff_ne, ne_eq] at h4
          obtain ⟨e2, e3, e4, e5⟩ := h4
          simp only [if_neg hz, if_neg e1, if_neg e2, if_neg e3, if_neg e4, if_neg e5, kstB, h3, List.contains_nil, Bool.false_eq_true, if_false]
        case kp => exact kCell_false hp2 hp31 cc
    intro c2 u2 h2 tk2 hp2 F2 N2
    obtain ⟨c2v, c2t⟩ := c2
    dsimp only [kstB] at F2 N2 hp2
    k_steps
    refine hold_out ?_
    dsimp only [InvPostN]
    refine' my_end (σ := Int × Tok) (c2v, _) (by assumption) N2 ?sub ?own rfl ?kk ?kr ?kp
    case sub => exact fun p hp => List.mem_append_left _ hp
    case own => exact fun p hp => List.mem_append_right _ hp
    case kk => kst_all
    case kr =>
      intro z hz h2 h3
      have e1 := h2 _ (List.Mem.head _)
      dsimp only at e1
      have h4 := h3
      simp only [List.contains_cons, List.contains_nil, Bool.or_false, Bool.or_eq_false_iff, beq_eq_false_iff_ne, ne_eq] at h4
      obtain ⟨e2, e3, e4, e5, e6⟩ := h4
      have h5 : ([Str.ofString "one", Str.ofString "two", Str.ofString "three", Str.ofString "crossing"].contains z) = false := by simp [e3, e4, e5, e6]
      simp only [if_neg hz, if_neg e1, if_neg e2, if_neg e3, if_neg e4, if_neg e5, if_neg e6, kstB, h3, h5, List.contains_nil, Bool.false_eq_true, if_false]
    case kp => exact (by rw [klen, kAll_succ]; exact hp2)
  intro c1 u1 h1 tk1 hp1 F1 N1
  obtain ⟨c1v, c1t⟩ := c1
  dsimp only [kstB] at F1 N1 hp1
  k_with_none
  k_with "eval Name" => (k_dflt (refine' name_K ?kF ?k1 ?k2 ?k3 ?_; (case kF => k_asm); (case k1 => k_asm); (case k2 => k_asm); (case k3 => k_is)))
  k_with "eval Name" => (k_dflt (refine' ld ?k1 ?k2 ?_; (case k1 => k_asm); (case k2 => exact rfl)))
  k_steps
  subst hp1
  refine' hret _ [] _ _ (by assumption) (by assumption) (fun _ _ _ hp => nomatch hp) ⟨rfl, _, rfl⟩

end Mine
end
section
open PySem PySem.W PyProof.Rows
namespace Mine
local macro_rules | `(tactic| walk_at $s:str) => `(tactic| k_extra $s)
local macro_rules | `(tactic| k_all) => `(tactic| with_reducible assumption)
local macro_rules | `(tactic| walk_at "execs cons") => `(tactic| (refine gen_toks1 ?_; intro tkp htkp))
local macro_rules | `(tactic| walk_at "execs nil") => `(tactic| (refine gen_toks1 ?_; intro tkp htkp))
local macro_rules | `(tactic| walk_at "my mem") => `(tactic| first | assumption | (refine List.mem_append_left _ ?_; walk_at "my mem") | (refine List.Mem.tail _ ?_; walk_at "my mem"))

def tm (y x : Int × Int × Int × Int) : Int × Int × Int × Int := (y.1 * x.1 + y.2.1 * x.2.2.1, y.1 * x.2.1 + y.2.1 * x.2.2.2, y.2.2.1 * x.1 + y.2.2.2 * x.2.2.1, y.2.2.1 * x.2.1 + y.2.2.2 * x.2.2.2)
def tFold (ps : List (Value × (Int × Int × Int × Int))) (x : Int × Int × Int × Int) : Int × Int × Int × Int := ps.foldl (fun x p => tm p.2 x) x
/-- what a table call gives back -/
def TbRes (x : Int × Int × Int × Int) (r : Value) (tl : List (Addr × Obj)) : Prop := ∃ y t1 t2 t3 t4 n, r = .ref y ∧ tl = [(y, listOf #[.int x.1 t1, .int x.2.1 t2, .int x.2.2.1 t3, .int x.2.2.2 t4] n)]
section
variable {prog : Program} {w : World} {A : Around} {E : Value → Shared → Prop} {s : Shared} {env : Env} {h₀ : Heap} {x : Str} {body : List Stmt} {Q : Flow → Shared → Prop}
/-- a loop over a made list whose ledger grows -/
theorem lr_ind {α : Type} {f : α → Value} {I : Addr} {lp : Addr × Obj} (P : List α → (Str → Option Value) → List (Addr × Obj) → Prop)
    (turn : ∀ v rest m news (it : Obj) h tk, P (v :: rest) m news → it.cls = .type "list_iterator" → Fr h₀ env.locals h (fun y => if y = x then some (f v) else m y) →
      News h₀ env.locals h ((I, it) :: news) →
      wpAny (model prog w) A (execs body env) (UnrPost h₀ env.locals { s with heap := h, toks := tk } I it (fun m' n' => lp ∈ n' ∧ P rest m' n') Q) E { s with heap := h, toks := tk })
    (done : ∀ m news h tk, P [] m news → Fr h₀ env.locals h m → News h₀ env.locals h news → Q .next { s with heap := h, toks := tk }) :
    ∀ vs m news, P vs m news → ListRest prog w A E h₀ env x body Q s I lp (vs.map f) m news
  | [], m, news, p => fun h tk F N => done m news h tk p F N
  | v :: r, m, news, p => fun it h tk hit F N =>
    wpAny_mono (turn v r m news it h tk p hit F N) (fun f s₂ q => unrPost_mono (fun m' n' p' => ⟨p'.1, lr_ind P turn done r m' n' p'.2⟩) q) fun _ _ x => x
end
def Sm (x : Int × Int × Int × Int) : Prop := (-1000 ≤ x.1 ∧ x.1 ≤ 1000) ∧ (-1000 ≤ x.2.1 ∧ x.2.1 ≤ 1000) ∧ (-1000 ≤ x.2.2.1 ∧ x.2.2.1 ≤ 1000) ∧ (-1000 ≤ x.2.2.2 ∧ x.2.2.2 ≤ 1000)
structure TInv (news : List (Addr × Obj)) (all₀ : List (Value × (Int × Int × Int × Int))) (qs : List (Str × Value)) (rest : List (Value × (Int × Int × Int × Int))) (m : Str → Option Value) (all : List (Addr × Obj)) : Prop where
  ex : ∃ a b c d ta tb tc td, m (Str.ofString "a") = some (.int a ta) ∧ m (Str.ofString "b") = some (.int b tb) ∧ m (Str.ofString "c") = some (.int c tc) ∧ m (Str.ofString "d") = some (.int d td) ∧ tFold rest (a, b, c, d) = tFold all₀ (1, 0, 0, 1)
  al : news = all
  rs : ∀ p ∈ rest, p ∈ all₀
  nm : ∀ p ∈ qs, m p.1 = some p.2
set_option maxRecDepth 100000 in
set_option maxHeartbeats 8000000 in
theorem c_tnt (w : World) (mean : ExcName → Option Value) (mg mb : Str → Option Value) (news : List (Addr × Obj)) (rl rr : Addr) (xs : List Value) (sym : Int) (ts : Tok) (ps : List (Value × (Int × Int × Int × Int))) (nx np : Nat) (kd ku : Nat) (hsym : 256 ≤ sym ∧ sym < 1000) (hx : xs[(sym - 256).toNat]? = some (.ref rr)) (h1 : (rl, listOf xs.toArray nx) ∈ news) (h2 : (rr, listOf (ps.map (·.1)).toArray np) ∈ news) (hsm : ∀ p ∈ ps, Sm p.2) (hcon : ∀ p ∈ ps, ∀ nw, (∀ q ∈ news, q ∈ nw) → Ctr0 w mean mg mb 148 kd ku nw [.ref rl, p.1] (TbRes p.2)) :
    Ctr0 w mean mg mb 148 (kd + 20) (ku + 400) news [.ref rl, .int sym ts] (TbRes (tFold ps (1, 0, 0, 1))) := by
  unfold Ctr0
  k_fill
  intro dp un gd cn cs a ccd cl outer A₀ base h₀ L m s Q E B F X N T hk hd hu hret
  refine wpAny_call ?_
  k_dflt ktr_enter
  k_with_none
  k_with "exec While" => (k_dflt (refine whl_start 100 ?_))
  k_with "eval Name" => (k_dflt (refine' name_K ?kF ?k1 ?k2 ?k3 ?_; (case kF => k_asm); (case k1 => k_asm); (case k2 => k_asm); (case k3 => k_is)))
  k_with "eval Name" => (k_dflt (refine' ld ?k1 ?k2 ?_; (case k1 => k_asm); (case k2 => exact rfl)))
  k_with "subscriptTail Name BinOp ref int" => (k_dflt (refine' my_item (xs := xs.toArray) (v := .ref rr) ?k1 ?k2 ?k3 ?k4 ?_ ?k6; (case k1 => exact News.isList (by k_asm) (by walk_at "my mem")); (case k2 => omega); (case k3 => omega); (case k4 => (rw [List.getElem?_toArray]; exact hx)); (case k6 => with_unfolding_all rfl)))
  k_with "exec For" => ((rename Fr _ _ _ _ => lF'); (with_unfolding_all refine' For_invVF lF' ?k1 ?k2 ?_; (case k1 => exact rfl); (case k2 => exact rfl); k_whole))
  k_with "pyIter ref" => ((with_reducible show wpAny _ _ (pyIter (Value.ref _)) (fun it s₂ => LoopAtV _ _ _ _ _ _ _ _ _ it s₂) _ _); refine hold ?_)
  k_with "UnrEnd" => refine hold ?_
  have hs2 : ¬ sym < 256 := by omega
  k_steps
  refine hold_out ?_
  (rename Fr _ _ _ _ => lF'); (rename News _ _ _ _ => lN')
  with_unfolding_all refine' iter_listUnr (news := news) ?kh lF' (fun p hp => lN' p (.tail _ hp)) ?km ?kc ?kd ?_
  case kh => rfl
  case km => exact h2
  case kc => rfl
  case kd => rfl
  clear lF' lN'
  intro I hI
  with_unfolding_all refine' lr_ind (TInv news ps [(Str.ofString "rules", .ref rl)]) ?turn ?done ps _ _ ?k0
  case k0 => exact ⟨⟨_, _, _, _, _, _, _, _, rfl, rfl, rfl, rfl, rfl⟩, rfl, fun _ hp => hp, by kst_all⟩
  case turn =>
    intro v rest m1 all it h3 tk3 P1 hit F1 N1
    obtain ⟨⟨a, b, c, d, ta, tb, tc, td, ma, mb', mc, md, hf⟩, e, hr, hn⟩ := P1
    subst e
    have hv := hr v (List.Mem.head _)
    obtain ⟨⟨sa1, sa2⟩, ⟨sb1, sb2⟩, ⟨sc1, sc2⟩, ⟨sd1, sd2⟩⟩ := hsm v hv
    have q1 := hn _ (List.Mem.head _)
    obtain ⟨z1, F2⟩ := fr_norm [(Str.ofString "part", v.1), (Str.ofString "a", .int a ta), (Str.ofString "b", .int b tb), (Str.ofString "c", .int c tc), (Str.ofString "d", .int d td), (Str.ofString "rules", .ref rl)] F1 (List.forall_mem_cons.mpr ⟨rfl, List.forall_mem_cons.mpr ⟨ma, List.forall_mem_cons.mpr ⟨mb', List.forall_mem_cons.mpr ⟨mc, List.forall_mem_cons.mpr ⟨md, List.forall_mem_cons.mpr ⟨q1, List.forall_mem_nil _⟩⟩⟩⟩⟩⟩)
    clear F1 q1
    dsimp only [kstB] at F2
    k_with_none
    k_with "eval Name" => (k_dflt (refine' name_K ?kF ?k1 ?k2 ?k3 ?_; (case kF => k_asm); (case k1 => k_asm); (case k2 => k_asm); (case k3 => k_is)))
    k_with "eval Name" => (k_dflt (refine' ld ?k1 ?k2 ?_; (case k1 => k_asm); (case k2 => exact rfl)))
    k_with "call ref" => (
      k_dflt (refine' ctr0_use (hcon v hv _ ?hs) ?k1 ?k2 ?k3 ?k4 ?k5 ?kK ?cdep ?cuni ?_; (case k1 => k_asm); (case k2 => k_asm); (case k3 => k_asm); (case k4 => k_asm); (case k5 => k_asm); (case kK => first | exact rfl | assumption); (case cdep => ktr_room); (case cuni => ktr_units))
      (case hs => exact fun p hp => .tail _ hp)
      intro r9 tl9 h9 tk9 F9 N9 lt9 R9
      (obtain ⟨y9, t91, t92, t93, t94, n9, e9, e8⟩ := R9; subst e9; subst e8; (try simp only [List.cons_append, List.nil_append] at N9); (have l19 := lt_new lt9); clear lt9; (try k_lt l19))
      (try dsimp only)
      (try k_fold))
    k_with "UnrEnd" => refine hold ?_
    k_steps
    refine hold_out ?_
    (rename News _ _ _ _ => nE)
    refine UnrEnd.intro (by assumption) nE news ?sub ?off ?r
    case sub =>
      refine List.forall_mem_cons.mpr ⟨by k_mem, ?_⟩
      exact fun p hp => by repeat (first | exact hp | refine List.Mem.tail _ ?_)
    case off => exact fun p hp => Nat.ne_of_lt (hI p hp)
    case r => exact ⟨h2, ⟨_, _, _, _, _, _, _, _, rfl, rfl, rfl, rfl, hf⟩, rfl, fun p hp => hr p (.tail _ hp), by kst_all⟩
  case done =>
    intro m1 all h3 tk3 P1 F1 N1
    obtain ⟨⟨a, b, c, d, ta, tb, tc, td, ma, mb', mc, md, hf⟩, e, hr, hn⟩ := P1
    subst e
    have hf2 : (a, b, c, d) = tFold ps (1, 0, 0, 1) := hf
    rw [← hf2] at hret
    obtain ⟨z1, F2⟩ := fr_norm [(Str.ofString "a", .int a ta), (Str.ofString "b", .int b tb), (Str.ofString "c", .int c tc), (Str.ofString "d", .int d td)] F1 (List.forall_mem_cons.mpr ⟨ma, List.forall_mem_cons.mpr ⟨mb', List.forall_mem_cons.mpr ⟨mc, List.forall_mem_cons.mpr ⟨md, List.forall_mem_nil _⟩⟩⟩⟩)
    clear F1
    dsimp only [kstB] at F2
    k_with_none
    k_with "eval Name" => (k_dflt (refine' name_K ?kF ?k1 ?k2 ?k3 ?_; (case kF => k_asm); (case k1 => k_asm); (case k2 => k_asm); (case k3 => k_is)))
    k_with "eval Name" => (k_dflt (refine' ld ?k1 ?k2 ?_; (case k1 => k_asm); (case k2 => exact rfl)))
    k_steps
    refine' hret _ [(_, _)] _ _ (by assumption) (kst_newsOf (by assumption) (List.forall_mem_cons.mpr ⟨?sub1, fun p hp => ?sub⟩)) ?ord ⟨_, _, _, _, _, _, rfl, rfl⟩
    case sub1 => k_mem
    case sub => (repeat (first | exact hp | refine List.Mem.tail _ ?_))
    case ord =>
      intro q hq p hp
      rw [List.mem_singleton.mp hp]
      revert q
      first
      | exact fun q hq => (by assumption : ∀ p ∈ news, p.1 < _) q hq
      | exact ktn_ltOf (by assumption : AllLt _ news)
      | exact ktn_ltOf (by assumption : _ ∧ AllLt _ news).2
      | exact ktn_ltOf (by assumption : _ ∧ _ ∧ AllLt _ news).2.2
      | exact ktn_ltOf (by assumption : _ ∧ _ ∧ _ ∧ AllLt _ news).2.2.2
      | exact ktn_ltOf (by assumption : _ ∧ _ ∧ _ ∧ _ ∧ AllLt _ news).2.2.2.2
      | exact ktn_ltOf (by assumption : _ ∧ _ ∧ _ ∧ _ ∧ _ ∧ AllLt _ news).2.2.2.2.2
      | exact ktn_ltOf (by assumption : _ ∧ _ ∧ _ ∧ _ ∧ _ ∧ _ ∧ AllLt _ news).2.2.2.2.2.2

end Mine
end
section
open PySem PySem.W PyProof.Rows
namespace Mine
local macro_rules | `(tactic| walk_at $s:str) => `(tactic| k_extra $s)
local macro_rules | `(tactic| k_all) => `(tactic| with_reducible assumption)
local macro_rules | `(tactic| walk_at "execs cons") => `(tactic| (refine gen_toks1 ?_; intro tkp htkp))
local macro_rules | `(tactic| walk_at "execs nil") => `(tactic| (refine gen_toks1 ?_; intro tkp htkp))

theorem Ctr0.mono {w : World} {mean : ExcName → Option Value} {mg mb : Str → Option Value} {f : Addr} {kd ku kd' ku' : Nat} {news : List (Addr × Obj)} {vs : List Value} {R R' : Value → List (Addr × Obj) → Prop} (h : Ctr0 w mean mg mb f kd ku news vs R) (h1 : kd ≤ kd') (h2 : ku ≤ ku') (hr : ∀ r tl, R r tl → R' r tl) : Ctr0 w mean mg mb f kd' ku' news vs R' := by
  intro dp un gd cn cs a ccd cl outer A₀ base h₀ L m s Q E B F X N T hk hd hu hret
  exact h dp un gd cn cs a ccd cl outer A₀ base h₀ L m s Q E B F X N T hk (by omega) (by omega) fun r tl h' tk' F' N' o q => hret r tl h' tk' F' N' o (hr r tl q)
def smB (x : Int × Int × Int × Int) : Bool := decide ((-1000 ≤ x.1 ∧ x.1 ≤ 1000) ∧ (-1000 ≤ x.2.1 ∧ x.2.1 ≤ 1000) ∧ (-1000 ≤ x.2.2.1 ∧ x.2.2.1 ≤ 1000) ∧ (-1000 ≤ x.2.2.2 ∧ x.2.2.2 ≤ 1000))
theorem sm_of {x : Int × Int × Int × Int} (h : smB x = true) : Sm x := by
  unfold smB at h
  have g := of_decide_eq_true h
  exact g
theorem tb_sm (x : Int) : Sm (tb x) := by
  unfold tb
  split
  · exact sm_of rfl
  · split
    · exact sm_of rfl
    · split <;> exact sm_of rfl
def t57 (lc ld : Int) : Int × Int × Int × Int := tm (tb ld) (tm (tb lc) (1, 0, 0, 1))
def t56 (la lb lc ld : Int) : Int × Int × Int × Int := tm (t57 lc ld) (tm (tb lb) (tm (t57 lc ld) (tm (tb la) (1, 0, 0, 1))))
def Lt4 (x : Int) : Prop := x = 19 ∨ x = 13 ∨ x = 20 ∨ x = 21
def l4 : List Int := [19, 13, 20, 21]
theorem Lt4.mem {x : Int} (h : Lt4 x) : x ∈ l4 := by rcases h with rfl | rfl | rfl | rfl <;> decide
theorem all4 {p : Int → Int → Int → Int → Bool} (h : (l4.all fun a => l4.all fun b => l4.all fun c => l4.all fun d => p a b c d) = true) {a b c d : Int} (ha : Lt4 a) (hb : Lt4 b) (hc : Lt4 c) (hd : Lt4 d) : p a b c d = true :=
  List.all_eq_true.mp (List.all_eq_true.mp (List.all_eq_true.mp (List.all_eq_true.mp h a ha.mem) b hb.mem) c hc.mem) d hd.mem
theorem t57_sm {lc ld : Int} (hc : Lt4 lc) (hd : Lt4 ld) : Sm (t57 lc ld) := by
  exact sm_of (all4 (p := fun _ _ c d => smB (t57 c d)) (by decide +kernel) hc hd hc hd)
theorem c_tt (w : World) (mean : ExcName → Option Value) (mg mb : Str → Option Value) (news : List (Addr × Obj)) (rl : Addr) (x : Int) (tx : Tok) (hx : Lt4 x) : Ctr0 w mean mg mb 148 20 400 news [.ref rl, .int x tx] (TbRes (tb x)) := c_tterm w mean mg mb news rl x tx hx
theorem c_t57 (w : World) (mean : ExcName → Option Value) (mg mb : Str → Option Value) (news : List (Addr × Obj)) (rl r0 r1 : Addr) (lc ld : Int) (ts t5 t6 : Tok) (n1 n3 : Nat) (hc : Lt4 lc) (hd : Lt4 ld)
    (h1 : (rl, listOf #[.ref r0, .ref r1] n1) ∈ news) (h3 : (r1, listOf #[.int lc t5, .int ld t6] n3) ∈ news) : Ctr0 w mean mg mb 148 40 800 news [.ref rl, .int 257 ts] (TbRes (t57 lc ld)) :=
  c_tnt w mean mg mb news rl r1 [.ref r0, .ref r1] 257 ts [(.int lc t5, tb lc), (.int ld t6, tb ld)] n1 n3 20 400 (by decide) rfl h1 h3
    (List.forall_mem_cons.mpr ⟨tb_sm lc, List.forall_mem_cons.mpr ⟨tb_sm ld, List.forall_mem_nil _⟩⟩)
    (List.forall_mem_cons.mpr ⟨fun nw _ => c_tt w mean mg mb nw rl lc t5 hc, List.forall_mem_cons.mpr ⟨fun nw _ => c_tt w mean mg mb nw rl ld t6 hd, List.forall_mem_nil _⟩⟩)
theorem c_t56 (w : World) (mean : ExcName → Option Value) (mg mb : Str → Option Value) (news : List (Addr × Obj)) (rl r0 r1 : Addr) (la lb lc ld : Int) (ts t1 t2 t3 t4 t5 t6 : Tok) (n1 n2 n3 : Nat) (ha : Lt4 la) (hb : Lt4 lb) (hc : Lt4 lc) (hd : Lt4 ld)
    (h1 : (rl, listOf #[.ref r0, .ref r1] n1) ∈ news) (h2 : (r0, listOf #[.int la t1, .int 257 t2, .int lb t3, .int 257 t4] n2) ∈ news) (h3 : (r1, listOf #[.int lc t5, .int ld t6] n3) ∈ news) : Ctr0 w mean mg mb 148 60 1200 news [.ref rl, .int 256 ts] (TbRes (t56 la lb lc ld)) :=
  c_tnt w mean mg mb news rl r0 [.ref r0, .ref r1] 256 ts [(.int la t1, tb la), (.int 257 t2, t57 lc ld), (.int lb t3, tb lb), (.int 257 t4, t57 lc ld)] n1 n2 40 800 (by decide) rfl h1 h2
    (List.forall_mem_cons.mpr ⟨tb_sm la, List.forall_mem_cons.mpr ⟨t57_sm hc hd, List.forall_mem_cons.mpr ⟨tb_sm lb, List.forall_mem_cons.mpr ⟨t57_sm hc hd, List.forall_mem_nil _⟩⟩⟩⟩)
    (List.forall_mem_cons.mpr ⟨fun nw _ => (c_tt w mean mg mb nw rl la t1 ha).mono (by decide) (by decide) fun _ _ q => q,
     List.forall_mem_cons.mpr ⟨fun nw hs => c_t57 w mean mg mb nw rl r0 r1 lc ld t2 t5 t6 n1 n3 hc hd (hs _ h1) (hs _ h3),
     List.forall_mem_cons.mpr ⟨fun nw _ => (c_tt w mean mg mb nw rl lb t3 hb).mono (by decide) (by decide) fun _ _ q => q,
     List.forall_mem_cons.mpr ⟨fun nw hs => c_t57 w mean mg mb nw rl r0 r1 lc ld t4 t5 t6 n1 n3 hc hd (hs _ h1) (hs _ h3), List.forall_mem_nil _⟩⟩⟩⟩)

end Mine
end
section
open PySem PySem.W PyProof.Rows
namespace Mine
local macro_rules | `(tactic| walk_at $s:str) => `(tactic| k_extra $s)
local macro_rules | `(tactic| k_all) => `(tactic| with_reducible assumption)
local macro_rules | `(tactic| walk_at "execs cons") => `(tactic| (refine gen_toks1 ?_; intro tkp htkp))
local macro_rules | `(tactic| walk_at "execs nil") => `(tactic| (refine gen_toks1 ?_; intro tkp htkp))
local macro_rules | `(tactic| walk_at "my mem") => `(tactic| first | assumption | (refine List.mem_append_left _ ?_; walk_at "my mem") | (refine List.Mem.tail _ ?_; walk_at "my mem"))

theorem t56_sm {la lb lc ld : Int} (ha : Lt4 la) (hb : Lt4 lb) (hc : Lt4 lc) (hd : Lt4 ld) : Sm (t56 la lb lc ld) := by
  exact sm_of (all4 (p := fun a b c d => smB (t56 a b c d)) (by decide +kernel) ha hb hc hd)
def d1 (t : Int × Int × Int × Int) : Int := Int.gcd (Int.gcd (t.1 - 1) t.2.1) (Int.gcd t.2.2.1 (t.2.2.2 - 1))
theorem d1_sm {la lb lc ld : Int} (ha : Lt4 la) (hb : Lt4 lb) (hc : Lt4 lc) (hd : Lt4 ld) : (d1 (t56 la lb lc ld)).natAbs.log2 < 9000 := by
  exact of_decide_eq_true (all4 (p := fun a b c d => decide ((d1 (t56 a b c d)).natAbs.log2 < 9000)) (by decide +kernel) ha hb hc hd)
theorem gcd4_bits (x : Int) : Builtin.Int.intBits ((Int.gcd x 4 : Nat) : Int) ≤ 64 := by
  have h : Int.gcd x 4 ≤ 4 := Nat.le_of_dvd (by decide) (by unfold Int.gcd; exact Nat.gcd_dvd_right _ _)
  exact PySem.intBits_le_64 (by omega) (by omega)
def dN (t : Int × Int × Int × Int) : Int := if (t.1 - 1) * (t.2.2.2 - 1) - t.2.1 * t.2.2.1 < 0 then -((t.1 - 1) * (t.2.2.2 - 1) - t.2.1 * t.2.2.1) else (t.1 - 1) * (t.2.2.2 - 1) - t.2.1 * t.2.2.1
def d2 (t : Int × Int × Int × Int) : Int := if d1 t = 0 then 0 else Int.fdiv (dN t) (d1 t)
def dueF (t : Int × Int × Int × Int) : Int := (Int.gcd (d1 t) 4 : Int) * (Int.gcd (d2 t) 4 : Int)
set_option maxRecDepth 100000 in
set_option maxHeartbeats 8000000 in
theorem c_due (w : World) (mean : ExcName → Option Value) (mg mb : Str → Option Value) (news : List (Addr × Obj)) (rl r0 r1 : Addr) (la lb lc ld : Int) (t1 t2 t3 t4 t5 t6 : Tok) (n1 n2 n3 : Nat) (ha : Lt4 la) (hb : Lt4 lb) (hc : Lt4 lc) (hld : Lt4 ld) (h1 : (rl, listOf #[.ref r0, .ref r1] n1) ∈ news) (h2 : (r0, listOf #[.int la t1, .int 257 t2, .int lb t3, .int 257 t4] n2) ∈ news) (h3 : (r1, listOf #[.int lc t5, .int ld t6] n3) ∈ news) :
    Ctr0 w mean mg mb 155 90 2000 news [.ref rl] (fun r tl => tl = [] ∧ ∃ t, r = .int (dueF (t56 la lb lc ld)) t) := by
  unfold Ctr0
  k_fill
  intro dp un gd cn cs a ccd cl outer A₀ base h₀ L m s Q E B F X N T hk hd hu hret
  refine wpAny_call ?_
  k_dflt ktr_enter
  k_with_none
  k_with "exec While" => (k_dflt (refine whl_start 100 ?_))
  k_with "eval Name" => (k_dflt (refine' name_K ?kF ?k1 ?k2 ?k3 ?_; (case kF => k_asm); (case k1 => k_asm); (case k2 => k_asm); (case k3 => k_is)))
  k_with "eval Name" => (k_dflt (refine' ld ?k1 ?k2 ?_; (case k1 => k_asm); (case k2 => exact rfl)))
  k_with "call ref" => (
    k_dflt (refine' ctr0_use (c_t56 _ _ _ _ _ _ r0 r1 la lb lc ld _ t1 t2 t3 t4 t5 t6 n1 n2 n3 ha hb hc hld ?z1 ?z2 ?z3) ?k1 ?k2 ?k3 ?k4 ?k5 ?kK ?cdep ?cuni ?_; (case k1 => k_asm); (case k2 => k_asm); (case k3 => k_asm); (case k4 => k_asm); (case k5 => k_asm); (case kK => first | exact rfl | assumption); (case cdep => ktr_room); (case cuni => ktr_units))
    (case z1 => walk_at "my mem"); (case z2 => walk_at "my mem"); (case z3 => walk_at "my mem")
    intro r9 tl9 h9 tk9 F9 N9 lt9 R9
    (obtain ⟨y9, t91, t92, t93, t94, n9, e9, e8⟩ := R9; subst e9; subst e8; (try simp only [List.cons_append, List.nil_append] at N9); (have l19 := lt_new lt9); clear lt9; (try k_lt l19))
    (try dsimp only)
    (try k_fold))
  k_with "call ref" => (
    k_dflt (refine' ctr0_use (c_common _ _ _ _ _ _ _ _ _) ?k1 ?k2 ?k3 ?k4 ?k5 ?kK ?cdep ?cuni ?_; (case k1 => k_asm); (case k2 => k_asm); (case k3 => k_asm); (case k4 => k_asm); (case k5 => k_asm); (case kK => first | exact rfl | assumption); (case cdep => ktr_room); (case cuni => ktr_units))
    skip
    intro r9 tl9 h9 tk9 F9 N9 lt9 R9
    (obtain ⟨e9, t9, e8⟩ := R9; subst e9; subst e8; clear lt9; (try simp only [List.nil_append] at N9))
    (try dsimp only)
    (try k_fold))
  k_with "binaryOp Mult int int" => (refine mul_int ?_ (IntMulOk.of_right (gcd4_bits _)))
  k_with "binaryOp FloorDiv int int" => (refine floordiv_int ?kbe ?_ (Or.inl (PyProof.noPylong_of_log2 (d1_sm ha hb hc hld))); (case kbe => assumption))
  have hsm := t56_sm ha hb hc hld
  obtain ⟨⟨sa1, sa2⟩, ⟨sb1, sb2⟩, ⟨sc1, sc2⟩, ⟨sd1, sd2⟩⟩ := hsm
  k_steps
  · have h0 : d1 (t56 la lb lc ld) ≠ 0 := by assumption
    have e : dueF (t56 la lb lc ld) = (Int.gcd (d1 (t56 la lb lc ld)) 4 : Int) * (Int.gcd (Int.fdiv (dN (t56 la lb lc ld)) (d1 (t56 la lb lc ld))) 4 : Int) := by
      unfold dueF d2
      rw [if_neg h0]
    refine' hret _ [] _ _ (by assumption) (kst_newsOf (by assumption) (fun p hp => ?sub)) (fun _ _ _ hp => nomatch hp) ⟨rfl, ?tt, ?eq⟩
    case sub => (repeat (first | exact hp | refine List.Mem.tail _ ?_))
    case eq => (rw [e]; exact rfl)
  · have h0 : d1 (t56 la lb lc ld) = 0 := by assumption
    have e : dueF (t56 la lb lc ld) = (Int.gcd (d1 (t56 la lb lc ld)) 4 : Int) * (Int.gcd 0 4 : Int) := by
      unfold dueF d2
      rw [if_pos h0]
    refine' hret _ [] _ _ (by assumption) (kst_newsOf (by assumption) (fun p hp => ?subb)) (fun _ _ _ hp => nomatch hp) ⟨rfl, ?tt2, ?eq2⟩
    case subb => (repeat (first | exact hp | refine List.Mem.tail _ ?_))
    case eq2 => (rw [e]; exact rfl)

end Mine
end
section
open PySem PySem.W PyProof.Rows
namespace Mine
local macro_rules | `(tactic| walk_at $s:str) => `(tactic| k_extra $s)
local macro_rules | `(tactic| k_all) => `(tactic| with_reducible assumption)
local macro_rules | `(tactic| walk_at "execs cons") => `(tactic| (refine gen_toks1 ?_; intro tkp htkp))
local macro_rules | `(tactic| walk_at "execs nil") => `(tactic| (refine gen_toks1 ?_; intro tkp htkp))

/-- the operators by their code points -/
def EXL : List (List Nat × Int) := [([33], 54), ([33, 61], 28), ([37], 24), ([37, 61], 40), ([38], 19), ([38, 61], 41), ([40], 7), ([41], 8), ([42], 16), ([42, 42], 35), ([42, 42, 61], 46), ([42, 61], 38), ([43], 14), ([43, 61], 36), ([44], 12), ([45], 15), ([45, 61], 37), ([45, 62], 51), ([46], 23), ([46, 46, 46], 52), ([47], 17), ([47, 47], 47), ([47, 47, 61], 48), ([47, 61], 39), ([58], 11), ([58, 61], 53), ([59], 13), ([60], 20), ([60, 60], 33), ([60, 60, 61], 44), ([60, 61], 29), ([61], 22), ([61, 61], 27), ([62], 21), ([62, 61], 30), ([62, 62], 34), ([62, 62, 61], 45), ([64], 49), ([64, 61], 50), ([91], 9), ([93], 10), ([94], 32), ([94, 61], 43), ([123], 25), ([124], 18), ([124, 61], 42), ([125], 26), ([126], 31)]
def EXS : List (Str × Int) := EXL.map fun p => (⟨p.1.toArray⟩, p.2)
theorem ex_tab (prog : Program) (w : World) {h : Heap} (X : (Mine.hd.heap_39 w.params).In h) : StrTab prog w h 29 (kdpD EXS) := by
  have q := kt_tab_in (a := 29) (D := EXS.map fun p => (p.1, PyData.int p.2)) prog w X (by kernel_rfl) (by decide +kernel) (by kernel_rfl)
  have e : (EXS.map fun p => (p.1, PyData.int p.2)).map (fun p => (PyData.str p.1, p.2)) = kdpD EXS := by
    unfold kdpD
    rw [List.map_map]
    rfl
  rw [e] at q
  exact q
theorem ex_tab_fr (prog : Program) (w : World) {h h' : Heap} {L : Addr} {m : Str → Option Value} (X : (Mine.hd.heap_39 w.params).In h) (F : Fr h L h' m) : StrTab prog w h' 29 (kdpD EXS) :=
  TabAt.ofFr (ex_tab prog w X) F
def cut (x : Str) (p n : Nat) : Str := ⟨((x.cps.toList.drop p).take n).toArray⟩
def lookL (l : List Nat) : Option Int := (EXL.find? fun p => p.1 == l).map (·.2)
theorem find_ex (l : List Nat) : ∀ T : List (List Nat × Int), ((T.map fun p => ((⟨p.1.toArray⟩ : Str), p.2)).find? fun p => decide (p.1 = ⟨l.toArray⟩)).map (·.2) = (T.find? fun p => p.1 == l).map (·.2)
  | [] => rfl
  | (k, v) :: T => by
    have ih := find_ex l T
    simp only [List.map_cons, List.find?_cons]
    by_cases h : k = l
    · subst h
      simp
    · have h1 : decide ((⟨k.toArray⟩ : Str) = ⟨l.toArray⟩) = false := by
        refine decide_eq_false fun e => h ?_
        have e2 := congrArg (fun x : Str => x.cps.toList) e
        exact e2
      have h2 : (k == l) = false := by simpa using h
      rw [h1, h2]
      exact ih
theorem ex_look (x : Str) (p n : Nat) : kdpLook EXS (cut x p n) 0 = (lookL ((x.cps.toList.drop p).take n)).getD 0 := by
  unfold kdpLook lookL EXS cut
  rw [find_ex]
theorem ex_has (x : Str) (p n : Nat) : kdpHas EXS (cut x p n) = (lookL ((x.cps.toList.drop p).take n)).isSome := by
  unfold kdpHas lookL
  rw [← find_ex]
  unfold EXS cut
  rw [Option.isSome_map, List.isSome_find?]
def NMS : List (Str × Int) := [(Str.ofString "amp", 19), (Str.ofString "lt", 20), (Str.ofString "gt", 21)]
def NML : List (List Nat × Int) := [([97, 109, 112], 19), ([108, 116], 20), ([103, 116], 21)]
def nameL (l : List Nat) : Option Int := (NML.find? fun p => p.1 == l).map (·.2)
theorem nms : NMS = NML.map fun p => (⟨p.1.toArray⟩, p.2) := by decide +kernel
theorem nm_look (x : Str) (p n : Nat) : kdpLook NMS (cut x p n) 0 = (nameL ((x.cps.toList.drop p).take n)).getD 0 := by
  unfold kdpLook nameL cut
  rw [nms, find_ex]
theorem nm_has (x : Str) (p n : Nat) : kdpHas NMS (cut x p n) = (nameL ((x.cps.toList.drop p).take n)).isSome := by
  unfold kdpHas nameL
  rw [← find_ex, ← nms]
  unfold cut
  rw [Option.isSome_map, List.isSome_find?]
def idxS : List Nat → Nat
  | [] => 0
  | c :: r => if Nat.beq c 59 = true then 0 else idxS r + 1
theorem idxS_at : ∀ l : List Nat, idxS l < l.length → l[idxS l]? = some 59 ∧ ∀ j, j < idxS l → l[j]? ≠ some 59
  | [], h => absurd h (Nat.lt_irrefl _)
  | c :: r, h => by
    unfold idxS at h ⊢
    by_cases hc : Nat.beq c 59 = true
    · rw [if_pos hc]
      have e : c = 59 := Nat.eq_of_beq_eq_true hc
      subst e
      exact ⟨rfl, fun j hj => absurd hj (Nat.not_lt_zero _)⟩
    · rw [if_neg hc] at h ⊢
      have ih := idxS_at r (by simpa using h)
      refine ⟨by simpa using ih.1, fun j hj => ?_⟩
      cases j with
      | zero =>
        intro e
        have e2 : c = 59 := by simpa using e
        subst e2
        exact hc rfl
      | succ j => simpa using ih.2 j (by omega)
def outL (l : List Nat) (wd : Nat) (n : Int) : Option (Nat × List Int) :=
  if n = 33 then some (wd, [20, 20]) else if n = 34 then some (wd, [21, 21]) else if (l.take 2 == [60, 60] || l.take 2 == [62, 62]) = true then none else some (wd, [n])
def stepL (l : List Nat) : Option (Nat × List Int) :=
  match lookL (l.take 3) with
  | some n => outL l 3 n
  | none => match lookL (l.take 2) with
    | some n => outL l 2 n
    | none => match lookL (l.take 1) with
      | some n => outL l 1 n
      | none => if Nat.blt (idxS l) l.length then (nameL (l.take (idxS l))).map fun n => (idxS l, [n]) else none
def crossR : Nat → List Nat → List Int → Option (List Int)
  | _, [], acc => some acc
  | 0, _ :: _, _ => none
  | f + 1, c :: r, acc => match stepL (c :: r) with
    | none => none
    | some (wd, out) => crossR f ((c :: r).drop wd) (acc ++ out)
theorem cut_slice {x : Str} {i j : Int} {p n : Nat} (hi : i = (p : Int)) (hj : j = (p : Int) + (n : Int)) (hp : p ≤ x.length) : Txt.slice x (some i) (some j) = cut x p n := by
  subst hi
  subst hj
  have hN : x.length = x.cps.toList.length := by simp [Str.length]
  have e1 : Builtin.Str.strSliceIndices (some (p : Int)) (some ((p : Int) + (n : Int))) 1 x.length = Builtin.Str.strSliceIndices (some (p : Int)) (some ((min (p + n) x.length : Nat) : Int)) 1 x.length := by
    have a1 : ¬ ((p : Int) < 0) := by omega
    have a2 : ¬ ((p : Int) + (n : Int) < 0) := by omega
    have a3 : ¬ (((min (p + n) x.length : Nat) : Int) < 0) := by omega
    have a4 : (1 : Int) > 0 := by decide
    have a5 : min ((p : Int) + (n : Int)) (x.length : Int) = min ((min (p + n) x.length : Nat) : Int) (x.length : Int) := by omega
    simp only [Builtin.Str.strSliceIndices, a1, a2, a3, a4, if_false, if_true, a5]
  have e2 : Txt.slice x (some (p : Int)) (some ((p : Int) + (n : Int))) = Txt.slice x (some (p : Int)) (some ((min (p + n) x.length : Nat) : Int)) := by
    unfold Txt.slice
    rw [e1]
  rw [e2]
  show StrLaws.sliceText x (some (p : Int)) (some ((min (p + n) x.length : Nat) : Int)) = _
  rw [StrLaws.sliceText_nat x (by omega) (Nat.min_le_right _ _)]
  unfold cut
  congr 2
  rcases Nat.le_total (p + n) x.length with h | h
  · rw [Nat.min_eq_left h, Nat.add_sub_cancel_left]
  · rw [Nat.min_eq_right h, List.take_of_length_le (by rw [List.length_drop]; omega), List.take_of_length_le (by rw [List.length_drop]; omega)]
section
variable {prog : Program} {w : World} {A : Around} {E : Value → Shared → Prop} {s : Shared} {h₀ : Heap} {L : Addr} {m : Str → Option Value} {news : List (Addr × Obj)} {value slice : PySem.Expr} {x : Str} {t : Tok} {Q : Value → Shared → Prop}
theorem my_cut {i j : Int} {ui uj : Tok} {p n : Nat} (hF : Fr h₀ L s.heap m) (hN : News h₀ L s.heap news) (hi : i = (p : Int)) (hj : j = (p : Int) + (n : Int)) (hp : p ≤ x.length) (hz : x.length ≤ sizeLine) (h : ∀ h' t' k, Fr h₀ L h' m → News h₀ L h' news → Q (.str (cut x p n) t') { s with heap := h', toks := k })
    (hs : subscripted slice false (.str x t) (.ref s.heap.objs.size) = operate [.ref s.heap.objs.size, .str x t] (getItem (.str x t) (.ref s.heap.objs.size)) := by with_unfolding_all rfl)
    (ht : ∀ r, letTemporaryGo value (.str x t) r = pure () := by intro _; with_unfolding_all rfl) :
    wpAny (model prog w) A (subscriptTail value slice (.str x t) (.ref s.heap.objs.size)) Q E { s with heap := s.heap.push { cls := .type "slice", data := .fields #[.int i ui, .int j uj, .none] } } :=
  slice_strN_ss hF hN (fun h' t' k F N => by rw [cut_slice hi hj hp]; exact h h' t' k F N) hs ht hz
theorem gives_index3 (x y : Str) (t u v : Tok) (i : Int) (k : Nat) (r : List Nat) (h : Builtin.Str.occurrences x y (fromIndex x.length i) x.length 1 = k :: r) : Gives (Builtin.«str.index» ⟨[.str x t, .str y u, .int i v], []⟩) (.int k) := by
  show Gives (match Builtin.Str.occurrences x y (fromIndex x.length i) (min x.length x.length) 1 with | k :: _ => retInt k | [] => (do rule "str.index.not-found"; raiseError "ValueError" "substring not found")) _
  rw [Nat.min_self, h]
  exact .of_eq rfl
theorem my_index {i : Int} {u v : Tok} {p : Nat} (hi : i = (p : Int)) (hp : p ≤ x.length) (hk : idxS (x.cps.toList.drop p) < (x.cps.toList.drop p).length) (h : Q (.int ((p + idxS (x.cps.toList.drop p) : Nat) : Int) s.toks) { s with toks := s.toks + 1 }) :
    wpAny (model prog w) A (call (.builtin "str.index") [.str x t, .str ⟨#[59]⟩ u, .int i v]) Q E s := by
  subst hi
  obtain ⟨a1, a2⟩ := idxS_at _ hk
  have hN : x.length = x.cps.toList.length := by simp [Str.length]
  have hf : fromIndex x.length (p : Int) = p := by
    unfold fromIndex
    rw [if_neg (by omega)]
    omega
  rw [List.getElem?_drop] at a1
  have a2' : ∀ j, j < idxS (x.cps.toList.drop p) → x.cps.toList[p + j]? ≠ some 59 := fun j hj => by have := a2 j hj; rwa [List.getElem?_drop] at this
  have e : ∃ r, Builtin.Str.occurrences x ⟨#[59]⟩ (fromIndex x.length (p : Int)) x.length 1 = (p + idxS (x.cps.toList.drop p)) :: r := by
    rcases StrLaws.occ_head_from x ⟨#[59]⟩ (fromIndex x.length (p : Int)) 1 (Nat.le_refl 1) with ⟨h0, hn⟩ | ⟨k, r, h0, hlo, hk2, hn⟩
    · exact absurd ((StrLaws.subAt_one x 59 _).mpr a1) (hn _ (by omega))
    · have hm := (StrLaws.subAt_one x 59 k).mp hk2
      rw [hf] at hlo hn
      have ek : k = p + idxS (x.cps.toList.drop p) := by
        rcases Nat.lt_trichotomy k (p + idxS (x.cps.toList.drop p)) with hlt | heq | hgt
        · refine absurd ?_ (a2' (k - p) (by omega))
          rw [show p + (k - p) = k by omega]
          exact hm
        · exact heq
        · exact absurd ((StrLaws.subAt_one x 59 _).mpr a1) (hn _ (by omega) hgt)
      exact ⟨r, by rw [h0, ek]⟩
  obtain ⟨r, e⟩ := e
  exact call_gives PySem.F.slot_str_index (typeIs_str _ _ _) PySem.F.entry_str_index (PySem.F.args_str_index_3 _ _ _) (gives_index3 _ _ _ _ _ _ _ _ e) h
end

end Mine
end
section
open PySem PySem.W PyProof.Rows
namespace Mine
local macro_rules | `(tactic| walk_at $s:str) => `(tactic| k_extra $s)
local macro_rules | `(tactic| k_all) => `(tactic| with_reducible assumption)
local macro_rules | `(tactic| walk_at "execs cons") => `(tactic| (refine gen_toks1 ?_; intro tkp htkp))
local macro_rules | `(tactic| walk_at "execs nil") => `(tactic| (refine gen_toks1 ?_; intro tkp htkp))

theorem step3 {d : List Nat} (h3 : (lookL (d.take 3)).isSome = true) : stepL d = outL d 3 ((lookL (d.take 3)).getD 0) := by
  obtain ⟨n, hn⟩ := Option.isSome_iff_exists.mp h3
  unfold stepL
  rw [hn]
  rfl
theorem step2 {d : List Nat} (h3 : (lookL (d.take 3)).isSome = false) (h2 : (lookL (d.take 2)).isSome = true) : stepL d = outL d 2 ((lookL (d.take 2)).getD 0) := by
  obtain ⟨n, hn⟩ := Option.isSome_iff_exists.mp h2
  have e3 : lookL (d.take 3) = none := by simpa using h3
  unfold stepL
  rw [e3, hn]
  rfl
theorem step1 {d : List Nat} (h3 : (lookL (d.take 3)).isSome = false) (h2 : (lookL (d.take 2)).isSome = false) (h1 : (lookL (d.take 1)).isSome = true) : stepL d = outL d 1 ((lookL (d.take 1)).getD 0) := by
  obtain ⟨n, hn⟩ := Option.isSome_iff_exists.mp h1
  have e3 : lookL (d.take 3) = none := by simpa using h3
  have e2 : lookL (d.take 2) = none := by simpa using h2
  unfold stepL
  rw [e3, e2, hn]
  rfl
theorem step0 {d : List Nat} {wd : Nat} {out : List Int} (h3 : (lookL (d.take 3)).isSome = false) (h2 : (lookL (d.take 2)).isSome = false) (h1 : (lookL (d.take 1)).isSome = false) (h : stepL d = some (wd, out)) : idxS d < d.length ∧ wd = idxS d ∧ (nameL (d.take (idxS d))).isSome = true ∧ out = [(nameL (d.take (idxS d))).getD 0] := by
  have e3 : lookL (d.take 3) = none := by simpa using h3
  have e2 : lookL (d.take 2) = none := by simpa using h2
  have e1 : lookL (d.take 1) = none := by simpa using h1
  unfold stepL at h
  rw [e3, e2, e1] at h
  dsimp only at h
  split at h
  · rename_i hb
    cases hn : nameL (d.take (idxS d)) with
    | none => rw [hn] at h; cases h
    | some n =>
      rw [hn] at h
      simp only [Option.map_some, Option.some.injEq, Prod.mk.injEq] at h
      exact ⟨by simpa using hb, h.1.symm, rfl, h.2.symm⟩
  · cases h
theorem fr_tok {h₀ h : Heap} {L : Addr} {m : Str → Option Value} (_ : Fr h₀ L h m) (x : Str) (n : Int) {t : Tok} (e : m x = some (.int n t)) : ∃ t, m x = some (.int n t) := ⟨t, e⟩
section
variable {prog : Program} {w : World} {A : Around} {E : Value → Shared → Prop} {s : Shared} {h₀ : Heap} {L : Addr} {m : Str → Option Value} {news : List (Addr × Obj)} {value slice : PySem.Expr} {x : Str} {t : Tok} {Q : Value → Shared → Prop} {p n : Nat}
theorem my_exnot (X : (Mine.hd.heap_39 w.params).In h₀) (F : Fr h₀ L s.heap m) (h : Q (.bool (!(lookL ((x.cps.toList.drop p).take n)).isSome)) { s with toks := s.toks + 1 }) : wpAny (model prog w) A (compareOp .NotIn (.str (cut x p n) t) (.ref 29)) Q E s :=
  kdp_notin (ex_tab_fr prog w X F) (by rw [ex_has]; exact h)
theorem my_exitem (X : (Mine.hd.heap_39 w.params).In h₀) (F : Fr h₀ L s.heap m) (hk : (lookL ((x.cps.toList.drop p).take n)).isSome = true) (h : ∀ t, Q (.int ((lookL ((x.cps.toList.drop p).take n)).getD 0) t) { s with toks := s.toks + 1 })
    (hs : subscripted slice false (.ref 29) (.str (cut x p n) t) = operate [.ref 29, .str (cut x p n) t] (getItem (.ref 29) (.str (cut x p n) t)) := by with_unfolding_all rfl) (hg : ∀ r, letTemporaryGo value (.ref 29) r = pure () := by intro _; with_unfolding_all rfl) :
    wpAny (model prog w) A (subscriptTail value slice (.ref 29) (.str (cut x p n) t)) Q E s :=
  kdp_item (ex_tab_fr prog w X F) (by rw [ex_has]; exact hk) (fun t => by rw [ex_look]; exact h t) hs hg
theorem my_nmitem {d : Addr} (T : StrTab prog w s.heap d (kdpD NMS)) (hk : (nameL ((x.cps.toList.drop p).take n)).isSome = true) (h : ∀ t, Q (.int ((nameL ((x.cps.toList.drop p).take n)).getD 0) t) { s with toks := s.toks + 1 })
    (hs : subscripted slice false (.ref d) (.str (cut x p n) t) = operate [.ref d, .str (cut x p n) t] (getItem (.ref d) (.str (cut x p n) t)) := by with_unfolding_all rfl) (hg : ∀ r, letTemporaryGo value (.ref d) r = pure () := by intro _; with_unfolding_all rfl) :
    wpAny (model prog w) A (subscriptTail value slice (.ref d) (.str (cut x p n) t)) Q E s :=
  kdp_item T (by rw [nm_has]; exact hk) (fun t => by rw [nm_look]; exact h t) hs hg
theorem l_semi : Str.ofString ";" = ⟨#[59]⟩ := by decide +kernel
theorem my_indexS {i : Int} {u v : Tok} {p : Nat} (hi : i = (p : Int)) (hp : p ≤ x.length) (hk : idxS (x.cps.toList.drop p) < (x.cps.toList.drop p).length) (h : Q (.int ((p : Int) + (idxS (x.cps.toList.drop p) : Int)) s.toks) { s with toks := s.toks + 1 }) :
    wpAny (model prog w) A (call (.builtin "str.index") [.str x t, .str (Str.ofString ";") u, .int i v]) Q E s := by
  rw [l_semi]
  exact my_index hi hp hk (by rw [Int.natCast_add]; exact h)
end
theorem fr_tok2 {h₀ h : Heap} {L : Addr} {m : Str → Option Value} (_ : Fr h₀ L h m) (x : Str) (n : Int) {n' : Int} {t : Tok} (e : m x = some (.int n' t)) (hn : n' = n) : ∃ t, m x = some (.int n t) := ⟨t, by rw [e, hn]⟩
theorem out33 {d : List Nat} {k wd : Nat} {n : Int} {out : List Int} (h : n = 33) (e : outL d k n = some (wd, out)) : wd = k ∧ out = [20, 20] := by
  unfold outL at e
  rw [if_pos h] at e
  simp only [Option.some.injEq, Prod.mk.injEq] at e
  exact ⟨e.1.symm, e.2.symm⟩
theorem out34 {d : List Nat} {k wd : Nat} {n : Int} {out : List Int} (h0 : n ≠ 33) (h : n = 34) (e : outL d k n = some (wd, out)) : wd = k ∧ out = [21, 21] := by
  unfold outL at e
  rw [if_neg h0, if_pos h] at e
  simp only [Option.some.injEq, Prod.mk.injEq] at e
  exact ⟨e.1.symm, e.2.symm⟩
theorem outN {d : List Nat} {k wd : Nat} {n : Int} {out : List Int} (h0 : n ≠ 33) (h : n ≠ 34) (e : outL d k n = some (wd, out)) : wd = k ∧ out = [n] := by
  unfold outL at e
  rw [if_neg h0, if_neg h] at e
  split at e
  · cases e
  · simp only [Option.some.injEq, Prod.mk.injEq] at e
    exact ⟨e.1.symm, e.2.symm⟩
theorem l_ltlt : Str.ofString "<<" = ⟨#[60, 60]⟩ := by decide +kernel
theorem l_gtgt : Str.ofString ">>" = ⟨#[62, 62]⟩ := by decide +kernel
theorem outBad {x : Str} {p k wd : Nat} {n : Int} {out : List Int} (h0 : n ≠ 33) (h : n ≠ 34) (hb : ([Str.ofString "<<", Str.ofString ">>"].any fun y => y == cut x p 2) = true) (e : outL (x.cps.toList.drop p) k n = some (wd, out)) : False := by
  unfold outL at e
  have hb2 : ((x.cps.toList.drop p).take 2 == [60, 60] || (x.cps.toList.drop p).take 2 == [62, 62]) = true := by
    simp only [List.any_cons, List.any_nil, Bool.or_false, l_ltlt, l_gtgt, Bool.or_eq_true, beq_iff_eq] at hb ⊢
    rcases hb with hb | hb
    · left
      have := congrArg (fun y : Str => y.cps.toList) hb
      exact this.symm
    · right
      have := congrArg (fun y : Str => y.cps.toList) hb
      exact this.symm
  rw [if_neg h0, if_neg h, if_pos hb2] at e
  cases e
structure CS where
  pl : Nat
  r : List Int
  rv : List Value
  nr : Nat
  tp : Tok
  f : Nat
def COk (l : List Nat) (res : List Int) (c : CS) : Prop := IntsAre c.rv c.r ∧ c.pl ≤ l.length + 3 ∧ c.r.length + 2 * c.f ≤ 1000 ∧ crossR c.f (l.drop c.pl) c.r = some res
theorem cross_turn {l : List Nat} {res : List Int} {c : CS} (h : COk l res c) (hl : c.pl < l.length) : ∃ f wd out, c.f = f + 1 ∧ stepL (l.drop c.pl) = some (wd, out) ∧ crossR f (l.drop (c.pl + wd)) (c.r ++ out) = some res := by
  obtain ⟨_, _, _, h4⟩ := h
  cases hd : l.drop c.pl with
  | nil =>
    have := congrArg List.length hd
    rw [List.length_drop, List.length_nil] at this
    omega
  | cons a r =>
    rw [hd] at h4
    cases hf : c.f with
    | zero => rw [hf] at h4; cases h4
    | succ f =>
      rw [hf] at h4
      unfold crossR at h4
      cases hs : stepL (a :: r) with
      | none => rw [hs] at h4; cases h4
      | some q =>
        obtain ⟨wd, out⟩ := q
        rw [hs] at h4
        refine ⟨f, wd, out, rfl, rfl, ?_⟩
        rw [← List.drop_drop, hd]
        exact h4
theorem cross_done {l : List Nat} {res : List Int} {c : CS} (h : COk l res c) (hl : l.length ≤ c.pl) : c.r = res := by
  obtain ⟨_, _, _, h4⟩ := h
  rw [List.drop_of_length_le hl] at h4
  cases hf : c.f <;> (rw [hf] at h4; exact Option.some.inj h4)
set_option maxRecDepth 100000 in
set_option maxHeartbeats 8000000 in
theorem c_cross (w : World) (mean : ExcName → Option Value) (mg mb : Str → Option Value) (news : List (Addr × Obj)) (x : Str) (tx : Tok) (res : List Int) (hl : x.length ≤ 200) (hres : crossR 300 x.cps.toList [] = some res) :
    Ctr0 w mean mg mb 113 20 400 news [.str x tx] (fun r tl => ∃ y vs n, r = .ref y ∧ tl = [(y, listOf vs.toArray n)] ∧ IntsAre vs res) := by
  unfold Ctr0
  k_fill
  intro dp un gd cn cs a ccd cl outer A₀ base h₀ L m s Q E B F X N T hk hd hu hret
  refine wpAny_call ?_
  k_dflt ktr_enter
  k_with_none
  k_with "exec While" => (k_dflt (refine whl_start 100 ?_))
  k_with "eval Name" => (k_dflt (refine' name_K ?kF ?k1 ?k2 ?k3 ?_; (case kF => k_asm); (case k1 => k_asm); (case k2 => k_asm); (case k3 => k_is)))
  k_with "eval Name" => (k_dflt (refine' ld ?k1 ?k2 ?_; (case k1 => k_asm); (case k2 => exact rfl)))
  k_with "exec While Compare" => refine hold ?_
  k_steps
  refine hold_out ?_
  (rename Fr _ _ _ _ => lF'); (rename News _ _ _ _ => lN'); (rename (Obj.IsDictOf _ _ _) => ndD); (rename (PyProof.V.FlatPairs _ _ _) => ndF); (rename ((_ == sysModules) = false) => ndL)
  have hlen : x.length = x.cps.toList.length := by simp [Str.length]
  have hzz : x.length ≤ sizeLine := by (rw [sizeLine_eq]; omega)
  obtain ⟨tz, htz⟩ := fr_tok lF' (Str.ofString "place") 0 rfl
  (with_unfolding_all refine' my_while (fun c : CS => (_, listOf c.rv.toArray c.nr) :: (_, _) :: news) (fun c => [(Str.ofString "place", .int (c.pl : Int) c.tp)]) [Str.ofString "width", Str.ofString "number"] (COk x.cps.toList res) (fun c => c.f) ⟨0, [], [], 0, tz, 300⟩ lF' ?kn ?kk ?kp ?_)
  case kn => exact lN'
  case kk => exact List.forall_mem_cons.mpr ⟨htz, List.forall_mem_nil _⟩
  case kp => exact ⟨.nil, Nat.zero_le _, Nat.le_of_ble_eq_true rfl, hres⟩
  clear lF' lN'
  intro c1 u1 h1' tk1 hp1 F1 N1
  have hct := @cross_turn _ _ _ hp1
  have hcd := @cross_done _ _ _ hp1
  obtain ⟨c1p, c1r, c1v, nr1, tp1, f1⟩ := c1
  obtain ⟨hq1, hq2, hq3, hq4⟩ := hp1
  have hl1 := IntsAre.length hq1
  dsimp only [kstB] at F1 N1 hq1 hq2 hq3 hq4 hl1 hct hcd
  k_with_none
  k_with "eval Name" => (k_dflt (refine' name_K ?kF ?k1 ?k2 ?k3 ?_; (case kF => k_asm); (case k1 => k_asm); (case k2 => k_asm); (case k3 => k_is)))
  k_with "eval Name" => (k_dflt (refine' ld ?k1 ?k2 ?_; (case k1 => k_asm); (case k2 => exact rfl)))
  k_with "exec While BoolOp" => (k_dflt (refine whl_start 100 ?_))
  k_with "subscriptTail Name Slice str ref" => first
    | ((with_reducible rename Fr _ _ _ _ => cF'); (with_reducible rename News _ _ _ _ => cN'); k_dflt (refine' my_cut (s := ⟨_, _, _, _, _⟩) (p := c1p) (n := _) cF' cN' rfl ?kj ?kp ?kz ?_; (case kp => exact Nat.le_of_lt (Int.ofNat_lt.mp (by assumption))); (case kz => exact hzz); (case kj => first | exact (rfl : _ = (c1p : Int) + ((3 : Nat) : Int)) | exact (rfl : _ = (c1p : Int) + ((2 : Nat) : Int)) | exact (rfl : _ = (c1p : Int) + ((1 : Nat) : Int)) | (refine Eq.trans ?_ (rfl : (c1p : Int) + ((idxS (x.cps.toList.drop c1p) : Nat) : Int) = _); omega))); intro h5 t5 k5 F5 N5)
    | refine hold ?_
  k_with "compareOp NotIn str ref" => (k_dflt (refine' my_exnot ?kx ?kf ?_; (case kx => k_asm); (case kf => k_asm)))
  k_with "call builtin:str.index" => (
    obtain ⟨f2, wd, out, e1, e2, e3⟩ := hct (by omega)
    obtain ⟨s1, s2, s3, s4⟩ := step0 (by assumption) (by assumption) (by assumption) e2
    k_dflt (refine' my_indexS (p := c1p) ?ki ?kp ?kl ?_; (case ki => rfl); (case kp => omega); (case kl => exact s1)))
  k_with "subscriptTail Name Subscript ref str" => first
    | ((with_reducible show wpAny _ _ (subscriptTail _ _ (Value.ref 29) _) _ _ _); k_dflt (refine' my_exitem ?kx ?kf ?kh ?_; (case kx => k_asm); (case kf => k_asm); (case kh => assumption)); intro t6)
    | (k_dflt (refine' my_nmitem ?kx ?kh ?_; (case kx => exact TabAt.ofNews (by k_asm) (by k_mem) ndL ndD ndF); (case kh => assumption)); intro t6)
  k_with "call builtin:list.extend" => (k_dflt (refine' my_extend ?F ?N ?b ?ne ?U ?z ?_; (case F => k_asm); (case N => k_asm); (case b => k_mem); (case ne => exact Nat.succ_ne_zero _); (case U => k_upd); (case z => (simp only [List.length_cons, List.length_nil]; omega))); intro h6 F6 N6)
  k_steps
  · have hlt : c1p < x.cps.toList.length := by omega
    obtain ⟨f2, wd, out, e1, e2, e3⟩ := hct hlt
    dsimp only [KswPost]
    have e4 := e2
    rw [step3 (d := x.cps.toList.drop c1p) (by assumption)] at e4
    obtain ⟨rfl, rfl⟩ := out33 (by assumption) e4
    (rename News _ _ _ _ => nE); (rename Fr _ _ _ _ => fE)
    (try simp only [List.push_toArray] at nE)
    obtain ⟨tq, htq⟩ := fr_tok2 fE (Str.ofString "place") ((c1p + 3 : Nat) : Int) rfl (by omega)
    refine' ksw_end ⟨c1p + 3, c1r ++ [20, 20], c1v ++ [_, _], _, tq, f2⟩ fE nE (fun p h => (by repeat (first | exact h | refine List.Mem.tail _ ?_))) trivial ?ka1 ?kb1 ?kc1 ?kd1
    case ka1 => exact List.forall_mem_cons.mpr ⟨htq, List.forall_mem_nil _⟩
    case kb1 =>
      intro z h2 h3
      have hz1 : z ≠ Str.ofString "place" := h2 _ (.head _)
      have h4 := h3
      simp only [List.contains_cons, List.contains_nil, Bool.or_false, Bool.or_eq_false_iff, beq_eq_false_iff_ne, ne_eq] at h3
      simp only [if_neg hz1, if_neg h3.1, if_neg h3.2, h4, Bool.false_eq_true, if_false]
    case kc1 => exact ⟨IntsAre.append hq1 (.cons _ _ (.cons _ _ .nil)), by (dsimp only; omega), by simp only [List.length_append, List.length_cons, List.length_nil]; omega, e3⟩
    case kd1 => (dsimp only; omega)
  · have hlt : c1p < x.cps.toList.length := by omega
    obtain ⟨f2, wd, out, e1, e2, e3⟩ := hct hlt
    dsimp only [KswPost]
    have e4 := e2
    rw [step3 (d := x.cps.toList.drop c1p) (by assumption)] at e4
    obtain ⟨rfl, rfl⟩ := out34 (by assumption) (by assumption) e4
    (rename News _ _ _ _ => nE); (rename Fr _ _ _ _ => fE)
    (try simp only [List.push_toArray] at nE)
    obtain ⟨tq, htq⟩ := fr_tok2 fE (Str.ofString "place") ((c1p + 3 : Nat) : Int) rfl (by omega)
    refine' ksw_end ⟨c1p + 3, c1r ++ [21, 21], c1v ++ [_, _], _, tq, f2⟩ fE nE (fun p h => (by repeat (first | exact h | refine List.Mem.tail _ ?_))) trivial ?ka2 ?kb2 ?kc2 ?kd2
    case ka2 => exact List.forall_mem_cons.mpr ⟨htq, List.forall_mem_nil _⟩
    case kb2 =>
      intro z h2 h3
      have hz1 : z ≠ Str.ofString "place" := h2 _ (.head _)
      have h4 := h3
      simp only [List.contains_cons, List.contains_nil, Bool.or_false, Bool.or_eq_false_iff, beq_eq_false_iff_ne, ne_eq] at h3
      simp only [if_neg hz1, if_neg h3.1, if_neg h3.2, h4, Bool.false_eq_true, if_false]
    case kc2 => exact ⟨IntsAre.append hq1 (.cons _ _ (.cons _ _ .nil)), by (dsimp only; omega), by simp only [List.length_append, List.length_cons, List.length_nil]; omega, e3⟩
    case kd2 => (dsimp only; omega)
  · have hlt : c1p < x.cps.toList.length := by omega
    obtain ⟨f2, wd, out, e1, e2, e3⟩ := hct hlt
    dsimp only [KswPost]
    rw [step3 (d := x.cps.toList.drop c1p) (by assumption)] at e2
    exact absurd e2 (fun e => outBad (by assumption) (by assumption) (by assumption) e)
  · have hlt : c1p < x.cps.toList.length := by omega
    obtain ⟨f2, wd, out, e1, e2, e3⟩ := hct hlt
    dsimp only [KswPost]
    have e4 := e2
    rw [step3 (d := x.cps.toList.drop c1p) (by assumption)] at e4
    obtain ⟨rfl, rfl⟩ := outN (by assumption) (by assumption) e4
    (rename News _ _ _ _ => nE); (rename Fr _ _ _ _ => fE)
    (try simp only [List.push_toArray] at nE)
    obtain ⟨tq, htq⟩ := fr_tok2 fE (Str.ofString "place") ((c1p + 3 : Nat) : Int) rfl (by omega)
    refine' ksw_end ⟨c1p + 3, c1r ++ [(lookL ((x.cps.toList.drop c1p).take 3)).getD 0], c1v ++ [_], _, tq, f2⟩ fE nE (fun p h => (by repeat (first | exact h | refine List.Mem.tail _ ?_))) trivial ?ka4 ?kb4 ?kc4 ?kd4
    case ka4 => exact List.forall_mem_cons.mpr ⟨htq, List.forall_mem_nil _⟩
    case kb4 =>
      intro z h2 h3
      have hz1 : z ≠ Str.ofString "place" := h2 _ (.head _)
      have h4 := h3
      simp only [List.contains_cons, List.contains_nil, Bool.or_false, Bool.or_eq_false_iff, beq_eq_false_iff_ne, ne_eq] at h3
      simp only [if_neg hz1, if_neg h3.1, if_neg h3.2, h4, Bool.false_eq_true, if_false]
    case kc4 => exact ⟨IntsAre.append hq1 (.cons _ _ .nil), by (dsimp only; omega), by simp only [List.length_append, List.length_cons, List.length_nil]; omega, e3⟩
    case kd4 => (dsimp only; omega)
  · have hlt : c1p < x.cps.toList.length := by omega
    obtain ⟨f2, wd, out, e1, e2, e3⟩ := hct hlt
    dsimp only [KswPost]
    have e4 := e2
    rw [step2 (d := x.cps.toList.drop c1p) (by assumption) (by assumption)] at e4
    obtain ⟨rfl, rfl⟩ := out33 (by assumption) e4
    (rename News _ _ _ _ => nE); (rename Fr _ _ _ _ => fE)
    (try simp only [List.push_toArray] at nE)
    obtain ⟨tq, htq⟩ := fr_tok2 fE (Str.ofString "place") ((c1p + 2 : Nat) : Int) rfl (by omega)
    refine' ksw_end ⟨c1p + 2, c1r ++ [20, 20], c1v ++ [_, _], _, tq, f2⟩ fE nE (fun p h => (by repeat (first | exact h | refine List.Mem.tail _ ?_))) trivial ?ka5 ?kb5 ?kc5 ?kd5
    case ka5 => exact List.forall_mem_cons.mpr ⟨htq, List.forall_mem_nil _⟩
    case kb5 =>
      intro z h2 h3
      have hz1 : z ≠ Str.ofString "place" := h2 _ (.head _)
      have h4 := h3
      simp only [List.contains_cons, List.contains_nil, Bool.or_false, Bool.or_eq_false_iff, beq_eq_false_iff_ne, ne_eq] at h3
      simp only [if_neg hz1, if_neg h3.1, if_neg h3.2, h4, Bool.false_eq_true, if_false]
    case kc5 => exact ⟨IntsAre.append hq1 (.cons _ _ (.cons _ _ .nil)), by (dsimp only; omega), by simp only [List.length_append, List.length_cons, List.length_nil]; omega, e3⟩
    case kd5 => (dsimp only; omega)
  · have hlt : c1p < x.cps.toList.length := by omega
    obtain ⟨f2, wd, out, e1, e2, e3⟩ := hct hlt
    dsimp only [KswPost]
    have e4 := e2
    rw [step2 (d := x.cps.toList.drop c1p) (by assumption) (by assumption)] at e4
    obtain ⟨rfl, rfl⟩ := out34 (by assumption) (by assumption) e4
    (rename News _ _ _ _ => nE); (rename Fr _ _ _ _ => fE)
    (try simp only [List.push_toArray] at nE)
    obtain ⟨tq, htq⟩ := fr_tok2 fE (Str.ofString "place") ((c1p + 2 : Nat) : Int) rfl (by omega)
    refine' ksw_end ⟨c1p + 2, c1r ++ [21, 21], c1v ++ [_, _], _, tq, f2⟩ fE nE (fun p h => (by repeat (first | exact h | refine List.Mem.tail _ ?_))) trivial ?ka6 ?kb6 ?kc6 ?kd6
    case ka6 => exact List.forall_mem_cons.mpr ⟨htq, List.forall_mem_nil _⟩
    case kb6 =>
      intro z h2 h3
      have hz1 : z ≠ Str.ofString "place" := h2 _ (.head _)
      have h4 := h3
      simp only [List.contains_cons, List.contains_nil, Bool.or_false, Bool.or_eq_false_iff, beq_eq_false_iff_ne, ne_eq] at h3
      simp only [if_neg hz1, if_neg h3.1, if_neg h3.2, h4, Bool.false_eq_true, if_false]
    case kc6 => exact ⟨IntsAre.append hq1 (.cons _ _ (.cons _ _ .nil)), by (dsimp only; omega), by simp only [List.length_append, List.length_cons, List.length_nil]; omega, e3⟩
    case kd6 => (dsimp only; omega)
  · have hlt : c1p < x.cps.toList.length := by omega
    obtain ⟨f2, wd, out, e1, e2, e3⟩ := hct hlt
    dsimp only [KswPost]
    rw [step2 (d := x.cps.toList.drop c1p) (by assumption) (by assumption)] at e2
    exact absurd e2 (fun e => outBad (by assumption) (by assumption) (by assumption) e)
  · have hlt : c1p < x.cps.toList.length := by omega
    obtain ⟨f2, wd, out, e1, e2, e3⟩ := hct hlt
    dsimp only [KswPost]
    have e4 := e2
    rw [step2 (d := x.cps.toList.drop c1p) (by assumption) (by assumption)] at e4
    obtain ⟨rfl, rfl⟩ := outN (by assumption) (by assumption) e4
    (rename News _ _ _ _ => nE); (rename Fr _ _ _ _ => fE)
    (try simp only [List.push_toArray] at nE)
    obtain ⟨tq, htq⟩ := fr_tok2 fE (Str.ofString "place") ((c1p + 2 : Nat) : Int) rfl (by omega)
    refine' ksw_end ⟨c1p + 2, c1r ++ [(lookL ((x.cps.toList.drop c1p).take 2)).getD 0], c1v ++ [_], _, tq, f2⟩ fE nE (fun p h => (by repeat (first | exact h | refine List.Mem.tail _ ?_))) trivial ?ka8 ?kb8 ?kc8 ?kd8
    case ka8 => exact List.forall_mem_cons.mpr ⟨htq, List.forall_mem_nil _⟩
    case kb8 =>
      intro z h2 h3
      have hz1 : z ≠ Str.ofString "place" := h2 _ (.head _)
      have h4 := h3
      simp only [List.contains_cons, List.contains_nil, Bool.or_false, Bool.or_eq_false_iff, beq_eq_false_iff_ne, ne_eq] at h3
      simp only [if_neg hz1, if_neg h3.1, if_neg h3.2, h4, Bool.false_eq_true, if_false]
    case kc8 => exact ⟨IntsAre.append hq1 (.cons _ _ .nil), by (dsimp only; omega), by simp only [List.length_append, List.length_cons, List.length_nil]; omega, e3⟩
    case kd8 => (dsimp only; omega)
  · have hlt : c1p < x.cps.toList.length := by omega
    obtain ⟨f2, wd, out, e1, e2, e3⟩ := hct hlt
    dsimp only [KswPost]
    have e4 := e2
    rw [step1 (d := x.cps.toList.drop c1p) (by assumption) (by assumption) (by assumption)] at e4
    obtain ⟨rfl, rfl⟩ := out33 (by assumption) e4
    (rename News _ _ _ _ => nE); (rename Fr _ _ _ _ => fE)
    (try simp only [List.push_toArray] at nE)
    obtain ⟨tq, htq⟩ := fr_tok2 fE (Str.ofString "place") ((c1p + 1 : Nat) : Int) rfl (by omega)
    refine' ksw_end ⟨c1p + 1, c1r ++ [20, 20], c1v ++ [_, _], _, tq, f2⟩ fE nE (fun p h => (by repeat (first | exact h | refine List.Mem.tail _ ?_))) trivial ?ka9 ?kb9 ?kc9 ?kd9
    case ka9 => exact List.forall_mem_cons.mpr ⟨htq, List.forall_mem_nil _⟩
    case kb9 =>
      intro z h2 h3
      have hz1 : z ≠ Str.ofString "place" := h2 _ (.head _)
      have h4 := h3
      simp only [List.contains_cons, List.contains_nil, Bool.or_false, Bool.or_eq_false_iff, beq_eq_false_iff_ne, ne_eq] at h3
      simp only [if_neg hz1, if_neg h3.1, if_neg h3.2, h4, Bool.false_eq_true, if_false]
    case kc9 => exact ⟨IntsAre.append hq1 (.cons _ _ (.cons _ _ .nil)), by (dsimp only; omega), by simp only [List.length_append, List.length_cons, List.length_nil]; omega, e3⟩
    case kd9 => (dsimp only; omega)
  · have hlt : c1p < x.cps.toList.length := by omega
    obtain ⟨f2, wd, out, e1, e2, e3⟩ := hct hlt
    dsimp only [KswPost]
    have e4 := e2
    rw [step1 (d := x.cps.toList.drop c1p) (by assumption) (by assumption) (by assumption)] at e4
    obtain ⟨rfl, rfl⟩ := out34 (by assumption) (by assumption) e4
    (rename News _ _ _ _ => nE); (rename Fr _ _ _ _ => fE)
    (try simp only [List.push_toArray] at nE)
    obtain ⟨tq, htq⟩ := fr_tok2 fE (Str.ofString "place") ((c1p + 1 : Nat) : Int) rfl (by omega)
    refine' ksw_end ⟨c1p + 1, c1r ++ [21, 21], c1v ++ [_, _], _, tq, f2⟩ fE nE (fun p h => (by repeat (first | exact h | refine List.Mem.tail _ ?_))) trivial ?ka10 ?kb10 ?kc10 ?kd10
    case ka10 => exact List.forall_mem_cons.mpr ⟨htq, List.forall_mem_nil _⟩
    case kb10 =>
      intro z h2 h3
      have hz1 : z ≠ Str.ofString "place" := h2 _ (.head _)
      have h4 := h3
      simp only [List.contains_cons, List.contains_nil, Bool.or_false, Bool.or_eq_false_iff, beq_eq_false_iff_ne, ne_eq] at h3
      simp only [if_neg hz1, if_neg h3.1, if_neg h3.2, h4, Bool.false_eq_true, if_false]
    case kc10 => exact ⟨IntsAre.append hq1 (.cons _ _ (.cons _ _ .nil)), by (dsimp only; omega), by simp only [List.length_append, List.length_cons, List.length_nil]; omega, e3⟩
    case kd10 => (dsimp only; omega)
  · have hlt : c1p < x.cps.toList.length := by omega
    obtain ⟨f2, wd, out, e1, e2, e3⟩ := hct hlt
    dsimp only [KswPost]
    rw [step1 (d := x.cps.toList.drop c1p) (by assumption) (by assumption) (by assumption)] at e2
    exact absurd e2 (fun e => outBad (by assumption) (by assumption) (by assumption) e)
  · have hlt : c1p < x.cps.toList.length := by omega
    obtain ⟨f2, wd, out, e1, e2, e3⟩ := hct hlt
    dsimp only [KswPost]
    have e4 := e2
    rw [step1 (d := x.cps.toList.drop c1p) (by assumption) (by assumption) (by assumption)] at e4
    obtain ⟨rfl, rfl⟩ := outN (by assumption) (by assumption) e4
    (rename News _ _ _ _ => nE); (rename Fr _ _ _ _ => fE)
    (try simp only [List.push_toArray] at nE)
    obtain ⟨tq, htq⟩ := fr_tok2 fE (Str.ofString "place") ((c1p + 1 : Nat) : Int) rfl (by omega)
    refine' ksw_end ⟨c1p + 1, c1r ++ [(lookL ((x.cps.toList.drop c1p).take 1)).getD 0], c1v ++ [_], _, tq, f2⟩ fE nE (fun p h => (by repeat (first | exact h | refine List.Mem.tail _ ?_))) trivial ?ka12 ?kb12 ?kc12 ?kd12
    case ka12 => exact List.forall_mem_cons.mpr ⟨htq, List.forall_mem_nil _⟩
    case kb12 =>
      intro z h2 h3
      have hz1 : z ≠ Str.ofString "place" := h2 _ (.head _)
      have h4 := h3
      simp only [List.contains_cons, List.contains_nil, Bool.or_false, Bool.or_eq_false_iff, beq_eq_false_iff_ne, ne_eq] at h3
      simp only [if_neg hz1, if_neg h3.1, if_neg h3.2, h4, Bool.false_eq_true, if_false]
    case kc12 => exact ⟨IntsAre.append hq1 (.cons _ _ .nil), by (dsimp only; omega), by simp only [List.length_append, List.length_cons, List.length_nil]; omega, e3⟩
    case kd12 => (dsimp only; omega)
  · refine hold_out ?_
    (with_reducible rename Fr _ _ _ _ => cF'); (with_reducible rename News _ _ _ _ => cN')
    refine' my_cut (s := ⟨_, _, _, _, _⟩) (p := c1p) (n := idxS (x.cps.toList.drop c1p)) cF' cN' rfl ?kj13 ?kp13 hzz ?_
    case kj13 => omega
    case kp13 => exact Nat.le_of_lt (Int.ofNat_lt.mp (by assumption))
    intro h5 t5 k5 F5 N5
    k_steps
    dsimp only [KswPost]
    subst s2
    subst s4
    have hdl : idxS (x.cps.toList.drop c1p) < x.cps.toList.length - c1p := by rw [← List.length_drop]; exact s1
    have e4 := e2
    skip
    (rename News _ _ _ _ => nE); (rename Fr _ _ _ _ => fE)
    (try simp only [List.push_toArray] at nE)
    obtain ⟨tq, htq⟩ := fr_tok2 fE (Str.ofString "place") ((c1p + idxS (x.cps.toList.drop c1p) : Nat) : Int) rfl (by omega)
    refine' ksw_end ⟨c1p + idxS (x.cps.toList.drop c1p), c1r ++ [(nameL ((x.cps.toList.drop c1p).take (idxS (x.cps.toList.drop c1p)))).getD 0], c1v ++ [_], _, tq, f2⟩ fE nE (fun p h => (by repeat (first | exact h | refine List.Mem.tail _ ?_))) trivial ?ka13 ?kb13 ?kc13 ?kd13
    case ka13 => exact List.forall_mem_cons.mpr ⟨htq, List.forall_mem_nil _⟩
    case kb13 =>
      intro z h2 h3
      have hz1 : z ≠ Str.ofString "place" := h2 _ (.head _)
      have h4 := h3
      simp only [List.contains_cons, List.contains_nil, Bool.or_false, Bool.or_eq_false_iff, beq_eq_false_iff_ne, ne_eq] at h3
      simp only [if_neg hz1, if_neg h3.1, if_neg h3.2, h4, Bool.false_eq_true, if_false]
    case kc13 => exact ⟨IntsAre.append hq1 (.cons _ _ .nil), by (dsimp only; omega), by simp only [List.length_append, List.length_cons, List.length_nil]; omega, e3⟩
    case kd13 => (dsimp only; omega)
  · have hr0 := hcd (by omega)
    subst hr0
    refine' hret _ [(_, _)] _ _ (by assumption) (kst_newsOf (by assumption) (List.forall_mem_cons.mpr ⟨?sub1, fun p hp => ?sub⟩)) ?ord ⟨_, _, _, rfl, rfl, hq1⟩
    case sub1 => k_mem
    case sub => (repeat (first | exact hp | refine List.Mem.tail _ ?_))
    case ord =>
      intro q hq p hp
      rw [List.mem_singleton.mp hp]
      revert q
      first
      | exact fun q hq => (by assumption : ∀ p ∈ news, p.1 < _) q hq
      | exact ktn_ltOf (by assumption : AllLt _ news)
      | exact ktn_ltOf (by assumption : _ ∧ AllLt _ news).2
      | exact ktn_ltOf (by assumption : _ ∧ _ ∧ AllLt _ news).2.2
      | exact ktn_ltOf (by assumption : _ ∧ _ ∧ _ ∧ AllLt _ news).2.2.2
      | exact ktn_ltOf (by assumption : _ ∧ _ ∧ _ ∧ _ ∧ AllLt _ news).2.2.2.2
      | exact ktn_ltOf (by assumption : _ ∧ _ ∧ _ ∧ _ ∧ _ ∧ AllLt _ news).2.2.2.2.2
      | exact ktn_ltOf (by assumption : _ ∧ _ ∧ _ ∧ _ ∧ _ ∧ _ ∧ AllLt _ news).2.2.2.2.2.2

end Mine
end
section
open PySem PySem.W PyProof.Rows
namespace Mine
local macro_rules | `(tactic| walk_at $s:str) => `(tactic| k_extra $s)
local macro_rules | `(tactic| k_all) => `(tactic| with_reducible assumption)
local macro_rules | `(tactic| walk_at "execs cons") => `(tactic| (refine gen_toks1 ?_; intro tkp htkp))
local macro_rules | `(tactic| walk_at "execs nil") => `(tactic| (refine gen_toks1 ?_; intro tkp htkp))

def TLD : List (PyData × PyData) := [(.str (Str.ofString "&"), .str (Str.ofString "&amp;")), (.str (Str.ofString "<"), .str (Str.ofString "&lt;")), (.str (Str.ofString ">"), .str (Str.ofString "&gt;"))]
theorem told_look (c : Nat) : (PySem.Spec.lookup (.str ⟨#[c]⟩) TLD).getD (.str ⟨#[c]⟩) = .str ⟨(escC c).toArray⟩ := by
  have sm (a : Nat) : PySem.Spec.same (.str ⟨#[a]⟩) (.str ⟨#[c]⟩) = decide (c = a) := by
    rw [PyProof.V.same_str]
    refine decide_eq_decide.mpr ⟨fun h => ?_, fun h => by rw [h]⟩
    have h2 := congrArg (fun y : Str => y.cps.toList) h
    exact (List.cons.inj h2).1.symm
  unfold TLD
  rw [l_amp, l_lt, l_gt, l_eamp, l_elt, l_egt]
  unfold escC
  simp only [PySem.Spec.lookup, sm]
  by_cases h1 : c = 38
  · simp [h1]
  by_cases h2 : c = 60
  · simp [h2]
  by_cases h3 : c = 62
  · simp [h3]
  simp [h1, h2, h3]
section
variable {prog : Program} {w : World} {A : Around} {E : Value → Shared → Prop} {s : Shared} {h₀ : Heap} {L : Addr} {m : Str → Option Value} {env : Env}
theorem told_get {d : Addr} {c : Nat} {tk tk2 : Tok} {Q : Value → Shared → Prop} (T : StrTab prog w s.heap d TLD) (h : ∀ t, Q (.str ⟨(escC c).toArray⟩ t) { s with toks := s.toks + 1 }) : wpAny (model prog w) A (call (.builtin "dict.get") [.ref d, .str ⟨#[c]⟩ tk, .str ⟨#[c]⟩ tk2]) Q E s :=
  call_get2_strTab T (PyProof.V.Flat.str _ _) fun v hv => by
    rw [told_look] at hv
    obtain ⟨t, rfl⟩ := PyProof.V.Flat.str_inv hv
    exact h t
inductive StrSrc (prog : Program) (w : World) (A : Around) (h₀ : Heap) (L : Addr) (m : Str → Option Value) (env : Env) (elt : PySem.Expr) (x : Str) (scope : Scope) (cl : List (Str × Addr)) (Fin : Shared → List Value → List (Addr × Obj) → Prop) (xv : Value) (s₁ : Shared) : Prop
  | mk (y : Str) (t : Tok) (news : List (Addr × Obj)) (e : xv = .str y t) (hh : A.handled = none) (F : Fr h₀ L s₁.heap m) (N : News h₀ L s₁.heap news) (hz : y.cps.size ≤ sizeLine)
    (R : ∀ s₂ : Shared, (∃ h, s₂ = { s₁ with heap := h }) → LCg.CompRest prog w A h₀ L m env elt x scope cl s₂ (fun _ => True) (SignAt y) (Fin s₂) y.cps.size 0 [] news) : StrSrc prog w A h₀ L m env elt x scope cl Fin xv s₁
theorem my_comp_str {elt iter : PySem.Expr} {x : Str} {px : Pos} {scope : Scope} {cl : List (Str × Addr)} {pos : Pos} {Q : Value → Shared → Prop} (_ : Fr h₀ L s.heap m)
    (hclos : closureFor scope env = pure cl) (hcell : ∀ y ∈ scope.names, y.2 ≠ .cell) (hkind : scope.kind = .function)
    (hnames : ∀ y ∈ scope.names, y.2 = .local → scope.names.lookup y.1 = some .local) (hx : scope.names.lookup x = some .local)
    (h : wpAny (model prog w) A (eval iter env) (fun xv s₁ => Hold (StrSrc prog w A h₀ L m env elt x scope cl (fun s₂ => LCg.FinE h₀ L m s₂ Q) xv s₁)) E s)
    (hs : ∀ x, foldedSetIterable iter env x = pure x := by intro _; rfl) :
    wpAny (model prog w) A (eval (.ListComp elt [⟨.Name x px, iter, [], 0⟩] scope pos) env) Q E s := by
  rw [eval_ListComp]
  refine wpAny_comprehension_free (use := none) rfl hs hclos hkind hnames (wpAny_mono h (fun xv s₁ h₁ => ?_) fun _ _ e => e)
  obtain ⟨y, t, news, rfl, hh, F, N, hsz, R⟩ := h₁
  cases ha : y.cps.all (· < 128)
  · refine wpAny_pyIter_wide ha ?_
    refine LCg.block_U (Walks.strWide hh s₁.heap.objs.size y t) hsz (fun i h st => by obtain ⟨o, e, _⟩ := st; exact ⟨o, e⟩)
      (fun i h h' o nw st e e' _ _ _ => by obtain ⟨o', q, r⟩ := st; rw [e] at q; cases q; exact ⟨o, e', r⟩)
      hcell hkind hx ⟨_, Heap.get?_push_size _ rfl, rfl, rfl⟩ (fun b hb => ?_)
      (F.keeps fun _ _ e => Heap.get?_push_of_some _ e) (N.grown fun _ _ e => Heap.get?_push_of_some _ e) (Nat.ne_of_lt F.ns.lt) (next_is_new F) (fun p hp => Nat.ne_of_lt (Heap.lt_size (N p hp).1)) trivial (R _ ⟨_, rfl⟩) ?_
    · rw [List.mem_singleton.mp hb]
      show s₁.heap.objs.size < (s₁.heap.push _).objs.size
      rw [Heap.size_push]; exact Nat.lt_succ_self _
    · intro D C h tk m' ys news' F' N' o1 hn hC₀ hD₀ hCL hDL hCD offC fin
      refine ⟨m', hn, fun h'' hs'' => fin D h'' tk (F'.change hs'' hCL hC₀) (fun p hp => ?_) o1⟩
      refine ⟨hs''.extBut _ _ ?_ (N' p hp).1, (N' p hp).2⟩
      rcases List.mem_cons.mp hp with rfl | hp
      · exact Ne.symm hCD
      · exact offC p hp
  · refine wpAny_pyIter_ascii ha ?_
    refine LCg.block_U (Walks.strAscii hh s₁.heap.objs.size y t) hsz (fun i h st => by obtain ⟨o, e, _⟩ := st; exact ⟨o, e⟩)
      (fun i h h' o nw st e e' _ _ _ => by obtain ⟨o', q, r⟩ := st; rw [e] at q; cases q; exact ⟨o, e', r⟩)
      hcell hkind hx ⟨_, Heap.get?_push_size _ rfl, rfl, rfl⟩ (fun b hb => ?_)
      (F.keeps fun _ _ e => Heap.get?_push_of_some _ e) (N.grown fun _ _ e => Heap.get?_push_of_some _ e) (Nat.ne_of_lt F.ns.lt) (next_is_new F) (fun p hp => Nat.ne_of_lt (Heap.lt_size (N p hp).1)) trivial (R _ ⟨_, rfl⟩) ?_
    · rw [List.mem_singleton.mp hb]
      show s₁.heap.objs.size < (s₁.heap.push _).objs.size
      rw [Heap.size_push]; exact Nat.lt_succ_self _
    · intro D C h tk m' ys news' F' N' o1 hn hC₀ hD₀ hCL hDL hCD offC fin
      refine ⟨m', hn, fun h'' hs'' => fin D h'' tk (F'.change hs'' hCL hC₀) (fun p hp => ?_) o1⟩
      refine ⟨hs''.extBut _ _ ?_ (N' p hp).1, (N' p hp).2⟩
      rcases List.mem_cons.mp hp with rfl | hp
      · exact Ne.symm hCD
      · exact offC p hp
theorem str_rest {elt : PySem.Expr} {x : Str} {scope : Scope} {cl : List (Str × Addr)} {y : Str} {Fin : List Value → List (Addr × Obj) → Prop} {news : List (Addr × Obj)} (g : Nat → Str)
    (turn : ∀ c t I oI C oC D m₂ ys h tk (E' : Value → Shared → Prop), LCg.NsObj oC m₂ → m₂ x = some (.str ⟨#[c]⟩ t) → Fr h₀ L h m → News h₀ L h ((I, oI) :: (C, oC) :: (D, LCg.lst ys) :: news) → LCg.Off3 I C D news → ((@Ne Nat I C) ∧ (@Ne Nat I D) ∧ (@Ne Nat C D)) →
      wpAny (model prog w) A (eval elt (compEnvC scope cl C env)) (LCg.CompEnd h₀ L m { s with heap := h, toks := tk } I oI C oC D (LCg.lst ys) (fun _ => True) (fun v news' => KCtEl news (g c) v news')) E' { s with heap := h, toks := tk })
    (fin : ∀ ys, StrsAre ys (y.cps.toList.map g) → Fin ys news) : LCg.CompRest prog w A h₀ L m env elt x scope cl s (fun _ => True) (SignAt y) Fin y.cps.size 0 [] news := by
  have key : ∀ (j i : Nat) (ys : List Value), i + j = y.cps.size → StrsAre ys ((y.cps.toList.take i).map g) → LCg.CompRest prog w A h₀ L m env elt x scope cl s (fun _ => True) (SignAt y) Fin j i ys news := by
    intro j
    induction j with
    | zero =>
      intro i ys hi hy
      have e : i = y.cps.toList.length := by rw [Array.length_toList]; omega
      subst e
      rw [List.take_length] at hy
      exact LCg.CompRest.zero (fin ys hy)
    | succ j ih =>
      intro i ys hi hy
      refine LCg.CompRest.succ ?_
      intro v I oI C oC D m₂ h tk E' hv hC hx F N off ne
      obtain ⟨c, t, hk, hv'⟩ := hv
      rw [hv'] at hx
      refine wpAny_mono (turn c t I oI C oC D m₂ ys h tk E' hC hx F N off ne) (fun z s₂ hq => ?_) fun _ _ e => e
      obtain ⟨h', tk', nw, e, F', N', off', hS, hn, t', hy'⟩ := hq
      rw [hn] at N' off'
      refine ⟨h', tk', news, e, F', N', off', trivial, ?_⟩
      rw [hy']
      refine ih (i + 1) _ (by omega) ?_
      rw [List.take_add_one, Array.getElem?_toList, hk]
      simpa using kct_snoc hy
  exact key y.cps.size 0 [] (by omega) (by simp only [List.take_zero, List.map_nil]; exact .nil)
theorem join_esc : ∀ l : List Nat, Txt.join (Str.ofString "") (l.map fun c => ⟨(escC c).toArray⟩) = ⟨(escL l).toArray⟩ := by
  intro l
  have h : ∀ l : List Nat, (Str.join ⟨#[]⟩ (l.map fun c => ⟨(escC c).toArray⟩)).cps.toList = escL l := by
    intro l
    induction l with
    | nil => rfl
    | cons a r ih =>
      cases r with
      | nil => simp [Str.join, escL]
      | cons b r =>
        show (((⟨(escC a).toArray⟩ : Str) ++ ⟨#[]⟩ ++ Str.join ⟨#[]⟩ ((b :: r).map fun c => (⟨(escC c).toArray⟩ : Str)))).cps.toList = _
        simp only [Str.cps_append, Array.toList_append, ih]
        simp [escL]
  apply Str.ext'
  have h2 := h l
  have e : Str.ofString "" = ⟨#[]⟩ := by decide +kernel
  rw [e]
  unfold Txt.join
  rw [StrLaws.glued_eq_join]
  show (Str.join ⟨#[]⟩ _).cps = (escL l).toArray
  rw [← h2]
theorem esc_lens : ∀ l : List Nat, ((l.map fun c => (⟨(escC c).toArray⟩ : Str)).map (·.length)).sum ≤ 5 * l.length
  | [] => by simp
  | a :: r => by
    have ih := esc_lens r
    have h : (⟨(escC a).toArray⟩ : Str).length ≤ 5 := by
      unfold escC
      (repeat' split) <;> simp [Str.length]
    simp only [List.map_cons, List.sum_cons, List.length_cons] at ih ⊢
    omega
end
set_option maxRecDepth 100000 in
set_option maxHeartbeats 8000000 in
theorem c_spelled (w : World) (mean : ExcName → Option Value) (mg mb : Str → Option Value) (news : List (Addr × Obj)) (x : Str) (tx : Tok) (hl : x.length ≤ 200) :
    Ctr0 w mean mg mb 99 20 400 news [.str x tx] (fun r tl => tl = [] ∧ ∃ t, r = .str (esc x) t) := by
  unfold Ctr0
  k_fill
  intro dp un gd cn cs a ccd cl outer A₀ base h₀ L m s Q E B F X N T hk hd hu hret
  refine wpAny_call ?_
  k_dflt (refine' code_defC ?k1 ?k2 ?k3 ?k4 ?k5 ?kA ?kF ?kK ?k6 ?k7 ?k8 ?k9 ?kB ?kD ?_ ?c2 ?c3 ?c4; (case kA => exact rfl); (case kF => exact rfl); (case kK => assumption); (case k1 => k_asm); (case k2 => k_asm); (case k3 => k_asm); (case k4 => k_asm); (case k5 => k_asm); (case k6 => k_is); (case k7 => k_is); (case k8 => ktr_room); (case k9 => exact BindsTo.of_eq rfl); (case kB => exact rfl); (case kD => decide +kernel); (case c2 => exact rfl); (case c3 => exact rfl); (case c4 => exact rfl); k_whole)
  intro g' L' h' tk' cells' FG' F' N' Y' B' X' T' l1
  have lx1 : ∀ p ∈ news, p.1 ≠ L' := fun p hp => Nat.ne_of_lt (l1 p hp)
  have lx2 : ∀ p ∈ news, p.1 ≠ L' + 1 := fun p hp => Nat.ne_of_lt (Nat.lt_succ_of_lt (l1 p hp))
  have lx3 : AllLt (L' + 1) news := allLt_of fun p hp => Nat.lt_succ_of_lt (l1 p hp)
  k_cells Y'
  (try simp only [List.cons_append, List.nil_append] at N'); (try dsimp only); (try k_fold)
  k_with_none
  k_with "exec While" => (k_dflt (refine whl_start 100 ?_))
  k_with "eval ListComp" => refine hold ?_
  k_steps
  refine hold_out ?_
  (rename (Obj.IsDictOf _ _ _) => ndD); (rename (PyProof.V.FlatPairs _ _ _) => ndF); (rename ((_ == sysModules) = false) => ndL)
  (rename Fr _ _ _ _ => lF'); (rename News _ _ _ _ => lN')
  refine my_comp_str lF' (by with_unfolding_all rfl) (by decide) (by rfl) (by decide) (by rfl) ?_
  k_steps
  refine hold_out ?_
  refine' StrSrc.mk x tx _ rfl rfl lF' lN' ?ksz ?_
  case ksz => (rw [sizeLine_eq]; show x.length ≤ _; omega)
  rintro s₂ ⟨gg, rfl⟩
  refine' str_rest (fun c => ⟨(escC c).toArray⟩) (fun c t' I' oI' C' oC' D' m' ys' h' tk' E' hC' hx' F' N' off' ne' => ?kturn) (fun ys' hys' => ?kfin)
  case kturn =>
    k_with "call builtin:dict.get" => refine hold ?_
    have off0 := off'
    (try (simp only [LCg.Off3, and_true] at off'))
    k_steps
    refine hold_out ?_
    refine told_get (TabAt.ofNews N' (by k_mem) ndL ndD ndF) (fun t6 => ?_)
    exact LCg.CompEnd.intro F' N' _ (fun p h => h) off0 trivial (kct_el rfl rfl rfl)
  case kfin =>
    k_with "call builtin:str.join" => refine hold ?_
    k_steps
    refine hold_out ?_
    (rename News _ _ _ _ => nE)
    refine join_list (News.isList nE (.head _)) hys' ?kok (fun t8 k8 => ?_)
    case kok =>
      have h1 := esc_lens x.cps.toList
      have h2 : x.cps.toList.length = x.length := by simp [Str.length]
      have h3 : (Str.ofString "").length = 0 := by decide +kernel
      rw [h3, List.length_map]
      omega
    rw [join_esc]
    k_steps
    refine' hret _ [] _ _ (by assumption) (kst_newsOf (by assumption) (fun p hp => ?subb)) (fun _ _ _ hp => nomatch hp) ⟨rfl, _, rfl⟩
    case subb => (repeat (first | exact hp | refine List.Mem.tail _ ?_))

end Mine
end
section
open PySem PySem.W PyProof.Rows
namespace Mine
local macro_rules | `(tactic| walk_at $s:str) => `(tactic| k_extra $s)
local macro_rules | `(tactic| k_all) => `(tactic| with_reducible assumption)
local macro_rules | `(tactic| walk_at "execs cons") => `(tactic| (refine gen_toks1 ?_; intro tkp htkp))
local macro_rules | `(tactic| walk_at "execs nil") => `(tactic| (refine gen_toks1 ?_; intro tkp htkp))

/-- a contract that also knows a list of ints below -/
def CtrL (w : World) (mean : ExcName → Option Value) (mg mb : Str → Option Value) (f : Addr) (kd ku : Nat) (news : List (Addr × Obj)) (sl : Addr) (svs : List Value) (R : Value → List (Addr × Obj) → Prop) : Prop :=
  ∀ (dp un : Nat) (gd : Option (List Code)) (cn : Str) (cs : Scope) (a : Addr) (ccd : Value) (cl : List (Str × Addr)) (outer : List Env) (A₀ : Around) (base h₀ : Heap) (L : Addr) (m : Str → Option Value) (s : Shared) (Q E : Value → Shared → Prop),
    Below A₀ base outer h₀ → Fr h₀ L s.heap m → (Mine.hd.heap_39 w.params).In h₀ → News h₀ L s.heap news → Top Mine.hd.view_39 (looseW Mine.hd.view_39 [Str.ofString "EXACT_TOKEN_TYPES"]) mean mg mb h₀ → cs.kind = .function → dp + kd < recursionLimit → un + ku < cLine → h₀.IsList sl svs.toArray →
    (∀ r tl h' tk', Fr h₀ L h' m → News h₀ L h' (tl ++ news) → (∀ q ∈ news, ∀ p ∈ tl, q.1 < p.1) → R r tl → Q r { s with heap := h', toks := tk' }) →
    wpAny (model PySem.Challenge.rw_ty0033_01.row.prog w) (ktrTop dp un gd cn cs L a ccd cl outer) (call (.ref f) [.ref sl]) Q E s
theorem ctrL_use {w : World} {mean : ExcName → Option Value} {mg mb : Str → Option Value} {f : Addr} {kd ku : Nat} {news : List (Addr × Obj)} {sl : Addr} {svs : List Value} {R : Value → List (Addr × Obj) → Prop}
    {dp un : Nat} {gd : Option (List Code)} {cn : Str} {cs : Scope} {a : Addr} {ccd : Value} {cl : List (Str × Addr)} {outer : List Env} {A₀ : Around} {base h₀ : Heap} {L : Addr} {m : Str → Option Value} {s : Shared} {Q E : Value → Shared → Prop}
    (C : CtrL w mean mg mb f kd ku news sl svs R)
    (B : Below A₀ base outer h₀) (F : Fr h₀ L s.heap m) (X : (Mine.hd.heap_39 w.params).In h₀) (N : News h₀ L s.heap news) (T : Top Mine.hd.view_39 (looseW Mine.hd.view_39 [Str.ofString "EXACT_TOKEN_TYPES"]) mean mg mb h₀) (hk : cs.kind = .function) (hd : dp + kd < recursionLimit) (hu : un + ku < cLine) (hsl : h₀.IsList sl svs.toArray)
    (ret : ∀ r tl h' tk', Fr h₀ L h' m → News h₀ L h' (tl ++ news) → (∀ q ∈ news, ∀ p ∈ tl, q.1 < p.1) → R r tl → Q r { s with heap := h', toks := tk' }) :
    wpAny (model PySem.Challenge.rw_ty0033_01.row.prog w) (ktrTop dp un gd cn cs L a ccd cl outer) (call (.ref f) [.ref sl]) Q E s :=
  C _ _ _ _ _ _ _ _ _ _ _ _ _ _ _ _ _ B F X N T hk hd hu hsl ret
structure HS where
  r : List Int
  rv : List Value
  n : Nat
set_option maxRecDepth 100000 in
set_option maxHeartbeats 8000000 in
theorem c_heaps (w : World) (mean : ExcName → Option Value) (mg mb : Str → Option Value) (news : List (Addr × Obj)) (sl : Addr) (svs : List Value) (sns : List Int) (hsi : IntsAre svs sns) (hlen : sns.length ≤ 63) :
    CtrL w mean mg mb 87 20 400 news sl svs (fun r tl => ∃ y vs ns n, r = .ref y ∧ tl = [(y, listOf vs.toArray n)] ∧ IntsAre vs ns ∧ ns.length = 6) := by
  unfold CtrL
  k_fill
  intro dp un gd cn cs a ccd cl outer A₀ base h₀ L m s Q E B F X N T hk hd hu hsl hret
  refine wpAny_call ?_
  k_dflt ktr_enter
  k_with_none
  k_with "exec While" => (k_dflt (refine whl_start 100 ?_))
  k_with "pyIter ref" => refine hold ?_
  (rename (Fr h₀ L _ m) => FG0)
  have hsl2 := Fr.lst FG0 hsl
  clear FG0 hsl
  have hslen := IntsAre.length hsi
  k_steps
  refine hold_out ?_
  (rename News _ _ _ _ => lN'); (rename IsRange _ _ _ _ _ _ _ _ => lR'); (rename Fr _ _ _ _ => lF2)
  have eb : (if (63 : Int) < (sns.length : Int) then (63 : Int) else (sns.length : Int)) = (sns.length : Int) := if_neg (by omega)
  rw [eb] at lR'
  with_unfolding_all refine' my_forR (x := Str.ofString "k") (n := sns.length) (fun c : HS => (_, listOf c.rv.toArray c.n) :: _) (fun _ => []) [] (fun _ c => IntsAre c.rv c.r ∧ c.r.length = 6) ⟨[10, 6, 2, 4, 1, 6], [.int 10 _, .int 6 _, .int 2 _, .int 4 _, .int 1 _, .int 6 _], 0⟩ ?kh lR' ?ks ?kz lF2 ?kn ?kk ?kp ?kt ?fin
  case kh => rfl
  case ks => exact PySem.small_one (by decide) (by decide) (by omega) (by omega)
  case kz => (rw [rangeSize_nat]; omega)
  case kn => exact lN'
  case kk => exact List.forall_mem_nil _
  case kp => exact ⟨.cons _ _ (.cons _ _ (.cons _ _ (.cons _ _ (.cons _ _ (.cons _ _ .nil))))), rfl⟩
  case kt =>
    intro c k t u h tk own hk2 ho hp F3 N3
    obtain ⟨hi6, h6⟩ := hp
    have hf0 : 0 ≤ Int.fmod (k : Int) 6 := by rw [Int.fmod_eq_emod_of_nonneg _ (by decide)]; omega
    have hf6 : Int.fmod (k : Int) 6 < 6 := by rw [Int.fmod_eq_emod_of_nonneg _ (by decide)]; omega
    (rename (∀ p ∈ news, Prod.fst p < _) => hlast)
    have hno := fun (p : Addr × Obj) (hp : p ∈ news ++ own) => (List.mem_append.mp hp).elim (fun h => Nat.ne_of_lt (hlast p h)) (OwnOff.ne ho (List.Mem.head _) p)
    rw [List.cons_append] at N3
    k_with_none
    k_steps
    refine hold_out ?_
    dsimp only [InvPostN]
    (rename News _ _ _ _ => nE); (rename Fr _ _ _ _ => fE); (rename IntsAre (List.set _ _ _) _ => hi7)
    (try simp only [List.cons_append, List.nil_append] at nE)
    refine' my_end (σ := HS) ⟨_, _, _⟩ fE nE ?kn2 (fun p hp => .tail _ (List.mem_append_right _ hp)) ?ha2 ?kk2 ?kr2 ⟨hi7, ?kp2⟩
    case kp2 => (rw [List.length_set]; exact h6)
    case kn2 =>
      intro p hp
      rcases List.mem_cons.mp hp with rfl | hp
      · exact .head _
      · exact .tail _ (List.mem_append_left _ hp)
    case kk2 => exact List.forall_mem_nil _
    case kr2 =>
      intro z hz h2 _
      simp only [if_neg hz, kstB, List.contains_nil, Bool.false_eq_true, if_false]
    case ha2 => rfl
  case fin =>
    intro c u h tk hp F3 N3
    obtain ⟨hi6, h6⟩ := hp
    k_with_none
    k_steps
    refine' hret _ [(_, _)] _ _ (by assumption) (kst_newsOf (by assumption) (List.forall_mem_cons.mpr ⟨?sub1, fun p hp => ?sub⟩)) ?ord ⟨_, _, _, _, rfl, rfl, hi6, h6⟩
    case sub1 => k_mem
    case sub => (repeat (first | exact hp | refine List.Mem.tail _ ?_))
    case ord =>
      intro q hq p hp
      rw [List.mem_singleton.mp hp]
      revert q
      first
      | exact fun q hq => (by assumption : ∀ p ∈ news, p.1 < _) q hq
      | exact ktn_ltOf (by assumption : AllLt _ news)
      | exact ktn_ltOf (by assumption : _ ∧ AllLt _ news).2
      | exact ktn_ltOf (by assumption : _ ∧ _ ∧ AllLt _ news).2.2
      | exact ktn_ltOf (by assumption : _ ∧ _ ∧ _ ∧ AllLt _ news).2.2.2
      | exact ktn_ltOf (by assumption : _ ∧ _ ∧ _ ∧ _ ∧ AllLt _ news).2.2.2.2
      | exact ktn_ltOf (by assumption : _ ∧ _ ∧ _ ∧ _ ∧ _ ∧ AllLt _ news).2.2.2.2.2
      | exact ktn_ltOf (by assumption : _ ∧ _ ∧ _ ∧ _ ∧ _ ∧ _ ∧ AllLt _ news).2.2.2.2.2.2

end Mine
end
section
open PySem PySem.W PyProof.Rows
namespace Mine
def qF (a : Int) : UInt64 := PySem.Float64.ofFrac (decide (a < 0) != decide ((4 : Int) < 0)) a.natAbs 4
def hsvOkB (h s : UInt64) : Bool := (PySem.Float64.cmp s 0 == some Ordering.eq) == false && PySem.Float64.isFinite (PySem.Float64.mul h c6f) && Nat.blt (hvI h).natAbs 1000000
def rgbOkB (r g b : UInt64) : Bool := feq (min3 r g b) (max3 r g b) == false && PySem.Float64.isZero (max3 r g b) == false && PySem.Float64.isZero (PySem.Float64.sub (max3 r g b) (min3 r g b)) == false
theorem hsvOk_of {h s : UInt64} (e : hsvOkB h s = true) : HsvOk h s := by
  unfold hsvOkB at e
  simp only [Bool.and_eq_true, beq_iff_eq] at e
  exact ⟨e.1.1, e.1.2, by simpa using e.2⟩
theorem rgbOk_of {r g b : UInt64} (e : rgbOkB r g b = true) : RgbOk r g b := by
  unfold rgbOkB at e
  simp only [Bool.and_eq_true, beq_iff_eq] at e
  exact ⟨e.1.1, e.1.2, e.2⟩
def tri (x : UInt64 × UInt64 × UInt64) (a b c : UInt64) : Bool := x.1 == a && x.2.1 == b && x.2.2 == c
theorem tri_of {x : UInt64 × UInt64 × UInt64} {a b c : UInt64} (e : tri x a b c = true) : x = (a, b, c) := by
  unfold tri at e
  simp only [Bool.and_eq_true, beq_iff_eq] at e
  obtain ⟨x1, x2, x3⟩ := x
  obtain ⟨⟨e1, e2⟩, e3⟩ := e
  subst e1; subst e2; subst e3; rfl
/-- a hue of the wheel, made and read, as it is and with green and blue exchanged -/
def rowB (s l h h' : UInt64) : Bool := hsvOkB h s && rgbOkB (hsvF h s l).1 (hsvF h s l).2.2 (hsvF h s l).2.1 && rgbOkB (hsvF h s l).1 (hsvF h s l).2.1 (hsvF h s l).2.2 &&
  tri (rgbF (hsvF h s l).1 (hsvF h s l).2.2 (hsvF h s l).2.1) h' s l && tri (rgbF (hsvF h s l).1 (hsvF h s l).2.1 (hsvF h s l).2.2) h s l
def gOf (turn h' : UInt64) (o : Int) : UInt64 := PySem.Float64.add h' (PySem.Float64.div (PySem.Float64.add (PySem.Float64.ofInt o) turn) (PySem.Float64.ofInt 2))
/-- the hue turned on lies where the told one lies, whole turns aside -/
def colB (turn h h' hj : UInt64) (u o : Int) : Bool := mH turn u == h && mH turn (mt u o) == hj && PySem.Float64.isFinite (PySem.Float64.mul (gOf turn h' o) c6f) && Nat.blt (hvI (gOf turn h' o)).natAbs 1000000 &&
  hvF (gOf turn h' o) == hvF hj && decide (Int.fmod (hvI (gOf turn h' o)) 6 = Int.fmod (hvI hj) 6) && PySem.Float64.isFinite (PySem.Float64.mul hj (PySem.Float64.ofInt 4)) && decide (PySem.Flt.toInt PySem.Float64.truncOf (PySem.Float64.mul hj (PySem.Float64.ofInt 4)) = mt u o) && feq hj hj
theorem hsvF_key {g h s v : UInt64} (e1 : hvF g = hvF h) (e2 : Int.fmod (hvI g) 6 = Int.fmod (hvI h) 6) : hsvF g s v = hsvF h s v := by
  unfold hsvF hvQ hvT
  rw [e1, e2]
theorem cell_of {turn s l h h' hj hj' : UInt64} {u o : Int} (r : rowB s l h h' = true) (q : rowB s l hj hj' = true) (c : colB turn h h' hj u o = true) (fs : feq s s = true) (fl : feq l l = true) : CellOk turn s l u o := by
  unfold rowB at r q
  unfold colB at c
  simp only [Bool.and_eq_true, beq_iff_eq, decide_eq_true_eq] at r q c
  obtain ⟨⟨⟨⟨r1, r2⟩, _⟩, r4⟩, _⟩ := r
  obtain ⟨⟨⟨_, q3⟩, _⟩, q5⟩ := q
  obtain ⟨⟨⟨⟨⟨⟨⟨⟨c1, c2⟩, c3⟩, c4⟩, c5⟩, c6⟩, c7⟩, c8⟩, c9⟩ := c
  have k := hsvOk_of r1
  have eA : mA turn s l u = hsvF h s l := by unfold mA; rw [c1]
  have eB : mB turn s l u = (h', s, l) := by unfold mB; rw [eA]; exact tri_of r4
  have eG : mG turn s l u o = gOf turn h' o := by unfold mG gOf; rw [eB]
  have eC : mC turn s l u o = hsvF hj s l := by unfold mC; rw [eG, eB]; exact hsvF_key c5 c6
  have eD : mD turn s l u o = (hj, s, l) := by unfold mD; rw [eC]; exact tri_of q5
  have eX : mX turn s l u o = PySem.Float64.mul hj (PySem.Float64.ofInt 4) := by unfold mX; rw [eD]
  refine ⟨?_, ?_, ?_, ?_, ?_, ?_, ?_, ?_, ?_⟩
  · rw [c1]; exact k
  · rw [eA]; exact rgbOk_of r2
  · rw [eG, eB]; exact ⟨k.1, c3, by simpa using c4⟩
  · rw [eC]; exact rgbOk_of q3
  · rw [eX]; exact c7
  · rw [eX]; exact c8
  · rw [eD, c2]; exact c9
  · rw [eD]; exact fs
  · rw [eD]; exact fl

theorem qF0 : qF 0 = 0 := by decide +kernel
theorem qF1 : qF 1 = 4598175219545276416 := by decide +kernel
theorem qF2 : qF 2 = 4602678819172646912 := by decide +kernel
theorem qF3 : qF 3 = 4604930618986332160 := by decide +kernel
theorem qF4 : qF 4 = 4607182418800017408 := by decide +kernel
def hue (k : Int) : UInt64 := if k = 0 then 0 else if k = 1 then 4589168020290535424 else if k = 2 then 4593671619917905920 else if k = 3 then 4595923419731591168 else if k = 4 then 4598175219545276416 else if k = 5 then 4599301119452119040 else if k = 6 then 4600427019358961664 else if k = 7 then 4601552919265804288 else if k = 8 then 4602678819172646912 else if k = 9 then 4603241769126068224 else if k = 10 then 4603804719079489536 else if k = 11 then 4604367669032910848 else if k = 12 then 4604930618986332160 else if k = 13 then 4605493568939753472 else if k = 14 then 4606056518893174784 else 4606619468846596096
def upto (n : Nat) : List Int := (List.range n).map Int.ofNat
theorem mem_upto {n : Nat} {k : Int} (a : 0 ≤ k) (b : k < n) : k ∈ upto n := List.mem_map.mpr ⟨k.toNat, List.mem_range.mpr (by omega), Int.toNat_of_nonneg a⟩
def rowsB (s l : UInt64) : Bool := (upto 16).all fun k => rowB s l (hue k) (hue ((-k) % 16))
def colsB (turn : UInt64) (t : Int) : Bool := (upto 4).all fun u => (upto 4).all fun o => colB turn (hue (4 * u + t)) (hue ((-(4 * u + t)) % 16)) (hue (4 * mt u o + t)) u o
set_option maxRecDepth 100000
theorem rz11 : rowsB 4598175219545276416 4598175219545276416 = true := by decide +kernel
theorem rz12 : rowsB 4598175219545276416 4602678819172646912 = true := by decide +kernel
theorem rz13 : rowsB 4598175219545276416 4604930618986332160 = true := by decide +kernel
theorem rz14 : rowsB 4598175219545276416 4607182418800017408 = true := by decide +kernel
theorem rz21 : rowsB 4602678819172646912 4598175219545276416 = true := by decide +kernel
theorem rz22 : rowsB 4602678819172646912 4602678819172646912 = true := by decide +kernel
theorem rz23 : rowsB 4602678819172646912 4604930618986332160 = true := by decide +kernel
theorem rz24 : rowsB 4602678819172646912 4607182418800017408 = true := by decide +kernel
theorem rz31 : rowsB 4604930618986332160 4598175219545276416 = true := by decide +kernel
theorem rz32 : rowsB 4604930618986332160 4602678819172646912 = true := by decide +kernel
theorem rz33 : rowsB 4604930618986332160 4604930618986332160 = true := by decide +kernel
theorem rz34 : rowsB 4604930618986332160 4607182418800017408 = true := by decide +kernel
theorem rz41 : rowsB 4607182418800017408 4598175219545276416 = true := by decide +kernel
theorem rz42 : rowsB 4607182418800017408 4602678819172646912 = true := by decide +kernel
theorem rz43 : rowsB 4607182418800017408 4604930618986332160 = true := by decide +kernel
theorem rz44 : rowsB 4607182418800017408 4607182418800017408 = true := by decide +kernel
theorem fz1 : feq 4598175219545276416 4598175219545276416 = true := by decide +kernel
theorem fz2 : feq 4602678819172646912 4602678819172646912 = true := by decide +kernel
theorem fz3 : feq 4604930618986332160 4604930618986332160 = true := by decide +kernel
theorem fz4 : feq 4607182418800017408 4607182418800017408 = true := by decide +kernel
theorem kz0 : colsB 0 0 = true := by decide +kernel
theorem kz1 : colsB 4598175219545276416 1 = true := by decide +kernel
theorem kz2 : colsB 4602678819172646912 2 = true := by decide +kernel
theorem kz3 : colsB 4604930618986332160 3 = true := by decide +kernel
theorem row_all (s l : Int) (hs0 : 0 ≤ s) (hs4 : s < 4) (hl0 : 0 ≤ l) (hl4 : l < 4) (k : Int) (a : 0 ≤ k) (b : k < 16) : rowB (qF (1 + s)) (qF (1 + l)) (hue k) (hue ((-k) % 16)) = true := by
  have h : rowsB (qF (1 + s)) (qF (1 + l)) = true := by
    rcases (by omega : s = 0 ∨ s = 1 ∨ s = 2 ∨ s = 3) with rfl | rfl | rfl | rfl <;> rcases (by omega : l = 0 ∨ l = 1 ∨ l = 2 ∨ l = 3) with rfl | rfl | rfl | rfl
    · (show rowsB (qF 1) (qF 1) = true); rw [qF1]; exact rz11
    · (show rowsB (qF 1) (qF 2) = true); rw [qF1, qF2]; exact rz12
    · (show rowsB (qF 1) (qF 3) = true); rw [qF1, qF3]; exact rz13
    · (show rowsB (qF 1) (qF 4) = true); rw [qF1, qF4]; exact rz14
    · (show rowsB (qF 2) (qF 1) = true); rw [qF2, qF1]; exact rz21
    · (show rowsB (qF 2) (qF 2) = true); rw [qF2]; exact rz22
    · (show rowsB (qF 2) (qF 3) = true); rw [qF2, qF3]; exact rz23
    · (show rowsB (qF 2) (qF 4) = true); rw [qF2, qF4]; exact rz24
    · (show rowsB (qF 3) (qF 1) = true); rw [qF3, qF1]; exact rz31
    · (show rowsB (qF 3) (qF 2) = true); rw [qF3, qF2]; exact rz32
    · (show rowsB (qF 3) (qF 3) = true); rw [qF3]; exact rz33
    · (show rowsB (qF 3) (qF 4) = true); rw [qF3, qF4]; exact rz34
    · (show rowsB (qF 4) (qF 1) = true); rw [qF4, qF1]; exact rz41
    · (show rowsB (qF 4) (qF 2) = true); rw [qF4, qF2]; exact rz42
    · (show rowsB (qF 4) (qF 3) = true); rw [qF4, qF3]; exact rz43
    · (show rowsB (qF 4) (qF 4) = true); rw [qF4]; exact rz44
  exact List.all_eq_true.mp h k (mem_upto a b)
theorem feq_all (l : Int) (hl0 : 0 ≤ l) (hl4 : l < 4) : feq (qF (1 + l)) (qF (1 + l)) = true := by
  rcases (by omega : l = 0 ∨ l = 1 ∨ l = 2 ∨ l = 3) with rfl | rfl | rfl | rfl
  · (show feq (qF 1) (qF 1) = true); rw [qF1]; exact fz1
  · (show feq (qF 2) (qF 2) = true); rw [qF2]; exact fz2
  · (show feq (qF 3) (qF 3) = true); rw [qF3]; exact fz3
  · (show feq (qF 4) (qF 4) = true); rw [qF4]; exact fz4
theorem col_all (t u o : Int) (ht0 : 0 ≤ t) (ht4 : t < 4) (hu0 : 0 ≤ u) (hu4 : u < 4) (ho0 : 0 ≤ o) (ho4 : o < 4) : colB (qF t) (hue (4 * u + t)) (hue ((-(4 * u + t)) % 16)) (hue (4 * mt u o + t)) u o = true := by
  have h : colsB (qF t) t = true := by
    rcases (by omega : t = 0 ∨ t = 1 ∨ t = 2 ∨ t = 3) with rfl | rfl | rfl | rfl
    · (rw [qF0]; exact kz0)
    · (rw [qF1]; exact kz1)
    · (rw [qF2]; exact kz2)
    · (rw [qF3]; exact kz3)
  exact List.all_eq_true.mp (List.all_eq_true.mp h u (mem_upto hu0 hu4)) o (mem_upto ho0 ho4)
theorem cell_all (t s l : Int) (ht0 : 0 ≤ t) (ht4 : t < 4) (hs0 : 0 ≤ s) (hs4 : s < 4) (hl0 : 0 ≤ l) (hl4 : l < 4) (u o : Int) (hu0 : 0 ≤ u) (hu4 : u < 4) (ho0 : 0 ≤ o) (ho4 : o < 4) : CellOk (qF t) (qF (1 + s)) (qF (1 + l)) u o :=
  cell_of (row_all s l hs0 hs4 hl0 hl4 (4 * u + t) (by omega) (by omega)) (row_all s l hs0 hs4 hl0 hl4 (4 * mt u o + t) (by unfold mt; omega) (by unfold mt; omega)) (col_all t u o ht0 ht4 hu0 hu4 ho0 ho4) (feq_all s hs0 hs4) (feq_all l hl0 hl4)
end Mine
end
section
open PySem PySem.W PyProof.Rows
namespace Mine
local macro_rules | `(tactic| walk_at $s:str) => `(tactic| k_extra $s)
local macro_rules | `(tactic| k_all) => `(tactic| with_reducible assumption)
local macro_rules | `(tactic| walk_at "execs cons") => `(tactic| (refine gen_toks1 ?_; intro tkp htkp))
local macro_rules | `(tactic| walk_at "execs nil") => `(tactic| (refine gen_toks1 ?_; intro tkp htkp))

theorem ints_snoc {y : Int} {t : Tok} : ∀ {vs : List Value} {ys : List Int}, IntsAre vs ys → IntsAre (vs ++ [.int y t]) (ys ++ [y])
  | _, _, .nil => .cons y t .nil
  | _, _, .cons z u r => .cons z u (ints_snoc r)
section
variable {prog : Program} {w : World} {A : Around} {h₀ : Heap} {L : Addr} {m : Str → Option Value} {env : Env} {elt : PySem.Expr} {x : Str} {scope : Scope} {cl : List (Str × Addr)} {s : Shared} {S : List (Addr × Obj) → Prop} {Fin : List Value → List (Addr × Obj) → Prop} {news : List (Addr × Obj)}
/-- a comprehension over a list of ints, each made an int -/
theorem int_rest {vs : List Value} {ns : List Int} (g : Int → Int) (hi : IntsAre vs ns) (hS : S news)
    (turn : ∀ k t I oI C oC D m₂ ys h tk (E' : Value → Shared → Prop), k ∈ ns → LCg.NsObj oC m₂ → m₂ x = some (.int k t) → Fr h₀ L h m → News h₀ L h ((I, oI) :: (C, oC) :: (D, LCg.lst ys) :: news) → LCg.Off3 I C D news → ((@Ne Nat I C) ∧ (@Ne Nat I D) ∧ (@Ne Nat C D)) →
      wpAny (model prog w) A (eval elt (compEnvC scope cl C env)) (LCg.CompEnd h₀ L m { s with heap := h, toks := tk } I oI C oC D (LCg.lst ys) (fun _ => True) (fun v news' => news' = news ∧ ∃ t, v = .int (g k) t)) E' { s with heap := h, toks := tk })
    (fin : ∀ ys, IntsAre ys (ns.map g) → Fin ys news) : LCg.CompRest prog w A h₀ L m env elt x scope cl s S (fun i v => vs.toArray[i]? = some v) Fin vs.toArray.size 0 [] news := by
  have hlen : vs.toArray.size = ns.length := by rw [List.size_toArray]; exact hi.length
  have key : ∀ (j i : Nat) (ys : List Value), i + j = ns.length → IntsAre ys ((ns.take i).map g) → LCg.CompRest prog w A h₀ L m env elt x scope cl s S (fun i v => vs.toArray[i]? = some v) Fin j i ys news := by
    intro j
    induction j with
    | zero =>
      intro i ys hi2 hy
      have e : i = ns.length := by omega
      subst e
      rw [List.take_length] at hy
      exact LCg.CompRest.zero (fin ys hy)
    | succ j ih =>
      intro i ys hi2 hy
      refine LCg.CompRest.succ ?_
      intro v I oI C oC D m₂ h tk E' hv hC hx F N off ne
      obtain ⟨k, t, e, hk⟩ := IntsAre.at hi i v (by simpa using hv)
      rw [e] at hx
      refine wpAny_mono (turn k t I oI C oC D m₂ ys h tk E' (List.mem_of_getElem? hk) hC hx F N off ne) (fun z s₂ hq => ?_) fun _ _ e => e
      obtain ⟨h', tk', nw, e, F', N', off', _, hn, t', hy'⟩ := hq
      rw [hn] at N' off'
      refine ⟨h', tk', news, e, F', N', off', hS, ?_⟩
      rw [hy']
      refine ih (i + 1) _ (by omega) ?_
      rw [List.take_add_one, hk]
      simpa using ints_snoc hy
  rw [hlen]
  exact key ns.length 0 [] (by omega) (by simp only [List.take_zero, List.map_nil]; exact .nil)
/-- the same, each made a text -/
theorem istr_rest {vs : List Value} {ns : List Int} (g : Int → Str) (hi : IntsAre vs ns) (hS : S news)
    (turn : ∀ k t I oI C oC D m₂ ys h tk (E' : Value → Shared → Prop), k ∈ ns → LCg.NsObj oC m₂ → m₂ x = some (.int k t) → Fr h₀ L h m → News h₀ L h ((I, oI) :: (C, oC) :: (D, LCg.lst ys) :: news) → LCg.Off3 I C D news → ((@Ne Nat I C) ∧ (@Ne Nat I D) ∧ (@Ne Nat C D)) →
      wpAny (model prog w) A (eval elt (compEnvC scope cl C env)) (LCg.CompEnd h₀ L m { s with heap := h, toks := tk } I oI C oC D (LCg.lst ys) (fun _ => True) (fun v news' => news' = news ∧ ∃ t, v = .str (g k) t)) E' { s with heap := h, toks := tk })
    (fin : ∀ ys, StrsAre ys (ns.map g) → Fin ys news) : LCg.CompRest prog w A h₀ L m env elt x scope cl s S (fun i v => vs.toArray[i]? = some v) Fin vs.toArray.size 0 [] news := by
  have hlen : vs.toArray.size = ns.length := by rw [List.size_toArray]; exact hi.length
  have key : ∀ (j i : Nat) (ys : List Value), i + j = ns.length → StrsAre ys ((ns.take i).map g) → LCg.CompRest prog w A h₀ L m env elt x scope cl s S (fun i v => vs.toArray[i]? = some v) Fin j i ys news := by
    intro j
    induction j with
    | zero =>
      intro i ys hi2 hy
      have e : i = ns.length := by omega
      subst e
      rw [List.take_length] at hy
      exact LCg.CompRest.zero (fin ys hy)
    | succ j ih =>
      intro i ys hi2 hy
      refine LCg.CompRest.succ ?_
      intro v I oI C oC D m₂ h tk E' hv hC hx F N off ne
      obtain ⟨k, t, e, hk⟩ := IntsAre.at hi i v (by simpa using hv)
      rw [e] at hx
      refine wpAny_mono (turn k t I oI C oC D m₂ ys h tk E' (List.mem_of_getElem? hk) hC hx F N off ne) (fun z s₂ hq => ?_) fun _ _ e => e
      obtain ⟨h', tk', nw, e, F', N', off', _, hn, t', hy'⟩ := hq
      rw [hn] at N' off'
      refine ⟨h', tk', news, e, F', N', off', hS, ?_⟩
      rw [hy']
      refine ih (i + 1) _ (by omega) ?_
      rw [List.take_add_one, hk]
      simpa using kct_snoc hy
  rw [hlen]
  exact key ns.length 0 [] (by omega) (by simp only [List.take_zero, List.map_nil]; exact .nil)
end
/-- a heap's letter -/
def letN (h : Int) : Int := if Int.fmod h 4 = 0 then 19 else if Int.fmod h 4 = 1 then 13 else if Int.fmod h 4 = 2 then 20 else 21
theorem letN_lt (h : Int) : Lt4 (letN h) := by
  unfold letN Lt4
  (repeat' split) <;> simp
theorem fmod4 (h : Int) : Int.fmod h 4 = 0 ∨ Int.fmod h 4 = 1 ∨ Int.fmod h 4 = 2 ∨ Int.fmod h 4 = 3 := by
  rw [Int.fmod_eq_emod_of_nonneg _ (by decide)]
  omega
theorem let_at (h : Int) (t1 t2 t3 t4 : Tok) : ∃ t, (#[Value.int 19 t1, .int 13 t2, .int 20 t3, .int 21 t4])[(Int.fmod h 4).toNat]? = some (.int (letN h) t) := by
  unfold letN
  rcases fmod4 h with e | e | e | e <;> rw [e] <;> exact ⟨_, rfl⟩
/-- a letter's sign -/
def sgC (k : Int) : Nat := if k = 19 then 38 else if k = 13 then 59 else if k = 20 then 60 else 62
def SGD : List (PyData × PyData) := [(.int 19, .str (Str.ofString "&")), (.int 13, .str (Str.ofString ";")), (.int 20, .str (Str.ofString "<")), (.int 21, .str (Str.ofString ">"))]
theorem sg_look {k : Int} (h : Lt4 k) : PySem.Spec.lookup (.int k) SGD = some (.str ⟨#[sgC k]⟩) := by
  have a1 : Str.ofString "&" = ⟨#[38]⟩ := by decide +kernel
  have a2 : Str.ofString ";" = ⟨#[59]⟩ := by decide +kernel
  have a3 : Str.ofString "<" = ⟨#[60]⟩ := by decide +kernel
  have a4 : Str.ofString ">" = ⟨#[62]⟩ := by decide +kernel
  unfold SGD
  rw [a1, a2, a3, a4]
  rcases h with rfl | rfl | rfl | rfl <;> rfl
/-- the text -/
def txtL (la lb lc ld : Int) : List Nat := [sgC la, sgC lc, sgC ld, sgC lb, sgC lc, sgC ld]
def txt (la lb lc ld : Int) : Str := ⟨(txtL la lb lc ld).toArray⟩
theorem txt_join (la lb lc ld : Int) : Txt.join (Str.ofString "") ([la, lc, ld, lb, lc, ld].map fun k => (⟨#[sgC k]⟩ : Str)) = txt la lb lc ld := by
  apply Str.ext'
  unfold Txt.join
  rw [StrLaws.glued_eq_join]
  have e : Str.ofString "" = ⟨#[]⟩ := by decide +kernel
  rw [e]
  simp [Str.join, txt, txtL, Str.cps_append]
theorem txt_plain {la lb lc ld : Int} (ha : Lt4 la) (hb : Lt4 lb) (hc : Lt4 lc) (hd : Lt4 ld) : Plain (txt la lb lc ld) := by
  have s : ∀ k, Lt4 k → 38 ≤ sgC k := by
    intro k h
    rcases h with rfl | rfl | rfl | rfl <;> decide
  have g : ∀ x ∈ (txt la lb lc ld).cps.toList, 38 ≤ x := by
    intro x hx
    have hx' : x ∈ txtL la lb lc ld := hx
    unfold txtL at hx'
    rcases List.mem_cons.mp hx' with rfl | h
    · exact s _ ha
    rcases List.mem_cons.mp h with rfl | h
    · exact s _ hc
    rcases List.mem_cons.mp h with rfl | h
    · exact s _ hd
    rcases List.mem_cons.mp h with rfl | h
    · exact s _ hb
    rcases List.mem_cons.mp h with rfl | h
    · exact s _ hc
    rcases List.mem_cons.mp h with rfl | h
    · exact s _ hd
    exact nomatch h
  exact ⟨fun h => absurd (g _ h) (by decide), fun h => absurd (g _ h) (by decide), fun h => absurd (g _ h) (by decide), fun h => absurd (g _ h) (by decide)⟩

end Mine
end
section
open PySem PySem.W PyProof.Rows
namespace Mine
local macro_rules | `(tactic| walk_at $s:str) => `(tactic| k_extra $s)
local macro_rules | `(tactic| k_all) => `(tactic| with_reducible assumption)
local macro_rules | `(tactic| walk_at "execs cons") => `(tactic| (refine gen_toks1 ?_; intro tkp htkp))
local macro_rules | `(tactic| walk_at "execs nil") => `(tactic| (refine gen_toks1 ?_; intro tkp htkp))

def G38 : List (List Nat × Int) := [([38], 19), ([38, 61], 41)]
def G59 : List (List Nat × Int) := [([59], 13)]
def G60 : List (List Nat × Int) := [([60], 20), ([60, 60], 33), ([60, 60, 61], 44), ([60, 61], 29)]
def G62 : List (List Nat × Int) := [([62], 21), ([62, 61], 30), ([62, 62], 34), ([62, 62, 61], 45)]
def eqN : List Nat → List Nat → Bool
  | [], [] => true
  | a :: r, b :: t => Nat.beq a b && eqN r t
  | _, _ => false
theorem eqN_eq : ∀ a b : List Nat, eqN a b = (a == b)
  | [], [] => rfl
  | [], _ :: _ => rfl
  | _ :: _, [] => rfl
  | a :: r, b :: t => by
    show (Nat.beq a b && eqN r t) = _
    rw [eqN_eq r t]
    show (Nat.beq a b && (r == t)) = ((a == b) && (r == t))
    have e : Nat.beq a b = (a == b) := by
      rw [Bool.eq_iff_iff, beq_iff_eq]
      exact ⟨Nat.eq_of_beq_eq_true, fun h => by rw [h]; exact Nat.beq_refl b⟩
    rw [e]
def findN (l : List Nat) : List (List Nat × Int) → Option Int
  | [] => none
  | (k, v) :: T => match eqN k l with
    | true => some v
    | false => findN l T
theorem findN_eq (l : List Nat) : ∀ T : List (List Nat × Int), findN l T = (T.find? fun p => p.1 == l).map (·.2)
  | [] => rfl
  | (k, v) :: T => by
    show (match eqN k l with | true => some v | false => findN l T) = _
    rw [findN_eq l T, eqN_eq, List.find?_cons]
    cases h : (k == l) <;> simp
def lookQ (l : List Nat) : Option Int :=
  match l with
  | [] => none
  | c :: r => bif Nat.ble 97 c && Nat.ble c 122 then none else bif Nat.beq c 38 then findN (c :: r) G38 else bif Nat.beq c 59 then findN (c :: r) G59 else bif Nat.beq c 60 then findN (c :: r) G60 else bif Nat.beq c 62 then findN (c :: r) G62 else findN (c :: r) EXL
theorem find_head (c : Nat) (r : List Nat) (T : List (List Nat × Int)) : T.find? (fun p => p.1 == c :: r) = (T.filter fun p => p.1.head? == some c).find? (fun p => p.1 == c :: r) := by
  rw [List.find?_filter]
  congr 1
  funext p
  cases h : (p.1 == c :: r) with
  | false => simp
  | true =>
    have e : p.1 = c :: r := by simpa using h
    rw [e]
    simp
theorem no_letter : ∀ i : Fin 26, (EXL.filter fun p => p.1.head? == some (97 + i.1)) = [] := by decide +kernel
theorem look_eq (l : List Nat) : lookL l = lookQ l := by
  cases l with
  | nil => rfl
  | cons c r =>
    unfold lookL lookQ
    dsimp only
    by_cases h1 : (Nat.ble 97 c && Nat.ble c 122) = true
    · rw [h1, cond_true]
      have h2 : 97 ≤ c ∧ c ≤ 122 := by simpa [Nat.ble_eq] using h1
      have h3 := no_letter ⟨c - 97, by omega⟩
      have h4 : 97 + (c - 97) = c := by omega
      dsimp only at h3
      rw [h4] at h3
      rw [find_head, h3]
      rfl
    rw [Bool.eq_false_iff.mpr h1, cond_false]
    have grp : ∀ (k : Nat) (G : List (List Nat × Int)), (EXL.filter fun p => p.1.head? == some k) = G → c = k → (EXL.find? fun p => p.1 == c :: r).map (·.2) = findN (c :: r) G := by
      intro k G hG hc
      rw [findN_eq, find_head, hc, hG]
    by_cases h38 : Nat.beq c 38 = true
    · rw [h38, cond_true]
      exact grp 38 G38 (by decide +kernel) (Nat.eq_of_beq_eq_true h38)
    rw [Bool.eq_false_iff.mpr h38, cond_false]
    by_cases h59 : Nat.beq c 59 = true
    · rw [h59, cond_true]
      exact grp 59 G59 (by decide +kernel) (Nat.eq_of_beq_eq_true h59)
    rw [Bool.eq_false_iff.mpr h59, cond_false]
    by_cases h60 : Nat.beq c 60 = true
    · rw [h60, cond_true]
      exact grp 60 G60 (by decide +kernel) (Nat.eq_of_beq_eq_true h60)
    rw [Bool.eq_false_iff.mpr h60, cond_false]
    by_cases h62 : Nat.beq c 62 = true
    · rw [h62, cond_true]
      exact grp 62 G62 (by decide +kernel) (Nat.eq_of_beq_eq_true h62)
    rw [Bool.eq_false_iff.mpr h62, cond_false, findN_eq]
def stepQ (l : List Nat) : Option (Nat × List Int) :=
  match lookQ (l.take 3) with
  | some n => outL l 3 n
  | none => match lookQ (l.take 2) with
    | some n => outL l 2 n
    | none => match lookQ (l.take 1) with
      | some n => outL l 1 n
      | none => if Nat.blt (idxS l) l.length then (nameL (l.take (idxS l))).map fun n => (idxS l, [n]) else none
theorem step_eq (l : List Nat) : stepL l = stepQ l := by
  unfold stepL stepQ
  rw [look_eq, look_eq, look_eq]
  all_goals rfl
def crossQ : Nat → List Nat → List Int → Option (List Int)
  | _, [], acc => some acc
  | 0, _ :: _, _ => none
  | f + 1, c :: r, acc => match stepQ (c :: r) with
    | none => none
    | some (wd, out) => crossQ f ((c :: r).drop wd) (acc ++ out)
theorem cross_eq : ∀ (f : Nat) (l : List Nat) (acc : List Int), crossR f l acc = crossQ f l acc
  | 0, [], acc => rfl
  | 0, _ :: _, acc => rfl
  | f + 1, [], acc => rfl
  | f + 1, c :: r, acc => by
    unfold crossR crossQ
    rw [step_eq]
    cases h : stepQ (c :: r) with
    | none => rfl
    | some q => exact cross_eq f _ _
def pureB (la lb lc ld : Int) : Bool :=
  match crossQ 300 (txtL la lb lc ld) [], crossQ 300 (escL (txtL la lb lc ld)) [], crossQ 300 (escL (escL (txtL la lb lc ld))) [] with
  | some rt, some rp, some ra => decide (rt = [la, lc, ld, lb, lc, ld]) && decide (struckL rp = struckL (19 :: ([la, lc, ld, lb, lc, ld] ++ [13]))) && decide (struckL ra = struckL (19 :: ([la, lc, ld, lb, lc, ld] ++ [13])))
    && decide (kAll [la, lc, ld, lb, lc, ld] 4 = dueF (t56 la lb lc ld)) && decide (kAll rp 4 = dueF (t56 la lb lc ld)) && Nat.ble rp.length 200 && Nat.ble ra.length 200
  | _, _, _ => false
theorem pz191919 : (pureB 19 19 19 19 && pureB 19 19 19 13 && pureB 19 19 19 20 && pureB 19 19 19 21) = true := by decide +kernel
theorem pz191913 : (pureB 19 19 13 19 && pureB 19 19 13 13 && pureB 19 19 13 20 && pureB 19 19 13 21) = true := by decide +kernel
theorem pz191920 : (pureB 19 19 20 19 && pureB 19 19 20 13 && pureB 19 19 20 20 && pureB 19 19 20 21) = true := by decide +kernel
theorem pz191921 : (pureB 19 19 21 19 && pureB 19 19 21 13 && pureB 19 19 21 20 && pureB 19 19 21 21) = true := by decide +kernel
theorem pz191319 : (pureB 19 13 19 19 && pureB 19 13 19 13 && pureB 19 13 19 20 && pureB 19 13 19 21) = true := by decide +kernel
theorem pz191313 : (pureB 19 13 13 19 && pureB 19 13 13 13 && pureB 19 13 13 20 && pureB 19 13 13 21) = true := by decide +kernel
theorem pz191320 : (pureB 19 13 20 19 && pureB 19 13 20 13 && pureB 19 13 20 20 && pureB 19 13 20 21) = true := by decide +kernel
theorem pz191321 : (pureB 19 13 21 19 && pureB 19 13 21 13 && pureB 19 13 21 20 && pureB 19 13 21 21) = true := by decide +kernel
theorem pz192019 : (pureB 19 20 19 19 && pureB 19 20 19 13 && pureB 19 20 19 20 && pureB 19 20 19 21) = true := by decide +kernel
theorem pz192013 : (pureB 19 20 13 19 && pureB 19 20 13 13 && pureB 19 20 13 20 && pureB 19 20 13 21) = true := by decide +kernel
theorem pz192020 : (pureB 19 20 20 19 && pureB 19 20 20 13 && pureB 19 20 20 20 && pureB 19 20 20 21) = true := by decide +kernel
theorem pz192021 : (pureB 19 20 21 19 && pureB 19 20 21 13 && pureB 19 20 21 20 && pureB 19 20 21 21) = true := by decide +kernel
theorem pz192119 : (pureB 19 21 19 19 && pureB 19 21 19 13 && pureB 19 21 19 20 && pureB 19 21 19 21) = true := by decide +kernel
theorem pz192113 : (pureB 19 21 13 19 && pureB 19 21 13 13 && pureB 19 21 13 20 && pureB 19 21 13 21) = true := by decide +kernel
theorem pz192120 : (pureB 19 21 20 19 && pureB 19 21 20 13 && pureB 19 21 20 20 && pureB 19 21 20 21) = true := by decide +kernel
theorem pz192121 : (pureB 19 21 21 19 && pureB 19 21 21 13 && pureB 19 21 21 20 && pureB 19 21 21 21) = true := by decide +kernel
theorem pz131919 : (pureB 13 19 19 19 && pureB 13 19 19 13 && pureB 13 19 19 20 && pureB 13 19 19 21) = true := by decide +kernel
theorem pz131913 : (pureB 13 19 13 19 && pureB 13 19 13 13 && pureB 13 19 13 20 && pureB 13 19 13 21) = true := by decide +kernel
theorem pz131920 : (pureB 13 19 20 19 && pureB 13 19 20 13 && pureB 13 19 20 20 && pureB 13 19 20 21) = true := by decide +kernel
theorem pz131921 : (pureB 13 19 21 19 && pureB 13 19 21 13 && pureB 13 19 21 20 && pureB 13 19 21 21) = true := by decide +kernel
theorem pz131319 : (pureB 13 13 19 19 && pureB 13 13 19 13 && pureB 13 13 19 20 && pureB 13 13 19 21) = true := by decide +kernel
theorem pz131313 : (pureB 13 13 13 19 && pureB 13 13 13 13 && pureB 13 13 13 20 && pureB 13 13 13 21) = true := by decide +kernel
theorem pz131320 : (pureB 13 13 20 19 && pureB 13 13 20 13 && pureB 13 13 20 20 && pureB 13 13 20 21) = true := by decide +kernel
theorem pz131321 : (pureB 13 13 21 19 && pureB 13 13 21 13 && pureB 13 13 21 20 && pureB 13 13 21 21) = true := by decide +kernel
theorem pz132019 : (pureB 13 20 19 19 && pureB 13 20 19 13 && pureB 13 20 19 20 && pureB 13 20 19 21) = true := by decide +kernel
theorem pz132013 : (pureB 13 20 13 19 && pureB 13 20 13 13 && pureB 13 20 13 20 && pureB 13 20 13 21) = true := by decide +kernel
theorem pz132020 : (pureB 13 20 20 19 && pureB 13 20 20 13 && pureB 13 20 20 20 && pureB 13 20 20 21) = true := by decide +kernel
theorem pz132021 : (pureB 13 20 21 19 && pureB 13 20 21 13 && pureB 13 20 21 20 && pureB 13 20 21 21) = true := by decide +kernel
theorem pz132119 : (pureB 13 21 19 19 && pureB 13 21 19 13 && pureB 13 21 19 20 && pureB 13 21 19 21) = true := by decide +kernel
theorem pz132113 : (pureB 13 21 13 19 && pureB 13 21 13 13 && pureB 13 21 13 20 && pureB 13 21 13 21) = true := by decide +kernel
theorem pz132120 : (pureB 13 21 20 19 && pureB 13 21 20 13 && pureB 13 21 20 20 && pureB 13 21 20 21) = true := by decide +kernel
theorem pz132121 : (pureB 13 21 21 19 && pureB 13 21 21 13 && pureB 13 21 21 20 && pureB 13 21 21 21) = true := by decide +kernel
theorem pz201919 : (pureB 20 19 19 19 && pureB 20 19 19 13 && pureB 20 19 19 20 && pureB 20 19 19 21) = true := by decide +kernel
theorem pz201913 : (pureB 20 19 13 19 && pureB 20 19 13 13 && pureB 20 19 13 20 && pureB 20 19 13 21) = true := by decide +kernel
theorem pz201920 : (pureB 20 19 20 19 && pureB 20 19 20 13 && pureB 20 19 20 20 && pureB 20 19 20 21) = true := by decide +kernel
theorem pz201921 : (pureB 20 19 21 19 && pureB 20 19 21 13 && pureB 20 19 21 20 && pureB 20 19 21 21) = true := by decide +kernel
theorem pz201319 : (pureB 20 13 19 19 && pureB 20 13 19 13 && pureB 20 13 19 20 && pureB 20 13 19 21) = true := by decide +kernel
theorem pz201313 : (pureB 20 13 13 19 && pureB 20 13 13 13 && pureB 20 13 13 20 && pureB 20 13 13 21) = true := by decide +kernel
theorem pz201320 : (pureB 20 13 20 19 && pureB 20 13 20 13 && pureB 20 13 20 20 && pureB 20 13 20 21) = true := by decide +kernel
theorem pz201321 : (pureB 20 13 21 19 && pureB 20 13 21 13 && pureB 20 13 21 20 && pureB 20 13 21 21) = true := by decide +kernel
theorem pz202019 : (pureB 20 20 19 19 && pureB 20 20 19 13 && pureB 20 20 19 20 && pureB 20 20 19 21) = true := by decide +kernel
theorem pz202013 : (pureB 20 20 13 19 && pureB 20 20 13 13 && pureB 20 20 13 20 && pureB 20 20 13 21) = true := by decide +kernel
theorem pz202020 : (pureB 20 20 20 19 && pureB 20 20 20 13 && pureB 20 20 20 20 && pureB 20 20 20 21) = true := by decide +kernel
theorem pz202021 : (pureB 20 20 21 19 && pureB 20 20 21 13 && pureB 20 20 21 20 && pureB 20 20 21 21) = true := by decide +kernel
theorem pz202119 : (pureB 20 21 19 19 && pureB 20 21 19 13 && pureB 20 21 19 20 && pureB 20 21 19 21) = true := by decide +kernel
theorem pz202113 : (pureB 20 21 13 19 && pureB 20 21 13 13 && pureB 20 21 13 20 && pureB 20 21 13 21) = true := by decide +kernel
theorem pz202120 : (pureB 20 21 20 19 && pureB 20 21 20 13 && pureB 20 21 20 20 && pureB 20 21 20 21) = true := by decide +kernel
theorem pz202121 : (pureB 20 21 21 19 && pureB 20 21 21 13 && pureB 20 21 21 20 && pureB 20 21 21 21) = true := by decide +kernel
theorem pz211919 : (pureB 21 19 19 19 && pureB 21 19 19 13 && pureB 21 19 19 20 && pureB 21 19 19 21) = true := by decide +kernel
theorem pz211913 : (pureB 21 19 13 19 && pureB 21 19 13 13 && pureB 21 19 13 20 && pureB 21 19 13 21) = true := by decide +kernel
theorem pz211920 : (pureB 21 19 20 19 && pureB 21 19 20 13 && pureB 21 19 20 20 && pureB 21 19 20 21) = true := by decide +kernel
theorem pz211921 : (pureB 21 19 21 19 && pureB 21 19 21 13 && pureB 21 19 21 20 && pureB 21 19 21 21) = true := by decide +kernel
theorem pz211319 : (pureB 21 13 19 19 && pureB 21 13 19 13 && pureB 21 13 19 20 && pureB 21 13 19 21) = true := by decide +kernel
theorem pz211313 : (pureB 21 13 13 19 && pureB 21 13 13 13 && pureB 21 13 13 20 && pureB 21 13 13 21) = true := by decide +kernel
theorem pz211320 : (pureB 21 13 20 19 && pureB 21 13 20 13 && pureB 21 13 20 20 && pureB 21 13 20 21) = true := by decide +kernel
theorem pz211321 : (pureB 21 13 21 19 && pureB 21 13 21 13 && pureB 21 13 21 20 && pureB 21 13 21 21) = true := by decide +kernel
theorem pz212019 : (pureB 21 20 19 19 && pureB 21 20 19 13 && pureB 21 20 19 20 && pureB 21 20 19 21) = true := by decide +kernel
theorem pz212013 : (pureB 21 20 13 19 && pureB 21 20 13 13 && pureB 21 20 13 20 && pureB 21 20 13 21) = true := by decide +kernel
theorem pz212020 : (pureB 21 20 20 19 && pureB 21 20 20 13 && pureB 21 20 20 20 && pureB 21 20 20 21) = true := by decide +kernel
theorem pz212021 : (pureB 21 20 21 19 && pureB 21 20 21 13 && pureB 21 20 21 20 && pureB 21 20 21 21) = true := by decide +kernel
theorem pz212119 : (pureB 21 21 19 19 && pureB 21 21 19 13 && pureB 21 21 19 20 && pureB 21 21 19 21) = true := by decide +kernel
theorem pz212113 : (pureB 21 21 13 19 && pureB 21 21 13 13 && pureB 21 21 13 20 && pureB 21 21 13 21) = true := by decide +kernel
theorem pz212120 : (pureB 21 21 20 19 && pureB 21 21 20 13 && pureB 21 21 20 20 && pureB 21 21 20 21) = true := by decide +kernel
theorem pz212121 : (pureB 21 21 21 19 && pureB 21 21 21 13 && pureB 21 21 21 20 && pureB 21 21 21 21) = true := by decide +kernel
theorem pure4 {a b c : Int} (h : (pureB a b c 19 && pureB a b c 13 && pureB a b c 20 && pureB a b c 21) = true) {d : Int} (hd : Lt4 d) : pureB a b c d = true := by
  simp only [Bool.and_eq_true] at h
  rcases hd with rfl | rfl | rfl | rfl
  · exact h.1.1.1
  · exact h.1.1.2
  · exact h.1.2
  · exact h.2
theorem pure_all {la lb lc ld : Int} (ha : Lt4 la) (hb : Lt4 lb) (hc : Lt4 lc) (hd : Lt4 ld) : pureB la lb lc ld = true := by
  refine pure4 ?_ hd
  rcases ha with rfl | rfl | rfl | rfl <;> rcases hb with rfl | rfl | rfl | rfl <;> rcases hc with rfl | rfl | rfl | rfl
  · exact pz191919
  · exact pz191913
  · exact pz191920
  · exact pz191921
  · exact pz191319
  · exact pz191313
  · exact pz191320
  · exact pz191321
  · exact pz192019
  · exact pz192013
  · exact pz192020
  · exact pz192021
  · exact pz192119
  · exact pz192113
  · exact pz192120
  · exact pz192121
  · exact pz131919
  · exact pz131913
  · exact pz131920
  · exact pz131921
  · exact pz131319
  · exact pz131313
  · exact pz131320
  · exact pz131321
  · exact pz132019
  · exact pz132013
  · exact pz132020
  · exact pz132021
  · exact pz132119
  · exact pz132113
  · exact pz132120
  · exact pz132121
  · exact pz201919
  · exact pz201913
  · exact pz201920
  · exact pz201921
  · exact pz201319
  · exact pz201313
  · exact pz201320
  · exact pz201321
  · exact pz202019
  · exact pz202013
  · exact pz202020
  · exact pz202021
  · exact pz202119
  · exact pz202113
  · exact pz202120
  · exact pz202121
  · exact pz211919
  · exact pz211913
  · exact pz211920
  · exact pz211921
  · exact pz211319
  · exact pz211313
  · exact pz211320
  · exact pz211321
  · exact pz212019
  · exact pz212013
  · exact pz212020
  · exact pz212021
  · exact pz212119
  · exact pz212113
  · exact pz212120
  · exact pz212121
/-- what the law asks, in plain -/
theorem law_plain {la lb lc ld : Int} (ha : Lt4 la) (hb : Lt4 lb) (hc : Lt4 lc) (hd : Lt4 ld) : ∃ rp ra : List Int, crossR 300 (txtL la lb lc ld) [] = some [la, lc, ld, lb, lc, ld] ∧ crossR 300 (escL (txtL la lb lc ld)) [] = some rp ∧ crossR 300 (escL (escL (txtL la lb lc ld))) [] = some ra ∧
    struckL rp = struckL (19 :: ([la, lc, ld, lb, lc, ld] ++ [13])) ∧ struckL ra = struckL (19 :: ([la, lc, ld, lb, lc, ld] ++ [13])) ∧ kAll [la, lc, ld, lb, lc, ld] 4 = dueF (t56 la lb lc ld) ∧ kAll rp 4 = dueF (t56 la lb lc ld) ∧ rp.length ≤ 200 ∧ ra.length ≤ 200 := by
  have h := pure_all ha hb hc hd
  unfold pureB at h
  rw [cross_eq, cross_eq, cross_eq]
  cases h1 : crossQ 300 (txtL la lb lc ld) [] with
  | none => rw [h1] at h; cases h
  | some rt =>
    cases h2 : crossQ 300 (escL (txtL la lb lc ld)) [] with
    | none => rw [h1, h2] at h; cases h
    | some rp =>
      cases h3 : crossQ 300 (escL (escL (txtL la lb lc ld))) [] with
      | none => rw [h1, h2, h3] at h; cases h
      | some ra =>
        rw [h1, h2, h3] at h
        simp only [Bool.and_eq_true, decide_eq_true_eq] at h
        exact ⟨rp, ra, by rw [h.1.1.1.1.1.1], rfl, rfl, h.1.1.1.1.1.2, h.1.1.1.1.2, h.1.1.1.2, h.1.1.2, Nat.le_of_ble_eq_true h.1.2, Nat.le_of_ble_eq_true h.2⟩

end Mine
end
section
open PySem PySem.W PyProof.Rows
namespace Mine
local macro_rules | `(tactic| walk_at $s:str) => `(tactic| k_extra $s)
local macro_rules | `(tactic| walk_at "execs cons") => `(tactic| (refine gen_toks1 ?_; intro tkp htkp))
local macro_rules | `(tactic| walk_at "execs nil") => `(tactic| (refine gen_toks1 ?_; intro tkp htkp))
local macro_rules | `(tactic| k_qdec) => `(tactic| first | (rw [PySem.W.Fast.te17448422675489707002]; decide +kernel) | (rw [PySem.W.Fast.te2458874890965802552]; decide +kernel) | decide +kernel)

theorem six {vs : List Value} {ns : List Int} (hi : IntsAre vs ns) (hl : ns.length = 6) : ∃ a b c d e f ta tb tc td te tf, ns = [a, b, c, d, e, f] ∧ vs = [.int a ta, .int b tb, .int c tc, .int d td, .int e te, .int f tf] := by
  cases hi with
  | nil => simp at hl
  | cons a ta h1 => cases h1 with
    | nil => simp at hl
    | cons b tb h2 => cases h2 with
      | nil => simp at hl
      | cons c tc h3 => cases h3 with
        | nil => simp at hl
        | cons d td h4 => cases h4 with
          | nil => simp at hl
          | cons e te h5 => cases h5 with
            | nil => simp at hl
            | cons f tf h6 => cases h6 with
              | nil => exact ⟨_, _, _, _, _, _, _, _, _, _, _, _, rfl, rfl⟩
              | cons _ _ _ => simp at hl
theorem fm_lo (x : Int) : 0 ≤ Int.fmod x 4 := by rw [Int.fmod_eq_emod_of_nonneg _ (by decide)]; omega
theorem fm_hi (x : Int) : Int.fmod x 4 < 4 := by rw [Int.fmod_eq_emod_of_nonneg _ (by decide)]; omega
theorem div4 {prog : Program} {w : World} {A : Around} {E : Value → Shared → Prop} {s : Shared} {a : Int} {t u : Tok} {Q : Value → Shared → Prop} (hA : A.handled = none) (h0 : 0 ≤ a) (h8 : a < 1000) (h : Q (.float (qF a) s.toks) { s with toks := s.toks + 1 }) : wpAny (model prog w) A (binaryOp .Div (.int a t) (.int 4 u)) Q E s :=
  PySem.Flt.div_ii_fits hA (Nat.lt_of_lt_of_le (show a.natAbs < 1000 by omega) (by decide +kernel)) (fun h => absurd h (by decide)) (fun _ _ => h)
theorem div4a {prog : Program} {w : World} {A : Around} {E : Value → Shared → Prop} {s : Shared} {x : Int} {t u : Tok} {Q : Value → Shared → Prop} (hA : A.handled = none) (h : Q (.float (qF (Int.fmod x 4)) s.toks) { s with toks := s.toks + 1 }) : wpAny (model prog w) A (binaryOp .Div (.int (Int.fmod x 4) t) (.int 4 u)) Q E s :=
  div4 hA (fm_lo x) (by have := fm_hi x; omega) h
theorem div4b {prog : Program} {w : World} {A : Around} {E : Value → Shared → Prop} {s : Shared} {x : Int} {t u : Tok} {Q : Value → Shared → Prop} (hA : A.handled = none) (h : Q (.float (qF (1 + Int.fmod x 4)) s.toks) { s with toks := s.toks + 1 }) : wpAny (model prog w) A (binaryOp .Div (.int (1 + Int.fmod x 4) t) (.int 4 u)) Q E s :=
  div4 hA (by have := fm_lo x; omega) (by have := fm_hi x; omega) h
theorem fourI {vs : List Value} {a b c d : Int} (hi : IntsAre vs [a, b, c, d]) : ∃ ta tb tc td, vs = [.int a ta, .int b tb, .int c tc, .int d td] := by
  cases hi with
  | cons a ta h1 => cases h1 with
    | cons b tb h2 => cases h2 with
      | cons c tc h3 => cases h3 with
        | cons d td h4 => cases h4 with
          | nil => exact ⟨_, _, _, _, rfl⟩
set_option maxRecDepth 100000 in
set_option maxHeartbeats 8000000 in
theorem law_holds : PySem.Challenge.rw_ty0033_01.Holds := Mine.hd.hd_of (by rfl) (by rfl) (by rfl) (by w_strict (
  k_go0
  all_goals try k_fold
  (rename IntsAre _ _ => hI); (rename (¬ (63 : Int) < _) => hlen0); (rename Heap.IsList _ _ _ => hL)
  have hlen63 := hlen0
  rw [Int.not_lt] at hlen63
  replace hlen63 := Int.ofNat_le.mp hlen63

  k_with_none
  k_with "call ref" => (
    k_dflt (refine' ctrL_use (c_heaps _ _ _ _ _ _ _ _ hI hlen63) ?k1 ?k2 ?k3 ?k4 ?k5 ?kK ?cdep ?cuni ?hsl ?_; (case k1 => k_asm); (case k2 => k_asm); (case k3 => k_asm); (case k4 => k_asm); (case k5 => k_asm); (case kK => exact rfl); (case cdep => decide +kernel); (case cuni => decide +kernel); (case hsl => assumption))
    intro r9 tl9 h9 tk9 F9 N9 lt9 R9
    (obtain ⟨y9, vs9, ns9, n9, e9, e8, i9, l9⟩ := R9; subst e9; subst e8; (try simp only [List.cons_append, List.nil_append] at N9); (have l19 := lt_new lt9); clear lt9; (try k_lt l19))
    (try dsimp only)
    (try k_fold))
  k_with "exec Assign cons ListComp" => refine hold ?_
  k_steps
  obtain ⟨a0, b0, c0, d0, e0, f0, ta0, tb0, tc0, td0, te0, tf0, hns9, hvs9⟩ := six i9 l9
  subst hns9
  subst hvs9
  refine hold_out ?_
  k_with_none
  k_with "CompSrc" => refine hold ?_
  (rename Fr _ _ _ _ => lF'); (rename News _ _ _ _ => lN')
  refine LCg.Assign_ListComp_U (F₀ := lF') (by rfl) (by with_unfolding_all rfl) (by with_unfolding_all rfl) (by decide) (by rfl) (by decide) (by rfl) (by rfl) (by rfl) ?_
  k_steps
  refine hold_out ?_
  (rename Fr _ _ _ _ => lF2); (rename News _ _ _ _ => lN2)
  refine' LCg.CompSrc.ledger rfl lF2 lN2 (.head _) ?ksz (fun g => ?_)
  case ksz => (rw [sizeLine_eq]; exact Nat.le_of_ble_eq_true rfl)
  refine' int_rest (vs := [.int a0 ta0, .int b0 tb0, .int c0 tc0, .int d0 td0]) letN (.cons _ _ (.cons _ _ (.cons _ _ (.cons _ _ .nil)))) (.inr ⟨_, .head _, rfl, _, rfl⟩) (fun k1 t1 I1 oI1 C1 oC1 D1 m1 ys1 h1 tk1 E1 hk1 hC1 hx1 F1 N1 off1 ne1 => ?kturn) (fun ys1 hys1 => ?kfin)
  case kturn =>
    k_with_none
    k_with "subscriptTail" => refine hold ?_
    have off0 := off1
    (try (simp only [LCg.Off3, and_true] at off1))
    k_steps
    refine hold_out ?_
    (rename Fr _ _ _ _ => lF3); (rename News _ _ _ _ => lN3)
    refine' my_item (News.isList lN3 (.head _)) ?ki0 ?ki1 (Classical.choose_spec (let_at k1 _ _ _ _)) ?_
    case ki0 => (rw [Int.fmod_eq_emod_of_nonneg _ (by decide)]; omega)
    case ki1 => (rw [Int.fmod_eq_emod_of_nonneg _ (by decide)]; omega)
    exact LCg.CompEnd.intro lF3 lN3 _ (fun p hp => .tail _ hp) off0 trivial ⟨rfl, _, rfl⟩
  case kfin =>
    intro D2 h2 tk2 F2 N2 o2
    obtain ⟨tla, tlb, tlc, tld, hys2⟩ := fourI hys1
    subst hys2
    clear hys1 i9 l9
    have hla := letN_lt a0
    have hlb := letN_lt b0
    have hlc := letN_lt c0
    have hld := letN_lt d0
    generalize letN a0 = la at *
    generalize letN b0 = lb at *
    generalize letN c0 = lc at *
    generalize letN d0 = ld at *
    obtain ⟨z2, F3⟩ := fr_norm [(Str.ofString "heaps", .ref y9), (Str.ofString "letters", .ref D2)] F2 (List.forall_mem_cons.mpr ⟨rfl, List.forall_mem_cons.mpr ⟨rfl, List.forall_mem_nil _⟩⟩)
    have N3 := kst_newsOf (l' := (D2, listOf #[.int la tla, .int lb tlb, .int lc tlc, .int ld tld] 4) :: (y9, listOf #[.int a0 ta0, .int b0 tb0, .int c0 tc0, .int d0 td0, .int e0 te0, .int f0 tf0] n9) :: [(_, _)]) N2 (by
      intro p hp
      rcases List.mem_cons.mp hp with rfl | hp
      · exact .head _
      · exact .tail _ (.tail _ hp))
    clear F2 N2
    simp only [LCg.Off1, and_true] at o2
    dsimp only [kstB] at F3
    have ga : 0 < la ∧ la < 256 := by rcases hla with h | h | h | h <;> omega
    have gb : 0 < lb ∧ lb < 256 := by rcases hlb with h | h | h | h <;> omega
    have gc : 0 < lc ∧ lc < 256 := by rcases hlc with h | h | h | h <;> omega
    have gd : 0 < ld ∧ ld < 256 := by rcases hld with h | h | h | h <;> omega
    obtain ⟨rp, ra, pc1, pc2, pc3, ps2, ps3, pk1, pk2, pl2, pl3⟩ := law_plain hla hlb hlc hld
    have hc1 : crossR 300 (txt la lb lc ld).cps.toList [] = some [la, lc, ld, lb, lc, ld] := pc1
    have hc2 : crossR 300 (esc (txt la lb lc ld)).cps.toList [] = some rp := pc2
    have hc3 : crossR 300 (esc (esc (txt la lb lc ld))).cps.toList [] = some ra := pc3
    clear pc1 pc2 pc3
    k_with_none
    k_with "subscriptTail" => ((with_reducible show wpAny _ _ (subscriptTail _ _ (Value.ref _) (Value.int _ _)) _ _ _); k_dflt (first
      | (refine' my_item0 ?k1 ?k2 ?_ ?k3; (case k2 => decide); (case k1 => exact News.isList (by k_asm) (by k_mem)); (case k3 => with_unfolding_all rfl))
      | (refine' my_item1 ?k1 ?k2 ?_ ?k3; (case k2 => decide); (case k1 => exact News.isList (by k_asm) (by k_mem)); (case k3 => with_unfolding_all rfl))
      | (refine' my_item2 ?k1 ?k2 ?_ ?k3; (case k2 => decide); (case k1 => exact News.isList (by k_asm) (by k_mem)); (case k3 => with_unfolding_all rfl))
      | (refine' my_item3 ?k1 ?k2 ?_ ?k3; (case k2 => decide); (case k1 => exact News.isList (by k_asm) (by k_mem)); (case k3 => with_unfolding_all rfl))
      | (refine' my_item4 ?k1 ?k2 ?_ ?k3; (case k2 => decide); (case k1 => exact News.isList (by k_asm) (by k_mem)); (case k3 => with_unfolding_all rfl))
      | (refine' my_item5 ?k1 ?k2 ?_ ?k3; (case k2 => decide); (case k1 => exact News.isList (by k_asm) (by k_mem)); (case k3 => with_unfolding_all rfl))))
    k_with "call ref" => (
      k_dflt (refine' ctr_use (c_derived _ _ _ _ _ _ _ _ la lb lc ld _ _ _ _ _ _ _ _ _ ga gb gc gd ?z1 ?z2 ?z3) ?k1 ?k2 ?k3 ?k4 ?k5 ?kK ?cdep ?cuni ?ctok ?_; (case k1 => k_asm); (case k2 => k_asm); (case k3 => k_asm); (case k4 => k_asm); (case k5 => k_asm); (case kK => exact rfl); (case cdep => decide +kernel); (case cuni => decide +kernel); (case ctok => first | assumption | exact Nat.succ_pos _ | (dsimp only; omega)); (case z1 => k_mem); (case z2 => k_mem); (case z3 => k_mem))
      intro r9 tl9 h9 tk9 F9 N9 lt9 R9 htk9
      (obtain ⟨y9, vs9, n9, e9, e8, i9⟩ := R9; subst e9; subst e8; (try simp only [List.cons_append, List.nil_append] at N9); (have l19 := lt_new lt9); clear lt9; (try k_lt l19))
      (try dsimp only)
      (try k_fold))
    k_with "exec Assign cons ListComp" => refine hold ?_
    k_with "eval ListComp" => refine hold ?_
    k_steps
    refine hold_out ?_
    (rename Fr _ _ _ _ => lF4); (rename (Obj.IsDictOf _ _ _) => ndD); (rename (PyProof.V.FlatPairs _ _ _) => ndF); (rename ((_ == sysModules) = false) => ndL)
    k_with_none
    k_with "CompSrc" => refine hold ?_
    refine LCg.ListComp_U (F₀ := lF4) (by with_unfolding_all rfl) (by decide) (by rfl) (by decide) (by rfl) ?_
    k_steps
    refine hold_out ?_
    (rename Fr _ _ _ _ => lF5); (rename News _ _ _ _ => lN5); (rename IntsAre vs9 _ => i9)
    refine' LCg.CompSrc.ledger rfl lF5 lN5 (by k_mem) ?ksz2 (fun g => ?_)
    case ksz2 => (rw [List.size_toArray, IntsAre.length i9, sizeLine_eq]; exact Nat.le_of_ble_eq_true rfl)
    refine' istr_rest (fun k => ⟨#[sgC k]⟩) i9 (.inr ⟨_, (by k_mem), rfl, _, rfl⟩) (fun k1 t1 I1 oI1 C1 oC1 D1 m1 ys1 h1 tk1 E1 hk1 hC1 hx1 F1 N1 off1 ne1 => ?kturn2) (fun ys3 hys3 => ?kfin2)
    case kturn2 =>
      k_with_none
      k_with "subscriptTail" => refine hold ?_
      have off0 := off1
      (try (simp only [LCg.Off3, and_true] at off1))
      k_steps
      refine hold_out ?_
      have hk2 : Lt4 k1 := by
        simp only [List.mem_cons, List.not_mem_nil, or_false] at hk1
        rcases hk1 with h | h | h | h | h | h <;> (rw [h]; assumption)
      refine item_intTab (D := SGD) (TabAt.ofNews N1 (by k_mem) ndL ndD ndF) (sg_look hk2) (fun v6 hv6 => ?_)
      obtain ⟨t6, hv7⟩ := PyProof.V.Flat.str_inv hv6
      subst hv7
      exact LCg.CompEnd.intro F1 N1 _ (fun p hp => hp) off0 trivial ⟨rfl, _, rfl⟩
    case kfin2 =>
      k_with_none
      k_with "call builtin:str.join" => refine hold ?_
      k_steps
      refine hold_out ?_
      (rename News _ _ _ _ => nE)
      refine join_list (News.isList nE (.head _)) hys3 ?kok (fun t8 k8 => ?_)
      case kok => (have e9 : (Str.ofString "").length = 0 := by decide +kernel); (rw [e9]; simp [Str.length])
      rw [txt_join]
      have N6 := kst_newsOf (l' := [(_, listOf vs9.toArray _), (_, listOf #[.ref _, .ref _] _), (_, listOf #[.int lc _, .int ld _] _), (_, listOf #[.int la _, .int 257 _, .int lb _, .int 257 _] _), (_, listOf #[.int a0 ta0, .int b0 tb0, .int c0 tc0, .int d0 td0, .int e0 te0, .int f0 tf0] _)]) nE (List.forall_mem_cons.mpr ⟨(.tail _ (.tail _ (.tail _ (.head _)))), List.forall_mem_cons.mpr ⟨(.tail _ (.tail _ (.tail _ (.tail _ (.head _))))), List.forall_mem_cons.mpr ⟨(.tail _ (.tail _ (.tail _ (.tail _ (.tail _ (.head _)))))), List.forall_mem_cons.mpr ⟨(.tail _ (.tail _ (.tail _ (.tail _ (.tail _ (.tail _ (.head _))))))), List.forall_mem_cons.mpr ⟨(.tail _ (.tail _ (.tail _ (.tail _ (.tail _ (.tail _ (.tail _ (.tail _ (.head _))))))))), List.forall_mem_nil _⟩⟩⟩⟩⟩)
      clear nE lN5 hys3 ndL ndD ndF lF5
      have hl1 : (txt la lb lc ld).length ≤ 200 := Nat.le_of_ble_eq_true rfl
      have hl2 : (esc (txt la lb lc ld)).length ≤ 200 := Nat.le_trans (esc_len _) (Nat.le_of_ble_eq_true rfl)
      have hl3 : (esc (esc (txt la lb lc ld))).length ≤ 200 := Nat.le_trans (esc_len _) (Nat.le_trans (Nat.mul_le_mul_left 5 (esc_len _)) (Nat.le_of_ble_eq_true rfl))
      have hp1 := txt_plain hla hlb hlc hld
      have hp2 := hp1.esc
      k_with_none
      k_with "call ref" => (
        k_dflt (refine' ctr_use (c_written _ _ _ _ _ _ _ _ _ ?z1 ?z2) ?k1 ?k2 ?k3 ?k4 ?k5 ?kK ?cdep ?cuni ?ctok ?_; (case k1 => k_asm); (case k2 => k_asm); (case k3 => k_asm); (case k4 => k_asm); (case k5 => k_asm); (case kK => exact rfl); (case cdep => decide +kernel); (case cuni => decide +kernel); (case ctok => first | assumption | exact Nat.succ_pos _ | (dsimp only; omega)); (case z1 => first | exact hl1 | exact hl2); (case z2 => first | exact hp1 | exact hp2))
        intro r9 tl9 h9 tk9 F9 N9 lt9 R9 htk9
        (obtain ⟨e9, t9, e8⟩ := R9; subst e9; subst e8; clear lt9; (try simp only [List.nil_append] at N9))
        (try dsimp only)
        (try k_fold))
      k_with "call ref" => (
        k_dflt (refine' ctr0_use (c_spelled _ _ _ _ _ _ _ ?z1) ?k1 ?k2 ?k3 ?k4 ?k5 ?kK ?cdep ?cuni ?_; (case k1 => k_asm); (case k2 => k_asm); (case k3 => k_asm); (case k4 => k_asm); (case k5 => k_asm); (case kK => exact rfl); (case cdep => decide +kernel); (case cuni => decide +kernel); (case z1 => first | exact hl1 | exact hl2))
        intro r9 tl9 h9 tk9 F9 N9 lt9 R9
        (obtain ⟨e9, t9, e8⟩ := R9; subst e9; subst e8; clear lt9; (try simp only [List.nil_append] at N9))
        (try dsimp only)
        (try k_fold))
      k_with "call ref" => (
        k_dflt (refine' ctr0_use (c_cross _ _ _ _ _ _ _ _ ?z1 ?z2) ?k1 ?k2 ?k3 ?k4 ?k5 ?kK ?cdep ?cuni ?_; (case k1 => k_asm); (case k2 => k_asm); (case k3 => k_asm); (case k4 => k_asm); (case k5 => k_asm); (case kK => exact rfl); (case cdep => decide +kernel); (case cuni => decide +kernel); (case z2 => first | exact hc1 | exact hc2 | exact hc3); (case z1 => first | exact hl1 | exact hl2 | exact hl3))
        intro r9 tl9 h9 tk9 F9 N9 lt9 R9
        (obtain ⟨y9, vs9, n9, e9, e8, i9⟩ := R9; subst e9; subst e8; (try simp only [List.cons_append, List.nil_append] at N9); (have l19 := lt_new lt9); clear lt9; (try k_lt l19))
        (try dsimp only)
        (try k_fold))
      k_with "call ref" => (
        k_dflt (refine' ctr0_use (c_struck _ _ _ _ _ _ _ _ _ ?z1 ?z2 ?z3) ?k1 ?k2 ?k3 ?k4 ?k5 ?kK ?cdep ?cuni ?_; (case k1 => k_asm); (case k2 => k_asm); (case k3 => k_asm); (case k4 => k_asm); (case k5 => k_asm); (case kK => exact rfl); (case cdep => decide +kernel); (case cuni => decide +kernel); (case z3 => k_mem); (case z1 => first | assumption | exact IntsAre.append (IntsAre.append (.cons _ _ .nil) (by assumption)) (.cons _ _ .nil)); (case z2 => first | assumption | exact Nat.le_of_ble_eq_true rfl))
        intro r9 tl9 h9 tk9 F9 N9 lt9 R9
        (obtain ⟨y9, vs9, n9, e9, e8, i9⟩ := R9; subst e9; subst e8; (try simp only [List.cons_append, List.nil_append] at N9); (have l19 := lt_new lt9); clear lt9; (try k_lt l19))
        (try dsimp only)
        (try k_fold))
      k_with "binaryOp Div int int" => ((first | with_reducible refine' div4a ?hA ?_ | with_reducible refine' div4b ?hA ?_); (case hA => k_dflt (exact rfl)))
      k_with "call ref" => ((with_reducible show wpAny _ _ (call (Value.ref 127) _) _ _ _); refine hold ?_)
      k_steps
      refine hold_out ?_
      refine' ctr0_use (c_mir _ _ _ _ _ _ _ _ _ _ _ ?z1 ?z2 ?z3) ?k1 ?k2 ?k3 ?k4 ?k5 ?kK ?cdep ?cuni ?_
      case k1 => k_asm
      case k2 => k_asm
      case k3 => k_asm
      case k4 => k_asm
      case k5 => k_asm
      case kK => exact rfl
      case cdep => decide +kernel
      case cuni => decide +kernel
      case z1 => exact Nat.succ_pos _
      case z2 => exact Nat.succ_pos _
      case z3 => exact cell_all _ _ _ (fm_lo _) (fm_hi _) (fm_lo _) (fm_hi _) (fm_lo _) (fm_hi _)
      intro r9 tl9 h9 tk9 F9 N9 lt9 R9
      obtain ⟨ml, e9, hm9⟩ := R9
      subst e9
      clear lt9
      obtain ⟨q0, q1, q2, q3, v0, v1, v2, v3, nm, nm0, nm1, nm2, nm3, hmm, hm0, hm1, hm2, hm3, im0, im1, im2, im3⟩ := hm9.at_
      have jm0 : IntsAre v0 [0, 2, 0, 2] := im0
      obtain ⟨xa0, xb0, xc0, xd0, ev0⟩ := fourI jm0
      subst ev0
      have jm1 : IntsAre v1 [3, 1, 3, 1] := im1
      obtain ⟨xa1, xb1, xc1, xd1, ev1⟩ := fourI jm1
      subst ev1
      have jm2 : IntsAre v2 [2, 0, 2, 0] := im2
      obtain ⟨xa2, xb2, xc2, xd2, ev2⟩ := fourI jm2
      subst ev2
      have jm3 : IntsAre v3 [1, 3, 1, 3] := im3
      obtain ⟨xa3, xb3, xc3, xd3, ev3⟩ := fourI jm3
      subst ev3
      have N10 := kst_newsOf (l' := [(ml, listOf #[.ref q0, .ref q1, .ref q2, .ref q3] nm), (q0, listOf #[.int 0 xa0, .int 2 xb0, .int 0 xc0, .int 2 xd0] nm0), (q1, listOf #[.int 3 xa1, .int 1 xb1, .int 3 xc1, .int 1 xd1] nm1), (q2, listOf #[.int 2 xa2, .int 0 xb2, .int 2 xc2, .int 0 xd2] nm2), (q3, listOf #[.int 1 xa3, .int 3 xb3, .int 1 xc3, .int 3 xd3] nm3), (_, listOf (List.toArray _) _), (_, listOf (List.toArray _) _), (_, listOf #[.ref _, .ref _] _), (_, listOf #[.int lc _, .int ld _] _), (_, listOf #[.int la _, .int 257 _, .int lb _, .int 257 _] _)]) N9 (List.forall_mem_cons.mpr ⟨List.mem_append_left _ hmm, List.forall_mem_cons.mpr ⟨List.mem_append_left _ hm0, List.forall_mem_cons.mpr ⟨List.mem_append_left _ hm1, List.forall_mem_cons.mpr ⟨List.mem_append_left _ hm2, List.forall_mem_cons.mpr ⟨List.mem_append_left _ hm3, List.forall_mem_cons.mpr ⟨List.mem_append_right _ (.tail _ (.tail _ (.tail _ (.tail _ (.tail _ (.tail _ (.tail _ (.tail _ (.tail _ (.head _)))))))))), List.forall_mem_cons.mpr ⟨List.mem_append_right _ (.tail _ (.tail _ (.tail _ (.tail _ (.tail _ (.tail _ (.tail _ (.tail _ (.tail _ (.tail _ (.head _))))))))))), List.forall_mem_cons.mpr ⟨List.mem_append_right _ (.tail _ (.tail _ (.tail _ (.tail _ (.tail _ (.tail _ (.tail _ (.tail _ (.tail _ (.tail _ (.tail _ (.head _)))))))))))), List.forall_mem_cons.mpr ⟨List.mem_append_right _ (.tail _ (.tail _ (.tail _ (.tail _ (.tail _ (.tail _ (.tail _ (.tail _ (.tail _ (.tail _ (.tail _ (.tail _ (.head _))))))))))))), List.forall_mem_cons.mpr ⟨List.mem_append_right _ (.tail _ (.tail _ (.tail _ (.tail _ (.tail _ (.tail _ (.tail _ (.tail _ (.tail _ (.tail _ (.tail _ (.tail _ (.tail _ (.head _)))))))))))))), List.forall_mem_nil _⟩⟩⟩⟩⟩⟩⟩⟩⟩⟩)
      clear N9 hm9
      k_with_none
      k_with "call ref" => (
        k_dflt (refine' ctr0_use (c_due _ _ _ _ _ _ _ _ la lb lc ld _ _ _ _ _ _ _ _ _ hla hlb hlc hld ?z1 ?z2 ?z3) ?k1 ?k2 ?k3 ?k4 ?k5 ?kK ?cdep ?cuni ?_; (case k1 => k_asm); (case k2 => k_asm); (case k3 => k_asm); (case k4 => k_asm); (case k5 => k_asm); (case kK => exact rfl); (case cdep => decide +kernel); (case cuni => decide +kernel); (case z1 => k_mem); (case z2 => k_mem); (case z3 => k_mem))
        intro r9 tl9 h9 tk9 F9 N9 lt9 R9
        (obtain ⟨e9, t9, e8⟩ := R9; subst e9; subst e8; clear lt9; (try simp only [List.nil_append] at N9))
        (try dsimp only)
        (try k_fold))
      k_with "call ref" => (
        k_dflt (refine' ctr0_use (c_kept _ _ _ _ _ _ _ _ _ _ ?z1 ?z2 ?z3 ?z4) ?k1 ?k2 ?k3 ?k4 ?k5 ?kK ?cdep ?cuni ?_; (case k1 => k_asm); (case k2 => k_asm); (case k3 => k_asm); (case k4 => k_asm); (case k5 => k_asm); (case kK => exact rfl); (case cdep => decide +kernel); (case cuni => decide +kernel); (case z3 => k_mem); (case z1 => assumption); (case z2 => first | assumption | exact Nat.le_of_ble_eq_true rfl); (case z4 => exact ⟨⟨q0, q1, q2, q3, _, _, _, _, nm, nm0, nm1, nm2, nm3, by k_mem, by k_mem, by k_mem, by k_mem, by k_mem, im0, im1, im2, im3⟩⟩))
        intro r9 tl9 h9 tk9 F9 N9 lt9 R9
        (obtain ⟨e9, t9, e8⟩ := R9; subst e9; subst e8; clear lt9; (try simp only [List.nil_append] at N9))
        (try dsimp only)
        (try k_fold))
      k_steps
      ))
end Mine
end
theorem PySem.Challenge.cw_ty0033_01_holds : PySem.Challenge.rw_ty0033_01.Holds := by
  exact Mine.law_holds
