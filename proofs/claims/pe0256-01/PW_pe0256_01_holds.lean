import PyProof.Rows.All
import Wide.All
import OpenK.AllK
import Wide.FinOn
import PySem.Challenge.RW_pe0256_01
set_option Elab.async false
set_option compiler.extract_closed false
section
open PySem PySem.W PyProof.Rows
set_option maxRecDepth 100000
set_option maxHeartbeats 8000000
set_option linter.unusedVariables false
namespace Mine.KO
noncomputable def fdef : List Stmt → Option (Arguments × List Stmt × Scope)
  | .FunctionDef _ a b _ _ _ c _ _ _ :: _ => some (a, b, c)
  | _ => none
noncomputable def cdef : List Stmt → List Stmt
  | .ClassDef _ _ _ b .. :: _ => b
  | _ => []
noncomputable def pmain : List Stmt := PySem.Challenge.rw_pe0256_01.prog.main.body
noncomputable def K3 (P : Params) : Obj :=
  { cls := .type "dict", data := .dict #[⟨PyData.keyHash P "__name__", .str "__name__" 165, .str "law_pe0256_01" 775 ⟩, ⟨PyData.keyHash P "__doc__", .str "__doc__" 166, .none ⟩, ⟨PyData.keyHash P "__package__", .str "__package__" 167, .none ⟩, ⟨PyData.keyHash P "__loader__", .str "__loader__" 168, .builtin "__main__.__loader__#opaque" ⟩, ⟨PyData.keyHash P "__spec__", .str "__spec__" 169, .none ⟩, ⟨PyData.keyHash P "__annotations__", .str "__annotations__" 170, .ref 6 ⟩, ⟨PyData.keyHash P "__builtins__", .str "__builtins__" 171, .ref 4 ⟩, ⟨PyData.keyHash P "__file__", .str "__file__" 173, .str "/claim/cut.py" 172 ⟩, ⟨PyData.keyHash P "__cached__", .str "__cached__" 174, .none ⟩, ⟨PyData.keyHash P "_sre", .str "_sre" 275, .ref 12 ⟩, ⟨PyData.keyHash P "_wall", .str "_wall" 288, .ref 38 ⟩, ⟨PyData.keyHash P "ENDMARKER", .str "ENDMARKER" 292, .int 0 291 ⟩, ⟨PyData.keyHash P "LPAR", .str "LPAR" 294, .int 7 293 ⟩, ⟨PyData.keyHash P "RPAR", .str "RPAR" 296, .int 8 295 ⟩, ⟨PyData.keyHash P "LSQB", .str "LSQB" 298, .int 9 297 ⟩, ⟨PyData.keyHash P "RSQB", .str "RSQB" 300, .int 10 299 ⟩, ⟨PyData.keyHash P "COLON", .str "COLON" 302, .int 11 301 ⟩, ⟨PyData.keyHash P "COMMA", .str "COMMA" 304, .int 12 303 ⟩, ⟨PyData.keyHash P "SEMI", .str "SEMI" 306, .int 13 305 ⟩, ⟨PyData.keyHash P "PLUS", .str "PLUS" 308, .int 14 307 ⟩, ⟨PyData.keyHash P "MINUS", .str "MINUS" 310, .int 15 309 ⟩, ⟨PyData.keyHash P "STAR", .str "STAR" 312, .int 16 311 ⟩, ⟨PyData.keyHash P "SLASH", .str "SLASH" 314, .int 17 313 ⟩, ⟨PyData.keyHash P "VBAR", .str "VBAR" 316, .int 18 315 ⟩, ⟨PyData.keyHash P "AMPER", .str "AMPER" 318, .int 19 317 ⟩, ⟨PyData.keyHash P "LESS", .str "LESS" 320, .int 20 319 ⟩, ⟨PyData.keyHash P "GREATER", .str "GREATER" 322, .int 21 321 ⟩, ⟨PyData.keyHash P "EQUAL", .str "EQUAL" 324, .int 22 323 ⟩, ⟨PyData.keyHash P "DOT", .str "DOT" 326, .int 23 325 ⟩, ⟨PyData.keyHash P "PERCENT", .str "PERCENT" 328, .int 24 327 ⟩, ⟨PyData.keyHash P "LBRACE", .str "LBRACE" 330, .int 25 329 ⟩, ⟨PyData.keyHash P "RBRACE", .str "RBRACE" 332, .int 26 331 ⟩, ⟨PyData.keyHash P "EQEQUAL", .str "EQEQUAL" 334, .int 27 333 ⟩, ⟨PyData.keyHash P "NOTEQUAL", .str "NOTEQUAL" 336, .int 28 335 ⟩, ⟨PyData.keyHash P "LESSEQUAL", .str "LESSEQUAL" 338, .int 29 337 ⟩, ⟨PyData.keyHash P "GREATEREQUAL", .str "GREATEREQUAL" 340, .int 30 339 ⟩, ⟨PyData.keyHash P "TILDE", .str "TILDE" 342, .int 31 341 ⟩, ⟨PyData.keyHash P "CIRCUMFLEX", .str "CIRCUMFLEX" 344, .int 32 343 ⟩, ⟨PyData.keyHash P "LEFTSHIFT", .str "LEFTSHIFT" 346, .int 33 345 ⟩, ⟨PyData.keyHash P "RIGHTSHIFT", .str "RIGHTSHIFT" 348, .int 34 347 ⟩, ⟨PyData.keyHash P "DOUBLESTAR", .str "DOUBLESTAR" 350, .int 35 349 ⟩, ⟨PyData.keyHash P "PLUSEQUAL", .str "PLUSEQUAL" 352, .int 36 351 ⟩, ⟨PyData.keyHash P "MINEQUAL", .str "MINEQUAL" 354, .int 37 353 ⟩, ⟨PyData.keyHash P "STAREQUAL", .str "STAREQUAL" 356, .int 38 355 ⟩, ⟨PyData.keyHash P "SLASHEQUAL", .str "SLASHEQUAL" 358, .int 39 357 ⟩, ⟨PyData.keyHash P "PERCENTEQUAL", .str "PERCENTEQUAL" 360, .int 40 359 ⟩, ⟨PyData.keyHash P "AMPEREQUAL", .str "AMPEREQUAL" 362, .int 41 361 ⟩, ⟨PyData.keyHash P "VBAREQUAL", .str "VBAREQUAL" 364, .int 42 363 ⟩, ⟨PyData.keyHash P "CIRCUMFLEXEQUAL", .str "CIRCUMFLEXEQUAL" 366, .int 43 365 ⟩, ⟨PyData.keyHash P "LEFTSHIFTEQUAL", .str "LEFTSHIFTEQUAL" 368, .int 44 367 ⟩, ⟨PyData.keyHash P "RIGHTSHIFTEQUAL", .str "RIGHTSHIFTEQUAL" 370, .int 45 369 ⟩, ⟨PyData.keyHash P "DOUBLESTAREQUAL", .str "DOUBLESTAREQUAL" 372, .int 46 371 ⟩, ⟨PyData.keyHash P "DOUBLESLASH", .str "DOUBLESLASH" 374, .int 47 373 ⟩, ⟨PyData.keyHash P "DOUBLESLASHEQUAL", .str "DOUBLESLASHEQUAL" 376, .int 48 375 ⟩, ⟨PyData.keyHash P "AT", .str "AT" 378, .int 49 377 ⟩, ⟨PyData.keyHash P "ATEQUAL", .str "ATEQUAL" 380, .int 50 379 ⟩, ⟨PyData.keyHash P "RARROW", .str "RARROW" 382, .int 51 381 ⟩, ⟨PyData.keyHash P "ELLIPSIS", .str "ELLIPSIS" 384, .int 52 383 ⟩, ⟨PyData.keyHash P "COLONEQUAL", .str "COLONEQUAL" 386, .int 53 385 ⟩, ⟨PyData.keyHash P "EXCLAMATION", .str "EXCLAMATION" 388, .int 54 387 ⟩, ⟨PyData.keyHash P "NT_OFFSET", .str "NT_OFFSET" 390, .int 256 389 ⟩, ⟨PyData.keyHash P "EXACT_TOKEN_TYPES", .str "EXACT_TOKEN_TYPES" 487, .ref 39 ⟩, ⟨PyData.keyHash P "ISTERMINAL", .str "ISTERMINAL" 494, .ref 48 ⟩, ⟨PyData.keyHash P "ISNONTERMINAL", .str "ISNONTERMINAL" 501, .ref 55 ⟩, ⟨PyData.keyHash P "ISEOF", .str "ISEOF" 508, .ref 62 ⟩, ⟨PyData.keyHash P "tspecials", .str "tspecials" 544, .ref 67 ⟩, ⟨PyData.keyHash P "_name_disallowed_re", .str "_name_disallowed_re" 570, .ref 72 ⟩, ⟨PyData.keyHash P "_value_disallowed_re", .str "_value_disallowed_re" 604, .ref 77 ⟩, ⟨PyData.keyHash P "_formatparam", .str "_formatparam" 614, .ref 85 ⟩, ⟨PyData.keyHash P "Headers", .str "Headers" 774, .ref 208 ⟩, ⟨PyData.keyHash P "_law_signs", .str "_law_signs" 782, .ref 219 ⟩, ⟨PyData.keyHash P "_law_calls", .str "_law_calls" 788, .ref 224 ⟩, ⟨PyData.keyHash P "_law_told", .str "_law_told" 801, .ref 231 ⟩, ⟨PyData.keyHash P "_law_table", .str "_law_table" 813, .ref 238 ⟩, ⟨PyData.keyHash P "_law_tree", .str "_law_tree" 826, .ref 245 ⟩, ⟨PyData.keyHash P "_law_write", .str "_law_write" 844, .ref 252 ⟩, ⟨PyData.keyHash P "_law_written", .str "_law_written" 854, .ref 259 ⟩, ⟨PyData.keyHash P "_law_row", .str "_law_row" 864, .ref 266 ⟩, ⟨PyData.keyHash P "_law_levels", .str "_law_levels" 873, .ref 273 ⟩, ⟨PyData.keyHash P "_law_done", .str "_law_done" 885, .ref 280 ⟩, ⟨PyData.keyHash P "_law_joined", .str "_law_joined" 898, .ref 287 ⟩, ⟨PyData.keyHash P "_law_full", .str "_law_full" 905, .ref 294 ⟩, ⟨PyData.keyHash P "_law_read", .str "_law_read" 913, .ref 301 ⟩, ⟨PyData.keyHash P "law", .str "law" 919, .ref 306 ⟩] 84 }
noncomputable def K39 (P : Params) : Obj :=
  { cls := .type "dict", data := .dict #[⟨PyData.keyHash P "!", .str "!" 391, .int 54 387 ⟩, ⟨PyData.keyHash P "!=", .str "!=" 393, .int 28 335 ⟩, ⟨PyData.keyHash P "%", .str "%" 395, .int 24 327 ⟩, ⟨PyData.keyHash P "%=", .str "%=" 397, .int 40 359 ⟩, ⟨PyData.keyHash P "&", .str "&" 399, .int 19 317 ⟩, ⟨PyData.keyHash P "&=", .str "&=" 401, .int 41 361 ⟩, ⟨PyData.keyHash P "(", .str "(" 403, .int 7 293 ⟩, ⟨PyData.keyHash P ")", .str ")" 405, .int 8 295 ⟩, ⟨PyData.keyHash P "*", .str "*" 407, .int 16 311 ⟩, ⟨PyData.keyHash P "**", .str "**" 409, .int 35 349 ⟩, ⟨PyData.keyHash P "**=", .str "**=" 411, .int 46 371 ⟩, ⟨PyData.keyHash P "*=", .str "*=" 413, .int 38 355 ⟩, ⟨PyData.keyHash P "+", .str "+" 415, .int 14 307 ⟩, ⟨PyData.keyHash P "+=", .str "+=" 417, .int 36 351 ⟩, ⟨PyData.keyHash P ",", .str "," 419, .int 12 303 ⟩, ⟨PyData.keyHash P "-", .str "-" 421, .int 15 309 ⟩, ⟨PyData.keyHash P "-=", .str "-=" 423, .int 37 353 ⟩, ⟨PyData.keyHash P "->", .str "->" 425, .int 51 381 ⟩, ⟨PyData.keyHash P ".", .str "." 427, .int 23 325 ⟩, ⟨PyData.keyHash P "...", .str "..." 429, .int 52 383 ⟩, ⟨PyData.keyHash P "/", .str "/" 431, .int 17 313 ⟩, ⟨PyData.keyHash P "//", .str "//" 433, .int 47 373 ⟩, ⟨PyData.keyHash P "//=", .str "//=" 435, .int 48 375 ⟩, ⟨PyData.keyHash P "/=", .str "/=" 437, .int 39 357 ⟩, ⟨PyData.keyHash P ":", .str ":" 439, .int 11 301 ⟩, ⟨PyData.keyHash P ":=", .str ":=" 441, .int 53 385 ⟩, ⟨PyData.keyHash P ";", .str ";" 443, .int 13 305 ⟩, ⟨PyData.keyHash P "<", .str "<" 445, .int 20 319 ⟩, ⟨PyData.keyHash P "<<", .str "<<" 447, .int 33 345 ⟩, ⟨PyData.keyHash P "<<=", .str "<<=" 449, .int 44 367 ⟩, ⟨PyData.keyHash P "<=", .str "<=" 451, .int 29 337 ⟩, ⟨PyData.keyHash P "=", .str "=" 453, .int 22 323 ⟩, ⟨PyData.keyHash P "==", .str "==" 455, .int 27 333 ⟩, ⟨PyData.keyHash P ">", .str ">" 457, .int 21 321 ⟩, ⟨PyData.keyHash P ">=", .str ">=" 459, .int 30 339 ⟩, ⟨PyData.keyHash P ">>", .str ">>" 460, .int 34 347 ⟩, ⟨PyData.keyHash P ">>=", .str ">>=" 461, .int 45 369 ⟩, ⟨PyData.keyHash P "@", .str "@" 462, .int 49 377 ⟩, ⟨PyData.keyHash P "@=", .str "@=" 463, .int 50 379 ⟩, ⟨PyData.keyHash P "[", .str "[" 464, .int 9 297 ⟩, ⟨PyData.keyHash P "]", .str "]" 465, .int 10 299 ⟩, ⟨PyData.keyHash P "^", .str "^" 466, .int 32 343 ⟩, ⟨PyData.keyHash P "^=", .str "^=" 467, .int 43 365 ⟩, ⟨PyData.keyHash P "{", .str "{" 468, .int 25 329 ⟩, ⟨PyData.keyHash P "|", .str "|" 469, .int 18 315 ⟩, ⟨PyData.keyHash P "|=", .str "|=" 470, .int 42 363 ⟩, ⟨PyData.keyHash P "}", .str "}" 471, .int 26 331 ⟩, ⟨PyData.keyHash P "~", .str "~" 472, .int 31 341 ⟩] 48 }
noncomputable def K42 (P : Params) : Obj :=
  { cls := .type "tuple", data := .seq #[] }
noncomputable def K44 (P : Params) : Obj :=
  { cls := .type "tuple", data := .seq #[.str "x" 491] }
noncomputable def K45 (P : Params) : Obj :=
  { cls := .type "tuple", data := .seq #[] }
noncomputable def K47 (P : Params) : Obj :=
  { cls := .type "code", data := .fields #[.str "ISTERMINAL" 488, .str "ISTERMINAL" 489, .str "/claim/cut.py" 490, .int 57 0, .int 1 0, .int 0 0, .int 0 0, .int 3 0, .ref 42, .bool true, .int 276 0, .ref 43, .none, .ref 44, .ref 45, .ref 46, .int 492 0, .int 57 0, .str "/claim/cut.py" 493] }
noncomputable def K48 (P : Params) : Obj :=
  (fun (a : Arguments) (b : List Stmt) (c : Scope) (_ : fdef (pmain.drop 54) = some (a, b, c)) => ({ cls := .type "function", data := .func { name := "ISTERMINAL", qualname := "ISTERMINAL", params := a, body := .stmts b, scope := c, globals := 3, closure := [], defaults := .none, kwdefaults := .none, pyModule := .str "cpy313.token" 289, code := .ref 47 } } : Obj)) _ _ _ rfl
noncomputable def K49 (P : Params) : Obj :=
  { cls := .type "tuple", data := .seq #[] }
noncomputable def K51 (P : Params) : Obj :=
  { cls := .type "tuple", data := .seq #[.str "x" 498] }
noncomputable def K52 (P : Params) : Obj :=
  { cls := .type "tuple", data := .seq #[] }
noncomputable def K54 (P : Params) : Obj :=
  { cls := .type "code", data := .fields #[.str "ISNONTERMINAL" 495, .str "ISNONTERMINAL" 496, .str "/claim/cut.py" 497, .int 59 0, .int 1 0, .int 0 0, .int 0 0, .int 3 0, .ref 49, .bool true, .int 276 0, .ref 50, .none, .ref 51, .ref 52, .ref 53, .int 499 0, .int 59 0, .str "/claim/cut.py" 500] }
noncomputable def K55 (P : Params) : Obj :=
  (fun (a : Arguments) (b : List Stmt) (c : Scope) (_ : fdef (pmain.drop 55) = some (a, b, c)) => ({ cls := .type "function", data := .func { name := "ISNONTERMINAL", qualname := "ISNONTERMINAL", params := a, body := .stmts b, scope := c, globals := 3, closure := [], defaults := .none, kwdefaults := .none, pyModule := .str "cpy313.token" 289, code := .ref 54 } } : Obj)) _ _ _ rfl
noncomputable def K56 (P : Params) : Obj :=
  { cls := .type "tuple", data := .seq #[] }
noncomputable def K58 (P : Params) : Obj :=
  { cls := .type "tuple", data := .seq #[.str "x" 505] }
noncomputable def K59 (P : Params) : Obj :=
  { cls := .type "tuple", data := .seq #[] }
noncomputable def K61 (P : Params) : Obj :=
  { cls := .type "code", data := .fields #[.str "ISEOF" 502, .str "ISEOF" 503, .str "/claim/cut.py" 504, .int 61 0, .int 1 0, .int 0 0, .int 0 0, .int 3 0, .ref 56, .bool true, .int 276 0, .ref 57, .none, .ref 58, .ref 59, .ref 60, .int 506 0, .int 61 0, .str "/claim/cut.py" 507] }
noncomputable def K62 (P : Params) : Obj :=
  (fun (a : Arguments) (b : List Stmt) (c : Scope) (_ : fdef (pmain.drop 56) = some (a, b, c)) => ({ cls := .type "function", data := .func { name := "ISEOF", qualname := "ISEOF", params := a, body := .stmts b, scope := c, globals := 3, closure := [], defaults := .none, kwdefaults := .none, pyModule := .str "cpy313.token" 289, code := .ref 61 } } : Obj)) _ _ _ rfl
noncomputable def K71 (P : Params) : Obj :=
  { cls := .type "tuple", data := .seq #[.int 14 0, .int 10 0, .int 4 0, .int 1 0, .int 1 0, .int 22 0, .int 0 0, .int 31 0, .int 16 0, .int 127 0, .int 0 0, .int 13 0, .int 7 0, .int 22 0, .int 0 0, .int 31 0, .int 16 0, .int 127 0, .int 0 0, .int 1 0] }
noncomputable def K72 (P : Params) : Obj :=
  { cls := .type "re.Pattern", data := .fields #[.str "[\\x00-\\x1F\\x7F]" 546, .int 32 569, .int 0 0, .none, .none, .ref 71, .int 0 0] }
noncomputable def K76 (P : Params) : Obj :=
  { cls := .type "tuple", data := .seq #[.int 14 0, .int 14 0, .int 4 0, .int 1 0, .int 1 0, .int 9 0, .int 4294966783 0, .int 0 0, .int 0 0, .int 2147483648 0, .int 0 0, .int 0 0, .int 0 0, .int 0 0, .int 0 0, .int 13 0, .int 11 0, .int 9 0, .int 4294966783 0, .int 0 0, .int 0 0, .int 2147483648 0, .int 0 0, .int 0 0, .int 0 0, .int 0 0, .int 0 0, .int 1 0] }
noncomputable def K77 (P : Params) : Obj :=
  { cls := .type "re.Pattern", data := .fields #[.str "[\\x00-\\x08\\x0A-\\x1F\\x7F]" 572, .int 32 603, .int 0 0, .none, .none, .ref 76, .int 0 0] }
noncomputable def K93 (P : Params) : Obj :=
  { cls := .type "tuple", data := .seq #[.none] }
noncomputable def K94 (P : Params) : Obj :=
  { cls := .type "tuple", data := .seq #[] }
noncomputable def K96 (P : Params) : Obj :=
  { cls := .type "tuple", data := .seq #[.str "self" 630, .str "headers" 631, .str "k" 632, .str "v" 633] }
noncomputable def K97 (P : Params) : Obj :=
  { cls := .type "tuple", data := .seq #[] }
noncomputable def K99 (P : Params) : Obj :=
  { cls := .type "code", data := .fields #[.str "__init__" 627, .str "Headers.__init__" 628, .str "/claim/cut.py" 629, .int 78 0, .int 2 0, .int 0 0, .int 0 0, .int 3 0, .ref 94, .bool true, .int 276 0, .ref 95, .none, .ref 96, .ref 97, .ref 98, .int 634 0, .int 78 0, .str "/claim/cut.py" 635] }
noncomputable def K100 (P : Params) : Obj :=
  (fun (a : Arguments) (b : List Stmt) (c : Scope) (_ : fdef ((cdef (pmain.drop 62)).drop 0) = some (a, b, c)) => ({ cls := .type "function", data := .func { name := "__init__", qualname := "Headers.__init__", params := a, body := .stmts b, scope := c, globals := 3, closure := [], defaults := .ref 93, kwdefaults := .none, pyModule := .str "cpy313.wsgiref.headers" 509, code := .ref 99 } } : Obj)) _ _ _ rfl
noncomputable def K101 (P : Params) : Obj :=
  { cls := .type "tuple", data := .seq #[] }
noncomputable def K103 (P : Params) : Obj :=
  { cls := .type "tuple", data := .seq #[.str "self" 640, .str "value" 641, .str "name" 642, .str "regex" 643] }
noncomputable def K104 (P : Params) : Obj :=
  { cls := .type "tuple", data := .seq #[] }
noncomputable def K106 (P : Params) : Obj :=
  { cls := .type "code", data := .fields #[.str "_convert_string_type" 637, .str "Headers._convert_string_type" 638, .str "/claim/cut.py" 639, .int 88 0, .int 2 0, .int 0 0, .int 1 0, .int 3 0, .ref 101, .bool true, .int 276 0, .ref 102, .none, .ref 103, .ref 104, .ref 105, .int 644 0, .int 88 0, .str "/claim/cut.py" 645] }
noncomputable def K107 (P : Params) : Obj :=
  (fun (a : Arguments) (b : List Stmt) (c : Scope) (_ : fdef ((cdef (pmain.drop 62)).drop 1) = some (a, b, c)) => ({ cls := .type "function", data := .func { name := "_convert_string_type", qualname := "Headers._convert_string_type", params := a, body := .stmts b, scope := c, globals := 3, closure := [], defaults := .none, kwdefaults := .none, pyModule := .str "cpy313.wsgiref.headers" 509, code := .ref 106 } } : Obj)) _ _ _ rfl
noncomputable def K115 (P : Params) : Obj :=
  { cls := .type "tuple", data := .seq #[] }
noncomputable def K117 (P : Params) : Obj :=
  { cls := .type "tuple", data := .seq #[.str "self" 657, .str "name" 658, .str "val" 659] }
noncomputable def K118 (P : Params) : Obj :=
  { cls := .type "tuple", data := .seq #[] }
noncomputable def K120 (P : Params) : Obj :=
  { cls := .type "code", data := .fields #[.str "__setitem__" 654, .str "Headers.__setitem__" 655, .str "/claim/cut.py" 656, .int 99 0, .int 3 0, .int 0 0, .int 0 0, .int 3 0, .ref 115, .bool true, .int 276 0, .ref 116, .none, .ref 117, .ref 118, .ref 119, .int 660 0, .int 99 0, .str "/claim/cut.py" 661] }
noncomputable def K121 (P : Params) : Obj :=
  (fun (a : Arguments) (b : List Stmt) (c : Scope) (_ : fdef ((cdef (pmain.drop 62)).drop 3) = some (a, b, c)) => ({ cls := .type "function", data := .func { name := "__setitem__", qualname := "Headers.__setitem__", params := a, body := .stmts b, scope := c, globals := 3, closure := [], defaults := .none, kwdefaults := .none, pyModule := .str "cpy313.wsgiref.headers" 509, code := .ref 120 } } : Obj)) _ _ _ rfl
noncomputable def K122 (P : Params) : Obj :=
  { cls := .type "tuple", data := .seq #[] }
noncomputable def K125 (P : Params) : Obj :=
  { cls := .type "code", data := .fields #[.str "__delitem__" 663, .str "Headers.__delitem__" 664, .str "/claim/cut.py" 665, .int 103 0, .int 2 0, .int 0 0, .int 0 0, .int 3 0, .ref 122, .bool true, .int 276 0, .ref 123, .none, .none, .none, .ref 124, .int 666 0, .int 103 0, .str "/claim/cut.py" 667] }
noncomputable def K126 (P : Params) : Obj :=
  (fun (a : Arguments) (b : List Stmt) (c : Scope) (_ : fdef ((cdef (pmain.drop 62)).drop 4) = some (a, b, c)) => ({ cls := .type "function", data := .func { name := "__delitem__", qualname := "Headers.__delitem__", params := a, body := .stmts b, scope := c, globals := 3, closure := [], defaults := .none, kwdefaults := .none, pyModule := .str "cpy313.wsgiref.headers" 509, code := .ref 125 } } : Obj)) _ _ _ rfl
noncomputable def K148 (P : Params) : Obj :=
  { cls := .type "tuple", data := .seq #[.none] }
noncomputable def K149 (P : Params) : Obj :=
  { cls := .type "tuple", data := .seq #[] }
noncomputable def K151 (P : Params) : Obj :=
  { cls := .type "tuple", data := .seq #[.str "self" 696, .str "name" 697, .str "default" 698, .str "k" 699, .str "v" 700] }
noncomputable def K152 (P : Params) : Obj :=
  { cls := .type "tuple", data := .seq #[] }
noncomputable def K154 (P : Params) : Obj :=
  { cls := .type "code", data := .fields #[.str "get" 693, .str "Headers.get" 694, .str "/claim/cut.py" 695, .int 116 0, .int 3 0, .int 0 0, .int 0 0, .int 3 0, .ref 149, .bool true, .int 276 0, .ref 150, .none, .ref 151, .ref 152, .ref 153, .int 701 0, .int 116 0, .str "/claim/cut.py" 702] }
noncomputable def K155 (P : Params) : Obj :=
  (fun (a : Arguments) (b : List Stmt) (c : Scope) (_ : fdef ((cdef (pmain.drop 62)).drop 8) = some (a, b, c)) => ({ cls := .type "function", data := .func { name := "get", qualname := "Headers.get", params := a, body := .stmts b, scope := c, globals := 3, closure := [], defaults := .ref 148, kwdefaults := .none, pyModule := .str "cpy313.wsgiref.headers" 509, code := .ref 154 } } : Obj)) _ _ _ rfl
noncomputable def K166 (P : Params) : Obj :=
  { cls := .type "tuple", data := .seq #[] }
noncomputable def K168 (P : Params) : Obj :=
  { cls := .type "tuple", data := .seq #[.str "self" 719] }
noncomputable def K169 (P : Params) : Obj :=
  { cls := .type "tuple", data := .seq #[] }
noncomputable def K171 (P : Params) : Obj :=
  { cls := .type "code", data := .fields #[.str "items" 716, .str "Headers.items" 717, .str "/claim/cut.py" 718, .int 129 0, .int 1 0, .int 0 0, .int 0 0, .int 3 0, .ref 166, .bool true, .int 276 0, .ref 167, .none, .ref 168, .ref 169, .ref 170, .int 720 0, .int 129 0, .str "/claim/cut.py" 721] }
noncomputable def K172 (P : Params) : Obj :=
  (fun (a : Arguments) (b : List Stmt) (c : Scope) (_ : fdef ((cdef (pmain.drop 62)).drop 11) = some (a, b, c)) => ({ cls := .type "function", data := .func { name := "items", qualname := "Headers.items", params := a, body := .stmts b, scope := c, globals := 3, closure := [], defaults := .none, kwdefaults := .none, pyModule := .str "cpy313.wsgiref.headers" 509, code := .ref 171 } } : Obj)) _ _ _ rfl
noncomputable def K192 (P : Params) : Obj :=
  { cls := .type "tuple", data := .seq #[] }
noncomputable def K194 (P : Params) : Obj :=
  { cls := .type "tuple", data := .seq #[.str "self" 746, .str "name" 747, .str "value" 748, .str "result" 749] }
noncomputable def K195 (P : Params) : Obj :=
  { cls := .type "tuple", data := .seq #[] }
noncomputable def K197 (P : Params) : Obj :=
  { cls := .type "code", data := .fields #[.str "setdefault" 743, .str "Headers.setdefault" 744, .str "/claim/cut.py" 745, .int 141 0, .int 3 0, .int 0 0, .int 0 0, .int 3 0, .ref 192, .bool true, .int 276 0, .ref 193, .none, .ref 194, .ref 195, .ref 196, .int 750 0, .int 141 0, .str "/claim/cut.py" 751] }
noncomputable def K198 (P : Params) : Obj :=
  (fun (a : Arguments) (b : List Stmt) (c : Scope) (_ : fdef ((cdef (pmain.drop 62)).drop 15) = some (a, b, c)) => ({ cls := .type "function", data := .func { name := "setdefault", qualname := "Headers.setdefault", params := a, body := .stmts b, scope := c, globals := 3, closure := [], defaults := .none, kwdefaults := .none, pyModule := .str "cpy313.wsgiref.headers" 509, code := .ref 197 } } : Obj)) _ _ _ rfl
noncomputable def K199 (P : Params) : Obj :=
  { cls := .type "tuple", data := .seq #[] }
noncomputable def K201 (P : Params) : Obj :=
  { cls := .type "tuple", data := .seq #[.str "self" 756, .str "_name" 757, .str "_value" 758, .str "_params" 759, .str "parts" 760, .str "k" 761, .str "v" 762] }
noncomputable def K202 (P : Params) : Obj :=
  { cls := .type "tuple", data := .seq #[] }
noncomputable def K204 (P : Params) : Obj :=
  { cls := .type "code", data := .fields #[.str "add_header" 753, .str "Headers.add_header" 754, .str "/claim/cut.py" 755, .int 149 0, .int 3 0, .int 0 0, .int 0 0, .int 11 0, .ref 199, .bool true, .int 276 0, .ref 200, .none, .ref 201, .ref 202, .ref 203, .int 763 0, .int 149 0, .str "/claim/cut.py" 764] }
noncomputable def K205 (P : Params) : Obj :=
  (fun (a : Arguments) (b : List Stmt) (c : Scope) (_ : fdef ((cdef (pmain.drop 62)).drop 16) = some (a, b, c)) => ({ cls := .type "function", data := .func { name := "add_header", qualname := "Headers.add_header", params := a, body := .stmts b, scope := c, globals := 3, closure := [], defaults := .none, kwdefaults := .none, pyModule := .str "cpy313.wsgiref.headers" 509, code := .ref 204 } } : Obj)) _ _ _ rfl
noncomputable def K206 (P : Params) : Obj :=
  { cls := .type "tuple", data := .seq #[.str "_headers" 766] }
noncomputable def K207 (P : Params) : Obj :=
  { cls := .type "dict", data := .dict #[⟨PyData.keyHash P "__module__", .str "__module__" 622, .str "cpy313.wsgiref.headers" 509 ⟩, ⟨PyData.keyHash P "__firstlineno__", .str "__firstlineno__" 626, .int 76 625 ⟩, ⟨PyData.keyHash P "__init__", .str "__init__" 636, .ref 100 ⟩, ⟨PyData.keyHash P "_convert_string_type", .str "_convert_string_type" 646, .ref 107 ⟩, ⟨PyData.keyHash P "__len__", .str "__len__" 653, .ref 114 ⟩, ⟨PyData.keyHash P "__setitem__", .str "__setitem__" 662, .ref 121 ⟩, ⟨PyData.keyHash P "__delitem__", .str "__delitem__" 668, .ref 126 ⟩, ⟨PyData.keyHash P "__getitem__", .str "__getitem__" 676, .ref 133 ⟩, ⟨PyData.keyHash P "__contains__", .str "__contains__" 684, .ref 140 ⟩, ⟨PyData.keyHash P "get_all", .str "get_all" 692, .ref 147 ⟩, ⟨PyData.keyHash P "get", .str "get" 703, .ref 155 ⟩, ⟨PyData.keyHash P "keys", .str "keys" 709, .ref 160 ⟩, ⟨PyData.keyHash P "values", .str "values" 715, .ref 165 ⟩, ⟨PyData.keyHash P "items", .str "items" 722, .ref 172 ⟩, ⟨PyData.keyHash P "__repr__", .str "__repr__" 729, .ref 179 ⟩, ⟨PyData.keyHash P "__str__", .str "__str__" 735, .ref 184 ⟩, ⟨PyData.keyHash P "__bytes__", .str "__bytes__" 742, .ref 191 ⟩, ⟨PyData.keyHash P "setdefault", .str "setdefault" 752, .ref 198 ⟩, ⟨PyData.keyHash P "add_header", .str "add_header" 765, .ref 205 ⟩, ⟨PyData.keyHash P "__static_attributes__", .str "__static_attributes__" 767, .ref 206 ⟩, ⟨PyData.keyHash P "__dict__", .str "__dict__" 769, .ref 209 ⟩, ⟨PyData.keyHash P "__weakref__", .str "__weakref__" 771, .ref 210 ⟩, ⟨PyData.keyHash P "__doc__", .str "__doc__" 772, .none ⟩] 4 }
noncomputable def K208 (P : Params) : Obj :=
  { cls := .type "type", data := .cls { name := "Headers", bases := [.type "object"], mro := [.ref 208, .type "object"], ns := 207, qualname := "Headers" }, slots := #[none, none, some (.str "Headers" 615), some (.str "Headers" 623), some (.builtin "object.__new__"), some (.bool true)] }
noncomputable def K209 (P : Params) : Obj :=
  { cls := .type "getset_descriptor", data := .fields #[.str "__dict__" 768, .ref 208, .builtin "function.__dict__", .builtin "function.__dict__#set"] }
noncomputable def K210 (P : Params) : Obj :=
  { cls := .type "getset_descriptor", data := .fields #[.str "__weakref__" 770, .ref 208, .builtin "ExceptionGroup.__weakref__", .none] }
noncomputable def K213 (P : Params) : Obj :=
  { cls := .type "tuple", data := .seq #[] }
noncomputable def K215 (P : Params) : Obj :=
  { cls := .type "tuple", data := .seq #[] }
noncomputable def K216 (P : Params) : Obj :=
  { cls := .type "tuple", data := .seq #[] }
noncomputable def K218 (P : Params) : Obj :=
  { cls := .type "code", data := .fields #[.str "_law_signs" 777, .str "_law_signs" 778, .str "/claim/cut.py" 779, .int 163 0, .int 0 0, .int 0 0, .int 0 0, .int 3 0, .ref 213, .bool true, .int 276 0, .ref 214, .none, .ref 215, .ref 216, .ref 217, .int 780 0, .int 163 0, .str "/claim/cut.py" 781] }
noncomputable def K219 (P : Params) : Obj :=
  (fun (a : Arguments) (b : List Stmt) (c : Scope) (_ : fdef (pmain.drop 64) = some (a, b, c)) => ({ cls := .type "function", data := .func { name := "_law_signs", qualname := "_law_signs", params := a, body := .stmts b, scope := c, globals := 3, closure := [], defaults := .none, kwdefaults := .none, pyModule := .str "law_pe0256_01" 775, code := .ref 218 } } : Obj)) _ _ _ rfl
noncomputable def K220 (P : Params) : Obj :=
  { cls := .type "tuple", data := .seq #[] }
noncomputable def K223 (P : Params) : Obj :=
  { cls := .type "code", data := .fields #[.str "_law_calls" 783, .str "_law_calls" 784, .str "/claim/cut.py" 785, .int 165 0, .int 1 0, .int 0 0, .int 0 0, .int 3 0, .ref 220, .bool true, .int 276 0, .ref 221, .none, .none, .none, .ref 222, .int 786 0, .int 165 0, .str "/claim/cut.py" 787] }
noncomputable def K224 (P : Params) : Obj :=
  (fun (a : Arguments) (b : List Stmt) (c : Scope) (_ : fdef (pmain.drop 65) = some (a, b, c)) => ({ cls := .type "function", data := .func { name := "_law_calls", qualname := "_law_calls", params := a, body := .stmts b, scope := c, globals := 3, closure := [], defaults := .none, kwdefaults := .none, pyModule := .str "law_pe0256_01" 775, code := .ref 223 } } : Obj)) _ _ _ rfl
noncomputable def K225 (P : Params) : Obj :=
  { cls := .type "tuple", data := .seq #[] }
noncomputable def K227 (P : Params) : Obj :=
  { cls := .type "tuple", data := .seq #[.str "calls" 792, .str "levels" 793, .str "one" 794, .str "first" 795, .str "call" 796, .str "which" 797, .str "level" 798] }
noncomputable def K228 (P : Params) : Obj :=
  { cls := .type "tuple", data := .seq #[] }
noncomputable def K230 (P : Params) : Obj :=
  { cls := .type "code", data := .fields #[.str "_law_told" 789, .str "_law_told" 790, .str "/claim/cut.py" 791, .int 167 0, .int 1 0, .int 0 0, .int 0 0, .int 3 0, .ref 225, .bool true, .int 276 0, .ref 226, .none, .ref 227, .ref 228, .ref 229, .int 799 0, .int 167 0, .str "/claim/cut.py" 800] }
noncomputable def K231 (P : Params) : Obj :=
  (fun (a : Arguments) (b : List Stmt) (c : Scope) (_ : fdef (pmain.drop 66) = some (a, b, c)) => ({ cls := .type "function", data := .func { name := "_law_told", qualname := "_law_told", params := a, body := .stmts b, scope := c, globals := 3, closure := [], defaults := .none, kwdefaults := .none, pyModule := .str "law_pe0256_01" 775, code := .ref 230 } } : Obj)) _ _ _ rfl
noncomputable def K232 (P : Params) : Obj :=
  { cls := .type "tuple", data := .seq #[] }
noncomputable def K234 (P : Params) : Obj :=
  { cls := .type "tuple", data := .seq #[.str "calls" 805, .str "table" 806, .str "call" 807, .str "which" 808, .str "level" 809, .str "sign" 810] }
noncomputable def K235 (P : Params) : Obj :=
  { cls := .type "tuple", data := .seq #[] }
noncomputable def K237 (P : Params) : Obj :=
  { cls := .type "code", data := .fields #[.str "_law_table" 802, .str "_law_table" 803, .str "/claim/cut.py" 804, .int 181 0, .int 1 0, .int 0 0, .int 0 0, .int 3 0, .ref 232, .bool true, .int 276 0, .ref 233, .none, .ref 234, .ref 235, .ref 236, .int 811 0, .int 181 0, .str "/claim/cut.py" 812] }
noncomputable def K238 (P : Params) : Obj :=
  (fun (a : Arguments) (b : List Stmt) (c : Scope) (_ : fdef (pmain.drop 67) = some (a, b, c)) => ({ cls := .type "function", data := .func { name := "_law_table", qualname := "_law_table", params := a, body := .stmts b, scope := c, globals := 3, closure := [], defaults := .none, kwdefaults := .none, pyModule := .str "law_pe0256_01" 775, code := .ref 237 } } : Obj)) _ _ _ rfl
noncomputable def K239 (P : Params) : Obj :=
  { cls := .type "tuple", data := .seq #[] }
noncomputable def K241 (P : Params) : Obj :=
  { cls := .type "tuple", data := .seq #[.str "numbers" 817, .str "pile" 818, .str "k" 819, .str "n" 820, .str "turn" 821, .str "right" 822, .str "left" 823] }
noncomputable def K242 (P : Params) : Obj :=
  { cls := .type "tuple", data := .seq #[] }
noncomputable def K244 (P : Params) : Obj :=
  { cls := .type "code", data := .fields #[.str "_law_tree" 814, .str "_law_tree" 815, .str "/claim/cut.py" 816, .int 194 0, .int 1 0, .int 0 0, .int 0 0, .int 3 0, .ref 239, .bool true, .int 276 0, .ref 240, .none, .ref 241, .ref 242, .ref 243, .int 824 0, .int 194 0, .str "/claim/cut.py" 825] }
noncomputable def K245 (P : Params) : Obj :=
  (fun (a : Arguments) (b : List Stmt) (c : Scope) (_ : fdef (pmain.drop 68) = some (a, b, c)) => ({ cls := .type "function", data := .func { name := "_law_tree", qualname := "_law_tree", params := a, body := .stmts b, scope := c, globals := 3, closure := [], defaults := .none, kwdefaults := .none, pyModule := .str "law_pe0256_01" 775, code := .ref 244 } } : Obj)) _ _ _ rfl
noncomputable def K246 (P : Params) : Obj :=
  { cls := .type "tuple", data := .seq #[] }
noncomputable def K248 (P : Params) : Obj :=
  { cls := .type "tuple", data := .seq #[.str "tree" 830, .str "levels" 831, .str "above" 832, .str "side" 833, .str "pieces" 834, .str "pairs" 835, .str "one" 836, .str "left" 837, .str "right" 838, .str "drawn" 839, .str "needed" 840, .str "begin" 841] }
noncomputable def K249 (P : Params) : Obj :=
  { cls := .type "tuple", data := .seq #[] }
noncomputable def K251 (P : Params) : Obj :=
  { cls := .type "code", data := .fields #[.str "_law_write" 827, .str "_law_write" 828, .str "/claim/cut.py" 829, .int 209 0, .int 6 0, .int 0 0, .int 0 0, .int 3 0, .ref 246, .bool true, .int 276 0, .ref 247, .none, .ref 248, .ref 249, .ref 250, .int 842 0, .int 209 0, .str "/claim/cut.py" 843] }
noncomputable def K252 (P : Params) : Obj :=
  (fun (a : Arguments) (b : List Stmt) (c : Scope) (_ : fdef (pmain.drop 69) = some (a, b, c)) => ({ cls := .type "function", data := .func { name := "_law_write", qualname := "_law_write", params := a, body := .stmts b, scope := c, globals := 3, closure := [], defaults := .none, kwdefaults := .none, pyModule := .str "law_pe0256_01" 775, code := .ref 251 } } : Obj)) _ _ _ rfl
noncomputable def K253 (P : Params) : Obj :=
  { cls := .type "tuple", data := .seq #[] }
noncomputable def K255 (P : Params) : Obj :=
  { cls := .type "tuple", data := .seq #[.str "tree" 848, .str "levels" 849, .str "pieces" 850, .str "pairs" 851] }
noncomputable def K256 (P : Params) : Obj :=
  { cls := .type "tuple", data := .seq #[] }
noncomputable def K258 (P : Params) : Obj :=
  { cls := .type "code", data := .fields #[.str "_law_written" 845, .str "_law_written" 846, .str "/claim/cut.py" 847, .int 227 0, .int 2 0, .int 0 0, .int 0 0, .int 3 0, .ref 253, .bool true, .int 276 0, .ref 254, .none, .ref 255, .ref 256, .ref 257, .int 852 0, .int 227 0, .str "/claim/cut.py" 853] }
noncomputable def K259 (P : Params) : Obj :=
  (fun (a : Arguments) (b : List Stmt) (c : Scope) (_ : fdef (pmain.drop 70) = some (a, b, c)) => ({ cls := .type "function", data := .func { name := "_law_written", qualname := "_law_written", params := a, body := .stmts b, scope := c, globals := 3, closure := [], defaults := .none, kwdefaults := .none, pyModule := .str "law_pe0256_01" 775, code := .ref 258 } } : Obj)) _ _ _ rfl
noncomputable def K260 (P : Params) : Obj :=
  { cls := .type "tuple", data := .seq #[] }
noncomputable def K262 (P : Params) : Obj :=
  { cls := .type "tuple", data := .seq #[.str "text" 858, .str "row" 859, .str "place" 860, .str "piece" 861] }
noncomputable def K263 (P : Params) : Obj :=
  { cls := .type "tuple", data := .seq #[] }
noncomputable def K265 (P : Params) : Obj :=
  { cls := .type "code", data := .fields #[.str "_law_row" 855, .str "_law_row" 856, .str "/claim/cut.py" 857, .int 232 0, .int 1 0, .int 0 0, .int 0 0, .int 3 0, .ref 260, .bool true, .int 276 0, .ref 261, .none, .ref 262, .ref 263, .ref 264, .int 862 0, .int 232 0, .str "/claim/cut.py" 863] }
noncomputable def K266 (P : Params) : Obj :=
  (fun (a : Arguments) (b : List Stmt) (c : Scope) (_ : fdef (pmain.drop 71) = some (a, b, c)) => ({ cls := .type "function", data := .func { name := "_law_row", qualname := "_law_row", params := a, body := .stmts b, scope := c, globals := 3, closure := [], defaults := .none, kwdefaults := .none, pyModule := .str "law_pe0256_01" 775, code := .ref 265 } } : Obj)) _ _ _ rfl
noncomputable def K267 (P : Params) : Obj :=
  { cls := .type "tuple", data := .seq #[] }
noncomputable def K269 (P : Params) : Obj :=
  { cls := .type "tuple", data := .seq #[.str "table" 868, .str "levels" 869, .str "sign" 870] }
noncomputable def K270 (P : Params) : Obj :=
  { cls := .type "tuple", data := .seq #[] }
noncomputable def K272 (P : Params) : Obj :=
  { cls := .type "code", data := .fields #[.str "_law_levels" 865, .str "_law_levels" 866, .str "/claim/cut.py" 867, .int 245 0, .int 1 0, .int 0 0, .int 0 0, .int 3 0, .ref 267, .bool true, .int 276 0, .ref 268, .none, .ref 269, .ref 270, .ref 271, .int 871 0, .int 245 0, .str "/claim/cut.py" 872] }
noncomputable def K273 (P : Params) : Obj :=
  (fun (a : Arguments) (b : List Stmt) (c : Scope) (_ : fdef (pmain.drop 72) = some (a, b, c)) => ({ cls := .type "function", data := .func { name := "_law_levels", qualname := "_law_levels", params := a, body := .stmts b, scope := c, globals := 3, closure := [], defaults := .none, kwdefaults := .none, pyModule := .str "law_pe0256_01" 775, code := .ref 272 } } : Obj)) _ _ _ rfl
noncomputable def K274 (P : Params) : Obj :=
  { cls := .type "tuple", data := .seq #[] }
noncomputable def K276 (P : Params) : Obj :=
  { cls := .type "tuple", data := .seq #[.str "row" 877, .str "levels" 878, .str "done" 879, .str "pile" 880, .str "number" 881, .str "level" 882] }
noncomputable def K277 (P : Params) : Obj :=
  { cls := .type "tuple", data := .seq #[] }
noncomputable def K279 (P : Params) : Obj :=
  { cls := .type "code", data := .fields #[.str "_law_done" 874, .str "_law_done" 875, .str "/claim/cut.py" 876, .int 250 0, .int 2 0, .int 0 0, .int 0 0, .int 3 0, .ref 274, .bool true, .int 276 0, .ref 275, .none, .ref 276, .ref 277, .ref 278, .int 883 0, .int 250 0, .str "/claim/cut.py" 884] }
noncomputable def K280 (P : Params) : Obj :=
  (fun (a : Arguments) (b : List Stmt) (c : Scope) (_ : fdef (pmain.drop 73) = some (a, b, c)) => ({ cls := .type "function", data := .func { name := "_law_done", qualname := "_law_done", params := a, body := .stmts b, scope := c, globals := 3, closure := [], defaults := .none, kwdefaults := .none, pyModule := .str "law_pe0256_01" 775, code := .ref 279 } } : Obj)) _ _ _ rfl
noncomputable def K281 (P : Params) : Obj :=
  { cls := .type "tuple", data := .seq #[] }
noncomputable def K283 (P : Params) : Obj :=
  { cls := .type "tuple", data := .seq #[.str "done" 889, .str "signs" 890, .str "sign" 891, .str "pile" 892, .str "number" 893, .str "right" 894, .str "left" 895] }
noncomputable def K284 (P : Params) : Obj :=
  { cls := .type "tuple", data := .seq #[] }
noncomputable def K286 (P : Params) : Obj :=
  { cls := .type "code", data := .fields #[.str "_law_joined" 886, .str "_law_joined" 887, .str "/claim/cut.py" 888, .int 267 0, .int 1 0, .int 0 0, .int 0 0, .int 3 0, .ref 281, .bool true, .int 276 0, .ref 282, .none, .ref 283, .ref 284, .ref 285, .int 896 0, .int 267 0, .str "/claim/cut.py" 897] }
noncomputable def K287 (P : Params) : Obj :=
  (fun (a : Arguments) (b : List Stmt) (c : Scope) (_ : fdef (pmain.drop 74) = some (a, b, c)) => ({ cls := .type "function", data := .func { name := "_law_joined", qualname := "_law_joined", params := a, body := .stmts b, scope := c, globals := 3, closure := [], defaults := .none, kwdefaults := .none, pyModule := .str "law_pe0256_01" 775, code := .ref 286 } } : Obj)) _ _ _ rfl
noncomputable def K288 (P : Params) : Obj :=
  { cls := .type "tuple", data := .seq #[] }
noncomputable def K290 (P : Params) : Obj :=
  { cls := .type "tuple", data := .seq #[.str "tree" 902] }
noncomputable def K291 (P : Params) : Obj :=
  { cls := .type "tuple", data := .seq #[] }
noncomputable def K293 (P : Params) : Obj :=
  { cls := .type "code", data := .fields #[.str "_law_full" 899, .str "_law_full" 900, .str "/claim/cut.py" 901, .int 280 0, .int 1 0, .int 0 0, .int 0 0, .int 3 0, .ref 288, .bool true, .int 276 0, .ref 289, .none, .ref 290, .ref 291, .ref 292, .int 903 0, .int 280 0, .str "/claim/cut.py" 904] }
noncomputable def K294 (P : Params) : Obj :=
  (fun (a : Arguments) (b : List Stmt) (c : Scope) (_ : fdef (pmain.drop 75) = some (a, b, c)) => ({ cls := .type "function", data := .func { name := "_law_full", qualname := "_law_full", params := a, body := .stmts b, scope := c, globals := 3, closure := [], defaults := .none, kwdefaults := .none, pyModule := .str "law_pe0256_01" 775, code := .ref 293 } } : Obj)) _ _ _ rfl
noncomputable def K295 (P : Params) : Obj :=
  { cls := .type "tuple", data := .seq #[] }
noncomputable def K297 (P : Params) : Obj :=
  { cls := .type "tuple", data := .seq #[.str "pieces" 909, .str "levels" 910] }
noncomputable def K298 (P : Params) : Obj :=
  { cls := .type "tuple", data := .seq #[] }
noncomputable def K300 (P : Params) : Obj :=
  { cls := .type "code", data := .fields #[.str "_law_read" 906, .str "_law_read" 907, .str "/claim/cut.py" 908, .int 284 0, .int 2 0, .int 0 0, .int 0 0, .int 3 0, .ref 295, .bool true, .int 276 0, .ref 296, .none, .ref 297, .ref 298, .ref 299, .int 911 0, .int 284 0, .str "/claim/cut.py" 912] }
noncomputable def K301 (P : Params) : Obj :=
  (fun (a : Arguments) (b : List Stmt) (c : Scope) (_ : fdef (pmain.drop 76) = some (a, b, c)) => ({ cls := .type "function", data := .func { name := "_law_read", qualname := "_law_read", params := a, body := .stmts b, scope := c, globals := 3, closure := [], defaults := .none, kwdefaults := .none, pyModule := .str "law_pe0256_01" 775, code := .ref 300 } } : Obj)) _ _ _ rfl
noncomputable def K302 (P : Params) : Obj :=
  { cls := .type "tuple", data := .seq #[] }
noncomputable def K305 (P : Params) : Obj :=
  { cls := .type "code", data := .fields #[.str "law" 914, .str "law" 915, .str "/claim/cut.py" 916, .int 286 0, .int 1 0, .int 0 0, .int 0 0, .int 3 0, .ref 302, .bool true, .int 276 0, .ref 303, .none, .none, .none, .ref 304, .int 917 0, .int 286 0, .str "/claim/cut.py" 918] }
noncomputable def K306 (P : Params) : Obj :=
  (fun (a : Arguments) (b : List Stmt) (c : Scope) (_ : fdef (pmain.drop 77) = some (a, b, c)) => ({ cls := .type "function", data := .func { name := "law", qualname := "law", params := a, body := .stmts b, scope := c, globals := 3, closure := [], defaults := .none, kwdefaults := .none, pyModule := .str "law_pe0256_01" 775, code := .ref 305 } } : Obj)) _ _ _ rfl

end Mine.KO
namespace Mine
noncomputable def K0 (P : Params) : Frag :=
  [(3, KO.K3 P), (39, KO.K39 P), (42, KO.K42 P), (44, KO.K44 P), (45, KO.K45 P), (47, KO.K47 P), (48, KO.K48 P), (49, KO.K49 P), (51, KO.K51 P), (52, KO.K52 P), (54, KO.K54 P), (55, KO.K55 P), (56, KO.K56 P), (58, KO.K58 P), (59, KO.K59 P), (61, KO.K61 P), (62, KO.K62 P), (71, KO.K71 P), (72, KO.K72 P), (76, KO.K76 P), (77, KO.K77 P), (93, KO.K93 P), (94, KO.K94 P), (96, KO.K96 P), (97, KO.K97 P), (99, KO.K99 P), (100, KO.K100 P), (101, KO.K101 P), (103, KO.K103 P), (104, KO.K104 P), (106, KO.K106 P), (107, KO.K107 P), (115, KO.K115 P), (117, KO.K117 P), (118, KO.K118 P), (120, KO.K120 P), (121, KO.K121 P), (122, KO.K122 P), (125, KO.K125 P), (126, KO.K126 P), (148, KO.K148 P), (149, KO.K149 P), (151, KO.K151 P), (152, KO.K152 P), (154, KO.K154 P), (155, KO.K155 P), (166, KO.K166 P), (168, KO.K168 P), (169, KO.K169 P), (171, KO.K171 P), (172, KO.K172 P), (192, KO.K192 P), (194, KO.K194 P), (195, KO.K195 P), (197, KO.K197 P), (198, KO.K198 P), (199, KO.K199 P), (201, KO.K201 P), (202, KO.K202 P), (204, KO.K204 P), (205, KO.K205 P), (206, KO.K206 P), (207, KO.K207 P), (208, KO.K208 P), (209, KO.K209 P), (210, KO.K210 P), (213, KO.K213 P), (215, KO.K215 P), (216, KO.K216 P), (218, KO.K218 P), (219, KO.K219 P), (220, KO.K220 P), (223, KO.K223 P), (224, KO.K224 P), (225, KO.K225 P), (227, KO.K227 P), (228, KO.K228 P), (230, KO.K230 P), (231, KO.K231 P), (232, KO.K232 P), (234, KO.K234 P), (235, KO.K235 P), (237, KO.K237 P), (238, KO.K238 P), (239, KO.K239 P), (241, KO.K241 P), (242, KO.K242 P), (244, KO.K244 P), (245, KO.K245 P), (246, KO.K246 P), (248, KO.K248 P), (249, KO.K249 P), (251, KO.K251 P), (252, KO.K252 P), (253, KO.K253 P), (255, KO.K255 P), (256, KO.K256 P), (258, KO.K258 P), (259, KO.K259 P), (260, KO.K260 P), (262, KO.K262 P), (263, KO.K263 P), (265, KO.K265 P), (266, KO.K266 P), (267, KO.K267 P), (269, KO.K269 P), (270, KO.K270 P), (272, KO.K272 P), (273, KO.K273 P), (274, KO.K274 P), (276, KO.K276 P), (277, KO.K277 P), (279, KO.K279 P), (280, KO.K280 P), (281, KO.K281 P), (283, KO.K283 P), (284, KO.K284 P), (286, KO.K286 P), (287, KO.K287 P), (288, KO.K288 P), (290, KO.K290 P), (291, KO.K291 P), (293, KO.K293 P), (294, KO.K294 P), (295, KO.K295 P), (297, KO.K297 P), (298, KO.K298 P), (300, KO.K300 P), (301, KO.K301 P), (302, KO.K302 P), (305, KO.K305 P), (306, KO.K306 P)]
end Mine
end
section
open PySem PySem.W PySem.Spec PySem.Calls PyProof.Rows
set_option maxRecDepth 100000
set_option maxHeartbeats 4000000
set_option linter.unusedVariables false
namespace Mine

noncomputable abbrev Led := List (Addr × Obj)
noncomputable abbrev Loc := List (Str × Value)
noncomputable abbrev PP : Program := PySem.Challenge.rw_pe0256_01.row.prog

structure Base where
  H : Heap
  O : OsState
  w : World

noncomputable abbrev KF (B : Base) : Frag := K0 B.w.params

/-- what the call has made and still knows: the changing part, the fixed part -/
structure Own (B : Base) (s : Shared) (μ ι : Led) : Prop where
  keep : ∀ b o, B.H.get? b = some o → s.heap.get? b = some o
  here : ∀ p, p ∈ μ ++ ι → s.heap.get? p.1 = some p.2 ∧ B.H.get? p.1 = none
  nd : ((μ ++ ι).map (·.1)).Nodup
  gens : s.gens = #[]
  os : s.os = B.O

structure St (B : Base) (L : Addr) (s : Shared) (ls : Loc) (μ ι : Led) : Prop where
  own : Own B s μ ι
  ns : ∃ m, s.heap.Ns L m ∧ ∀ x v, ls.lookup x = some v → m x = some v
  lo : B.H.objs.size ≤ L
  ne : ∀ p, p ∈ μ ++ ι → p.1 ≠ L

structure Gnd (B : Base) : Prop where
  X : (KF B).In B.H
  top : ∃ mg mb, B.H.Ns mainGlobals mg ∧ B.H.Ns builtinsNs mb ∧ ∀ x : Str, x ≠ "__name__" → mb x = bootBuiltins x
  lim : B.H.NoLimit
  dig : ∃ mc, B.H.Ns cStatics mc ∧ mc "sys.int_max_str_digits" = none

theorem none_of_size {h : Heap} {a : Addr} (x : h.objs.size ≤ a) : h.get? a = none := by
  cases q : h.get? a with
  | none => rfl
  | some o => exact absurd (Heap.lt_size q) (Nat.not_lt.mpr x)

/-- the entry at a is changed from o to o' -/
inductive Chg (a : Addr) (o o' : Obj) : Led → Led → Prop
  | head {r} : Chg a o o' ((a, o) :: r) ((a, o') :: r)
  | tail {p r r'} : Chg a o o' r r' → Chg a o o' (p :: r) (p :: r')

theorem Chg.mem {a o o' r r'} (c : Chg a o o' r r') : (a, o) ∈ r := by
  induction c with
  | head => exact .head _
  | tail _ ih => exact .tail _ ih
theorem Chg.keys {a o o' r r'} (c : Chg a o o' r r') : r'.map (·.1) = r.map (·.1) := by
  induction c with
  | head => rfl
  | tail _ ih => simp only [List.map_cons, ih]
theorem Chg.old {a o o' r r'} (c : Chg a o o' r r') (nd : (r.map (·.1)).Nodup) : ∀ p ∈ r', p = (a, o') ∨ (p ∈ r ∧ p.1 ≠ a) := by
  induction c with
  | head =>
    intro p hp
    rcases List.mem_cons.mp hp with rfl | hp
    · exact .inl rfl
    · refine .inr ⟨.tail _ hp, fun e => ?_⟩
      rw [List.map_cons, List.nodup_cons] at nd
      have z := List.mem_map_of_mem (f := Prod.fst) hp
      rw [e] at z
      exact nd.1 z
  | @tail q r r' c ih =>
    intro p hp
    rw [List.map_cons, List.nodup_cons] at nd
    rcases List.mem_cons.mp hp with rfl | hp
    · refine .inr ⟨.head _, fun e => nd.1 ?_⟩
      rw [e]; exact List.mem_map_of_mem (f := Prod.fst) c.mem
    · rcases ih nd.2 p hp with e | ⟨x, y⟩
      · exact .inl e
      · exact .inr ⟨.tail _ x, y⟩

theorem Chg.app {a o o' r r'} (c : Chg a o o' r r') (l : Led) : Chg a o o' (r ++ l) (r' ++ l) := by
  induction c with
  | head => exact .head
  | tail _ ih => exact .tail ih
theorem nodup_fst {l : Led} (nd : (l.map (·.1)).Nodup) {p : Addr × Obj} {r : Led} (h : l = p :: r) : ∀ q ∈ r, q.1 ≠ p.1 := by
  subst h
  rw [List.map_cons, List.nodup_cons] at nd
  intro q hq e
  have z := List.mem_map_of_mem (f := Prod.fst) hq
  rw [e] at z
  exact nd.1 z

section
variable {B : Base} {L : Addr} {s : Shared} {ls ls' : Loc} {μ ι μ' ι' : Led} {h' : Heap} {t : Nat} {a : Addr} {o o' : Obj}

theorem Own.change (S : Own B s μ ι) (c : Chg a o o' μ μ') (he : Heap.ExtBut a s.heap h') (e : h'.get? a = some o') : Own B { s with heap := h', toks := t } μ' ι := by
  have c' := c.app ι
  have ha := S.here (a, o) c'.mem
  refine ⟨fun b x q => he b x (fun z => by subst z; rw [show B.H.get? b = none from ha.2] at q; cases q) (S.keep b x q), fun p hp => ?_, by rw [c'.keys]; exact S.nd, S.gens, S.os⟩
  rcases c'.old S.nd p hp with rfl | ⟨x, y⟩
  · exact ⟨e, ha.2⟩
  · have z := S.here p x; exact ⟨he _ _ y z.1, z.2⟩

theorem Own.perm (S : Own B s μ ι) (h : (μ' ++ ι').Perm (μ ++ ι)) : Own B s μ' ι' :=
  ⟨S.keep, fun p hp => S.here p (h.subset hp), (h.map _).nodup_iff.mpr S.nd, S.gens, S.os⟩
theorem Own.sub (S : Own B s μ ι) (h : (μ' ++ ι').Sublist (μ ++ ι)) : Own B s μ' ι' :=
  ⟨S.keep, fun p hp => S.here p (h.subset hp), (h.map _).nodup S.nd, S.gens, S.os⟩

theorem St.frame (S : St B L s ls μ ι) : ∃ oL, s.heap.get? L = some oL ∧ ∃ m, (∀ h : Heap, h.get? L = some oL → h.Ns L m) ∧ ∀ x v, ls.lookup x = some v → m x = some v := by
  obtain ⟨m, ⟨o, es, ep, ho, r⟩, hm⟩ := S.ns
  exact ⟨o, ho, m, fun h e => ⟨o, es, ep, e, r⟩, hm⟩

theorem St.H_L (S : St B L s ls μ ι) : B.H.get? L = none := none_of_size S.lo

theorem St.change (S : St B L s ls μ ι) (c : Chg a o o' μ μ') (he : Heap.ExtBut a s.heap h') (e : h'.get? a = some o') : St B L { s with heap := h', toks := t } ls μ' ι := by
  have c' := c.app ι
  have hne : a ≠ L := S.ne (a, o) c'.mem
  obtain ⟨oL, hL, m, hm, hl⟩ := S.frame
  refine ⟨S.own.change c he e, ⟨m, hm _ (he _ _ (Ne.symm hne) hL), hl⟩, S.lo, fun p hp => ?_⟩
  rcases c'.old S.own.nd p hp with rfl | ⟨x, y⟩
  · exact hne
  · exact S.ne p x

theorem St.ext (S : St B L s ls μ ι) (he : ∀ b x, s.heap.get? b = some x → h'.get? b = some x) : St B L { s with heap := h', toks := t } ls μ ι := by
  obtain ⟨oL, hL, m, hm, hl⟩ := S.frame
  exact ⟨⟨fun b x e => he _ _ (S.own.keep b x e), fun p hp => ⟨he _ _ (S.own.here p hp).1, (S.own.here p hp).2⟩, S.own.nd, S.own.gens, S.own.os⟩, ⟨m, hm _ (he _ _ hL), hl⟩, S.lo, S.ne⟩

theorem St.tok (S : St B L s ls μ ι) : St B L { s with toks := t } ls μ ι := S.ext (h' := s.heap) fun _ _ e => e

theorem St.new (S : St B L s ls μ ι) : ∀ p ∈ μ ++ ι, p.1 ≠ s.heap.objs.size := fun p hp => Nat.ne_of_lt (Heap.lt_size (S.own.here p hp).1)
theorem St.newH (S : St B L s ls μ ι) : B.H.get? s.heap.objs.size = none := by
  cases q : B.H.get? s.heap.objs.size with
  | none => rfl
  | some x => exact absurd (Heap.lt_size (S.own.keep _ _ q)) (Nat.lt_irrefl _)
theorem St.L_lt (S : St B L s ls μ ι) : L < s.heap.objs.size := by
  obtain ⟨oL, hL, _⟩ := S.frame
  exact Heap.lt_size hL

/-- known locals: fewer -/
theorem St.locs (S : St B L s ls μ ι) (h : ∀ x v, ls'.lookup x = some v → ls.lookup x = some v) : St B L s ls' μ ι := by
  obtain ⟨m, hm, hl⟩ := S.ns
  exact ⟨S.own, ⟨m, hm, fun x v e => hl x v (h x v e)⟩, S.lo, S.ne⟩
theorem St.permA (S : St B L s ls μ ι) (h : (μ' ++ ι').Perm (μ ++ ι)) : St B L s ls μ' ι' :=
  ⟨S.own.perm h, S.ns, S.lo, fun p hp => S.ne p (h.subset hp)⟩
theorem St.sub (S : St B L s ls μ ι) (h : (μ' ++ ι').Sublist (μ ++ ι)) : St B L s ls μ' ι' :=
  ⟨S.own.sub h, S.ns, S.lo, fun p hp => S.ne p (h.subset hp)⟩
/-- the changing part in another order -/
theorem St.perm (S : St B L s ls μ ι) (h : μ'.Perm μ) : St B L s ls μ' ι := S.permA (h.append_right _)
/-- the head of the changing part becomes fixed -/
theorem St.freeze {p : Addr × Obj} (S : St B L s ls (p :: μ) ι) : St B L s ls μ (p :: ι) := S.permA List.perm_middle
/-- the head of the changing part is forgotten -/
theorem St.drop {p : Addr × Obj} (S : St B L s ls (p :: μ) ι) : St B L s ls μ ι := S.sub (List.sublist_cons_self _ _)
/-- less of the fixed part -/
theorem St.less (S : St B L s ls μ ι) (h : ι'.Sublist ι) : St B L s ls μ ι' := S.sub (h.append_left _)

/-- a new object goes onto the changing part -/
theorem St.pushM (S : St B L s ls μ ι) (hf : o.isFreed = false) : St B L { s with heap := s.heap.push o, toks := t } ls ((s.heap.objs.size, o) :: μ) ι := by
  have E := S.ext (h' := s.heap.push o) (t := t) fun _ _ e => Heap.get?_push_of_some _ e
  refine ⟨⟨E.own.keep, fun p hp => ?_, ?_, S.own.gens, S.own.os⟩, E.ns, S.lo, fun p hp => ?_⟩
  · rcases List.mem_cons.mp hp with rfl | hp
    · exact ⟨Heap.get?_push_size _ hf, S.newH⟩
    · exact E.own.here p hp
  · show ((s.heap.objs.size, o) :: (μ ++ ι) |>.map (·.1)).Nodup
    rw [List.map_cons, List.nodup_cons]
    refine ⟨fun hm => ?_, S.own.nd⟩
    obtain ⟨p, hp, e⟩ := List.mem_map.mp hm
    exact S.new p hp e
  · rcases List.mem_cons.mp hp with rfl | hp
    · exact Ne.symm (Nat.ne_of_lt S.L_lt)
    · exact S.ne p hp
/-- a new object goes onto the fixed part -/
theorem St.pushI (S : St B L s ls μ ι) (hf : o.isFreed = false) : St B L { s with heap := s.heap.push o, toks := t } ls μ ((s.heap.objs.size, o) :: ι) := (S.pushM hf).freeze

/-- the object at the head is changed by others: forgotten -/
theorem St.lose (S : St B L s ls ((a, o) :: μ) ι) (he : Heap.ExtBut a s.heap h') : St B L { s with heap := h', toks := t } ls μ ι := by
  have hne : a ≠ L := S.ne (a, o) (.head _)
  obtain ⟨oL, hL, m, hm, hl⟩ := S.frame
  have nd := nodup_fst S.own.nd (List.cons_append ..)
  have ha : B.H.get? a = none := (S.own.here (a, o) (.head _)).2
  refine ⟨⟨fun b x q => he b x (fun z => by subst z; rw [ha] at q; cases q) (S.own.keep b x q), fun p hp => ⟨he _ _ (nd p hp) (S.own.here p (.tail _ hp)).1, (S.own.here p (.tail _ hp)).2⟩, S.drop.own.nd, S.own.gens, S.own.os⟩, ⟨m, hm _ (he _ _ (Ne.symm hne) hL), hl⟩, S.lo, fun p hp => S.ne p (.tail _ hp)⟩

theorem St.get (S : St B L s ls μ ι) (h : (a, o) ∈ μ ++ ι) : s.heap.get? a = some o := (S.own.here _ h).1
end
end Mine
end
section
open PySem PySem.W PySem.Spec PySem.Calls PyProof.Rows
set_option maxRecDepth 100000
set_option maxHeartbeats 4000000
set_option linter.unusedVariables false
namespace Mine

noncomputable def Room (A : Around) (d : Nat) : Prop := A.handled = none ∧ A.depth + d < 900 ∧ A.units + 10 * d < 9000

theorem Room.deeper {A : Around} {d : Nat} {env : Env} (r : Room A (d + 1)) : Room (A.deeper env) d :=
  ⟨r.1, by show A.depth + 1 + d < 900; have := r.2.1; omega, by show A.units + 3 + 10 * d < 9000; have := r.2.2; omega⟩
theorem Room.less {A : Around} {d d' : Nat} (r : Room A d) (h : d' ≤ d) : Room A d' := ⟨r.1, by have := r.2.1; omega, by have := r.2.2; omega⟩
theorem Room.units {A : Around} {d : Nat} (r : Room A d) : A.units + 100 < cLine := by rw [show cLine = 9900 from rfl]; have := r.2.2; omega

/-- a def's contract -/
noncomputable def Fn (B : Base) (f : Addr) (args : List Value) (kw : List (Str × Value)) (d : Nat) (μ ι : Led) (post : Value → Led → Led → Prop) : Prop :=
  ∀ (A : Around) (s : Shared) (R : Result → Shared → Prop), Room A d → Own B s μ ι → B.H.objs.size ≤ s.heap.objs.size →
    (∀ v μ' new s', Own B s' μ' (new ++ ι) → post v μ' new → R (.ok (.ret v)) s') →
    codeAny (model PP B.w) A (.call (.ref f) ⟨args, kw⟩) R s

/-- where a body ends -/
noncomputable def Ret (B : Base) (L : Addr) (ι : Led) (post : Value → Led → Led → Prop) (fl : Flow) (s' : Shared) : Prop :=
  ∃ ls' μ' new, St B L s' ls' μ' (new ++ ι) ∧ post (match fl with | .ret v => v | _ => .none) μ' new

theorem Gnd.nolimit {B : Base} (G : Gnd B) {s : Shared} {μ ι : Led} (S : Own B s μ ι) : s.heap.NoLimit := G.lim.keeps S.keep

section
variable {B : Base} {f : Addr} {args : List Value} {kw : List (Str × Value)} {d : Nat} {μ ι : Led} {post : Value → Led → Led → Prop}

theorem fn_intro (G : Gnd B) {name qual : Str} {params : Arguments} {body : List Stmt} {scope : Scope} {dV kV doc pm cdv ct oc : Value} {an od : Option Addr} {osl : Array (Option Value)} {binds : List (Str × Value)}
    (ho : (KF B).lookup f = some ⟨oc, od, .func (fnOf name qual params body scope dV kV doc pm an cdv ct), osl⟩) (hcd : codeIn (KF B) cdv qual = true)
    (hbind : ∀ s : Shared, (KF B).In s.heap → BindsTo s (fnOf name qual params body scope dV kV doc pm an cdv ct) ⟨args, kw⟩ binds)
    (hloc : (binds.all fun x => decide (scope.names.lookup x.1 = some .local)) = true)
    (hcell : ∀ x ∈ scope.names, x.2 ≠ .cell) (hco : scope.isCoroutine = false) (hgen : scope.isGenerator = false) (hk : scope.kind = .function)
    (h : ∀ A s L, Room A d → St B L s binds.reverse μ ι → wpAny (model PP B.w) A (execs body (envOf qual scope L f cdv)) (Ret B L ι post) (fun _ _ => False) s) :
    Fn B f args kw (d + 1) μ ι post := by
  intro A s R rm S big k
  have X : (KF B).In s.heap := G.X.keeps S.keep
  refine codeAny_call_def (fd := fnOf name qual params body scope dV kV doc pm an cdv ct) (body := body) (binds := binds) (by have := rm.2.1; show A.depth < 1000; omega) (X _ _ ho) rfl (G.nolimit S) (codeRec_of X hcd) rfl (hbind s X) hcell (locs hloc) (fun h₁ hns hk₁ => ?_) hco hgen hk
  have new : ∀ p ∈ μ ++ ι, p.1 ≠ s.heap.objs.size := fun p hp => Nat.ne_of_lt (Heap.lt_size (S.here p hp).1)
  refine wpAny_mono (h _ _ s.heap.objs.size rm.deeper ⟨⟨fun b o e => hk₁ _ _ (S.keep b o e), fun p hp => ⟨hk₁ _ _ (S.here p hp).1, (S.here p hp).2⟩, S.nd, S.gens, S.os⟩, ⟨_, hns, fun _ _ e => e⟩, big, new⟩) (fun fl s' hr => ?_) fun _ _ x => x.elim
  obtain ⟨ls', μ', nw, S', hp⟩ := hr
  exact k _ μ' nw s' S'.own hp

variable {A : Around} {E : Value → Shared → Prop} {s : Shared} {L : Addr} {ls : Loc}

theorem call_fn {Q : Value → Shared → Prop} {μ1 μ2 : Led} (S : St B L s ls μ ι) (rm : Room A d) (hp : μ.Perm (μ1 ++ μ2))
    (C : ∀ ι', (∀ p ∈ μ2 ++ ι, p ∈ ι') → Fn B f args kw d μ1 ι' post)
    (h : ∀ v μ1' new s', St B L s' ls (μ1' ++ μ2) (new ++ ι) → post v μ1' new → Q v s') : wpAny (model PP B.w) A (call (.ref f) args kw) Q E s := by
  obtain ⟨oL, hL, m, hm, hl⟩ := S.frame
  have O0 : Own B s (μ1 ++ μ2) ι := S.own.perm (hp.symm.append_right _)
  have hne : ∀ p ∈ μ1 ++ μ2 ++ ι, p.1 ≠ L := fun p h => S.ne p ((hp.symm.append_right ι).subset h)
  have O : Own B s μ1 ((L, oL) :: (μ2 ++ ι)) := by
    refine Own.perm (μ := (L, oL) :: (μ1 ++ μ2)) (ι := ι) ⟨S.own.keep, fun p hp' => ?_, ?_, S.own.gens, S.own.os⟩ ?_
    · rcases List.mem_cons.mp hp' with rfl | x
      · exact ⟨hL, S.H_L⟩
      · exact O0.here p x
    · show ((L, oL) :: (μ1 ++ μ2 ++ ι) |>.map (·.1)).Nodup
      rw [List.map_cons, List.nodup_cons]
      refine ⟨fun x => ?_, O0.nd⟩
      obtain ⟨p, hp', e⟩ := List.mem_map.mp x
      exact hne p hp' e
    · simp only [List.cons_append, List.append_assoc]
      exact List.perm_middle
  refine wpAny_call (C _ (fun p hp' => .tail _ hp') A s _ rm O (Nat.le_trans S.lo (Nat.le_of_lt S.L_lt)) fun v μ' nw s' S' hpost => ?_)
  have O' : Own B s' ((L, oL) :: (μ' ++ μ2)) (nw ++ ι) := by
    refine S'.perm ?_
    have e : (μ' ++ (nw ++ (L, oL) :: (μ2 ++ ι))).Perm ((L, oL) :: (μ' ++ (nw ++ (μ2 ++ ι)))) := by
      rw [← List.append_assoc, ← List.append_assoc]
      exact List.perm_middle
    refine (List.Perm.trans ?_ e.symm)
    simp only [List.cons_append, List.append_assoc]
    refine List.Perm.cons _ (List.Perm.append_left _ ?_)
    rw [← List.append_assoc, ← List.append_assoc]
    exact List.perm_append_comm.append_right _
  have nd := nodup_fst O'.nd (List.cons_append ..)
  refine h v μ' nw s' ⟨O'.sub (List.sublist_cons_self _ _), ⟨m, hm _ ?_, hl⟩, S.lo, nd⟩ hpost
  exact (O'.here (L, oL) (.head _)).1

/-- a call that changes nothing of the caller's -/
theorem call_pure {Q : Value → Shared → Prop} {post : Value → Led → Prop} (S : St B L s ls μ ι) (rm : Room A d)
    (C : ∀ ι', (∀ p ∈ μ ++ ι, p ∈ ι') → Fn B f args kw d [] ι' (fun v μ' new => μ' = [] ∧ post v new))
    (h : ∀ v new s', St B L s' ls μ (new ++ ι) → post v new → Q v s') : wpAny (model PP B.w) A (call (.ref f) args kw) Q E s :=
  call_fn (μ1 := []) (μ2 := μ) S rm (List.Perm.refl _) C fun v μ' new s' S' hp => by
    obtain ⟨rfl, hp⟩ := hp
    exact h v new s' S' hp
theorem call_pure0 {Q : Value → Shared → Prop} {post : Value → Prop} (S : St B L s ls μ ι) (rm : Room A d)
    (C : ∀ ι', (∀ p ∈ μ ++ ι, p ∈ ι') → Fn B f args kw d [] ι' (fun v μ' new => μ' = [] ∧ post v))
    (h : ∀ v s', St B L s' ls μ ι → post v → Q v s') : wpAny (model PP B.w) A (call (.ref f) args kw) Q E s :=
  call_pure (post := fun v _ => post v) S rm C fun v new s' S' hp => h v s' (S'.less (List.sublist_append_right _ _)) hp
end

section
variable {B : Base} {M : Model} {A : Around} {E : Value → Shared → Prop} {s : Shared} {L f : Addr} {ls : Loc} {μ ι : Led} {name : Str} {scope : Scope} {cd : Value} {x : Str} {v : Value} {pos : Pos}

theorem r_loc {Q : Value → Shared → Prop} (S : St B L s ls μ ι) (hv : ls.lookup x = some v) (h : Q v s)
    (hk : scope.kind = .function := by rfl) (hl : (envOf name scope L f cd).kindOf x = some .local := by rfl) (hd : (x == ("__debug__" : Str)) = false := by decide) :
    wpAny M A (eval (.Name x pos) (envOf name scope L f cd)) Q E s := by
  obtain ⟨m, hm, hl'⟩ := S.ns
  exact wpAny_Name (wpAny_loadName_local hk hl hm (hl' x v hv) h) hd

theorem r_store {Q : Unit → Shared → Prop} (S : St B L s ls μ ι) (h : ∀ s', St B L s' ((x, v) :: ls) μ ι → Q () s')
    (hk : scope.kind = .function := by rfl) (hl : (envOf name scope L f cd).kindOf x = some .local := by rfl) :
    wpAny M A (storeName (envOf name scope L f cd) x v) Q E s := by
  obtain ⟨m, hm, hl'⟩ := S.ns
  refine wpAny_storeName_local hl hm (fun h' hn hs => h _ ?_) (by show (scope.kind == .class || (scope.kind == .module && L != mainGlobals)) = false; rw [hk]; rfl)
  have he := hs.extBut
  refine ⟨⟨fun b o e => he b o (fun z => ?_) (S.own.keep b o e), fun p hp => ⟨he _ _ (S.ne p hp) (S.own.here p hp).1, (S.own.here p hp).2⟩, S.own.nd, S.own.gens, S.own.os⟩, ⟨_, hn, fun y u hy => ?_⟩, S.lo, S.ne⟩
  · subst z
    have := S.H_L
    rw [show B.H.get? b = none from this] at e
    cases e
  · rw [List.lookup_cons] at hy
    by_cases q : y = x
    · subst q
      simp only [beq_self_eq_true] at hy
      rw [if_pos rfl]; exact hy
    · rw [if_neg q]
      have : (y == x) = false := by simpa using q
      rw [this] at hy
      exact hl' y u hy

theorem r_glob {Q : Value → Shared → Prop} (G : Gnd B) (S : St B L s ls μ ι) (e : nsIn (KF B) mainGlobals x = some (some v)) (h : Q v s)
    (hk : scope.kind = .function := by rfl) (hl : (envOf name scope L f cd).kindOf x = some .globalImplicit := by rfl) (hd : (x == ("__debug__" : Str)) = false := by decide) :
    wpAny M A (eval (.Name x pos) (envOf name scope L f cd)) Q E s := by
  obtain ⟨mg, mb, hg, hb, hn⟩ := G.top
  exact Name_function_global hk hl (loadGlobal_global (env := envOf name scope L f cd) (hg.keeps S.own.keep) (mg_of G.X hg e) h) hd

theorem r_blt {Q : Value → Shared → Prop} (G : Gnd B) (S : St B L s ls μ ι) (e : nsIn (KF B) mainGlobals x = some none) (hv : bootBuiltins x = some v) (hnn : x ≠ "__name__") (h : Q v s)
    (hk : scope.kind = .function := by rfl) (hl : (envOf name scope L f cd).kindOf x = some .globalImplicit := by rfl) (hd : (x == ("__debug__" : Str)) = false := by decide) :
    wpAny M A (eval (.Name x pos) (envOf name scope L f cd)) Q E s := by
  obtain ⟨mg, mb, hg, hb, hn⟩ := G.top
  exact Name_function_global hk hl (loadGlobal_builtin (env := envOf name scope L f cd) (hg.keeps S.own.keep) (mg_none_of G.X hg e) (hb.keeps S.own.keep) ((hn x hnn).trans hv) h) hd
end
end Mine
end
section
open PySem PySem.W PySem.Spec PySem.Calls PyProof.Rows
set_option maxRecDepth 100000
set_option maxHeartbeats 4000000
set_option linter.unusedVariables false
namespace Mine

noncomputable abbrev listO (vs : List Value) (n : Nat) : Obj := { cls := .type "list", data := .seq vs.toArray n }
noncomputable abbrev tupO (vs : List Value) (n : Nat) : Obj := { cls := .type "tuple", data := .seq vs.toArray n }

theorem execs_app (as bs : List Stmt) (env : Env) : execs (as ++ bs) env = (execs as env >>= fun f => match f with | .next => execs bs env | f => pure f) := by
  induction as with
  | nil => show execs bs env = (pure Flow.next >>= _); rw [pure_bind]
  | cons a as ih =>
    show (do match ← exec a env with | .next => execs (as ++ bs) env | f => pure f) = ((do match ← exec a env with | .next => execs as env | f => pure f) >>= _)
    rw [bind_assoc]
    refine congrArg _ (funext fun f => ?_)
    cases f with
    | next => exact ih
    | _ => rfl

section
variable {M : Model} {A : Around} {E : Value → Shared → Prop} {s : Shared} {env : Env} {rest : List Stmt} {Q : Flow → Shared → Prop}

theorem r_nil (h : Q .next s) : wpAny M A (execs [] env) Q E s := wpAny_execs_nil h
theorem r_ret {e pos} (h : wpAny M A (eval e env) (fun v s' => Q (.ret v) s') E s) : wpAny M A (execs (.Return (some e) pos :: rest) env) Q E s :=
  wpAny_execs_cons (wpAny_Return_some h)
theorem r_asg {x pos' value pos} (h : wpAny M A (eval value env) (fun v s₁ => wpAny M A (storeName env x v) (fun _ s₂ => wpAny M A (execs rest env) Q E s₂) E s₁) E s)
    (hs : swapsWith value (some (.Name x pos')) pos.line env = pure false := by rfl) : wpAny M A (execs (.Assign [.Name x pos'] value pos :: rest) env) Q E s :=
  wpAny_execs_cons (wpAny_Assign_Name h hs)
theorem r_asgT {elts k tpos value pos} (h : wpAny M A (eval value env) (fun v s₁ => wpAny M A (assign (.Tuple elts k tpos) env v) (fun _ s₂ => wpAny M A (execs rest env) Q E s₂) E s₁) E s)
    (hs : swapsWithSole [.Tuple elts k tpos] value pos.line env = pure false := by rfl) (hw : swappedStores [.Tuple elts k tpos] value env = pure none := by rfl) :
    wpAny M A (execs (.Assign [.Tuple elts k tpos] value pos :: rest) env) Q E s := wpAny_execs_cons (Assign_Tuple h hs hw)
theorem r_asgS {o i pos' value pos} (h : wpAny M A (eval value env) (fun v s₁ => wpAny M A (eval o env) (fun ov s₂ => wpAny M A (eval i env) (fun iv s₃ =>
      wpAny M A (setItem ov iv v) (fun _ s₄ => wpAny M A (execs rest env) Q E s₄) E s₃) E s₂) E s₁) E s)
    (hs : swapsWith value (some (.Subscript o i pos')) pos.line env = pure false := by rfl) : wpAny M A (execs (.Assign [.Subscript o i pos'] value pos :: rest) env) Q E s :=
  wpAny_execs_cons (wpAny_Assign_Subscript h hs)
theorem r_asgA {o attr pos' value pos} (h : wpAny M A (eval value env) (fun v s₁ => wpAny M A (eval o env) (fun ov s₂ => wpAny M A (setAttr ov attr v) (fun _ s₃ => wpAny M A (execs rest env) Q E s₃) E s₂) E s₁) E s)
    (hs : swapsWith value (some (.Attribute o attr pos')) pos.line env = pure false := by rfl) : wpAny M A (execs (.Assign [.Attribute o attr pos'] value pos :: rest) env) Q E s :=
  wpAny_execs_cons (plainObj_wpAny_Assign_Attribute h hs)
theorem r_if {test body orelse pos} (h : wpAny M A (isTrue test env (eval test env)) (fun b s₂ => if b then wpAny M A (execs (body ++ rest) env) Q E s₂ else wpAny M A (execs (orelse ++ rest) env) Q E s₂) E s) :
    wpAny M A (execs (.If test body orelse pos :: rest) env) Q E s := by
  have e : execs (.If test body orelse pos :: rest) env = (do
      standAt pos
      if ← isTrue test env (eval test env) then execs (body ++ rest) env else execs (orelse ++ rest) env) := by
    rw [execs_app, execs_app]
    show ((do standAt pos; if ← isTrue test env (eval test env) then execs body env else execs orelse env) >>= _) = _
    rw [bind_assoc]
    refine congrArg _ (funext fun _ => ?_)
    rw [bind_assoc]
    refine congrArg _ (funext fun b => ?_)
    cases b <;> rfl
  rw [e]
  refine wpAny_bind (wpAny_standAt (wpAny_bind (wpAny_mono h (fun b s₂ h₂ => ?_) fun _ _ x => x)))
  cases b <;> exact h₂
theorem r_del {o i spos pos} (h : wpAny M A (eval o env) (fun ov s₁ => wpAny M A (eval i env) (fun iv s₂ => wpAny M A (delItem ov iv) (fun _ s₃ => wpAny M A (execs rest env) Q E s₃) E s₂) E s₁) E s) :
    wpAny M A (execs (.Delete [.Subscript o i spos] pos :: rest) env) Q E s :=
  wpAny_execs_cons (wpAny_Delete (wpAny_deleteEach_cons (wpAny_delete_Subscript (wpAny_mono h (fun _ _ h₁ => wpAny_mono h₁ (fun _ _ h₂ => wpAny_mono h₂ (fun _ _ h₃ => wpAny_deleteEach_nil h₃) fun _ _ x => x) fun _ _ x => x) fun _ _ x => x))))
theorem r_exp {prog : Program} {w : World} {e pos} (h : wpAny (model prog w) A (eval e env) (fun _ s' => wpAny (model prog w) A (execs rest env) Q E s') E s) (hi : interactive env = false := by rfl) (hs : swapsWith e none pos.line env = pure false := by rfl) :
    wpAny (model prog w) A (execs (.Expr e pos :: rest) env) Q E s := wpAny_execs_cons (wpAny_Expr_any h hi hs)

/-- the end of a loop's turn -/
noncomputable def Turn (J : Shared → Prop) (Q : Flow → Shared → Prop) : Flow → Shared → Prop
  | .next, s => J s
  | .cont, s => J s
  | .brk, s => Q .next s
  | .ret v, s => Q (.ret v) s

theorem evalArgs_l {f : Value} {l : List (Bool × Sem Value)} {Q : Args → Shared → Prop} (hp : l.any (·.1) = false) (h : wpAny M A (spliced l) (fun vs s' => Q ⟨vs, []⟩ s') E s) : wpAny M A (evalArgs f true l []) Q E s := by
  cases l with
  | nil =>
    unfold evalArgs
    show wpAny M A (spliced [] >>= _) Q E s
    refine wpAny_bind (wpAny_mono h (fun vs s' h' => wpAny_bind (wpAny_pure ?_)) fun _ _ x => x)
    refine wpAny_holding ?_
    exact wpAny_bind (wpAny_pure (wpAny_bind (wpAny_pure (wpAny_pure h'))))
  | cons p l =>
    obtain ⟨b, x⟩ := p
    cases b with
    | true => cases hp
    | false => exact evalArgs_plain h

variable {Qv : Value → Shared → Prop} {pos : Pos} {args : List Expr}
/-- a call of a built-in: the arguments, then the call -/
theorem cw_b {id : String} {first : List Value} (h : wpAny M A (spliced (backTo pos (starEach args env))) (fun vs s₁ => wpAny M A (call (.builtin id) (first ++ vs)) Qv E s₁) E s)
    (hp : (backTo pos (starEach args env)).any (·.1) = false := by rfl) : wpAny M A (callWith pos (.builtin id) first (backTo pos (starEach args env)) []) Qv E s :=
  callWith_builtin hp (evalArgs_l hp h)
theorem cw_b0 {id : String} (h : wpAny M A (spliced (backTo pos (starEach args env))) (fun vs s₁ => wpAny M A (call (.builtin id) vs) Qv E s₁) E s)
    (hp : (backTo pos (starEach args env)).any (·.1) = false := by rfl) : wpAny M A (callWith pos (.builtin id) [] (backTo pos (starEach args env)) []) Qv E s := cw_b h hp
theorem cw_t {T : String} (h : wpAny M A (spliced (backTo pos (starEach args env))) (fun vs s₁ => wpAny M A (call (.type T) vs) Qv E s₁) E s)
    (hp : (backTo pos (starEach args env)).any (·.1) = false := by rfl) : wpAny M A (callWith pos (.type T) [] (backTo pos (starEach args env)) []) Qv E s :=
  PySem.callWith_type hp (evalArgs_l hp h)
end

section
variable {B : Base} {A : Around} {E : Value → Shared → Prop} {s : Shared} {env : Env} {L f : Addr} {Q : Value → Shared → Prop} {pos : Pos} {args : List Expr} {ls : Loc} {μ ι : Led}
/-- a call of a def of the text's: the arguments, then the call -/
noncomputable def CallAt (B : Base) (A : Around) (L : Addr) (f : Value) (kw : List (Str × Value)) (Q : Value → Shared → Prop) (E : Value → Shared → Prop) (vs : List Value) (s : Shared) : Prop :=
  (∃ ls μ ι, St B L s ls μ ι) ∧ wpAny (model PP B.w) A (call f vs kw) Q E s
theorem CallAt.of {kw : List (Str × Value)} {f : Value} {vs : List Value} (S : St B L s ls μ ι) (h : wpAny (model PP B.w) A (call f vs kw) Q E s) : CallAt B A L f kw Q E vs s := ⟨⟨_, _, _, S⟩, h⟩

theorem cw_f {first : List Value} (G : Gnd B) (S : St B L s ls μ ι) (hk : keepIn (KF B) (.ref f) = true) (h : wpAny (model PP B.w) A (spliced (backTo pos (starEach args env))) (fun vs s₁ => CallAt B A L (.ref f) [] Q E (first ++ vs) s₁) E s)
    (hp : (backTo pos (starEach args env)).any (·.1) = false := by rfl) : wpAny (model PP B.w) A (callWith pos (.ref f) first (backTo pos (starEach args env)) []) Q E s := by
  refine callWith_of (P := fun h => (KF B).In h) (by rw [hp]; rfl) (fun h X => keeps_K hk h X) (evalArgs_l hp (wpAny_mono h (fun vs s₁ h₁ => ?_) fun _ _ x => x))
  obtain ⟨⟨_, _, _, S⟩, hc⟩ := h₁
  exact ⟨G.X.keeps S.own.keep, hc⟩

theorem cw_f0 (G : Gnd B) (S : St B L s ls μ ι) (hk : keepIn (KF B) (.ref f) = true) (h : wpAny (model PP B.w) A (spliced (backTo pos (starEach args env))) (fun vs s₁ => CallAt B A L (.ref f) [] Q E vs s₁) E s)
    (hp : (backTo pos (starEach args env)).any (·.1) = false := by rfl) : wpAny (model PP B.w) A (callWith pos (.ref f) [] (backTo pos (starEach args env)) []) Q E s := cw_f G S hk h hp

theorem r_call {x : Str} {p : Pos} {M : Model} (h : wpAny M A (eval (.Name x p) env) (fun f s₁ => wpAny M A (callWith pos f [] (backTo pos (starEach args env)) []) Q E s₁) E s) :
    wpAny M A (eval (.Call (.Name x p) args [] pos) env) Q E s := wpAny_Call_NameR h

/-- a method of a built-in type -/
theorem r_meth {o : Expr} {name : Str} {apos : Pos} {T id : String} {prog : Program} {w : World} (pa : PlainAttrs T) (slot : PySem.Slot T name id) (hty : typeOf (.builtin id) = pure (.type "method_descriptor"))
    (hbase : attributeBase o name env (eval o env) = eval o env)
    (hfew : ((backTo pos (starEach args env)).all (fun x => !x.1) && (backToKw pos (keywordEach [] env)).all (fun x => x.1.isSome)
      && decide (args.length + ([] : List Keyword).length + (if ([] : List Keyword).isEmpty then 0 else 1) < 30)) = true)
    (hp : (backTo pos (starEach args env)).any (·.1) = false)
    (hline : (apos.endLine == pos.line) = true)
    (h : wpAny (model prog w) A (eval o env) (fun ov s₁ => s₁.TypeIs ov T ∧ (∀ a, ov = .ref a → ∃ ob, s₁.heap.get? a = some ob ∧ ob.dict = none) ∧
      wpAny (model prog w) A (spliced (backTo pos (starEach args env))) (fun vs s₂ => wpAny (model prog w) A (call (.builtin id) (ov :: vs)) Q E s₂) E s₁) E s) :
    wpAny (model prog w) A (eval (.Call (.Attribute o name apos) args [] pos) env) Q E s :=
  wpAny_Call_method hbase hfew hline pa slot hty (wpAny_mono h (fun ov s₁ h₁ => ⟨h₁.1, h₁.2.1, cw_b h₁.2.2 hp⟩) fun _ _ x => x)

theorem onList {a : Addr} {vs : List Value} {n : Nat} {P : Prop} (S : St B L s ls μ ι) (hm : (a, listO vs n) ∈ μ ++ ι) (h : P) :
    s.TypeIs (.ref a) "list" ∧ (∀ b, Value.ref a = .ref b → ∃ ob, s.heap.get? b = some ob ∧ ob.dict = none) ∧ P :=
  ⟨⟨_, S.get hm, rfl⟩, fun b e => by cases e; exact ⟨_, S.get hm, rfl⟩, h⟩
theorem onStr {x : Str} {t : Tok} {P : Prop} (h : P) : s.TypeIs (.str x t) "str" ∧ (∀ b, Value.str x t = .ref b → ∃ ob, s.heap.get? b = some ob ∧ ob.dict = none) ∧ P :=
  ⟨typeIs_str _ _ _, (fun b e => nomatch e), h⟩

/-- a built-in's one argument and more: plain rules again, with the state's facts -/
theorem r_int {i : Int} {k p} (S : St B L s ls μ ι) {M : Model} (h : ∀ s' t, St B L s' ls μ ι → Q (.int i t) s') : wpAny M A (eval (.Constant (.int i) k p) env) Q E s := wpAny_Constant_int (h _ _ S.tok)
theorem r_str {x : Str} {k p} (S : St B L s ls μ ι) {M : Model} (h : ∀ s' t, St B L s' ls μ ι → Q (.str x t) s') : wpAny M A (eval (.Constant (.str x) k p) env) Q E s := Constant_str (h _ _ S.tok)
variable {a b : Int} {t u : Tok} {prog : Program} {w : World}
theorem r_add (S : St B L s ls μ ι) (h : ∀ s' t, St B L s' ls μ ι → Q (.int (a + b) t) s') : wpAny (model prog w) A (binaryOp .Add (.int a t) (.int b u)) Q E s := PyProof.Rows.add_int (h _ _ S.tok)
theorem r_sub (S : St B L s ls μ ι) (h : ∀ s' t, St B L s' ls μ ι → Q (.int (a - b) t) s') : wpAny (model prog w) A (binaryOp .Sub (.int a t) (.int b u)) Q E s := PyProof.Rows.sub_int (h _ _ S.tok)
theorem r_mod (S : St B L s ls μ ι) (hb : 0 < b) (h : ∀ s' t, St B L s' ls μ ι → Q (.int (a % b) t) s') : wpAny (model prog w) A (binaryOp .Mod (.int a t) (.int b u)) Q E s :=
  PyProof.Rows.mod_int (by omega) (by rw [Int.fmod_eq_emod_of_nonneg _ (by omega)]; exact h _ _ S.tok)
theorem r_div (S : St B L s ls μ ι) (hb : 0 < b) (hb2 : b < 4000) (h : ∀ s' t, St B L s' ls μ ι → Q (.int (a / b) t) s') : wpAny (model prog w) A (binaryOp .FloorDiv (.int a t) (.int b u)) Q E s :=
  PyProof.Rows.floordiv_int (by omega) (by rw [Int.fdiv_eq_ediv_of_nonneg _ (by omega)]; exact h _ _ S.tok) (Or.inl (PyProof.noPylong_small (by omega)))
theorem r_neg (S : St B L s ls μ ι) (h : ∀ s' t, St B L s' ls μ ι → Q (.int (-a) t) s') : wpAny (model prog w) A (unaryOp .USub (.int a t)) Q E s := PyProof.Rows.neg_int (h _ _ S.tok)
theorem r_cat {x y : Str} (S : St B L s ls μ ι) (hsz : x.length + y.length ≤ sizeLine) (h : ∀ s' t, St B L s' ls μ ι → Q (.str (x ++ y) t) s') : wpAny (model prog w) A (binaryOp .Add (.str x t) (.str y u)) Q E s :=
  PyProof.Rows.add_str (fun t' tk => h _ _ S.tok) hsz

theorem St.isList (S : St B L s ls μ ι) {a : Addr} {vs : List Value} {n : Nat} (hm : (a, listO vs n) ∈ μ ++ ι) : s.heap.IsList a vs.toArray := ⟨_, S.get hm, rfl, _, rfl⟩
theorem St.isTup (S : St B L s ls μ ι) {a : Addr} {vs : List Value} {n : Nat} (hm : (a, tupO vs n) ∈ μ ++ ι) : IsTup s.heap a vs.toArray := ⟨_, S.get hm, rfl, _, rfl⟩

theorem r_newList {M : Model} {vs : List Value} (S : St B L s ls μ ι) (hsz : vs.length ≤ sizeLine) (h : ∀ s' a, St B L s' ls ((a, listO vs 0) :: μ) ι → Q (.ref a) s') : wpAny M A (newList vs) Q E s :=
  wpAny_newObj_type (h _ _ (S.pushM rfl)) (by show vs.toArray.size ≤ sizeLine; rw [List.size_toArray]; exact hsz)
theorem r_newTup {M : Model} {vs : List Value} (S : St B L s ls μ ι) (hsz : vs.length ≤ sizeLine) (h : ∀ s' a, St B L s' ls μ ((a, tupO vs 0) :: ι) → Q (.ref a) s') : wpAny M A (newTuple vs) Q E s :=
  wpAny_newObj_type (h _ _ (S.pushI rfl)) (by show vs.toArray.size ≤ sizeLine; rw [List.size_toArray]; exact hsz)

theorem r_lenL {l : Addr} {vs : List Value} {n : Nat} (S : St B L s ls μ ι) (hm : (l, listO vs n) ∈ μ ++ ι) (hsz : vs.length ≤ 2 ^ 40) (h : ∀ s' t, St B L s' ls μ ι → Q (.int vs.length t) s') : wpAny (model prog w) A (call (.builtin "len") [.ref l]) Q E s :=
  PyProof.Rows.len_list (S.isList hm) (by rw [List.size_toArray]; omega) (by rw [List.size_toArray]; exact h _ _ S.tok)
theorem r_lenT {l : Addr} {vs : List Value} {n : Nat} (S : St B L s ls μ ι) (hm : (l, tupO vs n) ∈ μ ++ ι) (hsz : vs.length ≤ 2 ^ 40) (h : ∀ s' t, St B L s' ls μ ι → Q (.int vs.length t) s') : wpAny (model prog w) A (call (.builtin "len") [.ref l]) Q E s :=
  PyProof.Rows.len_tuple (S.isTup hm) (by rw [List.size_toArray]; omega) (by rw [List.size_toArray]; exact h _ _ S.tok)
theorem r_lenS {x : Str} (S : St B L s ls μ ι) (hsz : x.length ≤ 2 ^ 40) (h : ∀ s' t, St B L s' ls μ ι → Q (.int x.length t) s') : wpAny (model prog w) A (call (.builtin "len") [.str x t]) Q E s :=
  PyProof.Rows.len_str (by omega) (h _ _ S.tok)

variable {value slice : Expr} {v : Value}
theorem r_itemL {l : Addr} {vs : List Value} {n : Nat} {k : Int} (S : St B L s ls μ ι) (hm : (l, listO vs n) ∈ μ ++ ι) (h0 : 0 ≤ k) (h1 : k < 2 ^ 63) (hx : vs[k.toNat]? = some v) (h : Q v s)
    (hs : subscripted slice false (.ref l) (.int k u) = operate [.ref l, .int k u] (getItem (.ref l) (.int k u)) := by with_unfolding_all rfl) :
    wpAny (model prog w) A (subscriptTail value slice (.ref l) (.int k u)) Q E s :=
  tail_any (S.isList hm).typeIs slot_list_getitem.lookup (wpAny_getItem_list (S.isList hm) h0 h1 (by simpa using hx) h) hs
theorem r_itemLast {l : Addr} {vs : List Value} {n : Nat} (S : St B L s ls μ ι) (hm : (l, listO vs n) ∈ μ ++ ι) (hx : vs.getLast? = some v) (h : Q v s)
    (hs : subscripted slice false (.ref l) (.int (-1) u) = operate [.ref l, .int (-1) u] (getItem (.ref l) (.int (-1) u)) := by with_unfolding_all rfl) :
    wpAny (model prog w) A (subscriptTail value slice (.ref l) (.int (-1) u)) Q E s := by
  have hn : vs ≠ [] := by rintro rfl; cases hx
  have hl : 0 < vs.length := List.length_pos_iff.mpr hn
  refine tail_any (S.isList hm).typeIs slot_list_getitem.lookup (wpAny_getItem_list_neg (S.isList hm) (by decide) (by rw [List.size_toArray]; omega) (by decide) ?_ h) hs
  rw [List.size_toArray, List.getElem?_toArray, show (-1 + (vs.length : Int)).toNat = vs.length - 1 by omega, ← List.getLast?_eq_getElem?]
  exact hx
theorem r_itemT {l : Addr} {vs : List Value} {n : Nat} {k : Int} (S : St B L s ls μ ι) (hm : (l, tupO vs n) ∈ μ ++ ι) (h0 : 0 ≤ k) (h1 : k < 2 ^ 63) (hx : vs[k.toNat]? = some v) (h : Q v s)
    (hs : subscripted slice false (.ref l) (.int k u) = operate [.ref l, .int k u] (getItem (.ref l) (.int k u)) := by with_unfolding_all rfl) :
    wpAny (model prog w) A (subscriptTail value slice (.ref l) (.int k u)) Q E s := by
  have hl : k.toNat < vs.length := (List.getElem?_eq_some_iff.mp hx).1
  refine item_tupleT (j := k.toNat) (S.isTup hm) (by omega) h1 ?_ hx h hs
  have : ¬ k < 0 := by omega
  simp only [seqIndex?, this, if_false, Bool.and_eq_true, decide_eq_true_eq]
  rw [if_pos ⟨h0, by omega⟩]
end
end Mine
end
section
open PySem PySem.W PySem.Spec PySem.Calls PyProof.Rows
set_option maxRecDepth 100000
set_option maxHeartbeats 4000000
set_option linter.unusedVariables false
namespace Mine

theorem ite_cases {c : Prop} [Decidable c] {a b : Prop} (h1 : c → a) (h2 : ¬ c → b) : if c then a else b := by split <;> simp_all

theorem ret_at {B : Base} {L : Addr} {s : Shared} {ls : Loc} {μ' new ι : Led} {v : Value} {post : Value → Led → Led → Prop} (S : St B L s ls μ' (new ++ ι)) (h : post v μ' new) : Ret B L ι post (.ret v) s := ⟨_, _, _, S, h⟩

theorem ret_sub {B : Base} {L : Addr} {s : Shared} {ls : Loc} {μ μ' new ι ι' : Led} {v : Value} {post : Value → Led → Led → Prop} (S : St B L s ls μ ι') (hs : (μ' ++ (new ++ ι)).Sublist (μ ++ ι')) (h : post v μ' new) : Ret B L ι post (.ret v) s := ⟨_, _, _, S.sub hs, h⟩

noncomputable def TurnE (J : Shared → Prop) (Q : Flow → Shared → Prop) : Flow → Shared → Prop
  | .next, s => J s
  | .cont, s => False
  | .brk, s => False
  | .ret v, s => Q (.ret v) s

section
variable {prog : Program} {w : World} {A : Around} {E : Value → Shared → Prop} {s : Shared} {env : Env} {rest body : List Stmt} {Q : Flow → Shared → Prop} {pos : Pos} {test iter target : Expr}

/-- an if whose ways meet behind it -/
theorem r_ifj {orelse : List Stmt} (J : Shared → Prop) (h1 : wpAny (model prog w) A (isTrue test env (eval test env)) (fun b s₂ =>
      if b then wpAny (model prog w) A (execs body env) (TurnE J Q) (fun _ _ => False) s₂ else wpAny (model prog w) A (execs orelse env) (TurnE J Q) (fun _ _ => False) s₂) (fun _ _ => False) s)
    (h2 : ∀ s', J s' → wpAny (model prog w) A (execs rest env) Q E s') : wpAny (model prog w) A (execs (.If test body orelse pos :: rest) env) Q E s := by
  refine wpAny_execs_cons (wpAny_mono (wpAny_If (Q := fun f s' => match f with | .next => J s' | .ret v => Q (.ret v) s' | _ => False) (E := fun _ _ => False) (wpAny_mono h1 (fun b s₂ h₂ => ?_) fun _ _ x => x)) (fun f s' h' => ?_) fun _ _ x => x.elim)
  · cases b
    · exact wpAny_mono h₂ (fun f s' h' => by cases f <;> first | exact h' | exact h'.elim | trivial) fun _ _ x => x
    · exact wpAny_mono h₂ (fun f s' h' => by cases f <;> first | exact h' | exact h'.elim | trivial) fun _ _ x => x
  · cases f with
    | next => exact h2 s' h'
    | ret v => exact h'
    | brk => exact h'.elim
    | cont => exact h'.elim

theorem r_while (I : Nat → Shared → Prop) (n : Nat) (h0 : I n s)
    (turn : ∀ n s, I n s → wpAny (model prog w) A (isTrue test env (eval test env)) (fun b s₂ =>
      if b then wpAny (model prog w) A (execs body env) (TurnE (fun s₃ => ∃ m, m < n ∧ I m s₃) Q) (fun _ _ => False) s₂ else wpAny (model prog w) A (execs rest env) Q E s₂) (fun _ _ => False) s) :
    wpAny (model prog w) A (execs (.While test body [] pos :: rest) env) Q E s := by
  refine wpAny_execs_cons (wpAny_While (codeAny_whileLoop I (fun n s hI => ?_) n h0))
  refine wpAny_mono (turn n s hI) (fun b s₂ h₂ => ?_) fun _ _ x => x.elim
  cases b with
  | false => exact wpAny_execs_nil h₂
  | true =>
    refine wpAny_mono h₂ (fun f s₃ h₃ => ?_) fun _ _ x => x.elim
    cases f with
    | next => exact h₃
    | cont => exact h₃.elim
    | brk => exact h₃.elim
    | ret v => exact h₃

theorem r_whileJ (I : Nat → Shared → Prop) (J : Shared → Prop) (n : Nat) (h0 : I n s)
    (turn : ∀ n s, I n s → wpAny (model prog w) A (isTrue test env (eval test env)) (fun b s₂ =>
      if b then wpAny (model prog w) A (execs body env) (TurnE (fun s₃ => ∃ m, m < n ∧ I m s₃) Q) (fun _ _ => False) s₂ else J s₂) (fun _ _ => False) s)
    (fin : ∀ s, J s → wpAny (model prog w) A (execs rest env) Q E s) :
    wpAny (model prog w) A (execs (.While test body [] pos :: rest) env) Q E s :=
  r_while I n h0 fun n s hI => wpAny_mono (turn n s hI) (fun b s₂ h₂ => by
    cases b
    · exact fin _ h₂
    · exact h₂) fun _ _ x => x

noncomputable def ForK (prog : Program) (w : World) (A : Around) (target : Expr) (body rest : List Stmt) (env : Env) (Q : Flow → Shared → Prop) (E : Value → Shared → Prop) (it : Value) (s : Shared) : Prop :=
  codeAny (model prog w) A (.forLoop target it body [] env) (fun r s' => match r with
    | .ok f => (match f with | .next => wpAny (model prog w) A (execs rest env) Q E s' | f => Q f s')
    | .error e => cameBackBy (model prog w) A env E e s') s

theorem r_for (h : wpAny (model prog w) A (eval iter env) (fun x s₁ => wpAny (model prog w) A (pyIter x) (ForK prog w A target body rest env Q E) E s₁) E s)
    (hs : ∀ x, foldedSetIterable iter env x = pure x := by intro _; rfl) : wpAny (model prog w) A (execs (.For target iter body [] pos :: rest) env) Q E s :=
  wpAny_execs_cons (wpAny_For h hs)

theorem letGo_iter {I : Addr} {o : Obj} {v : Value} {Q : Unit → Shared → Prop} {n : String} {vs : Array Value} (ho : s.heap.get? I = some o) (hc : o.cls = .type n) (hd : o.data = .fields vs)
    (hn : ["enumerate", "zip", "dict_itemiterator", "dict_reverseitemiterator", "odict_iterator", "itertools.zip_longest", "itertools.pairwise"].contains n = false) (hQ : Q () s) :
    wpAny (model prog w) A (letOwnedTupleGo target (.ref I) v) Q E s := by
  have z : ∀ T : Addr, wpAny (model prog w) A (do
      let o ← load I
      match o.cls, o.data with
      | .type n, .fields vs =>
        if ["enumerate", "zip", "dict_itemiterator", "dict_reverseitemiterator", "odict_iterator", "itertools.zip_longest", "itertools.pairwise"].contains n && vs[0]? == some (rawInt T) then
          rule "for.unpacks-the-owned-tuple"
          updateField I 0 .none
      | _, _ => pure ()) Q E s := fun T => by
    refine wpAny_bind (wpAny_load ho ?_)
    rw [hc, hd]
    dsimp only
    rw [hn, Bool.false_and, if_neg (by decide)]
    exact wpAny_pure hQ
  cases target with
  | Tuple _ _ _ => cases v with
    | ref T => exact z T
    | _ => exact wpAny_pure hQ
  | List _ _ => cases v with
    | ref T => exact z T
    | _ => exact wpAny_pure hQ
  | _ => exact wpAny_pure hQ
end

section
variable {B : Base} {A : Around} {E : Value → Shared → Prop} {s : Shared} {env : Env} {rest body : List Stmt} {Q : Flow → Shared → Prop} {pos : Pos} {iter target : Expr} {L l : Addr} {ls : Loc} {μ ι : Led} {vs : List Value} {n : Nat} {prog : Program} {w : World}

/-- each of these locals is known -/
noncomputable def LocAll (ls : Loc) : Loc → Prop
  | [] => True
  | p :: r => ls.lookup p.1 = some p.2 ∧ LocAll ls r
theorem LocAll.mem {ls : Loc} : ∀ {l : Loc}, LocAll ls l → ∀ p ∈ l, ls.lookup p.1 = some p.2
  | _ :: _, ⟨h, _⟩, _, .head _ => h
  | _ :: _, ⟨_, r⟩, _, .tail _ m => r.mem _ m
theorem lookup_mem {x : Str} {v : Value} : ∀ {l : Loc}, l.lookup x = some v → (x, v) ∈ l
  | [], h => by cases h
  | (y, u) :: l, h => by
    rw [List.lookup_cons] at h
    split at h
    · rename_i q
      cases h
      rw [beq_iff_eq.mp q]
      exact .head _
    · exact .tail _ (lookup_mem h)
theorem St.pick (S : St B L s ls μ ι) {ls' : Loc} (h : LocAll ls ls') : St B L s ls' μ ι := S.locs fun x v e => h.mem _ (lookup_mem e)
theorem St.again {x : Str} {v : Value} (S : St B L s ls μ ι) (h : ls.lookup x = some v) : St B L s ((x, v) :: ls) μ ι := S.locs fun y u e => by
  rw [List.lookup_cons] at e
  split at e
  · rename_i q
    cases e
    rw [beq_iff_eq.mp q]
    exact h
  · exact e
theorem ifj_g {test : Expr} {orelse : List Stmt} (S : St B L s ls μ ι) (J : Loc → Shared → Prop) (h1 : wpAny (model prog w) A (isTrue test env (eval test env)) (fun b s₂ =>
      if b then wpAny (model prog w) A (execs body env) (TurnE (J ls) Q) (fun _ _ => False) s₂ else wpAny (model prog w) A (execs orelse env) (TurnE (J ls) Q) (fun _ _ => False) s₂) (fun _ _ => False) s)
    (h2 : ∀ s', J ls s' → wpAny (model prog w) A (execs rest env) Q E s') : wpAny (model prog w) A (execs (.If test body orelse pos :: rest) env) Q E s := r_ifj (J ls) h1 h2

/-- a for over a list that no turn changes -/
theorem loop_list (hh : A.handled = none) (S : St B L s ls μ ι) {ol : Obj} (hol : ol.cls = .type "list" ∧ ∃ n, ol.data = .seq vs.toArray n) (I : Nat → Loc → Led → Led → Prop) (h0 : I 0 ls μ ι)
    (hl : ∀ i ls μ ι, I i ls μ ι → ∀ s, Own B s μ ι → s.heap.get? l = some ol)
    (turn : ∀ i v ls μ ι s it o, vs[i]? = some v → I i ls μ ι → St B L s ls ((it, o) :: μ) ι →
      wpAny (model prog w) A (assign target env v) (fun _ s₁ => wpAny (model prog w) A (execs body env) (TurnE (fun s₂ => ∃ ls' μ' ι', St B L s₂ ls' ((it, o) :: μ') ι' ∧ I (i + 1) ls' μ' ι') Q) (fun _ _ => False) s₁) (fun _ _ => False) s)
    (fin : ∀ ls μ ι s, I vs.length ls μ ι → St B L s ls μ ι → wpAny (model prog w) A (execs rest env) Q E s) :
    wpAny (model prog w) A (pyIter (.ref l)) (ForK prog w A target body rest env Q E) E s := by
  obtain ⟨hol1, nl, hol2⟩ := hol
  have isl : ∀ i ls μ ι s, I i ls μ ι → Own B s μ ι → s.heap.IsList l vs.toArray := fun i ls μ ι s h O => ⟨ol, hl _ _ _ _ h s O, hol1, nl, hol2⟩
  refine wpAny_pyIter_list (isl _ _ _ _ _ h0 S.own) ?_
  unfold ForK
  refine codeAny_forLoop_any (I := fun k sx => ∃ i ls μ ι o, k + i = vs.length ∧ St B L sx ls ((s.heap.objs.size, o) :: μ) ι ∧ I i ls μ ι ∧ o.cls = .type "list_iterator" ∧ o.data = .fields #[.ref l, .int i 0]) (fun k s₁ hI => ?_) vs.length ?_
  · obtain ⟨i, ls, μ, ι, o, hk, S, hi, hc, hd⟩ := hI
    have hit : s₁.heap.IsListIter s.heap.objs.size l i := ⟨o, S.get (.head _), hc, hd⟩
    have hL := isl _ _ _ _ _ hi S.drop.own
    cases hx : vs[i]? with
    | none =>
      refine wpAny_pyNext_list_end hh hit hL (by simpa using hx) fun h' he => ?_
      have hi' : i = vs.length := by have := List.getElem?_eq_none_iff.mp hx; omega
      subst hi'
      exact wpAny_execs_nil (fin _ _ _ _ hi (S.lose (t := s₁.toks) he))
    | some v =>
      refine wpAny_pyNext_list_item hit hL (by simpa using hx) fun h' hit' hs => ?_
      obtain ⟨o', ho', hc', hd'⟩ := hit'
      have S' := S.change (t := s₁.toks) .head hs.extBut ho'
      refine letGo_iter ho' hc' hd' (by decide) ?_
      refine wpAny_mono (turn i v ls μ ι _ _ o' hx hi S') (fun _ s₂ h₂ => wpAny_mono h₂ (fun f s₃ h₃ => ?_) fun _ _ x => x.elim) fun _ _ x => x.elim
      have next : (∃ ls' μ' ι', St B L s₃ ls' ((s.heap.objs.size, o') :: μ') ι' ∧ I (i + 1) ls' μ' ι') → ∃ m, m < k ∧ ∃ i ls μ ι o, m + i = vs.length ∧ St B L s₃ ls ((s.heap.objs.size, o) :: μ) ι ∧ I i ls μ ι ∧ o.cls = .type "list_iterator" ∧ o.data = .fields #[.ref l, .int i 0] := by
        rintro ⟨ls', μ', ι', S₃, hi'⟩
        have hlt : i < vs.length := (List.getElem?_eq_some_iff.mp hx).1
        exact ⟨k - 1, by omega, i + 1, ls', μ', ι', o', by omega, S₃, hi', hc', hd'⟩
      cases f with
      | next => exact next h₃
      | cont => exact h₃.elim
      | brk => exact h₃.elim
      | ret v => exact h₃
  · exact ⟨0, ls, μ, ι, _, rfl, S.pushM (t := s.toks) rfl, h0, rfl, rfl⟩

theorem rangeSize_nat (n : Nat) : Builtin.Range.rangeSize 0 (n : Int) 1 = n := by
  simp only [Builtin.Range.rangeSize]
  split
  · split <;> omega
  · omega
theorem fits_long {i : Int} (h1 : -(2 ^ 41) ≤ i) (h2 : i ≤ 2 ^ 41) : Builtin.Range.rangeFitsLong i = true := by
  unfold Builtin.Range.rangeFitsLong
  rw [Bool.and_eq_true]
  exact ⟨decide_eq_true (by omega), decide_eq_true (by omega)⟩
theorem small_nat {n : Nat} (h : n ≤ 2 ^ 40) : Builtin.Range.small 0 (n : Int) 1 = true := by
  unfold Builtin.Range.small
  rw [rangeSize_nat, fits_long (by omega) (by omega), fits_long (i := (n : Int)) (by omega) (by omega), fits_long (i := 1) (by omega) (by omega), if_pos (by omega), fits_long (by omega) (by omega)]
  simp

/-- a for over range(n) -/
theorem loop_range {r : Addr} {t u v : Tok} (hh : A.handled = none) (hn : n ≤ 2 ^ 40) (S : St B L s ls μ ι) (hr : s.heap.get? r = some { cls := .type "range", data := .fields #[.int 0 t, .int (n : Int) u, .int 1 v] })
    (I : Nat → Loc → Led → Led → Prop) (h0 : I 0 ls μ ι)
    (turn : ∀ i t ls μ ι s it o, i < n → I i ls μ ι → St B L s ls ((it, o) :: μ) ι →
      wpAny (model prog w) A (assign target env (.int i t)) (fun _ s₁ => wpAny (model prog w) A (execs body env) (TurnE (fun s₂ => ∃ ls' μ' ι', St B L s₂ ls' ((it, o) :: μ') ι' ∧ I (i + 1) ls' μ' ι') Q) (fun _ _ => False) s₁) (fun _ _ => False) s)
    (fin : ∀ ls μ ι s, I n ls μ ι → St B L s ls μ ι → wpAny (model prog w) A (execs rest env) Q E s) :
    wpAny (model prog w) A (pyIter (.ref r)) (ForK prog w A target body rest env Q E) E s := by
  refine wpAny_pyIter_range hr (small_nat hn) ?_
  rw [rangeSize_nat]
  unfold ForK
  refine codeAny_forLoop_any (I := fun k sx => ∃ i ls μ ι, k + i = n ∧ St B L sx ls ((s.heap.objs.size, { cls := .type "range_iterator", dict := none, data := .fields #[rawInt (i : Int), rawInt ((n - i : Nat) : Int), rawInt 1], slots := #[] }) :: μ) ι ∧ I i ls μ ι) (fun k s₁ hI => ?_) n ?_
  · obtain ⟨i, ls, μ, ι, hk, S, hi⟩ := hI
    have hit := S.get (.head _)
    by_cases hx : i < n
    · refine wpAny_pyNext_range_item hit (by omega) fun h' hit' hs => ?_
      have S' := S.change (t := s₁.toks + 1) .head hs.extBut hit'
      refine letGo_iter hit' rfl rfl (by decide) ?_
      refine wpAny_mono (turn i s₁.toks ls μ ι _ _ _ hx hi S') (fun _ s₂ h₂ => wpAny_mono h₂ (fun f s₃ h₃ => ?_) fun _ _ x => x.elim) fun _ _ x => x.elim
      have next : (∃ ls' μ' ι', St B L s₃ ls' ((s.heap.objs.size, { cls := .type "range_iterator", dict := none, data := .fields #[rawInt ((i : Int) + 1), rawInt (((n - i : Nat) : Int) - 1), rawInt 1], slots := #[] }) :: μ') ι' ∧ I (i + 1) ls' μ' ι') → ∃ m, m < k ∧ ∃ i ls μ ι, m + i = n ∧ St B L s₃ ls ((s.heap.objs.size, { cls := .type "range_iterator", dict := none, data := .fields #[rawInt (i : Int), rawInt ((n - i : Nat) : Int), rawInt 1], slots := #[] }) :: μ) ι ∧ I i ls μ ι := by
        rintro ⟨ls', μ', ι', S₃, hi'⟩
        refine ⟨k - 1, by omega, i + 1, ls', μ', ι', by omega, ?_, hi'⟩
        have e1 : ((i + 1 : Nat) : Int) = (i : Int) + 1 := by omega
        have e2 : ((n - (i + 1) : Nat) : Int) = ((n - i : Nat) : Int) - 1 := by omega
        rw [e1, e2]
        exact S₃
      cases f with
      | next => exact next h₃
      | cont => exact h₃.elim
      | brk => exact h₃.elim
      | ret v => exact h₃
    · refine wpAny_pyNext_range_end hh hit (by omega) fun h' he => ?_
      have hi' : i = n := by omega
      subst hi'
      exact wpAny_execs_nil (fin _ _ _ _ hi (S.lose (t := s₁.toks) he))
  · exact ⟨0, ls, μ, ι, rfl, S.pushM (t := s.toks) rfl, h0⟩

variable {Qv : Value → Shared → Prop} {v : Value} {vs' : List Value}
theorem r_append {μ' : Led} (S : St B L s ls μ ι) (c : Chg l (listO vs n) (listO (vs ++ [v]) (n + 1)) μ μ') (hz : vs.length ≤ sizeLine) (h : ∀ s', St B L s' ls μ' ι → Qv .none s') :
    wpAny (model prog w) A (call (.builtin "list.append") [.ref l, v]) Qv E s := by
  refine append_at (its := vs.toArray) (n := n) (S.get (List.mem_append_left _ c.mem)) (fun h' hs ho => h _ ?_) (by rw [List.size_toArray]; exact hz)
  exact S.change (t := s.toks) c hs.extBut (by rw [ho]; simp)

theorem r_pop {μ' : Led} (S : St B L s ls μ ι) (c : Chg l (listO (vs ++ [v]) n) (listO vs (n + 1)) μ μ') (hz : (vs ++ [v]).length ≤ sizeLine) (h : ∀ s', St B L s' ls μ' ι → Qv v s') :
    wpAny (model prog w) A (call (.builtin "list.pop") [.ref l]) Qv E s := by
  have ho := S.get (List.mem_append_left _ c.mem)
  have hz' : (vs ++ [v]).toArray.size ≤ sizeLine := by rw [List.size_toArray]; exact hz
  have hk : (vs ++ [v]).toArray.size - 1 = vs.length := by rw [List.size_toArray, List.length_append]; rfl
  have hy : (vs ++ [v]).toArray[(vs ++ [v]).toArray.size - 1]? = some v := by rw [hk]; simp
  refine call_meets PySem.F.slot_list_pop ⟨_, ho, rfl⟩ PySem.F.entry_list_pop (PySem.F.args_list_pop_1 _) (PySem.MeetsSeq.list_pop_last l _ n v hy hz') ⟨ho, h _ (S.change (t := s.toks) c (Heap.SameBut.update ..).extBut ?_)⟩
  have q := PySem.IsL.update ho (fun xs => xs.eraseIdxIfInBounds ((vs ++ [v]).toArray.size - 1))
  have e : (vs ++ [v]).toArray.eraseIdxIfInBounds ((vs ++ [v]).toArray.size - 1) = vs.toArray := by
    rw [hk, kl_erase, List.append_nil]
  rw [e, if_neg (by simp)] at q
  exact q

variable {name : Str} {scope : Scope} {f : Addr} {cd : Value} {Qu : Unit → Shared → Prop}
theorem r_unpack {elts : List Expr} {k : Nat} (hh : A.handled = none) (S : St B L s ls μ ι) (hm : (l, tupO vs n) ∈ μ ++ ι) (hn : (assignEach elts env).length = vs.length) (hstar : (assignEach elts env).findIdx? (·.1) = none)
    (h : ∀ s', St B L s' ls μ ι → wpAny (model prog w) A (assignInOrder ((assignEach elts env).map (·.2)) vs) Qu E s') : wpAny (model prog w) A (assign (.Tuple elts k pos) env (.ref l)) Qu E s :=
  wpAny_assign_Tuple (items := vs.toArray) hh ⟨_, S.get hm, rfl, _, rfl⟩ (by rw [List.size_toArray]; exact hn) hstar fun h' he => h _ (S.ext (t := s.toks) fun b x e => he b x (Nat.ne_of_lt (Heap.lt_size e)) e)

theorem bind_step {x : Str} {p : Pos} {ts : List (Value → Sem Unit)} {xs : List Value} (S : St B L s ls μ ι) (hk : scope.kind = .function) (hl : (envOf name scope L f cd).kindOf x = some .local)
    (h : ∀ s', St B L s' ((x, v) :: ls) μ ι → wpAny (model prog w) A (assignInOrder ts xs) Qu E s') : wpAny (model prog w) A (assignInOrder (assign (.Name x p) (envOf name scope L f cd) :: ts) (v :: xs)) Qu E s :=
  wpAny_assignInOrder_more (wpAny_assign_Name (r_store S h hk hl))

variable {x1 x2 x3 x4 : Str} {p1 p2 p3 p4 : Pos} {v1 v2 v3 v4 : Value} {k : Nat}
theorem r_unpack2 (hh : A.handled = none) (S : St B L s ls μ ι) (hm : (l, tupO [v1, v2] n) ∈ μ ++ ι) (hk : scope.kind = .function) (h1 : (envOf name scope L f cd).kindOf x1 = some .local) (h2 : (envOf name scope L f cd).kindOf x2 = some .local)
    (h : ∀ s', St B L s' ((x2, v2) :: (x1, v1) :: ls) μ ι → Qu () s') : wpAny (model prog w) A (assign (.Tuple [.Name x1 p1, .Name x2 p2] k pos) (envOf name scope L f cd) (.ref l)) Qu E s :=
  r_unpack hh S hm rfl rfl fun s' S' => bind_step S' hk h1 fun s' S' => bind_step S' hk h2 fun s' S' => wpAny_assignInOrder_none (h _ S')
theorem r_unpack3 (hh : A.handled = none) (S : St B L s ls μ ι) (hm : (l, tupO [v1, v2, v3] n) ∈ μ ++ ι) (hk : scope.kind = .function) (h1 : (envOf name scope L f cd).kindOf x1 = some .local) (h2 : (envOf name scope L f cd).kindOf x2 = some .local) (h3 : (envOf name scope L f cd).kindOf x3 = some .local)
    (h : ∀ s', St B L s' ((x3, v3) :: (x2, v2) :: (x1, v1) :: ls) μ ι → Qu () s') : wpAny (model prog w) A (assign (.Tuple [.Name x1 p1, .Name x2 p2, .Name x3 p3] k pos) (envOf name scope L f cd) (.ref l)) Qu E s :=
  r_unpack hh S hm rfl rfl fun s' S' => bind_step S' hk h1 fun s' S' => bind_step S' hk h2 fun s' S' => bind_step S' hk h3 fun s' S' => wpAny_assignInOrder_none (h _ S')
theorem r_unpack4 (hh : A.handled = none) (S : St B L s ls μ ι) (hm : (l, tupO [v1, v2, v3, v4] n) ∈ μ ++ ι) (hk : scope.kind = .function) (h1 : (envOf name scope L f cd).kindOf x1 = some .local) (h2 : (envOf name scope L f cd).kindOf x2 = some .local) (h3 : (envOf name scope L f cd).kindOf x3 = some .local) (h4 : (envOf name scope L f cd).kindOf x4 = some .local)
    (h : ∀ s', St B L s' ((x4, v4) :: (x3, v3) :: (x2, v2) :: (x1, v1) :: ls) μ ι → Qu () s') : wpAny (model prog w) A (assign (.Tuple [.Name x1 p1, .Name x2 p2, .Name x3 p3, .Name x4 p4] k pos) (envOf name scope L f cd) (.ref l)) Qu E s :=
  r_unpack hh S hm rfl rfl fun s' S' => bind_step S' hk h1 fun s' S' => bind_step S' hk h2 fun s' S' => bind_step S' hk h3 fun s' S' => bind_step S' hk h4 fun s' S' => wpAny_assignInOrder_none (h _ S')
end
end Mine
end
section
open PySem PySem.W PySem.Spec PySem.Calls PyProof.Rows
set_option maxRecDepth 100000
set_option maxHeartbeats 4000000
set_option linter.unusedVariables false
namespace Mine
theorem Room.handled {A : Around} {d : Nat} (r : Room A d) : A.handled = none := r.1
theorem glawsigns {B : Base} : nsIn (KF B) mainGlobals "_law_signs" = some (some (.ref 219)) := by kernel_rfl
theorem glawcalls {B : Base} : nsIn (KF B) mainGlobals "_law_calls" = some (some (.ref 224)) := by kernel_rfl
theorem glawtold {B : Base} : nsIn (KF B) mainGlobals "_law_told" = some (some (.ref 231)) := by kernel_rfl
theorem glawtable {B : Base} : nsIn (KF B) mainGlobals "_law_table" = some (some (.ref 238)) := by kernel_rfl
theorem glawtree {B : Base} : nsIn (KF B) mainGlobals "_law_tree" = some (some (.ref 245)) := by kernel_rfl
theorem glawwrite {B : Base} : nsIn (KF B) mainGlobals "_law_write" = some (some (.ref 252)) := by kernel_rfl
theorem glawwritten {B : Base} : nsIn (KF B) mainGlobals "_law_written" = some (some (.ref 259)) := by kernel_rfl
theorem glawrow {B : Base} : nsIn (KF B) mainGlobals "_law_row" = some (some (.ref 266)) := by kernel_rfl
theorem glawlevels {B : Base} : nsIn (KF B) mainGlobals "_law_levels" = some (some (.ref 273)) := by kernel_rfl
theorem glawdone {B : Base} : nsIn (KF B) mainGlobals "_law_done" = some (some (.ref 280)) := by kernel_rfl
theorem glawjoined {B : Base} : nsIn (KF B) mainGlobals "_law_joined" = some (some (.ref 287)) := by kernel_rfl
theorem glawfull {B : Base} : nsIn (KF B) mainGlobals "_law_full" = some (some (.ref 294)) := by kernel_rfl
theorem glawread {B : Base} : nsIn (KF B) mainGlobals "_law_read" = some (some (.ref 301)) := by kernel_rfl
theorem gISTERMINAL {B : Base} : nsIn (KF B) mainGlobals "ISTERMINAL" = some (some (.ref 48)) := by kernel_rfl
theorem gISNONTERMINAL {B : Base} : nsIn (KF B) mainGlobals "ISNONTERMINAL" = some (some (.ref 55)) := by kernel_rfl
theorem gISEOF {B : Base} : nsIn (KF B) mainGlobals "ISEOF" = some (some (.ref 62)) := by kernel_rfl
theorem gEXACTTOKENTYPES {B : Base} : nsIn (KF B) mainGlobals "EXACT_TOKEN_TYPES" = some (some (.ref 39)) := by kernel_rfl
theorem gHeaders {B : Base} : nsIn (KF B) mainGlobals "Headers" = some (some (.ref 208)) := by kernel_rfl
theorem gnamedisallowedre {B : Base} : nsIn (KF B) mainGlobals "_name_disallowed_re" = some (some (.ref 72)) := by kernel_rfl
theorem gvaluedisallowedre {B : Base} : nsIn (KF B) mainGlobals "_value_disallowed_re" = some (some (.ref 77)) := by kernel_rfl
theorem b_len : bootBuiltins "len" = some (.builtin "len") := by boot_by_name
theorem n_len {B : Base} : nsIn (KF B) mainGlobals "len" = some none := by kernel_rfl
theorem b_range : bootBuiltins "range" = some (.type "range") := by boot_by_name
theorem n_range {B : Base} : nsIn (KF B) mainGlobals "range" = some none := by kernel_rfl
theorem b_str : bootBuiltins "str" = some (.type "str") := by boot_by_name
theorem n_str {B : Base} : nsIn (KF B) mainGlobals "str" = some none := by kernel_rfl
theorem b_int : bootBuiltins "int" = some (.type "int") := by boot_by_name
theorem n_int {B : Base} : nsIn (KF B) mainGlobals "int" = some none := by kernel_rfl
theorem b_type : bootBuiltins "type" = some (.type "type") := by boot_by_name
theorem n_type {B : Base} : nsIn (KF B) mainGlobals "type" = some none := by kernel_rfl
theorem b_list : bootBuiltins "list" = some (.type "list") := by boot_by_name
theorem n_list {B : Base} : nsIn (KF B) mainGlobals "list" = some none := by kernel_rfl

end Mine
end
section
open PySem PySem.W PySem.Spec PySem.Calls PyProof.Rows
set_option maxRecDepth 100000
set_option maxHeartbeats 4000000
set_option linter.unusedVariables false
namespace Mine

/-- a drawn tree: a letter; an operator, its two parts, a drawn pair of brackets -/
inductive T where
  | leaf (c : Nat)
  | node (o : Nat) (l r : T) (d : Bool)

noncomputable def letterS (c : Nat) : Str := ⟨#[97 + c]⟩
noncomputable def signL : List Str := ["=", "->", "+", "**", "//"]
noncomputable def signS (o : Nat) : Str := signL.getD o "="

noncomputable def T.full : T → Str
  | .leaf c => letterS c
  | .node o l r _ => "(" ++ l.full ++ signS o ++ r.full ++ ")"
noncomputable def T.ok : T → Prop
  | .leaf c => c < 8
  | .node o l r _ => o < 5 ∧ l.ok ∧ r.ok
noncomputable def T.leaves : T → Nat
  | .leaf _ => 1
  | .node _ l r _ => l.leaves + r.leaves
noncomputable def T.depth : T → Nat
  | .leaf _ => 0
  | .node _ l r _ => max l.depth r.depth + 1

theorem T.leaves_pos : ∀ t : T, 0 < t.leaves
  | .leaf _ => Nat.one_pos
  | .node _ l r _ => by have := l.leaves_pos; show 0 < l.leaves + r.leaves; omega
theorem T.depth_lt : ∀ t : T, t.depth < t.leaves
  | .leaf _ => Nat.one_pos
  | .node _ l r _ => by
    have := l.depth_lt; have := r.depth_lt; have := l.leaves_pos; have := r.leaves_pos
    show max l.depth r.depth + 1 < l.leaves + r.leaves
    omega
theorem sign_len (o : Nat) : (signS o).length ≤ 2 := by
  unfold signS signL
  rcases o with _ | _ | _ | _ | _ | o
  all_goals exact Nat.le_of_ble_eq_true rfl
theorem len_lp : (Str.ofString "(").length = 1 := rfl
theorem len_rp : (Str.ofString ")").length = 1 := rfl
theorem T.full_len : ∀ t : T, t.full.length + 4 ≤ 5 * t.leaves
  | .leaf _ => Nat.le_of_ble_eq_true rfl
  | .node o l r _ => by
    have := l.full_len; have := r.full_len; have := sign_len o
    show ("(" ++ l.full ++ signS o ++ r.full ++ ")" : Str).length + 4 ≤ 5 * (l.leaves + r.leaves)
    simp only [Str.length_append]
    have e1 : ("(" : Str).length = 1 := rfl
    have e2 : (")" : Str).length = 1 := rfl
    omega


/-- a piece of the written text -/
inductive P where
  | lp
  | rp
  | let_ (c : Nat)
  | op (o : Nat)
  deriving DecidableEq
noncomputable def pieceS : P → Str
  | .lp => "("
  | .rp => ")"
  | .let_ c => letterS c
  | .op o => signS o

/-- does a part with operator o need its brackets, under the operator above and on that side -/
noncomputable def need (lv : Nat → Int) : Option (Nat × Nat) → Nat → Bool
  | none, _ => false
  | some (a, sd), o => decide (lv o < lv a) || (lv o == lv a && (sd : Int) != lv o % 2)

/-- the pieces written, and the pairs of brackets: begin, end, needed -/
noncomputable def T.write (lv : Nat → Int) : T → Option (Nat × Nat) → Nat → List P × List (Nat × Nat × Bool)
  | .leaf c, _, _ => ([.let_ c], [])
  | .node o l r d, ab, st =>
    let st1 := if need lv ab o || d then st + 1 else st
    let wl := l.write lv (some (o, 0)) st1
    let wr := r.write lv (some (o, 1)) (st1 + wl.1.length + 1)
    if need lv ab o || d then ([.lp] ++ (wl.1 ++ [.op o] ++ wr.1) ++ [.rp], wl.2 ++ wr.2 ++ [(st, st1 + wl.1.length + 1 + wr.1.length, need lv ab o)])
    else (wl.1 ++ [.op o] ++ wr.1, wl.2 ++ wr.2)
theorem T.write_len (lv : Nat → Int) : ∀ (t : T) ab st, (t.write lv ab st).1.length + 3 ≤ 4 * t.leaves
  | .leaf c, _, _ => Nat.le_refl _
  | .node o l r d, ab, st => by
    have hl := l.write_len lv (some (o, 0))
    have hr := r.write_len lv (some (o, 1))
    simp only [T.write, T.leaves]
    split
    · have h1 := hl (st + 1)
      have h2 := hr (st + 1 + (l.write lv (some (o, 0)) (st + 1)).1.length + 1)
      simp only [List.length_append, List.length_cons, List.length_nil]
      omega
    · have h1 := hl st
      have h2 := hr (st + (l.write lv (some (o, 0)) st).1.length + 1)
      simp only [List.length_append, List.length_cons, List.length_nil]
      omega
theorem T.write_pairs (lv : Nat → Int) : ∀ (t : T) ab st, (t.write lv ab st).2.length + 1 ≤ t.leaves
  | .leaf c, _, _ => Nat.le_refl _
  | .node o l r d, ab, st => by
    have hl := l.write_pairs lv (some (o, 0))
    have hr := r.write_pairs lv (some (o, 1))
    simp only [T.write, T.leaves]
    split
    · have h1 := hl (st + 1)
      have h2 := hr (st + 1 + (l.write lv (some (o, 0)) (st + 1)).1.length + 1)
      simp only [List.length_append, List.length_cons, List.length_nil]
      omega
    · have h1 := hl st
      have h2 := hr (st + (l.write lv (some (o, 0)) st).1.length + 1)
      simp only [List.length_append, List.length_cons, List.length_nil]
      omega

noncomputable def P.ok : P → Prop
  | .let_ c => c < 8
  | .op o => o < 5
  | _ => True
noncomputable def P.isOp : P → Bool
  | .op _ => true
  | _ => false
noncomputable def codes (ps : List P) : List Nat := ps.flatMap fun p => (pieceS p).cps.toList
/-- no operator stands behind an operator -/
noncomputable def Adj : List P → Prop
  | [] => True
  | [_] => True
  | p :: q :: r => (p.isOp = true → q.isOp = false) ∧ Adj (q :: r)
/-- letters and brackets stand in no operator -/
noncomputable def bad (c : Nat) : Bool := c == 40 || c == 41 || (Nat.ble 97 c && Nat.ble c 104)
noncomputable def tokO (o : Nat) : Int := [22, 51, 14, 35, 47].getD o 0
noncomputable def tokP : P → Int
  | .lp => 7
  | .rp => 8
  | .let_ c => 256 + c
  | .op o => tokO o

theorem codes_cons (p : P) (ps : List P) : codes (p :: ps) = (pieceS p).cps.toList ++ codes ps := rfl
theorem codes_app (ps qs : List P) : codes (ps ++ qs) = codes ps ++ codes qs := by unfold codes; simp
theorem plain_code {p : P} (h : p.ok) (ho : p.isOp = false) : ∃ c, (pieceS p).cps.toList = [c] ∧ bad c = true := by
  cases p with
  | lp => exact ⟨40, rfl, rfl⟩
  | rp => exact ⟨41, rfl, rfl⟩
  | op o => cases ho
  | let_ c =>
    refine ⟨97 + c, rfl, ?_⟩
    have h : c < 8 := h
    rcases c with _ | _ | _ | _ | _ | _ | _ | _ | c
    all_goals first | rfl | omega
theorem op_len {o : Nat} (h : o < 5) : (signS o).cps.toList.length = 1 ∨ (signS o).cps.toList.length = 2 := by
  rcases o with _ | _ | _ | _ | _ | o
  all_goals first | exact .inl rfl | exact .inr rfl | omega
theorem piece_len {p : P} (h : p.ok) : (pieceS p).cps.toList.length = 1 ∨ ((pieceS p).cps.toList.length = 2 ∧ p.isOp = true) := by
  cases ho : p.isOp with
  | false => obtain ⟨c, hc, _⟩ := plain_code h ho; exact .inl (by rw [hc]; rfl)
  | true => cases p with
    | op o => exact (op_len h).imp id fun q => ⟨q, rfl⟩
    | _ => cases ho
/-- a window that reaches beyond its first piece holds a letter or a bracket -/
theorem window_bad {p : P} {ps : List P} (hp : ∀ q ∈ p :: ps, q.ok) (adj : Adj (p :: ps)) {k : Nat} (hk : (pieceS p).cps.toList.length < k) (hl : k ≤ (codes (p :: ps)).length) :
    ∃ c ∈ (codes (p :: ps)).take k, bad c = true := by
  cases ho : p.isOp with
  | false =>
    obtain ⟨c, hc, hb⟩ := plain_code (hp p (.head _)) ho
    refine ⟨c, ?_, hb⟩
    rw [codes_cons, hc]
    cases k with
    | zero => omega
    | succ k => exact .head _
  | true =>
    cases ps with
    | nil =>
      rw [codes_cons, List.length_append] at hl
      simp [codes] at hl
      simp at hk
      omega
    | cons q r =>
      obtain ⟨c, hc, hb⟩ := plain_code (hp q (.tail _ (.head _))) (adj.1 ho)
      refine ⟨c, ?_, hb⟩
      rw [codes_cons, codes_cons, hc, List.take_append]
      refine List.mem_append_right _ ?_
      obtain ⟨j, hj⟩ : ∃ j, k - (pieceS p).cps.toList.length = j + 1 := ⟨k - (pieceS p).cps.toList.length - 1, by omega⟩
      rw [hj]
      exact .head _

/-- take off the pile what binds at least as the level says; the pile's top is its head -/
noncomputable def popW (lv : Nat → Int) (lev : Int) : List P → List P → List P × List P
  | .op o :: stk, out => if lev < lv o || (lv o == lev && lev % 2 == 0) then popW lv lev stk (out ++ [.op o]) else (.op o :: stk, out)
  | stk, out => (stk, out)
/-- one token read: none is the end -/
noncomputable def stepD (lv : Nat → Int) (st : List P × List P) : Option P → Option (List P × List P)
  | some (.let_ c) => some (st.1, st.2 ++ [.let_ c])
  | some .lp => some (.lp :: st.1, st.2)
  | some (.op o) => some (.op o :: (popW lv (lv o) st.1 st.2).1, (popW lv (lv o) st.1 st.2).2)
  | some .rp => match popW lv (-1) st.1 st.2 with
    | (_ :: s, o) => some (s, o)
    | ([], _) => none
  | none => some (popW lv (-1) st.1 st.2)
noncomputable def runD (lv : Nat → Int) : List (Option P) → List P × List P → Option (List P × List P)
  | [], st => some st
  | q :: qs, st => match stepD lv st q with
    | some st' => runD lv qs st'
    | none => none
noncomputable def tokQ : Option P → Int
  | none => 0
  | some p => tokP p
/-- what is done with a row of pieces: none where it would raise -/
noncomputable def doneF (lv : Nat → Int) (ps : List P) : Option (List P) := (runD lv (ps.map some ++ [none]) ([], [])).map fun st => if st.1 = [] then st.2 else []
end Mine
end
section
open PySem PySem.W PySem.Spec PySem.Calls PyProof.Rows
set_option maxRecDepth 100000
set_option maxHeartbeats 4000000
set_option linter.unusedVariables false
namespace Mine

/-- a value bears a tree -/
inductive TreeAt (ι : Led) : Value → T → Prop
  | leaf {a n c t} : (a, tupO [.str (letterS c) t] n) ∈ ι → TreeAt ι (.ref a) (.leaf c)
  | node {a n o t vl vr l r d} : (a, tupO [.int (o : Nat) t, vl, vr, .bool d] n) ∈ ι → TreeAt ι vl l → TreeAt ι vr r → TreeAt ι (.ref a) (.node o l r d)
theorem TreeAt.mono {ι ι' : Led} (h : ∀ p ∈ ι, p ∈ ι') {v : Value} {t : T} (x : TreeAt ι v t) : TreeAt ι' v t := by
  induction x with
  | leaf m => exact .leaf (h _ m)
  | node m _ _ il ir => exact .node (h _ m) il ir

theorem signL_get {o : Nat} (h : o < 5) (t : Nat → Tok) : ([.str "=" (t 0), .str "->" (t 1), .str "+" (t 2), .str "**" (t 3), .str "//" (t 4)] : List Value)[o]? = some (.str (signS o) (t o)) := by
  rcases o with _ | _ | _ | _ | _ | o
  all_goals first | rfl | omega

local macro_rules | `(tactic| walk_at "sub") => `(tactic| first | exact List.Sublist.refl _ | (refine List.Sublist.cons_cons _ ?_; walk_at "sub") | (refine List.Sublist.cons _ ?_; walk_at "sub") | (refine List.Sublist.trans ?_ (List.sublist_append_right _ _); walk_at "sub") | (simp only [List.nil_append, List.cons_append, List.append_assoc]; walk_at "sub"))
local macro_rules | `(tactic| walk_at "size") => `(tactic| first | exact Nat.le_of_ble_eq_true rfl | assumption | (show _ ≤ 16777216; omega) | (show _ ≤ 16777216; (simp only [List.length_append, List.length_cons, List.length_nil, PySem.Str.length_append, len_lp, len_rp]); omega))
local macro_rules | `(tactic| walk_at "hand") => `(tactic| first | assumption | exact Room.handled (by assumption))
local macro_rules | `(tactic| walk_at "mem") => `(tactic| first | with_reducible assumption | exact List.Mem.head _ | (refine List.Mem.tail _ ?_; walk_at "mem") | (refine List.mem_append_right _ ?_; walk_at "mem") | assumption)
local macro_rules | `(tactic| walk_at "chg") => `(tactic| first | exact Chg.head | (refine' Chg.tail ?c9; (case c9 => walk_at "chg")))
local macro_rules | `(tactic| walk_at "name") => `(tactic| first
  | ((with_reducible refine' r_loc ?S ?hv ?_ ?hk ?hl ?hd); (case S => with_reducible assumption); (case hl => rfl); (case hk => rfl); (case hd => decide); (case hv => rfl))
  | ((with_reducible refine' r_blt ?G ?S ?e ?hv ?hnn ?_ ?hk ?hl ?hd); (case hv => first | with_reducible exact b_len | with_reducible exact b_range | with_reducible exact b_str | with_reducible exact b_int | with_reducible exact b_type | with_reducible exact b_list); (case G => with_reducible assumption); (case S => with_reducible assumption); (case hl => rfl); (case hk => rfl); (case hd => decide); (case e => first | with_reducible exact n_len | with_reducible exact n_range | with_reducible exact n_str | with_reducible exact n_int | with_reducible exact n_type | with_reducible exact n_list); (case hnn => decide))
  | ((with_reducible refine' r_glob ?G ?S ?e ?_ ?hk ?hl ?hd); (case G => with_reducible assumption); (case S => with_reducible assumption); (case hl => rfl); (case hk => rfl); (case hd => decide); (case e => first | with_reducible exact glawsigns | with_reducible exact glawcalls | with_reducible exact glawtold | with_reducible exact glawtable | with_reducible exact glawtree | with_reducible exact glawwrite | with_reducible exact glawwritten | with_reducible exact glawrow | with_reducible exact glawlevels | with_reducible exact glawdone | with_reducible exact glawjoined | with_reducible exact glawfull | with_reducible exact glawread | with_reducible exact gISTERMINAL | with_reducible exact gISNONTERMINAL | with_reducible exact gISEOF | with_reducible exact gEXACTTOKENTYPES | with_reducible exact gHeaders | with_reducible exact gnamedisallowedre | with_reducible exact gvaluedisallowedre | rfl)))

local macro_rules | `(tactic| walk_at "go0") => `(tactic| first
  | with_reducible refine' wpAny_Compare1 ?_
  | with_reducible refine' wpAny_BinOp ?_
  | ((with_reducible refine' r_asg ?_ ?hs); (case hs => rfl))
  | with_reducible refine' r_ret ?_
  | with_reducible refine' r_nil ?_
  | ((with_reducible refine' r_exp ?_ ?hi ?hs); (case hi => rfl); (case hs => rfl))
  | with_reducible refine' wpAny_isTrue_Compare1 ?_
  | with_reducible refine' wpAny_isTrue_BoolOp ?_
  | with_reducible refine' wpAny_allTrue_And_cons ?_
  | with_reducible refine' wpAny_allTrue_And_nil ?_
  | with_reducible refine' wpAny_allTrue_Or_cons ?_
  | with_reducible refine' wpAny_allTrue_Or_nil ?_
  | with_reducible refine' wpAny_isTrue_Not ?_
  | ((with_reducible refine' wpAny_isTrue_value ?_ ?he); (case he => rfl))
  | with_reducible refine' wpAny_Or2 ?_
  | with_reducible refine' wpAny_And2 ?_
  | with_reducible refine' wpAny_UnaryOp ?_
  | with_reducible refine' r_call ?_
  | ((with_reducible refine' cw_b0 ?_ ?hp); (case hp => rfl))
  | ((with_reducible refine' cw_f0 ?G ?S ?hk ?_ ?hp); (case G => with_reducible assumption); (case S => with_reducible assumption); (case hk => rfl); (case hp => rfl))
  | with_reducible refine' Subscript_ ?_
  | ((with_reducible refine' spliced_more ?_ ?he); (case he => rfl))
  | with_reducible refine' spliced_none ?_
  | with_reducible refine' wpAny_truthy_bool ?_
  | ((with_reducible refine' r_int ?S ?_); (case S => with_reducible assumption); intro _ _ _)
  | ((with_reducible refine' r_str ?S ?_); (case S => with_reducible assumption); intro _ _ _)
  | walk_at "name"
  | with_reducible refine' wpAny_assign_Name ?_
  | with_reducible refine' wpAny_IfExp ?_
  | ((with_reducible refine' r_store ?S ?_ ?hk ?hl); (case S => with_reducible assumption); (case hk => rfl); (case hl => rfl); intro _ _)
  | with_reducible refine' wpAny_Constant_none ?_
  | with_reducible refine' wpAny_Constant_bool ?_
  | with_reducible refine' PyProof.Rows.lt_int ?_
  | with_reducible refine' PyProof.Rows.gt_int ?_
  | with_reducible refine' PyProof.Rows.ge_int ?_
  | with_reducible refine' PyProof.Rows.eq_int ?_
  | with_reducible refine' PyProof.Rows.ne_int ?_
  | ((with_reducible refine' r_add ?S ?_); (case S => with_reducible assumption); intro _ _ _)
  | ((with_reducible refine' r_sub ?S ?_); (case S => with_reducible assumption); intro _ _ _)
  | ((with_reducible refine' r_mod ?S ?hb ?_); (case S => with_reducible assumption); (case hb => decide); intro _ _ _)
  | ((with_reducible refine' r_div ?S ?hb ?hb2 ?_); (case S => with_reducible assumption); (case hb => decide); (case hb2 => decide); intro _ _ _)
  | ((with_reducible refine' r_neg ?S ?_); (case S => with_reducible assumption); intro _ _ _)
  | with_reducible refine' List_ ?_
  | with_reducible refine' Tuple_ ?_
  | ((with_reducible refine' r_newList ?S ?hs ?_); (case S => with_reducible assumption); (case hs => exact Nat.le_of_ble_eq_true rfl); intro _ _ _)
  | ((with_reducible refine' r_newTup ?S ?hs ?_); (case S => with_reducible assumption); (case hs => exact Nat.le_of_ble_eq_true rfl); intro _ _ _)
  | ((with_reducible refine' r_lenL ?S ?hm ?hs ?_); (case S => with_reducible assumption); (case hm => walk_at "mem"); (case hs => first | exact Nat.le_of_ble_eq_true rfl | omega | (simp only [List.length_append, List.length_cons, List.length_nil, PySem.Str.length_append]; omega)); intro _ _ _)
  | ((with_reducible refine' r_lenT ?S ?hm ?hs ?_); (case S => with_reducible assumption); (case hm => walk_at "mem"); (case hs => first | exact Nat.le_of_ble_eq_true rfl | omega | (simp only [List.length_append, List.length_cons, List.length_nil, PySem.Str.length_append]; omega)); intro _ _ _)
  | ((with_reducible refine' r_lenS ?S ?hs ?_); (case S => with_reducible assumption); (case hs => first | exact Nat.le_of_ble_eq_true rfl | omega | (simp only [List.length_append, List.length_cons, List.length_nil, PySem.Str.length_append]; omega)); intro _ _ _)
  | ((with_reducible refine' r_meth PySem.F.plainAttrs_list PySem.F.slot_list_append PySem.F.type_list_append ?hb ?hf ?hp ?hl ?_); (case hb => rfl); (case hf => rfl); (case hp => rfl); (case hl => rfl))
  | ((with_reducible refine' r_meth PySem.F.plainAttrs_list PySem.F.slot_list_pop PySem.F.type_list_pop ?hb ?hf ?hp ?hl ?_); (case hb => rfl); (case hf => rfl); (case hp => rfl); (case hl => rfl))
  | ((with_reducible refine' onList ?S ?hm ?_); (case S => with_reducible assumption); (case hm => walk_at "mem"))
  | (with_reducible refine' onStr ?_)
  | ((with_reducible refine' r_append ?S ?c ?hz ?_); (case S => with_reducible assumption); (case c => walk_at "chg"); (case hz => walk_at "size"); intro _ _)
  | ((with_reducible refine' r_pop ?S ?c ?hz ?_); (case S => with_reducible assumption); (case c => walk_at "chg"); (case hz => walk_at "size"); intro _ _)
  | ((with_reducible refine' r_asgT ?_ ?hs ?hw); (case hs => rfl); (case hw => rfl))
  | ((with_reducible refine' r_unpack2 ?hh ?S ?hm ?hk ?h1 ?h2 ?_); (case hh => walk_at "hand"); (case S => with_reducible assumption); (case hm => walk_at "mem"); (case hk => rfl); (case h1 => rfl); (case h2 => rfl); intro _ _)
  | ((with_reducible refine' r_unpack3 ?hh ?S ?hm ?hk ?h1 ?h2 ?h3 ?_); (case hh => walk_at "hand"); (case S => with_reducible assumption); (case hm => walk_at "mem"); (case hk => rfl); (case h1 => rfl); (case h2 => rfl); (case h3 => rfl); intro _ _)
  | ((with_reducible refine' r_unpack4 ?hh ?S ?hm ?hk ?h1 ?h2 ?h3 ?h4 ?_); (case hh => walk_at "hand"); (case S => with_reducible assumption); (case hm => walk_at "mem"); (case hk => rfl); (case h1 => rfl); (case h2 => rfl); (case h3 => rfl); (case h4 => rfl); intro _ _)
  | ((with_reducible refine' r_cat ?S ?hs ?_); (case S => with_reducible assumption); (case hs => walk_at "size"); intro _ _ _)
  | ((with_reducible refine' r_itemT ?S ?hm ?h0 ?h1 ?hx ?_ ?hs); (case S => with_reducible assumption); (case hm => walk_at "mem"); (case h0 => first | decide | omega); (case h1 => first | decide | omega); (case hx => first | rfl | assumption); (case hs => with_unfolding_all rfl))
  | ((with_reducible refine' r_itemL ?S ?hm ?h0 ?h1 ?hx ?_ ?hs); (case S => with_reducible assumption); (case hm => walk_at "mem"); (case h0 => first | decide | omega); (case h1 => first | decide | omega); (case hx => first | rfl | assumption | exact signL_get (by assumption) _); (case hs => with_unfolding_all rfl))
  | ((with_reducible refine' ite_pos ?hc ?_); (case hc => first | exact rfl | exact True.intro))
  | ((with_reducible refine' ite_neg ?hc ?_); (case hc => first | exact Bool.false_ne_true | exact not_false))
  | ((with_reducible refine' r_addL ?S ?h1 ?h2 ?hz ?_); (case S => with_reducible assumption); (case h1 => walk_at "mem"); (case h2 => walk_at "mem"); (case hz => walk_at "size"); intro _ _ _)
  | with_reducible refine' wpAny_evalPart_some ?_
  | with_reducible refine' wpAny_evalPart_none ?_
  | simp only [Int.toNat_natCast]
  | dsimp only [List.cons_append, List.nil_append]
  )
local macro_rules | `(tactic| walk_at "go") => `(tactic| walk_at "go0")
theorem c_term {B : Base} (G : Gnd B) (n : Int) (tk : Tok) (ι : Led) : Fn B 48 [.int n tk] [] 1 [] ι (fun v μ' new => μ' = [] ∧ v = .bool (decide (n < 256))) := by
  refine fn_intro (binds := [("x", .int n tk)]) G rfl rfl (fun s X => BindsTo.of_eq rfl) rfl (by decide) rfl rfl rfl ?_
  intro A s L rm S
  repeat walk_at "go"
  exact ret_at (new := []) S ⟨rfl, rfl⟩
theorem c_nonterm {B : Base} (G : Gnd B) (n : Int) (tk : Tok) (ι : Led) : Fn B 55 [.int n tk] [] 1 [] ι (fun v μ' new => μ' = [] ∧ v = .bool (decide (256 ≤ n))) := by
  refine fn_intro (binds := [("x", .int n tk)]) G rfl rfl (fun s X => BindsTo.of_eq rfl) rfl (by decide) rfl rfl rfl ?_
  intro A s L rm S
  repeat walk_at "go"
  exact ret_at (new := []) S ⟨rfl, rfl⟩
theorem c_eof {B : Base} (G : Gnd B) (n : Int) (tk : Tok) (ι : Led) : Fn B 62 [.int n tk] [] 1 [] ι (fun v μ' new => μ' = [] ∧ v = .bool (n == 0)) := by
  refine fn_intro (binds := [("x", .int n tk)]) G rfl rfl (fun s X => BindsTo.of_eq rfl) rfl (by decide) rfl rfl rfl ?_
  intro A s L rm S
  repeat walk_at "go"
  exact ret_at (new := []) S ⟨rfl, rfl⟩
noncomputable def SignsAt (v : Value) (new : Led) : Prop := ∃ (a : Addr) (n : Nat) (t : Nat → Tok), v = .ref a ∧ new = [(a, listO [.str "=" (t 0), .str "->" (t 1), .str "+" (t 2), .str "**" (t 3), .str "//" (t 4)] n)]
theorem c_signs {B : Base} (G : Gnd B) (ι : Led) : Fn B 219 [] [] 1 [] ι (fun v μ' new => μ' = [] ∧ SignsAt v new) := by
  refine fn_intro (binds := []) G rfl rfl (fun s X => BindsTo.of_eq rfl) rfl (by decide) rfl rfl rfl ?_
  intro A s L rm S
  repeat walk_at "go"
  rename_i t1 _ _ t2 _ _ t3 _ _ t4 _ _ t5 _ _ _ S'
  exact ret_at (new := [_]) S'.freeze ⟨rfl, _, _, (fun i => [t1, t2, t3, t4, t5].getD i 0), rfl, rfl⟩

local macro_rules | `(tactic| walk_at "signs") => `(tactic| (refine' CallAt.of ?S (call_pure ?S2 ?rm (fun ι' _ => c_signs ?G ι') ?_); (case S => assumption); (case S2 => assumption); (case rm => exact Room.less (by assumption) (by omega)); (case G => assumption); intro _ _ _ _ h9; obtain ⟨_, _, _, h8, h7⟩ := h9; subst h8; subst h7))
local macro_rules | `(tactic| walk_at "flag") => `(tactic| ((first
  | refine' CallAt.of ?S (call_pure0 ?S2 ?rm (fun ι' _ => c_nonterm ?G _ _ ι') ?_)
  | refine' CallAt.of ?S (call_pure0 ?S2 ?rm (fun ι' _ => c_term ?G _ _ ι') ?_)
  | refine' CallAt.of ?S (call_pure0 ?S2 ?rm (fun ι' _ => c_eof ?G _ _ ι') ?_)); (case S => assumption); (case S2 => assumption); (case rm => exact Room.less (by assumption) (by omega)); (case G => assumption); intro _ _ _ h9; subst h9))
theorem c_full {B : Base} (G : Gnd B) : ∀ (t : T), t.ok → t.leaves ≤ 1000 → ∀ ι v, TreeAt ι v t → Fn B 294 [v] [] (t.depth + 2) [] ι (fun r μ' new => μ' = [] ∧ ∃ tk, r = .str t.full tk)
  | .leaf c, _, _, ι, _, .leaf hm => by
    refine fn_intro (binds := [("tree", .ref _)]) G rfl rfl (fun s X => BindsTo.of_eq rfl) rfl (by decide) rfl rfl rfl ?_
    intro A s L rm S
    refine r_if ?_
    repeat walk_at "go"
    exact ret_at (new := []) (by assumption) ⟨rfl, _, rfl⟩
  | .node o l r d, ok, sz, ι, _, .node hm hl hr => by
    refine fn_intro (binds := [("tree", .ref _)]) G rfl rfl (fun s X => BindsTo.of_eq rfl) rfl (by decide) rfl rfl rfl ?_
    intro A s L rm S
    refine r_if ?_
    repeat walk_at "go"
    rename_i S9
    have fl := l.full_len
    have fr := r.full_len
    have so := sign_len o
    simp only [T.leaves] at sz
    refine CallAt.of S9 (call_pure S9 (rm.less (d' := l.depth + 2) (by simp only [T.depth]; omega)) (fun ι' h => c_full G l ok.2.1 (by omega) ι' _ (hl.mono h)) ?_)
    rintro _ new1 s1 S1 ⟨tk1, rfl⟩
    repeat walk_at "go"
    walk_at "signs"
    have ho := ok.1
    repeat walk_at "go"
    rename_i S9
    refine CallAt.of S9 (call_pure S9 (rm.less (d' := r.depth + 2) (by simp only [T.depth]; omega)) (fun ι' h => c_full G r ok.2.2 (by omega) ι' _ (hr.mono fun p hp => h p (by simp [hp]))) ?_)
    rintro _ new2 s2 S2 ⟨tk2, rfl⟩
    repeat walk_at "go"
    rename_i S8
    exact ret_sub (μ' := []) (new := []) S8 (by walk_at "sub") ⟨rfl, _, rfl⟩
section
open PySem PySem.W PySem.Spec PySem.Calls PyProof.Rows
set_option maxRecDepth 100000
set_option maxHeartbeats 4000000
set_option linter.unusedVariables false
section

/-- a list of texts -/
inductive StrL : List Value → List Str → Prop
  | nil : StrL [] []
  | cons {x t vs ss} : StrL vs ss → StrL (.str x t :: vs) (x :: ss)
theorem StrL.len {vs ss} (h : StrL vs ss) : vs.length = ss.length := by
  induction h with
  | nil => rfl
  | cons _ ih => simp [ih]
theorem StrL.app {vs ss vs' ss'} (h : StrL vs ss) (h' : StrL vs' ss') : StrL (vs ++ vs') (ss ++ ss') := by
  induction h with
  | nil => exact h'
  | cons _ ih => exact .cons ih
theorem StrL.one (x : Str) (t : Tok) : StrL [.str x t] [x] := .cons .nil

/-- a list of pairs of brackets -/
inductive PairL (ι : Led) : List Value → List (Nat × Nat × Bool) → Prop
  | nil : PairL ι [] []
  | cons {a b e nd n t u vs ps} : (a, tupO [.int (b : Nat) t, .int (e : Nat) u, .bool nd] n) ∈ ι → PairL ι vs ps → PairL ι (.ref a :: vs) ((b, e, nd) :: ps)
theorem PairL.mono {ι ι' : Led} (h : ∀ p ∈ ι, p ∈ ι') {vs ps} (x : PairL ι vs ps) : PairL ι' vs ps := by
  induction x with
  | nil => exact .nil
  | cons m _ ih => exact .cons (h _ m) ih
theorem PairL.app {ι : Led} {vs ps vs' ps'} (h : PairL ι vs ps) (h' : PairL ι vs' ps') : PairL ι (vs ++ vs') (ps ++ ps') := by
  induction h with
  | nil => exact h'
  | cons m _ ih => exact .cons m ih
theorem PairL.len {ι : Led} {vs ps} (h : PairL ι vs ps) : vs.length = ps.length := by
  induction h with
  | nil => rfl
  | cons _ _ ih => simp [ih]

/-- a list of five levels -/
noncomputable def LevAt (ι : Led) (a : Addr) (lv : Nat → Int) : Prop := ∃ vs n, (a, listO vs n) ∈ ι ∧ ∀ i, i < 5 → ∃ t, vs[i]? = some (.int (lv i) t)
theorem LevAt.mono {ι ι' : Led} (h : ∀ p ∈ ι, p ∈ ι') {a lv} (x : LevAt ι a lv) : LevAt ι' a lv := let ⟨vs, n, m, r⟩ := x; ⟨vs, n, h _ m, r⟩

noncomputable def abV : Option (Nat × Nat) → Int
  | none => -1
  | some (a, _) => a
noncomputable def sdV : Option (Nat × Nat) → Int
  | none => 0
  | some (_, sd) => sd
noncomputable def abOk : Option (Nat × Nat) → Prop
  | none => True
  | some (a, _) => a < 5

noncomputable def WritePost (lv : Nat → Int) (t : T) (ab : Option (Nat × Nat)) (pa qa : Addr) (vs qs : List Value) (v : Value) (μ' new : Led) : Prop :=
  v = .none ∧ ∃ vs' qs' n m, μ' = [(pa, listO (vs ++ vs') n), (qa, listO (qs ++ qs') m)] ∧ StrL vs' ((t.write lv ab vs.length).1.map pieceS) ∧ PairL new qs' (t.write lv ab vs.length).2

theorem c_write {B : Base} (G : Gnd B) (lv : Nat → Int) (la pa qa : Addr) : ∀ (t : T) (_ : t.ok) (_ : t.leaves ≤ 100) (ι : Led) (v : Value) (_ : TreeAt ι v t) (_ : LevAt ι la lv) (ab : Option (Nat × Nat)) (_ : abOk ab) (t1 t2 : Tok) (vs qs : List Value) (n m : Nat) (_ : vs.length + 4 * t.leaves ≤ 10000) (_ : qs.length + t.leaves ≤ 10000),
    Fn B 252 [v, .ref la, .int (abV ab) t1, .int (sdV ab) t2, .ref pa, .ref qa] [] (t.depth + 2) [(pa, listO vs n), (qa, listO qs m)] ι (WritePost lv t ab pa qa vs qs)
  | .leaf c, _, _, ι, _, .leaf hm, _, ab, _, t1, t2, vs, qs, n, m, hv, hq => by
    refine fn_intro (binds := [("tree", .ref _), ("levels", .ref la), ("above", .int (abV ab) t1), ("side", .int (sdV ab) t2), ("pieces", .ref pa), ("pairs", .ref qa)]) G rfl rfl (fun s X => BindsTo.of_eq rfl) rfl (by decide) rfl rfl rfl ?_
    intro A s L rm S
    refine r_if ?_
    repeat walk_at "go"
    rename_i S8
    exact ret_sub (μ' := [_, _]) (new := []) S8 (by walk_at "sub") ⟨rfl, [_], [], _, _, by rw [List.append_nil]; rfl, StrL.one _ _, .nil⟩
  | .node o l r d, ok, sz, ι, _, .node hm hl hr, hlv, ab, hab, t1, t2, vs, qs, n, m, hv, hq => by
    refine fn_intro (binds := [("tree", .ref _), ("levels", .ref la), ("above", .int (abV ab) t1), ("side", .int (sdV ab) t2), ("pieces", .ref pa), ("pairs", .ref qa)]) G rfl rfl (fun s X => BindsTo.of_eq rfl) rfl (by decide) rfl rfl rfl ?_
    intro A s L rm S
    obtain ⟨lvs, ln, hlm, hlev⟩ := hlv
    simp only [T.leaves] at sz hv hq
    have ho : o < 5 := ok.1
    obtain ⟨to, hto⟩ := hlev o ho
    refine r_if ?_
    repeat walk_at "go"
    rename_i S9
    refine ifj_g S9 (fun ls s' => St B L s' (("needed", .bool (need lv ab o)) :: ls) [(pa, listO vs n), (qa, listO qs m)] ι) ?_ ?_
    · cases ab with
      | none =>
        repeat walk_at "go"
        exact St.again ‹_› rfl
      | some p =>
        obtain ⟨a, sd⟩ := p
        obtain ⟨ta, hta⟩ := hlev a hab
        dsimp only [abV, sdV] at S9 ⊢
        have ha : a < 5 := hab
        repeat walk_at "go"
        refine ite_cases (fun h => ?_) (fun h => ?_)
        · repeat walk_at "go"
          rename_i S8
          show St B L _ _ _ _
          rw [show need lv (some (a, sd)) o = decide (lv o < lv a) from by simp only [need]; simp at h; simp [h]]
          exact S8
        · repeat walk_at "go"
          refine ite_cases (fun h' => ?_) (fun h' => ?_)
          · repeat walk_at "go"
            rename_i S8
            show St B L _ _ _ _
            rw [show need lv (some (a, sd)) o = ((sd : Int) != lv o % 2) from by simp only [need]; simp at h h'; simp [h']]
            exact S8
          · repeat walk_at "go"
            rename_i S8
            show St B L _ _ _ _
            rw [show need lv (some (a, sd)) o = (lv o == lv a) from by simp only [need]; rw [Bool.not_eq_true] at h h'; rw [h, h']; rfl]
            exact S8
    · intro s5 S5
      repeat walk_at "go"
      rename_i S6
      refine ifj_g S6 (fun ls s' => ∃ vs1 n1, StrL vs1 (if need lv ab o || d then ["("] else []) ∧ St B L s' ls [(pa, listO (vs ++ vs1) n1), (qa, listO qs m)] ι) ?_ ?_
      · repeat walk_at "go"
        refine ite_cases (fun h => ?_) (fun h => ?_)
        · repeat walk_at "go"
          rename_i S8
          exact ⟨[_], _, by rw [h]; exact StrL.one _ _, S8⟩
        · repeat walk_at "go"
          refine ite_cases (fun h' => ?_) (fun h' => ?_)
          · repeat walk_at "go"
            rename_i S8
            exact ⟨[_], _, by rw [h', Bool.or_true]; exact StrL.one _ _, S8⟩
          · repeat walk_at "go"
            refine ⟨[], n, ?_, by rw [List.append_nil]; exact S6⟩
            rw [show (need lv ab o || d) = false by rw [Bool.not_eq_true] at h h'; rw [h, h']; rfl]
            exact .nil
      rintro s7 ⟨vs1, n1, hs1, S7⟩
      repeat walk_at "go"
      rename_i S9
      have rml : Room A (l.depth + 2) := rm.less (by simp only [T.depth]; omega)
      have rmr : Room A (r.depth + 2) := rm.less (by simp only [T.depth]; omega)
      have hl1 : vs1.length ≤ 1 := by rw [hs1.len]; split <;> decide
      have lp := l.leaves_pos
      have rp := r.leaves_pos
      refine CallAt.of S9 (call_fn (μ1 := [(pa, listO (vs ++ vs1) n1), (qa, listO qs m)]) (μ2 := []) S9 rml (List.Perm.refl _) (fun ι' h => c_write G lv la pa qa l ok.2.1 (by omega) ι' _ (hl.mono h) (LevAt.mono h ⟨_, _, hlm, hlev⟩) (some (o, 0)) ho _ _ _ _ _ _ (by simp only [List.length_append]; omega) (by omega)) ?_)
      rintro _ _ new1 s8 S8 ⟨rfl, vs2, qs2, n2, m2, rfl, hs2, hq2⟩
      rw [List.append_nil] at S8
      have b2 : vs2.length + 3 ≤ 4 * l.leaves := by rw [hs2.len, List.length_map]; exact l.write_len _ _ _
      have q2 : qs2.length + 1 ≤ l.leaves := by rw [hq2.len]; exact l.write_pairs _ _ _
      repeat walk_at "go"
      walk_at "signs"
      repeat walk_at "go"
      rename_i S10
      refine CallAt.of S10 (call_fn (μ1 := [(pa, listO (vs ++ vs1 ++ vs2 ++ [_]) _), (qa, listO (qs ++ qs2) m2)]) (μ2 := []) S10 rmr (List.Perm.refl _) (fun ι' h => c_write G lv la pa qa r ok.2.2 (by omega) ι' _ (hr.mono fun p hp => h p (by simp [hp])) (LevAt.mono (fun p hp => h p (by simp [hp])) ⟨_, _, hlm, hlev⟩) (some (o, 1)) ho _ _ _ _ _ _ (by simp only [List.length_append, List.length_cons, List.length_nil]; omega) (by simp only [List.length_append]; omega)) ?_)
      rintro _ _ new2 s11 S11 ⟨rfl, vs3, qs3, n3, m3, rfl, hs3, hq3⟩
      rw [List.append_nil] at S11
      have b3 : vs3.length + 3 ≤ 4 * r.leaves := by rw [hs3.len, List.length_map]; exact r.write_len _ _ _
      have q3 : qs3.length + 1 ≤ r.leaves := by rw [hq3.len]; exact r.write_pairs _ _ _
      have e1 : (if need lv ab o || d then vs.length + 1 else vs.length) = (vs ++ vs1).length := by
        rw [List.length_append, hs1.len]; split <;> simp
      rw [List.length_append, List.length_append (bs := vs2), hs2.len, List.length_map] at hs3 hq3
      have fin : (need lv ab o || d) = true → ∀ s4 ls4 n4 m4 a4 tx ty t4 t5 sg, St B L s4 ls4 [(pa, listO (vs ++ vs1 ++ vs2 ++ [Value.str (signS o) tx] ++ vs3 ++ [Value.str ")" ty]) n4), (qa, listO (qs ++ qs2 ++ qs3 ++ [.ref a4]) m4)]
          ((a4, tupO [Value.int (vs.length : Nat) t4, Value.int (((vs ++ vs1 ++ vs2 ++ [Value.str (signS o) tx] ++ vs3 ++ [Value.str ")" ty]).length : Nat) - 1) t5, Value.bool (need lv ab o)] 0) :: (new2 ++ (sg :: (new1 ++ ι)))) → Ret B L ι (WritePost lv (T.node o l r d) ab pa qa vs qs) (.ret .none) s4 := by
        intro br s4 ls4 n4 m4 a4 tx ty t4 t5 sg S12
        have e3 : ((vs ++ vs1 ++ vs2 ++ [Value.str (signS o) tx] ++ vs3 ++ [Value.str ")" ty]).length : Int) - 1 = (((vs ++ vs1).length + (l.write lv (some (o, 0)) (vs ++ vs1).length).1.length + 1 + (r.write lv (some (o, 1)) ((vs ++ vs1).length + (l.write lv (some (o, 0)) (vs ++ vs1).length).1.length + 1)).1.length : Nat) : Int) := by
          have l2 := hs2.len
          have l3 := hs3.len
          rw [List.length_map] at l2 l3
          have l3' : vs3.length = (r.write lv (some (o, 1)) ((vs ++ vs1).length + (l.write lv (some (o, 0)) (vs ++ vs1).length).1.length + 1)).1.length := l3
          rw [← l3', ← l2]
          simp only [List.length_append, List.length_cons, List.length_nil]
          omega
        rw [e3] at S12
        rw [br, if_pos rfl] at hs1 e1
        refine ret_sub (μ' := [_, _]) (new := _ :: (new2 ++ (_ :: new1))) S12 (by walk_at "sub") ⟨rfl, vs1 ++ vs2 ++ [_] ++ vs3 ++ [_], qs2 ++ qs3 ++ [_], _, _, by simp only [List.append_assoc]; rfl, ?_, ?_⟩
        · simp only [T.write, br, if_true, e1, List.map_append, List.map_cons, List.map_nil, List.append_assoc]
          exact hs1.app (hs2.app ((StrL.one _ _).app (hs3.app (StrL.one _ _))))
        · simp only [T.write, br, if_true, e1]
          exact ((hq2.mono fun p hp => by simp [hp]).app (hq3.mono fun p hp => by simp [hp])).app (.cons (.head _) .nil)
      refine r_if ?_
      repeat walk_at "go"
      refine ite_cases (fun h => ?_) (fun h => ?_)
      · repeat walk_at "go"
        rename_i S12
        exact fin (by rw [h]; rfl) _ _ _ _ _ _ _ _ _ _ S12
      · repeat walk_at "go"
        refine ite_cases (fun h' => ?_) (fun h' => ?_)
        · repeat walk_at "go"
          rename_i S12
          exact fin (by rw [h', Bool.or_true]) _ _ _ _ _ _ _ _ _ _ S12
        · repeat walk_at "go"
          have br : (need lv ab o || d) = false := by rw [Bool.not_eq_true] at h h'; rw [h, h']; rfl
          rw [br, if_neg (by decide)] at hs1 e1
          refine ret_sub (μ' := [_, _]) (new := new2 ++ (_ :: new1)) S11 (by walk_at "sub") ⟨rfl, vs1 ++ vs2 ++ [_] ++ vs3, qs2 ++ qs3, _, _, by simp only [List.append_assoc]; rfl, ?_, ?_⟩
          · simp only [T.write, br, Bool.false_eq_true, if_false, List.map_append, List.map_cons, List.map_nil, List.append_assoc]
            rw [e1]
            exact hs1.app (hs2.app ((StrL.one _ _).app hs3))
          · simp only [T.write, br, Bool.false_eq_true, if_false]
            rw [e1]
            exact (hq2.mono fun p hp => by simp [hp]).app (hq3.mono fun p hp => by simp [hp])
end
end
section
open PySem PySem.W PySem.Spec PySem.Calls PyProof.Rows
set_option maxRecDepth 100000
set_option maxHeartbeats 4000000
set_option linter.unusedVariables false
section

noncomputable def WrittenAt (lv : Nat → Int) (t : T) (v : Value) (new : Led) : Prop :=
  ∃ a n pa vs n1 qa qs n2, v = .ref a ∧ (a, tupO [.ref pa, .ref qa] n) ∈ new ∧ (pa, listO vs n1) ∈ new ∧ (qa, listO qs n2) ∈ new ∧ StrL vs ((t.write lv none 0).1.map pieceS) ∧ PairL new qs (t.write lv none 0).2

theorem c_written {B : Base} (G : Gnd B) (lv : Nat → Int) (la : Addr) (t : T) (ok : t.ok) (sz : t.leaves ≤ 100) (ι : Led) (v : Value) (hT : TreeAt ι v t) (hlv : LevAt ι la lv) :
    Fn B 259 [v, .ref la] [] (t.depth + 3) [] ι (fun r μ' new => μ' = [] ∧ WrittenAt lv t r new) := by
  refine fn_intro (binds := [("tree", v), ("levels", .ref la)]) G rfl rfl (fun s X => BindsTo.of_eq rfl) rfl (by decide) rfl rfl rfl ?_
  intro A s L rm S
  repeat walk_at "go"
  rename_i S9
  refine CallAt.of S9 (call_fn (μ1 := [(_, listO [] 0), (_, listO [] 0)]) (μ2 := []) S9 rm (List.Perm.swap _ _ _) (fun ι' h => c_write G lv la _ _ t ok sz ι' _ (hT.mono fun p hp => h p hp) (LevAt.mono (fun p hp => h p hp) hlv) none trivial _ _ [] [] 0 0 (by show 0 + _ ≤ _; omega) (by show 0 + _ ≤ _; omega)) ?_)
  rintro _ _ new1 s8 S8 ⟨rfl, vs2, qs2, n2, m2, rfl, hs2, hq2⟩
  rw [List.append_nil] at S8
  repeat walk_at "go"
  rename_i S10
  exact ret_sub (μ' := []) (new := _ :: _ :: _ :: new1) S10.freeze.freeze (by walk_at "sub") ⟨rfl, _, _, _, _, _, _, _, _, rfl, .tail _ (.tail _ (.head _)), .tail _ (.head _), .head _, hs2, hq2.mono fun p hp => .tail _ (.tail _ (.tail _ hp))⟩
end
end
end Mine
end
section
open PySem PySem.W PySem.Spec PySem.Calls PyProof.Rows
set_option maxRecDepth 100000
set_option maxHeartbeats 4000000
set_option linter.unusedVariables false
namespace Mine

/-- the text's table of exact tokens, as it lies -/
noncomputable def exE (B : Base) : Array DictEntry := match (KF B).lookup 39 with
  | some ⟨_, _, .dict es _, _⟩ => es
  | _ => #[]
noncomputable def exF (B : Base) (x : Str) : Option Value := findBy Value.isStrOf (exE B) x
noncomputable def exK (B : Base) : List (Str × Value) := (exE B).toList.map fun e => (match e.key with | .str s _ => s | _ => Str.empty, e.val)
theorem exE_at (B : Base) : ∃ n, (KF B).lookup 39 = some ⟨.type "dict", none, .dict (exE B) n, #[]⟩ := ⟨_, rfl⟩
theorem exE_keys (B : Base) : KeysLit B.w.params (exE B).toList := by
  show KeysLit B.w.params [_, _, _, _, _, _, _, _, _, _, _, _, _, _, _, _, _, _, _, _, _, _, _, _, _, _, _, _, _, _, _, _, _, _, _, _, _, _, _, _, _, _, _, _, _, _, _, _]
  repeat (first | exact True.intro | refine And.intro ⟨_, _, rfl, rfl⟩ ?_)
theorem exF_eq (B : Base) (x : Str) : exF B x = ((exK B).find? fun p => p.1 == x).map (·.2) := by
  have h := (exE_keys B).all
  unfold exF exK findBy
  rw [← Array.find?_toList]
  generalize (exE B).toList = l at h
  induction l with
  | nil => rfl
  | cons e l ih =>
    obtain ⟨y, t, hy, _⟩ := h e (.head _)
    have e1 : Value.isStrOf x e.key = (y == x) := by rw [hy]; rfl
    rw [List.find?_cons, List.map_cons, List.find?_cons, e1, hy]
    cases y == x
    · exact ih fun e he => h e (.tail _ he)
    · rfl

theorem exK_ok (B : Base) : ((exK B).all fun p => p.1.cps.toList.length == 1 || p.1.cps.toList.all fun c => !bad c) = true := by kernel_rfl
theorem ex_none {B : Base} {x : Str} {c : Nat} (h2 : x.cps.toList.length ≠ 1) (hc : c ∈ x.cps.toList) (hb : bad c = true) : exF B x = none := by
  rw [exF_eq]
  have h := List.all_eq_true.mp (exK_ok B)
  cases hf : (exK B).find? fun p => p.1 == x with
  | none => rfl
  | some p =>
    exfalso
    have hp := h p (List.mem_of_find?_eq_some hf)
    have he : p.1 = x := by simpa using List.find?_some hf
    rw [he] at hp
    rcases Bool.or_eq_true_iff.mp hp with q | q
    · exact h2 (by simpa using q)
    · have := List.all_eq_true.mp q c hc
      rw [hb] at this
      cases this
theorem ex_op (B : Base) {o : Nat} (h : o < 5) : ∃ t, exF B (signS o) = some (.int (tokO o) t) := by
  rcases o with _ | _ | _ | _ | _ | o
  all_goals first | exact ⟨_, by rw [exF_eq]; rfl⟩ | omega
theorem ex_lp (B : Base) : ∃ t, exF B "(" = some (.int 7 t) := ⟨_, by rw [exF_eq]; rfl⟩
theorem ex_rp (B : Base) : ∃ t, exF B ")" = some (.int 8 t) := ⟨_, by rw [exF_eq]; rfl⟩
theorem ex_letter (B : Base) {c : Nat} (h : c < 8) : exF B (letterS c) = none := by
  rcases c with _ | _ | _ | _ | _ | _ | _ | _ | c
  all_goals first | (rw [exF_eq]; rfl) | omega

section
variable {B : Base} {A : Around} {E : Value → Shared → Prop} {s : Shared} {env : Env} {L : Addr} {ls : Loc} {μ ι : Led} {Q : Value → Shared → Prop} {x : Str} {t : Tok} {v : Value} {value slice : Expr}

theorem Gnd.exMap (G : Gnd B) (S : St B L s ls μ ι) : s.heap.MapOf (PySem.strKind PP B.w) 39 (exF B) := by
  obtain ⟨n, hn⟩ := exE_at B
  exact mapOf_K (G.X.keeps S.own.keep) hn (exE_keys B)
theorem r_in39 (G : Gnd B) (S : St B L s ls μ ι) (h : ∀ s', St B L s' ls μ ι → Q (.bool (exF B x).isSome) s') : wpAny (model PP B.w) A (compareOp .In (.str x t) (.ref 39)) Q E s :=
  wpAny_in_of (strKind_is PP B.w x t) rfl (G.exMap S) (h _ S.tok)
theorem r_notin39 (G : Gnd B) (S : St B L s ls μ ι) (h : ∀ s', St B L s' ls μ ι → Q (.bool (!(exF B x).isSome)) s') : wpAny (model PP B.w) A (compareOp .NotIn (.str x t) (.ref 39)) Q E s :=
  wpAny_notIn_of (strKind_is PP B.w x t) rfl (G.exMap S) (h _ S.tok)
theorem r_item39 (G : Gnd B) (S : St B L s ls μ ι) (hv : exF B x = some v) (h : ∀ s', St B L s' ls μ ι → Q v s')
    (hs : subscripted slice false (.ref 39) (.str x t) = operate [.ref 39, .str x t] (getItem (.ref 39) (.str x t)) := by with_unfolding_all rfl) :
    wpAny (model PP B.w) A (subscriptTail value slice (.ref 39) (.str x t)) Q E s :=
  tail_any (G.exMap S).typeIs slot_dict_getitem.lookup (wpAny_getItem_of (strKind_is PP B.w x t) (G.exMap S) hv (h _ S.tok)) hs

variable {prog : Program} {w : World} {l b : Addr} {vs ws : List Value} {n m : Nat} {lower upper : Option Expr} {p pos : Pos}
theorem r_addL (S : St B L s ls μ ι) (h1 : (l, listO vs n) ∈ μ ++ ι) (h2 : (b, listO ws m) ∈ μ ++ ι) (hz : vs.length + ws.length ≤ sizeLine) (h : ∀ s' a, St B L s' ls ((a, listO (vs ++ ws) 0) :: μ) ι → Q (.ref a) s') :
    wpAny (model prog w) A (binaryOp .Add (.ref l) (.ref b)) Q E s := by
  refine P.add_list (S.get h1) (S.get h2) ?_ (by rw [List.size_toArray, List.size_toArray]; exact hz)
  have e : vs.toArray ++ ws.toArray = (vs ++ ws).toArray := by simp
  rw [e]
  exact h _ _ (S.pushM (t := s.toks) rfl)

/-- the parts of a slice -/
noncomputable def partI : Value → Option (Option Int)
  | .none => some none
  | .int i _ => some (some i)
  | _ => none

theorem r_slice (h : wpAny (model prog w) A (eval value env) (fun o s₁ => wpAny (model prog w) A (evalPart lower env) (fun vl s₂ => wpAny (model prog w) A (evalPart upper env) (fun vu s₃ =>
      ∃ T, s₃.TypeIs o T ∧ (∃ id, typeLookup (.type T) "__getitem__" = pure (some (.builtin id))) ∧
        wpAny (model prog w) A (getItem o (.ref s₃.heap.objs.size)) Q E { s₃ with heap := s₃.heap.push { cls := .type "slice", data := .fields #[vl, vu, .none] } }) E s₂) E s₁) E s) :
    wpAny (model prog w) A (eval (.Subscript value (.Slice lower upper none p) pos) env) Q E s := by
  refine Subscript_ (wpAny_mono h (fun o s₁ h₁ => wpAny_Slice (wpAny_mono h₁ (fun vl s₂ h₂ => wpAny_mono h₂ (fun vu s₃ h₃ => ?_) fun _ _ e => e) fun _ _ e => e)) fun _ _ e => e)
  rw [evalPart_none]
  obtain ⟨T, hT, ⟨id, hid⟩, hq⟩ := h₃
  refine wpAny_pure ?_
  refine tail_any (T := T) ?_ hid hq rfl
  cases o with
  | ref a =>
    obtain ⟨ob, ho, hc⟩ := hT
    exact ⟨ob, Heap.get?_push_of_some _ ho, hc⟩
  | _ => exact hT

theorem sl_str {vl vu : Value} {lo hi : Option (Int × Tok)} (S : St B L s ls μ ι) (e1 : vl = partValue lo) (e2 : vu = partValue hi) (hz : x.length ≤ sizeLine)
    (h : ∀ s' t', St B L s' ls μ ι → Q (.str (PySem.StrLaws.sliceText x (lo.map (·.1)) (hi.map (·.1))) t') s') :
    ∃ T, s.TypeIs (.str x t) T ∧ (∃ id, typeLookup (.type T) "__getitem__" = pure (some (.builtin id))) ∧
        wpAny (model prog w) A (getItem (.str x t) (.ref s.heap.objs.size)) Q E { s with heap := s.heap.push { cls := .type "slice", data := .fields #[vl, vu, .none] } } := by
  subst e1 e2
  refine ⟨"str", typeIs_str _ _ _, ⟨_, F.slot_str_getitem.lookup⟩, ?_⟩
  refine wpAny_getItem_str_slice (l := lo) (u := hi) (st := none) ⟨_, Heap.get?_push_size _ rfl, rfl, rfl⟩ rfl ?_
  have S1 : ∀ k, St B L { s with heap := s.heap.push { cls := .type "slice", data := .fields #[partValue lo, partValue hi, .none] }, toks := k } ls μ ι := fun k => S.ext fun _ _ e => Heap.get?_push_of_some _ e
  have hle : (PySem.StrLaws.sliceText x (lo.map (·.1)) (hi.map (·.1))).length ≤ x.length := Txt.slice_le x _ _
  unfold sliceMade
  have h' := fun k t' => h _ t' (S1 k)
  unfold PySem.StrLaws.sliceText at h' hle
  by_cases q : ((1 : Int) == 1 && (Builtin.Str.strSliceIndices (lo.map (·.1)) (hi.map (·.1)) 1 x.length).length == x.length) = true
  · rw [if_pos q] at h'
    rw [if_pos (show ((((none : Option (Int × Tok)).map (·.1)).getD 1 == 1 && (slicePicked x lo hi none).length == x.length) = true) from q)]
    exact h' _ _
  · rw [if_neg q] at h' hle
    rw [if_neg (show ¬ ((((none : Option (Int × Tok)).map (·.1)).getD 1 == 1 && (slicePicked x lo hi none).length == x.length) = true) from q)]
    exact ⟨Nat.le_trans hle hz, h' _ _⟩
end
end Mine
end
section
open PySem PySem.W PySem.Spec PySem.Calls PyProof.Rows
set_option maxRecDepth 100000
namespace Mine
local macro_rules | `(tactic| walk_at "sub") => `(tactic| first | exact List.Sublist.refl _ | (refine List.Sublist.cons_cons _ ?_; walk_at "sub") | (refine List.Sublist.cons _ ?_; walk_at "sub") | (refine List.Sublist.trans ?_ (List.sublist_append_right _ _); walk_at "sub") | (simp only [List.nil_append, List.cons_append, List.append_assoc]; walk_at "sub"))
local macro_rules | `(tactic| walk_at "size") => `(tactic| first | exact Nat.le_of_ble_eq_true rfl | assumption | (show _ ≤ 16777216; omega) | (show _ ≤ 16777216; (simp only [List.length_append, List.length_cons, List.length_nil, PySem.Str.length_append, len_lp, len_rp]); omega))
local macro_rules | `(tactic| walk_at "hand") => `(tactic| first | assumption | exact Room.handled (by assumption))
local macro_rules | `(tactic| walk_at "mem") => `(tactic| first | with_reducible assumption | exact List.Mem.head _ | (refine List.Mem.tail _ ?_; walk_at "mem") | (refine List.mem_append_right _ ?_; walk_at "mem") | assumption)
local macro_rules | `(tactic| walk_at "chg") => `(tactic| first | exact Chg.head | (refine' Chg.tail ?c9; (case c9 => walk_at "chg")))
local macro_rules | `(tactic| walk_at "name") => `(tactic| first
  | ((with_reducible refine' r_loc ?S ?hv ?_ ?hk ?hl ?hd); (case S => with_reducible assumption); (case hl => rfl); (case hk => rfl); (case hd => decide); (case hv => rfl))
  | ((with_reducible refine' r_blt ?G ?S ?e ?hv ?hnn ?_ ?hk ?hl ?hd); (case hv => first | with_reducible exact b_len | with_reducible exact b_range | with_reducible exact b_str | with_reducible exact b_int | with_reducible exact b_type | with_reducible exact b_list); (case G => with_reducible assumption); (case S => with_reducible assumption); (case hl => rfl); (case hk => rfl); (case hd => decide); (case e => first | with_reducible exact n_len | with_reducible exact n_range | with_reducible exact n_str | with_reducible exact n_int | with_reducible exact n_type | with_reducible exact n_list); (case hnn => decide))
  | ((with_reducible refine' r_glob ?G ?S ?e ?_ ?hk ?hl ?hd); (case G => with_reducible assumption); (case S => with_reducible assumption); (case hl => rfl); (case hk => rfl); (case hd => decide); (case e => first | with_reducible exact glawsigns | with_reducible exact glawcalls | with_reducible exact glawtold | with_reducible exact glawtable | with_reducible exact glawtree | with_reducible exact glawwrite | with_reducible exact glawwritten | with_reducible exact glawrow | with_reducible exact glawlevels | with_reducible exact glawdone | with_reducible exact glawjoined | with_reducible exact glawfull | with_reducible exact glawread | with_reducible exact gISTERMINAL | with_reducible exact gISNONTERMINAL | with_reducible exact gISEOF | with_reducible exact gEXACTTOKENTYPES | with_reducible exact gHeaders | with_reducible exact gnamedisallowedre | with_reducible exact gvaluedisallowedre | rfl)))

local macro_rules | `(tactic| walk_at "go0") => `(tactic| first
  | with_reducible refine' wpAny_Compare1 ?_
  | with_reducible refine' wpAny_BinOp ?_
  | ((with_reducible refine' r_asg ?_ ?hs); (case hs => rfl))
  | with_reducible refine' r_ret ?_
  | with_reducible refine' r_nil ?_
  | ((with_reducible refine' r_exp ?_ ?hi ?hs); (case hi => rfl); (case hs => rfl))
  | with_reducible refine' wpAny_isTrue_Compare1 ?_
  | with_reducible refine' wpAny_isTrue_BoolOp ?_
  | with_reducible refine' wpAny_allTrue_And_cons ?_
  | with_reducible refine' wpAny_allTrue_And_nil ?_
  | with_reducible refine' wpAny_allTrue_Or_cons ?_
  | with_reducible refine' wpAny_allTrue_Or_nil ?_
  | with_reducible refine' wpAny_isTrue_Not ?_
  | ((with_reducible refine' wpAny_isTrue_value ?_ ?he); (case he => rfl))
  | with_reducible refine' wpAny_Or2 ?_
  | with_reducible refine' wpAny_And2 ?_
  | with_reducible refine' wpAny_UnaryOp ?_
  | with_reducible refine' r_call ?_
  | ((with_reducible refine' cw_b0 ?_ ?hp); (case hp => rfl))
  | ((with_reducible refine' cw_f0 ?G ?S ?hk ?_ ?hp); (case G => with_reducible assumption); (case S => with_reducible assumption); (case hk => rfl); (case hp => rfl))
  | with_reducible refine' Subscript_ ?_
  | ((with_reducible refine' spliced_more ?_ ?he); (case he => rfl))
  | with_reducible refine' spliced_none ?_
  | with_reducible refine' wpAny_truthy_bool ?_
  | ((with_reducible refine' r_int ?S ?_); (case S => with_reducible assumption); intro _ _ _)
  | ((with_reducible refine' r_str ?S ?_); (case S => with_reducible assumption); intro _ _ _)
  | walk_at "name"
  | with_reducible refine' wpAny_assign_Name ?_
  | with_reducible refine' wpAny_IfExp ?_
  | ((with_reducible refine' r_store ?S ?_ ?hk ?hl); (case S => with_reducible assumption); (case hk => rfl); (case hl => rfl); intro _ _)
  | with_reducible refine' wpAny_Constant_none ?_
  | with_reducible refine' wpAny_Constant_bool ?_
  | with_reducible refine' PyProof.Rows.lt_int ?_
  | with_reducible refine' PyProof.Rows.gt_int ?_
  | with_reducible refine' PyProof.Rows.ge_int ?_
  | with_reducible refine' PyProof.Rows.eq_int ?_
  | with_reducible refine' PyProof.Rows.ne_int ?_
  | ((with_reducible refine' r_add ?S ?_); (case S => with_reducible assumption); intro _ _ _)
  | ((with_reducible refine' r_sub ?S ?_); (case S => with_reducible assumption); intro _ _ _)
  | ((with_reducible refine' r_mod ?S ?hb ?_); (case S => with_reducible assumption); (case hb => decide); intro _ _ _)
  | ((with_reducible refine' r_div ?S ?hb ?hb2 ?_); (case S => with_reducible assumption); (case hb => decide); (case hb2 => decide); intro _ _ _)
  | ((with_reducible refine' r_neg ?S ?_); (case S => with_reducible assumption); intro _ _ _)
  | with_reducible refine' List_ ?_
  | with_reducible refine' Tuple_ ?_
  | ((with_reducible refine' r_newList ?S ?hs ?_); (case S => with_reducible assumption); (case hs => exact Nat.le_of_ble_eq_true rfl); intro _ _ _)
  | ((with_reducible refine' r_newTup ?S ?hs ?_); (case S => with_reducible assumption); (case hs => exact Nat.le_of_ble_eq_true rfl); intro _ _ _)
  | ((with_reducible refine' r_lenL ?S ?hm ?hs ?_); (case S => with_reducible assumption); (case hm => walk_at "mem"); (case hs => first | exact Nat.le_of_ble_eq_true rfl | omega | (simp only [List.length_append, List.length_cons, List.length_nil, PySem.Str.length_append]; omega)); intro _ _ _)
  | ((with_reducible refine' r_lenT ?S ?hm ?hs ?_); (case S => with_reducible assumption); (case hm => walk_at "mem"); (case hs => first | exact Nat.le_of_ble_eq_true rfl | omega | (simp only [List.length_append, List.length_cons, List.length_nil, PySem.Str.length_append]; omega)); intro _ _ _)
  | ((with_reducible refine' r_lenS ?S ?hs ?_); (case S => with_reducible assumption); (case hs => first | exact Nat.le_of_ble_eq_true rfl | omega | (simp only [List.length_append, List.length_cons, List.length_nil, PySem.Str.length_append]; omega)); intro _ _ _)
  | ((with_reducible refine' r_meth PySem.F.plainAttrs_list PySem.F.slot_list_append PySem.F.type_list_append ?hb ?hf ?hp ?hl ?_); (case hb => rfl); (case hf => rfl); (case hp => rfl); (case hl => rfl))
  | ((with_reducible refine' r_meth PySem.F.plainAttrs_list PySem.F.slot_list_pop PySem.F.type_list_pop ?hb ?hf ?hp ?hl ?_); (case hb => rfl); (case hf => rfl); (case hp => rfl); (case hl => rfl))
  | ((with_reducible refine' onList ?S ?hm ?_); (case S => with_reducible assumption); (case hm => walk_at "mem"))
  | (with_reducible refine' onStr ?_)
  | ((with_reducible refine' r_append ?S ?c ?hz ?_); (case S => with_reducible assumption); (case c => walk_at "chg"); (case hz => walk_at "size"); intro _ _)
  | ((with_reducible refine' r_pop ?S ?c ?hz ?_); (case S => with_reducible assumption); (case c => walk_at "chg"); (case hz => walk_at "size"); intro _ _)
  | ((with_reducible refine' r_asgT ?_ ?hs ?hw); (case hs => rfl); (case hw => rfl))
  | ((with_reducible refine' r_unpack2 ?hh ?S ?hm ?hk ?h1 ?h2 ?_); (case hh => walk_at "hand"); (case S => with_reducible assumption); (case hm => walk_at "mem"); (case hk => rfl); (case h1 => rfl); (case h2 => rfl); intro _ _)
  | ((with_reducible refine' r_unpack3 ?hh ?S ?hm ?hk ?h1 ?h2 ?h3 ?_); (case hh => walk_at "hand"); (case S => with_reducible assumption); (case hm => walk_at "mem"); (case hk => rfl); (case h1 => rfl); (case h2 => rfl); (case h3 => rfl); intro _ _)
  | ((with_reducible refine' r_unpack4 ?hh ?S ?hm ?hk ?h1 ?h2 ?h3 ?h4 ?_); (case hh => walk_at "hand"); (case S => with_reducible assumption); (case hm => walk_at "mem"); (case hk => rfl); (case h1 => rfl); (case h2 => rfl); (case h3 => rfl); (case h4 => rfl); intro _ _)
  | ((with_reducible refine' r_cat ?S ?hs ?_); (case S => with_reducible assumption); (case hs => walk_at "size"); intro _ _ _)
  | ((with_reducible refine' r_itemT ?S ?hm ?h0 ?h1 ?hx ?_ ?hs); (case S => with_reducible assumption); (case hm => walk_at "mem"); (case h0 => first | decide | omega); (case h1 => first | decide | omega); (case hx => first | rfl | assumption); (case hs => with_unfolding_all rfl))
  | ((with_reducible refine' r_itemL ?S ?hm ?h0 ?h1 ?hx ?_ ?hs); (case S => with_reducible assumption); (case hm => walk_at "mem"); (case h0 => first | decide | omega); (case h1 => first | decide | omega); (case hx => first | rfl | assumption | exact signL_get (by assumption) _); (case hs => with_unfolding_all rfl))
  | ((with_reducible refine' ite_pos ?hc ?_); (case hc => first | exact rfl | exact True.intro))
  | ((with_reducible refine' ite_neg ?hc ?_); (case hc => first | exact Bool.false_ne_true | exact not_false))
  | ((with_reducible refine' r_addL ?S ?h1 ?h2 ?hz ?_); (case S => with_reducible assumption); (case h1 => walk_at "mem"); (case h2 => walk_at "mem"); (case hz => walk_at "size"); intro _ _ _)
  | with_reducible refine' wpAny_evalPart_some ?_
  | with_reducible refine' wpAny_evalPart_none ?_
  | simp only [Int.toNat_natCast]
  | dsimp only [List.cons_append, List.nil_append]
  )
local macro_rules | `(tactic| walk_at "go") => `(tactic| walk_at "go0")
local macro_rules | `(tactic| walk_at "signs") => `(tactic| (refine' CallAt.of ?S (call_pure ?S2 ?rm (fun ι' _ => c_signs ?G ι') ?_); (case S => assumption); (case S2 => assumption); (case rm => exact Room.less (by assumption) (by omega)); (case G => assumption); intro _ _ _ _ h9; obtain ⟨_, _, _, h8, h7⟩ := h9; subst h8; subst h7))
local macro_rules | `(tactic| walk_at "flag") => `(tactic| ((first
  | refine' CallAt.of ?S (call_pure0 ?S2 ?rm (fun ι' _ => c_nonterm ?G _ _ ι') ?_)
  | refine' CallAt.of ?S (call_pure0 ?S2 ?rm (fun ι' _ => c_term ?G _ _ ι') ?_)
  | refine' CallAt.of ?S (call_pure0 ?S2 ?rm (fun ι' _ => c_eof ?G _ _ ι') ?_)); (case S => assumption); (case S2 => assumption); (case rm => exact Room.less (by assumption) (by omega)); (case G => assumption); intro _ _ _ h9; subst h9))
section
open PySem PySem.W PySem.Spec PySem.Calls PyProof.Rows
set_option maxRecDepth 100000
set_option maxHeartbeats 4000000
set_option linter.unusedVariables false
section

/-- a list of ints -/
inductive IntL : List Value → List Int → Prop
  | nil : IntL [] []
  | cons {x t vs ss} : IntL vs ss → IntL (.int x t :: vs) (x :: ss)
theorem IntL.len {vs ss} (h : IntL vs ss) : vs.length = ss.length := by
  induction h with
  | nil => rfl
  | cons _ ih => simp [ih]
theorem IntL.app {vs ss vs' ss'} (h : IntL vs ss) (h' : IntL vs' ss') : IntL (vs ++ vs') (ss ++ ss') := by
  induction h with
  | nil => exact h'
  | cons _ ih => exact .cons ih
theorem IntL.one (x : Int) (t : Tok) : IntL [.int x t] [x] := .cons .nil

theorem ex_piece (B : Base) {p : P} (h : p.ok) : (∃ t, exF B (pieceS p) = some (.int (tokP p) t)) ∨ ∃ c, p = .let_ c := by
  cases p with
  | lp => exact .inl (ex_lp B)
  | rp => exact .inl (ex_rp B)
  | op o => exact .inl (ex_op B h)
  | let_ c => exact .inr ⟨c, rfl⟩
theorem idx_letter {c : Nat} (h : c < 8) : ∃ rest, Builtin.Str.occurrences "abcdefgh" (letterS c) 0 (Str.length "abcdefgh") 1 = c :: rest := by
  rcases c with _ | _ | _ | _ | _ | _ | _ | _ | c
  all_goals first | exact ⟨[], by decide +kernel⟩ | omega
theorem r_index {B : Base} {A : Around} {E : Value → Shared → Prop} {s : Shared} {L : Addr} {ls : Loc} {μ ι : Led} {Q : Value → Shared → Prop} {prog : Program} {w : World} {x y : Str} {t u : Tok} {i : Nat} {rest : List Nat} (S : St B L s ls μ ι) (ho : Builtin.Str.occurrences x y 0 x.length 1 = i :: rest)
    (h : ∀ s' t, St B L s' ls μ ι → Q (.int i t) s') : wpAny (model prog w) A (call (.builtin "str.index") [.str x t, .str y u]) Q E s := SC.index ho (h _ _ S.tok)
theorem slice_win (x : Str) {a : Nat} (h : a ≤ x.cps.toList.length) : PySem.StrLaws.sliceText x (some (a : Int)) (some ((a : Int) + 3)) = ⟨((x.cps.toList.drop a).take 3).toArray⟩ := by
  by_cases hb : a + 3 ≤ x.length
  · have := PySem.StrLaws.sliceText_nat x (a := a) (b := a + 3) (by omega) hb
    rw [show ((a + 3 : Nat) : Int) = (a : Int) + 3 by omega, show a + 3 - a = 3 by omega] at this
    exact this
  · have hl : x.length = x.cps.toList.length := by simp [Str.length]
    have e : PySem.StrLaws.sliceText x (some (a : Int)) (some ((a : Int) + 3)) = PySem.StrLaws.sliceText x (some (a : Int)) (some (x.length : Int)) := by
      unfold PySem.StrLaws.sliceText
      have q : Builtin.Str.strSliceIndices (some (a : Int)) (some ((a : Int) + 3)) 1 x.length = Builtin.Str.strSliceIndices (some (a : Int)) (some (x.length : Int)) 1 x.length := by
        unfold Builtin.Str.strSliceIndices
        have h1 : ¬ ((a : Int) + 3 < 0) := by omega
        have h2 : ¬ ((x.length : Int) < 0) := by omega
        have h4 : (1 : Int) > 0 := by decide
        simp only [h1, h2, if_false, h4, if_true]
        have h3 : min ((a : Int) + 3) (x.length : Int) = min (x.length : Int) (x.length : Int) := by omega
        rw [h3]
      rw [q]
    rw [e, PySem.StrLaws.sliceText_nat x (a := a) (b := x.length) (by omega) (Nat.le_refl _)]
    congr 2
    rw [List.take_of_length_le (by rw [List.length_drop]; omega), List.take_of_length_le (by rw [List.length_drop]; omega)]
theorem slice_last (cs : List Nat) {k : Nat} (h1 : 1 < k) (h2 : k ≤ cs.length) : PySem.StrLaws.sliceText ⟨(cs.take k).toArray⟩ none (some (-1)) = ⟨(cs.take (k - 1)).toArray⟩ := by
  have hl : (Str.length ⟨(cs.take k).toArray⟩) = k := by simp [Str.length]; omega
  rw [PySem.StrLaws.sliceText_to_neg (by omega) (by rw [hl]; omega), hl]
  simp only [List.drop_zero]
  congr 2
  rw [show (-1 + (k : Int) - 0).toNat = k - 1 by omega, List.take_take]
  congr 1
  omega

theorem codes_len : ∀ {ps : List P}, (∀ q ∈ ps, q.ok) → (codes ps).length ≤ 2 * ps.length
  | [], _ => Nat.le_refl _
  | p :: ps, h => by
    have := codes_len fun q hq => h q (.tail _ hq)
    rw [codes_cons, List.length_append, List.length_cons]
    have := piece_len (h p (.head _))
    omega
theorem adj_drop : ∀ {ps qs : List P}, Adj (ps ++ qs) → Adj qs
  | [], _, h => h
  | [_], [], _ => trivial
  | [_], _ :: _, h => h.2
  | _ :: q :: r, _, h => adj_drop (ps := q :: r) h.2
theorem take_min (cs : List Nat) (k : Nat) : cs.take k = cs.take (min k cs.length) := by
  by_cases h : k ≤ cs.length
  · rw [Nat.min_eq_left h]
  · rw [List.take_of_length_le (by omega), List.take_of_length_le (by omega)]
theorem str_of {x : Str} {cs : List Nat} (h : x.cps.toList = cs) : x = ⟨cs.toArray⟩ := by
  subst h; cases x; simp

local macro_rules | `(tactic| walk_at "go") => `(tactic| first
  | with_reducible refine' r_slice ?_
  | ((with_reducible refine' r_in39 ?G ?S ?_); (case G => with_reducible assumption); (case S => with_reducible assumption); intro _ _)
  | ((with_reducible refine' r_notin39 ?G ?S ?_); (case G => with_reducible assumption); (case S => with_reducible assumption); intro _ _)
  | ((with_reducible refine' r_item39 ?G ?S ?hv ?_ ?hs); (case G => with_reducible assumption); (case S => with_reducible assumption); (case hv => assumption); (case hs => with_unfolding_all rfl); intro _ _)
  | ((with_reducible refine' r_meth PySem.F.plainAttrs_str PySem.F.slot_str_index PySem.F.type_str_index ?hb ?hf ?hp ?hl ?_); (case hb => rfl); (case hf => rfl); (case hp => rfl); (case hl => rfl))
  | walk_at "go0")
theorem c_row {B : Base} (G : Gnd B) (ps : List P) (hp : ∀ q ∈ ps, q.ok) (adj : Adj ps) (hn : ps.length ≤ 1000) (x : Str) (hx : x.cps.toList = codes ps) (t : Tok) (ι : Led) :
    Fn B 266 [.str x t] [] 1 [] ι (fun v μ' new => μ' = [] ∧ ∃ a vs n, v = .ref a ∧ (a, listO vs n) ∈ new ∧ IntL vs (ps.map tokP ++ [0])) := by
  refine fn_intro (binds := [("text", .str x t)]) G rfl rfl (fun s X => BindsTo.of_eq rfl) rfl (by decide) rfl rfl rfl ?_
  intro A s L rm S
  have hcl := codes_len hp
  have hxl : x.length = (codes ps).length := by rw [← hx]; simp [Str.length]
  repeat walk_at "go"
  rename_i ra _ _ _ _ tk0 _ _ S9
  refine r_while (fun n s => ∃ done rest vs m tk, ps = done ++ rest ∧ rest.length = n ∧ IntL vs (done.map tokP) ∧ St B L s [("place", .int ((codes done).length : Nat) tk), ("row", .ref ra), ("text", .str x t)] [(ra, listO vs m)] ι) ps.length ⟨[], ps, [], _, _, rfl, rfl, .nil, S9.pick ⟨rfl, rfl, rfl, trivial⟩⟩ ?_
  clear S9
  rintro n s1 ⟨done, rest, vs, m, tk, hps, hlen, hvs, S1⟩
  have hdl : vs.length ≤ 1000 := by rw [hvs.len, List.length_map]; have := congrArg List.length hps; rw [List.length_append] at this; omega
  have hcd : (codes ps).length = (codes done).length + (codes rest).length := by rw [hps, codes_app, List.length_append]
  repeat walk_at "go"
  refine ite_cases (fun h => ?_) (fun h => ?_)
  · have h : (codes done).length < x.length := by simpa using h
    cases rest with
    | nil => rw [show (codes []).length = 0 from rfl] at hcd; omega
    | cons p rest =>
      have hpr : ∀ q ∈ p :: rest, q.ok := fun q hq => hp q (by rw [hps]; exact List.mem_append_right _ hq)
      have adjr : Adj (p :: rest) := adj_drop (hps ▸ adj)
      have hdrop : x.cps.toList.drop (codes done).length = codes (p :: rest) := by rw [hx, hps, codes_app, List.drop_left]
      have hpl := piece_len (hpr p (.head _))
      have hpc : (pieceS p).cps.toList.length ≤ (codes (p :: rest)).length := by rw [codes_cons, List.length_append]; omega
      repeat walk_at "go"
      refine sl_str (lo := some (((codes done).length : Nat), _)) (hi := some (((codes done).length : Nat) + 3, _)) ‹_› rfl rfl (by show _ ≤ 16777216; omega) ?_
      intro s3 t3 S3
      have e := slice_win x (a := (codes done).length) (by rw [hx]; omega)
      rw [hdrop, take_min] at e
      simp only [Option.map_some]
      rw [e]
      repeat walk_at "go"
      rename_i S4
      refine r_whileJ (fun k s => (pieceS p).cps.toList.length ≤ k ∧ k ≤ (codes (p :: rest)).length ∧ k ≤ 3 ∧ ∃ tk2, St B L s [("piece", .str ⟨((codes (p :: rest)).take k).toArray⟩ tk2), ("place", .int ((codes done).length : Nat) tk), ("row", .ref ra), ("text", .str x t)] [(ra, listO vs m)] ι)
        (fun s => ∃ tk2, St B L s [("piece", .str (pieceS p) tk2), ("place", .int ((codes done).length : Nat) tk), ("row", .ref ra), ("text", .str x t)] [(ra, listO vs m)] ι) (min 3 (codes (p :: rest)).length) ⟨by omega, by omega, by omega, _, S4⟩ ?_ ?_
      · rintro k s5 ⟨h1, h2, h3, tk2, S5⟩
        have hk : Str.length ⟨((codes (p :: rest)).take k).toArray⟩ = k := by simp [Str.length]; omega
        have out : k = (pieceS p).cps.toList.length → (⟨((codes (p :: rest)).take k).toArray⟩ : Str) = pieceS p := by
          intro e
          rw [e, codes_cons, List.take_left]
        repeat walk_at "go"
        rename_i S6'
        refine ite_cases (fun g => ?_) (fun g => ?_)
        · rw [hk] at g
          have g : 1 < k := by have := of_decide_eq_true g; omega
          by_cases hkp : (pieceS p).cps.toList.length < k
          · obtain ⟨c, hc, hb⟩ := window_bad hpr adjr hkp h2
            have hn9 : exF B ⟨((codes (p :: rest)).take k).toArray⟩ = none := ex_none (c := c) (by simp; omega) (by simpa using hc) hb
            repeat walk_at "go"
            refine ite_pos (by rw [hn9]; rfl) ?_
            repeat walk_at "go"
            refine sl_str (lo := none) (hi := some (-1, _)) ‹_› rfl rfl (by rw [hk]; show _ ≤ 16777216; omega) ?_
            intro s6 t6 S6
            simp only [Option.map_some, Option.map_none]
            rw [slice_last _ g h2]
            repeat walk_at "go"
            rename_i S7
            exact ⟨k - 1, by omega, by omega, by omega, by omega, _, S7.pick ⟨rfl, rfl, rfl, rfl, trivial⟩⟩
          · have hke : k = (pieceS p).cps.toList.length := by omega
            have hpe := out hke
            have hop : p.isOp = true := by rcases hpl with q | q; omega; exact q.2
            obtain ⟨o, rfl⟩ : ∃ o, p = .op o := by cases p <;> first | exact ⟨_, rfl⟩ | cases hop
            obtain ⟨t8, h8⟩ := ex_op B (o := o) (hpr _ (.head _))
            repeat walk_at "go"
            refine ite_neg (by rw [hpe, show pieceS (.op o) = signS o from rfl, h8]; exact Bool.false_ne_true) ?_
            repeat walk_at "go"
            rename_i S7
            exact ⟨_, hpe ▸ S7⟩
        · rw [hk] at g
          have g : ¬ 1 < k := fun q => g (decide_eq_true (by omega))
          have hke : k = (pieceS p).cps.toList.length := by omega
          repeat walk_at "go"
          exact ⟨_, out hke ▸ S6'⟩
      · rintro s5 ⟨tk2, S5⟩
        refine r_if ?_
        have hpl' : (pieceS p).length = (pieceS p).cps.toList.length := by simp [Str.length]
        have fin : ∀ s6 ls6 vs6 m6 t6 t7 t8, IntL vs6 ((done ++ [p]).map tokP) → St B L s6 (("place", .int (((codes done).length : Nat) + ((pieceS p).length : Nat)) t6) :: ("piece", .str (pieceS p) t7) :: ("place", .int ((codes done).length : Nat) t8) :: ("row", .ref ra) :: ("text", .str x t) :: ls6) [(ra, listO vs6 m6)] ι →
            ∃ m1, m1 < n ∧ ∃ done rest vs m tk, ps = done ++ rest ∧ rest.length = m1 ∧ IntL vs (done.map tokP) ∧ St B L s6 [("place", .int ((codes done).length : Nat) tk), ("row", .ref ra), ("text", .str x t)] [(ra, listO vs m)] ι := by
          intro s6 ls6 vs6 m6 t6 t7 t8 hi S6
          refine ⟨rest.length, by rw [← hlen]; exact Nat.lt_succ_self _, done ++ [p], rest, vs6, m6, t6, by rw [hps, List.append_assoc]; rfl, rfl, hi, ?_⟩
          rw [codes_app, List.length_append, show (codes [p]).length = (pieceS p).length by rw [codes_cons, List.length_append, hpl']; rfl, Int.natCast_add]
          exact S6.pick ⟨rfl, rfl, rfl, trivial⟩
        rcases ex_piece B (hpr p (.head _)) with ⟨t8, h8⟩ | ⟨c, rfl⟩
        · repeat walk_at "go"
          refine ite_pos (by rw [h8]; rfl) ?_
          repeat walk_at "go"
          rename_i S7
          refine fin _ [] _ _ _ _ _ ?_ S7
          rw [List.map_append]
          exact hvs.app (IntL.one _ _)
        · have hc8 : c < 8 := hpr (.let_ c) (.head _)
          have h8 := ex_letter B hc8
          obtain ⟨rst, h9⟩ := idx_letter hc8
          repeat walk_at "go"
          refine ite_neg (by rw [show pieceS (.let_ c) = letterS c from rfl, h8]; exact Bool.false_ne_true) ?_
          repeat walk_at "go"
          refine r_index ‹_› h9 ?_
          intro _ _ _
          repeat walk_at "go"
          rename_i S7
          refine fin _ [] _ _ _ _ _ ?_ S7
          rw [List.map_append]
          exact hvs.app (IntL.one _ _)
  · have h : ¬ (codes done).length < x.length := by simpa using h
    have hr : rest = [] := by
      cases rest with
      | nil => rfl
      | cons p rest =>
        have hpl := piece_len (hp p (by rw [hps]; simp))
        rw [codes_cons, List.length_append] at hcd
        omega
    subst hr
    rw [List.append_nil] at hps
    subst hps
    repeat walk_at "go"
    rename_i S8
    exact ret_sub (μ' := []) (new := [_]) S8.freeze (by walk_at "sub") ⟨rfl, _, _, _, rfl, .head _, hvs.app (IntL.one _ _)⟩
end
end
section
open PySem PySem.W PySem.Spec PySem.Calls PyProof.Rows
set_option maxRecDepth 100000
set_option maxHeartbeats 4000000
set_option linter.unusedVariables false
section

theorem IntL.are {vs ns} (h : IntL vs ns) : IntsAre vs ns := by
  induction h with
  | nil => exact .nil
  | cons _ ih => exact .cons _ _ ih
theorem IntL.snoc : ∀ {vs : List Value} {ns : List Int} {n : Int}, IntL vs (ns ++ [n]) → ∃ vs' t, vs = vs' ++ [.int n t] ∧ IntL vs' ns
  | _, [], n, h => by
    cases h with
    | cons h => cases h; exact ⟨[], _, rfl, .nil⟩
  | _, m :: ns, n, h => by
    cases h with
    | cons h =>
      obtain ⟨vs', t, rfl, h'⟩ := IntL.snoc h
      exact ⟨_ :: vs', t, rfl, .cons h'⟩

/-- the map of a dict of ints -/
noncomputable def DictO (B : Base) (o : Obj) (f : Int → Option Value) : Prop := ∀ (h : Heap) (a : Addr), h.get? a = some o → h.MapOf (PySem.intKind PP B.w) a f
noncomputable def DictAt (B : Base) (ι : Led) (a : Addr) (f : Int → Option Value) : Prop := (a == sysModules) = false ∧ ∃ o, (a, o) ∈ ι ∧ DictO B o f
theorem DictAt.mono {B : Base} {ι ι' : Led} (h : ∀ p ∈ ι, p ∈ ι') {a f} (x : DictAt B ι a f) : DictAt B ι' a f := let ⟨e, o, m, r⟩ := x; ⟨e, o, h _ m, r⟩

section
variable {B : Base} {A : Around} {E : Value → Shared → Prop} {s : Shared} {L : Addr} {ls : Loc} {μ ι : Led} {Q : Value → Shared → Prop} {a b : Addr} {xs ys : List Value} {ns ms : List Int} {n m d : Nat} {prog : Program} {w : World}
theorem r_neL (rm : Room A d) (S : St B L s ls μ ι) (h1 : (a, listO xs n) ∈ μ ++ ι) (h2 : (b, listO ys m) ∈ μ ++ ι) (hi : IntL xs ns) (hj : IntL ys ms) (h : Q (.bool (!decide (ns = ms))) s) : wpAny (model prog w) A (compareOp .NotEq (.ref a) (.ref b)) Q E s :=
  ke_ne_ints (S.isList h1) (S.isList h2) hi.are hj.are (by have := rm.units; omega) h
theorem r_eqL (rm : Room A d) (S : St B L s ls μ ι) (h1 : (a, listO xs n) ∈ μ ++ ι) (h2 : (b, listO ys m) ∈ μ ++ ι) (hi : IntL xs ns) (hj : IntL ys ms) (h : Q (.bool (decide (ns = ms))) s) : wpAny (model prog w) A (compareOp .Eq (.ref a) (.ref b)) Q E s :=
  ke_eq_ints (S.isList h1) (S.isList h2) hi.are hj.are (by have := rm.units; omega) h
variable {f : Int → Option Value} {k : Int} {t : Tok} {v : Value} {value slice : Expr}
theorem DictAt.map (D : DictAt B ι a f) (S : St B L s ls μ ι) : s.heap.MapOf (PySem.intKind PP B.w) a f := let ⟨_, o, m, r⟩ := D; r _ _ (S.get (List.mem_append_right _ m))
theorem onDict {P : Prop} (S : St B L s ls μ ι) (D : DictAt B ι a f) (h : P) : s.TypeIs (.ref a) "dict" ∧ (∀ b, Value.ref a = .ref b → ∃ ob, s.heap.get? b = some ob ∧ ob.dict = none) ∧ P :=
  ⟨(D.map S).typeIs, (D.map S).noDict, h⟩
theorem r_dget (S : St B L s ls μ ι) (D : DictAt B ι a f) (h : ∀ s', St B L s' ls μ ι → Q ((f k).getD v) s') : wpAny (model PP B.w) A (call (.builtin "dict.get") [.ref a, .int k t, v]) Q E s :=
  wpAny_call (codeAny_call_builtin F.slot_dict_get.plain F.entry_dict_get (F.slot_dict_get.check _ _ _ _ _ _ _ _ (D.map S).typeIs (F.args_dict_get_3 _ _ _) (meets_dict_get_default (PySem.intKind PP B.w) a (intKind_is PP B.w k t) D.1 v A (wants Q E) s ⟨f, D.map S, h _ S.tok⟩)))
theorem r_ditem (S : St B L s ls μ ι) (D : DictAt B ι a f) (hv : f k = some v) (h : ∀ s', St B L s' ls μ ι → Q v s')
    (hs : subscripted slice false (.ref a) (.int k t) = operate [.ref a, .int k t] (getItem (.ref a) (.int k t)) := by with_unfolding_all rfl) :
    wpAny (model PP B.w) A (subscriptTail value slice (.ref a) (.int k t)) Q E s :=
  tail_any (D.map S).typeIs slot_dict_getitem.lookup (wpAny_getItem_of (intKind_is PP B.w k t) (D.map S) hv (h _ S.tok)) hs
end

/-- the levels as the reader has them -/
noncomputable def LvF (lv : Nat → Int) (f : Int → Option Value) : Prop := (∀ o, o < 5 → ∃ t, f (tokO o) = some (.int (lv o) t)) ∧ f 8 = none ∧ f 0 = none

theorem runD_app (lv : Nat → Int) : ∀ (qs rs : List (Option P)) (st : List P × List P), runD lv (qs ++ rs) st = (runD lv qs st).bind (runD lv rs)
  | [], _, _ => rfl
  | q :: qs, rs, st => by
    simp only [List.cons_append, runD]
    cases stepD lv st q with
    | none => rfl
    | some st' => exact runD_app lv qs rs st'

theorem tok_op_ne {o : Nat} (h : o < 5) : tokO o ≠ 7 ∧ tokO o ≠ 8 ∧ tokO o ≠ 0 ∧ tokO o < 256 := by
  rcases o with _ | _ | _ | _ | _ | o
  all_goals first | decide | omega

/-- what lies on the pile -/
noncomputable def PileOk (stk : List P) : Prop := ∀ p ∈ stk, p = .lp ∨ ∃ o, p = .op o ∧ o < 5
theorem popW_ok (lv : Nat → Int) (lev : Int) : ∀ (stk out : List P), PileOk stk → PileOk (popW lv lev stk out).1
  | [], _, h => h
  | .op o :: stk, out, h => by
    simp only [popW]
    split
    · exact popW_ok lv lev stk _ fun p hp => h p (.tail _ hp)
    · exact h
  | .lp :: stk, _, h => h
  | .rp :: stk, _, h => h
  | .let_ _ :: stk, _, h => h
theorem popW_len (lv : Nat → Int) (lev : Int) : ∀ (stk out : List P), (popW lv lev stk out).1.length + (popW lv lev stk out).2.length = stk.length + out.length
  | [], _ => rfl
  | .op o :: stk, out => by
    simp only [popW]
    split
    · rw [popW_len lv lev stk _, List.length_append, List.length_cons, List.length_cons, List.length_nil]; omega
    · rfl
  | .lp :: stk, _ => rfl
  | .rp :: stk, _ => rfl
  | .let_ _ :: stk, _ => rfl

theorem IntL.get {vs ns} (h : IntL vs ns) : ∀ {i : Nat} {v : Value}, vs[i]? = some v → ∃ n t, ns[i]? = some n ∧ v = .int n t := by
  induction h with
  | nil => intro i v e; simp at e
  | cons _ ih =>
    intro i v e
    cases i with
    | zero => cases e; exact ⟨_, _, rfl, rfl⟩
    | succ i => exact ih (by simpa using e)
theorem stepD_ok {lv : Nat → Int} {stk dn : List P} {q : Option P} {st : List P × List P} (hp : PileOk stk) (hq : ∀ p, q = some p → p.ok) (h : stepD lv (stk, dn) q = some st) : PileOk st.1 ∧ st.1.length + st.2.length ≤ stk.length + dn.length + 1 := by
  have pl := popW_len lv
  cases q with
  | none => cases h; exact ⟨popW_ok _ _ _ _ hp, by rw [pl]; dsimp only; omega⟩
  | some p => cases p with
    | lp => cases h; exact ⟨fun p h => by rcases List.mem_cons.mp h with rfl | h; exact .inl rfl; exact hp p h, by simp only [List.length_cons]; omega⟩
    | let_ c => cases h; exact ⟨hp, by simp only [List.length_append, List.length_cons, List.length_nil]; omega⟩
    | op o =>
      cases h
      refine ⟨fun p h => ?_, ?_⟩
      · rcases List.mem_cons.mp h with rfl | h
        · exact .inr ⟨o, rfl, hq _ rfl⟩
        · exact popW_ok _ _ _ _ hp p h
      · have := pl (lv o) stk dn
        simp only [List.length_cons]; omega
    | rp =>
      have z := popW_ok lv (-1) stk dn hp
      have l := pl (-1) stk dn
      simp only [stepD] at h
      split at h
      · rename_i e
        cases h
        rw [e] at z l
        exact ⟨fun p h => z p (.tail _ h), by simp only [List.length_cons] at l ⊢; omega⟩
      · cases h

local macro_rules | `(tactic| walk_at "go") => `(tactic| first
  | ((with_reducible refine' r_neL ?rm ?S ?h1 ?h2 ?hi ?hj ?_); (case rm => with_reducible assumption); (case S => with_reducible assumption); (case h1 => walk_at "mem"); (case h2 => walk_at "mem"); (case hi => first | assumption | exact IntL.nil); (case hj => first | assumption | exact IntL.nil))
  | ((with_reducible refine' r_eqL ?rm ?S ?h1 ?h2 ?hi ?hj ?_); (case rm => with_reducible assumption); (case S => with_reducible assumption); (case h1 => walk_at "mem"); (case h2 => walk_at "mem"); (case hi => first | assumption | exact IntL.nil); (case hj => first | assumption | exact IntL.nil))
  | ((with_reducible refine' r_itemLast ?S ?hm ?hx ?_ ?hs); (case S => with_reducible assumption); (case hm => walk_at "mem"); (case hx => first | exact List.getLast?_concat | assumption); (case hs => with_unfolding_all rfl))
  | ((with_reducible refine' r_meth PySem.F.plainAttrs_dict PySem.F.slot_dict_get PySem.F.type_dict_get ?hb ?hf ?hp ?hl ?_); (case hb => rfl); (case hf => rfl); (case hp => rfl); (case hl => rfl))
  | ((with_reducible refine' onDict ?S ?D ?_); (case S => with_reducible assumption); (case D => assumption))
  | ((with_reducible refine' r_dget ?S ?D ?_); (case S => with_reducible assumption); (case D => assumption); intro _ _)
  | ((with_reducible refine' r_ditem ?S ?D ?hv ?_ ?hs); (case S => with_reducible assumption); (case D => assumption); (case hv => assumption); (case hs => with_unfolding_all rfl); intro _ _)
  | walk_at "go0")
/-- the turn's end: what one token makes of pile and list -/
theorem c_done {B : Base} (G : Gnd B) (lv : Nat → Int) (ps : List P) (hp : ∀ q ∈ ps, q.ok) (hn : ps.length ≤ 1000) (ra la : Addr) (rvs : List Value) (rn : Nat) (ι : Led) (hr : (ra, listO rvs rn) ∈ ι) (hri : IntL rvs (ps.map tokP ++ [0]))
    (f : Int → Option Value) (hf : LvF lv f) (hd : DictAt B ι la f) (out : List P) (hout : doneF lv ps = some out) :
    Fn B 280 [.ref ra, .ref la] [] 2 [] ι (fun v μ' new => μ' = [] ∧ ∃ a vs n, v = .ref a ∧ (a, listO vs n) ∈ new ∧ IntL vs (out.map tokP)) := by
  refine fn_intro (binds := [("row", .ref ra), ("levels", .ref la)]) G rfl rfl (fun s X => BindsTo.of_eq rfl) rfl (by decide) rfl rfl rfl ?_
  intro A s L rm S
  repeat walk_at "go"
  refine r_for ?_
  repeat walk_at "go"
  rename_i da _ _ _ _ pa _ _ S9
  have hrow : rvs = rvs := rfl
  refine loop_list (vs := rvs) (ol := listO rvs rn) rm.handled S9 ⟨rfl, _, rfl⟩ (fun i ls μ ι' => ι' = ι ∧ LocAll ls [("pile", .ref pa), ("done", .ref da), ("levels", .ref la)] ∧
      ∃ stk dn pvs pn dvs dnn, runD lv ((ps.map some ++ [none]).take i) ([], []) = some (stk, dn) ∧ PileOk stk ∧ stk.length + dn.length ≤ i ∧ μ = [(pa, listO pvs pn), (da, listO dvs dnn)] ∧ IntL pvs (stk.reverse.map tokP) ∧ IntL dvs (dn.map tokP)) ?_ ?_ ?_ ?_
  · exact ⟨rfl, ⟨rfl, rfl, rfl, trivial⟩, [], [], [], _, [], _, rfl, (fun _ h => nomatch h), Nat.le_refl _, rfl, .nil, .nil⟩
  · rintro i ls μ ι' ⟨rfl, _⟩ s O
    exact (O.here (ra, listO rvs rn) (List.mem_append_right _ hr)).1
  · rintro i v ls μ ι' s1 it o hv ⟨rfl, hls, stk, dn, pvs, pn, dvs, dnn, hrun, hpile, hlen, rfl, hpv, hdv⟩ S1
    obtain ⟨n, tn, hn1, rfl⟩ := hri.get hv
    have hmap : ps.map tokP ++ [0] = (ps.map some ++ [none]).map tokQ := by simp [tokQ, Function.comp_def]
    rw [hmap, List.getElem?_map] at hn1
    obtain ⟨q, hq, rfl⟩ := Option.map_eq_some_iff.mp hn1
    have hqok : ∀ p, q = some p → p.ok := by
      rintro p rfl
      have := List.mem_of_getElem? hq
      simp only [List.mem_append, List.mem_map, List.mem_singleton] at this
      rcases this with ⟨p', h', e⟩ | e
      · cases e; exact hp p h'
      · cases e
    have htake : (ps.map some ++ [none]).take (i + 1) = (ps.map some ++ [none]).take i ++ [q] := by rw [List.take_add_one, hq]; rfl
    have hil : i < 1001 := by have := (List.getElem?_eq_some_iff.mp hq).1; simp at this; omega
    obtain ⟨st, hst⟩ : ∃ st, stepD lv (stk, dn) q = some st := by
      unfold doneF at hout
      rw [← List.take_append_drop (i + 1) (ps.map some ++ [none]), runD_app, htake, runD_app, hrun] at hout
      cases h : stepD lv (stk, dn) q with
      | some st => exact ⟨st, rfl⟩
      | none => simp [runD, h] at hout
    have hrun' : runD lv ((ps.map some ++ [none]).take (i + 1)) ([], []) = some st := by rw [htake, runD_app, hrun]; simp [runD, hst]
    obtain ⟨hpile', hlen'⟩ := stepD_ok hpile hqok hst
    have fin : ∀ s2 ls2 pvs' pn' dvs' dn', LocAll ls2 [("pile", .ref pa), ("done", .ref da), ("levels", .ref la)] → St B L s2 ls2 [(it, o), (pa, listO pvs' pn'), (da, listO dvs' dn')] ι' → IntL pvs' (st.1.reverse.map tokP) → IntL dvs' (st.2.map tokP) →
        ∃ ls' μ' ι2, St B L s2 ls' ((it, o) :: μ') ι2 ∧ (ι2 = ι' ∧ LocAll ls' [("pile", .ref pa), ("done", .ref da), ("levels", .ref la)] ∧
      ∃ stk dn pvs pn dvs dnn, runD lv ((ps.map some ++ [none]).take (i + 1)) ([], []) = some (stk, dn) ∧ PileOk stk ∧ stk.length + dn.length ≤ i + 1 ∧ μ' = [(pa, listO pvs pn), (da, listO dvs dnn)] ∧ IntL pvs (stk.reverse.map tokP) ∧ IntL dvs (dn.map tokP)) :=
      fun s2 ls2 pvs' pn' dvs' dn' hl S2 h1 h2 => ⟨ls2, _, ι', S2, rfl, hl, st.1, st.2, _, _, _, _, hrun', hpile', by omega, rfl, h1, h2⟩
    have S2 := S1.pick hls
    clear S1
    have pl : pvs.length = stk.length := by rw [hpv.len]; simp
    have dl : dvs.length = dn.length := by rw [hdv.len]; simp
    repeat walk_at "go"
    refine r_if ?_
    repeat walk_at "go"
    walk_at "flag"
    repeat walk_at "go"
    by_cases hlet : ∃ c, q = some (.let_ c)
    · obtain ⟨c, rfl⟩ := hlet
      cases hst
      refine ite_pos (decide_eq_true (by show (256 : Int) ≤ 256 + (c : Int); omega)) ?_
      repeat walk_at "go"
      rename_i S3
      exact fin _ _ _ _ _ _ ⟨rfl, rfl, rfl, trivial⟩ S3 hpv (by rw [List.map_append]; exact hdv.app (IntL.one _ _))
    · by_cases hlp : q = some .lp
      · subst hlp
        cases hst
        repeat walk_at "go"
        refine r_if ?_
        repeat walk_at "go"
        rename_i S3
        exact fin _ _ _ _ _ _ ⟨rfl, rfl, rfl, trivial⟩ S3 (by rw [List.reverse_cons, List.map_append]; exact hpv.app (IntL.one _ _)) hdv
      · obtain ⟨lev, tg, hget, hqs⟩ : ∃ (lev : Int) (tg : Tok → Tok), (∀ t, (f (tokQ q)).getD (.int (-1) t) = .int lev (tg t)) ∧ ((∃ o, q = some (.op o) ∧ lev = lv o) ∨ (q = some .rp ∧ lev = -1) ∨ (q = none ∧ lev = -1)) := by
          cases q with
          | none => exact ⟨-1, id, fun t => by rw [show tokQ none = 0 from rfl, hf.2.2]; rfl, .inr (.inr ⟨rfl, rfl⟩)⟩
          | some p => cases p with
            | lp => exact absurd rfl hlp
            | let_ c => exact absurd ⟨c, rfl⟩ hlet
            | rp => exact ⟨-1, id, fun t => by rw [show tokQ (some .rp) = 8 from rfl, hf.2.1]; rfl, .inr (.inl ⟨rfl, rfl⟩)⟩
            | op o =>
              obtain ⟨t0, h0⟩ := hf.1 o (hqok _ rfl)
              exact ⟨lv o, fun _ => t0, fun t => by rw [show tokQ (some (.op o)) = tokO o from rfl, h0]; rfl, .inl ⟨o, rfl, rfl⟩⟩
        have hq7 : tokQ q < 256 ∧ tokQ q ≠ 7 := by
          rcases hqs with ⟨o, rfl, _⟩ | ⟨rfl, _⟩ | ⟨rfl, _⟩
          · have := tok_op_ne (hqok (.op o) rfl); exact ⟨this.2.2.2, this.1⟩
          · decide
          · decide
        refine ite_neg (fun h => by have := of_decide_eq_true h; omega) ?_
        repeat walk_at "go"
        refine r_if ?_
        repeat walk_at "go"
        refine ite_neg (fun h => hq7.2 (by simpa using h)) ?_
        repeat walk_at "go"
        rename_i S3
        rw [hget] at S3
        obtain ⟨tl, S4⟩ : ∃ tl, St B L _ [("level", .int lev tl), ("number", .int (tokQ q) tn), ("pile", .ref pa), ("done", .ref da), ("levels", .ref la)] [(it, o), (pa, listO pvs pn), (da, listO dvs dnn)] ι' := ⟨_, S3.pick ⟨rfl, rfl, rfl, rfl, rfl, trivial⟩⟩
        clear S3
        refine r_whileJ (fun k s => ∃ stk1 dn1 pvs1 pn1 dvs1 dnn1, stk1.length = k ∧ popW lv lev stk1 dn1 = popW lv lev stk dn ∧ PileOk stk1 ∧ stk1.length + dn1.length ≤ 1001 ∧ IntL pvs1 (stk1.reverse.map tokP) ∧ IntL dvs1 (dn1.map tokP) ∧
            St B L s [("level", .int lev tl), ("number", .int (tokQ q) tn), ("pile", .ref pa), ("done", .ref da), ("levels", .ref la)] [(it, o), (pa, listO pvs1 pn1), (da, listO dvs1 dnn1)] ι')
          (fun s => ∃ pvs1 pn1 dvs1 dnn1, IntL pvs1 ((popW lv lev stk dn).1.reverse.map tokP) ∧ IntL dvs1 ((popW lv lev stk dn).2.map tokP) ∧
            St B L s [("level", .int lev tl), ("number", .int (tokQ q) tn), ("pile", .ref pa), ("done", .ref da), ("levels", .ref la)] [(it, o), (pa, listO pvs1 pn1), (da, listO dvs1 dnn1)] ι') stk.length ⟨stk, dn, pvs, pn, dvs, dnn, rfl, rfl, hpile, by omega, hpv, hdv, S4⟩ ?_ ?_
        · clear S4 hpv hdv fin
          rintro k s5 ⟨stk1, dn1, pvs1, pn1, dvs1, dnn1, hk, hpop, hpile1, hlen1, hpv1, hdv1, S5⟩
          have dl1 : dvs1.length = dn1.length := by rw [hdv1.len]; simp
          have pl1 : pvs1.length = stk1.length := by rw [hpv1.len]; simp
          cases stk1 with
          | nil =>
            cases hpv1
            repeat walk_at "go"
            rename_i S6
            refine ⟨_, _, _, _, ?_, ?_, S6.drop⟩
            · rw [← hpop]; exact IntL.nil
            · rw [← hpop]; exact hdv1
          | cons top stk2 =>
            rw [List.reverse_cons, List.map_append] at hpv1
            obtain ⟨pvs2, tt, rfl, hpv2⟩ := hpv1.snoc
            have exitJ : ∀ s6, popW lv lev (top :: stk2) dn1 = (top :: stk2, dn1) → St B L s6 [("level", .int lev tl), ("number", .int (tokQ q) tn), ("pile", .ref pa), ("done", .ref da), ("levels", .ref la)] [(it, o), (pa, listO (pvs2 ++ [Value.int (tokP top) tt]) pn1), (da, listO dvs1 dnn1)] ι' →
                ∃ pvs1 pn1 dvs1 dnn1, IntL pvs1 ((popW lv lev stk dn).1.reverse.map tokP) ∧ IntL dvs1 ((popW lv lev stk dn).2.map tokP) ∧
            St B L s6 [("level", .int lev tl), ("number", .int (tokQ q) tn), ("pile", .ref pa), ("done", .ref da), ("levels", .ref la)] [(it, o), (pa, listO pvs1 pn1), (da, listO dvs1 dnn1)] ι' := fun s6 he S6 =>
              ⟨_, _, _, _, by rw [← hpop, he]; show IntL _ ((top :: stk2).reverse.map tokP); rw [List.reverse_cons, List.map_append]; exact hpv1, by rw [← hpop, he]; exact hdv1, S6⟩
            repeat walk_at "go"
            rename_i S6
            have S7 := S6.drop
            clear S6
            refine ite_pos (by simp) ?_
            repeat walk_at "go"
            rcases hpile1 top (.head _) with rfl | ⟨o1, rfl, ho1⟩
            · refine ite_neg (by decide) ?_
              rename_i S8
              exact exitJ _ rfl S8
            · obtain ⟨t1, h1⟩ := hf.1 o1 ho1
              have h1' : f (tokP (P.op o1)) = some (Value.int (lv o1) t1) := h1
              refine ite_pos (by have : tokP (.op o1) ≠ 7 := (tok_op_ne ho1).1; simpa using this) ?_
              repeat walk_at "go"
              by_cases c1 : lev < lv o1
              · refine ite_pos (decide_eq_true c1) ?_
                repeat walk_at "go"
                rename_i S8
                refine ⟨stk2.length, by rw [← hk]; exact Nat.lt_succ_self _, stk2, dn1 ++ [.op o1], _, _, _, _, rfl, ?_, fun p hp => hpile1 p (.tail _ hp), ?_, hpv2, ?_, S8⟩
                · rw [← hpop]; simp [popW, c1]
                · simp at hlen1 ⊢; omega
                · rw [List.map_append]; exact hdv1.app (IntL.one _ _)
              · refine ite_neg (fun h => c1 (of_decide_eq_true h)) ?_
                repeat walk_at "go"
                by_cases c2 : lv o1 = lev
                · refine ite_pos (decide_eq_true c2) ?_
                  repeat walk_at "go"
                  by_cases c3 : lev % 2 = 0
                  · refine ite_pos (decide_eq_true c3) ?_
                    repeat walk_at "go"
                    rename_i S8
                    refine ⟨stk2.length, by rw [← hk]; exact Nat.lt_succ_self _, stk2, dn1 ++ [.op o1], _, _, _, _, rfl, ?_, fun p hp => hpile1 p (.tail _ hp), ?_, hpv2, ?_, S8⟩
                    · rw [← hpop]; simp [popW, c2, c3]
                    · simp at hlen1 ⊢; omega
                    · rw [List.map_append]; exact hdv1.app (IntL.one _ _)
                  · refine ite_neg (fun h => c3 (of_decide_eq_true h)) ?_
                    repeat walk_at "go"
                    rename_i S8
                    exact exitJ _ (by simp [popW, c1, c3]) S8
                · refine ite_neg (fun h => c2 (of_decide_eq_true h)) ?_
                  repeat walk_at "go"
                  rename_i S8
                  exact exitJ _ (by simp [popW, c1, c2]) S8
        · rintro s5 ⟨pvs1, pn1, dvs1, dnn1, hpv1, hdv1, S5⟩
          have pl1 : pvs1.length ≤ 1001 := by rw [hpv1.len]; have := popW_len lv lev stk dn; simp; omega
          rcases hqs with ⟨o1, rfl, hlv⟩ | ⟨rfl, hlv⟩ | ⟨rfl, hlv⟩
          · have ht := tok_op_ne (hqok (.op o1) rfl)
            cases hst
            rw [hlv] at hpv1 hdv1
            refine r_if ?_
            repeat walk_at "go"
            refine ite_neg (fun h => ht.2.1 (of_decide_eq_true h)) ?_
            refine r_if ?_
            repeat walk_at "go"
            walk_at "flag"
            repeat walk_at "go"
            refine ite_pos (by have : tokQ (some (.op o1)) ≠ 0 := ht.2.2.1; simpa using this) ?_
            repeat walk_at "go"
            rename_i S6
            exact fin _ _ _ _ _ _ ⟨rfl, rfl, rfl, trivial⟩ S6 (by rw [List.reverse_cons, List.map_append]; exact hpv1.app (IntL.one _ _)) hdv1
          · subst hlv
            obtain ⟨x, stk3, dn3, he, hst'⟩ : ∃ x stk3 dn3, popW lv (-1) stk dn = (x :: stk3, dn3) ∧ st = (stk3, dn3) := by
              simp only [stepD] at hst
              split at hst
              · rename_i x s o h; cases hst; exact ⟨_, _, _, h, rfl⟩
              · cases hst
            subst hst'
            rw [he] at hpv1 hdv1
            dsimp only at hpv1 hdv1
            rw [List.reverse_cons, List.map_append] at hpv1
            obtain ⟨pvs2, tt, rfl, hpv2⟩ := hpv1.snoc
            refine r_if ?_
            repeat walk_at "go"
            rename_i S6
            exact fin _ _ _ _ _ _ ⟨rfl, rfl, rfl, trivial⟩ S6 hpv2 hdv1
          · cases hst
            subst hlv
            refine r_if ?_
            repeat walk_at "go"
            refine r_if ?_
            repeat walk_at "go"
            walk_at "flag"
            repeat walk_at "go"
            rename_i S6
            exact fin _ _ _ _ _ _ ⟨rfl, rfl, rfl, trivial⟩ S6 hpv1 hdv1
  · rintro ls μ ι' s1 ⟨rfl, hls, stk, dn, pvs, pn, dvs, dnn, hrun, hpile, hlen, rfl, hpv, hdv⟩ S1
    have S2 := S1.pick hls
    clear S1
    have ho : out = if stk = [] then dn else [] := by
      have hl : (ps.map some ++ [none]).length ≤ rvs.length := by rw [hri.len]; simp
      rw [List.take_of_length_le hl] at hrun
      unfold doneF at hout
      rw [hrun] at hout
      exact (Option.some.inj hout).symm
    repeat walk_at "go"
    rename_i S3
    have S4 := S3.drop
    clear S3
    by_cases he : stk = []
    · subst he
      refine ite_pos (by simp) ?_
      repeat walk_at "go"
      rw [if_pos rfl] at ho
      subst ho
      exact ret_sub (new := [(da, listO dvs dnn)]) (μ' := []) (by assumption) (List.sublist_cons_self _ _) ⟨rfl, da, dvs, dnn, rfl, .head _, hdv⟩
    · refine ite_neg (by simpa using he) ?_
      repeat walk_at "go"
      rename_i S5
      rw [if_neg he] at ho
      subst ho
      exact ret_sub (new := [(_, listO [] 0)]) (μ' := []) S5 (by exact (((List.nil_sublist _).cons _).cons_cons _).append_right _) ⟨rfl, _, [], 0, rfl, .head _, IntL.nil⟩
end
end
section
open PySem PySem.W PySem.Spec PySem.Calls PyProof.Rows
set_option maxRecDepth 100000
set_option maxHeartbeats 4000000
set_option linter.unusedVariables false
section

/-- the entry at a is o; whatever stands there later, the rest is the same -/
inductive ChgA (a : Addr) (o : Obj) : Led → (Obj → Led) → Prop
  | head {r} : ChgA a o ((a, o) :: r) (fun o' => (a, o') :: r)
  | tail {p r f} : ChgA a o r f → ChgA a o (p :: r) (fun o' => p :: f o')
theorem ChgA.chg {a o r f} (c : ChgA a o r f) (o' : Obj) : Chg a o o' r (f o') := by
  induction c with
  | head => exact .head
  | tail _ ih => exact .tail ih

section
variable {B : Base} {A : Around} {E : Value → Shared → Prop} {s : Shared} {L : Addr} {ls : Loc} {μ ι : Led} {Q : Value → Shared → Prop} {Qu : Unit → Shared → Prop} {a b : Addr} {M : Model} {prog : Program} {w : World} {env : Env}
noncomputable abbrev dict0 : Obj := { cls := .type "dict", data := .dict #[] }
theorem Gnd.low (G : Gnd B) (S : St B L s ls μ ι) : (s.heap.objs.size == sysModules) = false := by
  obtain ⟨mg, mb, ⟨o, _, _, h0, _⟩, _⟩ := G.top
  have := Heap.lt_size (S.own.keep _ _ h0)
  have h3 : mainGlobals = 3 := rfl
  rw [h3] at this
  exact beq_false_of_ne fun e => by rw [e] at this; exact absurd this (by decide)
theorem r_newDict {pos : Pos} (G : Gnd B) (S : St B L s ls μ ι) (h : ∀ s' a, (a == sysModules) = false → St B L s' ls ((a, dict0) :: μ) ι → Q (.ref a) s') : wpAny M A (eval (.Dict [] [] pos) env) Q E s :=
  wpAny_Dict_empty (h _ _ (G.low S) (S.pushM (t := s.toks) rfl))
theorem dict0_is : dict0.IsDictOf (PySem.intKind PP B.w) [] := by
  obtain ⟨o, ho, h⟩ := Heap.dictOf_iff.mp (Heap.DictOf.new (knd := PySem.intKind PP B.w) B.H)
  rcases Heap.get?_push_cases ho with ⟨_, rfl⟩ | e
  · exact h
  · rw [none_of_size (Nat.le_refl _)] at e; cases e
theorem r_dset {o : Obj} {kvs : List (Int × Value)} {f : Obj → Led} {k : Int} {t : Tok} {v : Value} (S : St B L s ls μ ι) (c : ChgA a o μ f) (hd : o.IsDictOf (PySem.intKind PP B.w) kvs) (hz : kvs.length ≤ sizeLine)
    (h : ∀ s' o', o'.IsDictOf (PySem.intKind PP B.w) (stored kvs k v) → St B L s' ls (f o') ι → Qu () s') : wpAny (model PP B.w) A (setItem (.ref a) (.int k t) v) Qu E s := by
  refine wpAny_setItem_pairs (hsz := hz) (intKind_is PP B.w k t) (Heap.dictOf_iff.mpr ⟨o, S.get (List.mem_append_left _ (c.chg o).mem), hd⟩) fun h' hm hs => ?_
  obtain ⟨o', ho', hd'⟩ := Heap.dictOf_iff.mp hm
  exact h _ o' hd' (S.change (c.chg o') hs.extBut ho')
theorem DictAt.of {o : Obj} {kvs : List (Int × Value)} (lo : (a == sysModules) = false) (hm : (a, o) ∈ ι) (hd : o.IsDictOf (PySem.intKind PP B.w) kvs) : DictAt B ι a (valueAt kvs) :=
  ⟨lo, o, hm, fun h b hb => (Heap.dictOf_iff.mpr ⟨o, hb, hd⟩).mapOf⟩
end

section
variable {B : Base} {A : Around} {E : Value → Shared → Prop} {s : Shared} {L : Addr} {ls : Loc} {μ ι : Led} {Q : Value → Shared → Prop} {prog : Program} {w : World} {value slice : Expr} {t u : Tok}
theorem r_letter {i : Int} {c : Nat} (S : St B L s ls μ ι) (hi : i = c) (hc : c < 8) (h : ∀ s' t', St B L s' ls μ ι → Q (.str (letterS c) t') s')
    (hs : subscripted slice false (.str "abcdefgh" t) (.int i u) = operate [.str "abcdefgh" t, .int i u] (getItem (.str "abcdefgh" t) (.int i u)) := by with_unfolding_all rfl) :
    wpAny (model prog w) A (subscriptTail value slice (.str "abcdefgh" t) (.int i u)) Q E s := by
  subst hi
  refine tail_any (typeIs_str _ _ _) F.slot_str_getitem.lookup (PyProof.Rows.getItem_str (c := 97 + c) ?_ ?_ (h _ _ S.tok)) hs
  · rcases c with _ | _ | _ | _ | _ | _ | _ | _ | c <;> first | decide | omega
  · rcases c with _ | _ | _ | _ | _ | _ | _ | _ | c <;> first | decide | omega
end

/-- the pairs of the first n signs -/
noncomputable def tabOf (g : Nat → Value) (n : Nat) : List (Int × Value) := (List.range n).map fun j => (tokO j, g j)
theorem tabOf_succ (g : Nat → Value) {n : Nat} (h : n < 5) : stored (tabOf g n) (tokO n) (g n) = tabOf g (n + 1) := by
  have e : (tabOf g n).any (fun kv => kv.1 = tokO n) = false := by
    rw [Bool.eq_false_iff]
    intro hh
    obtain ⟨p, hp, hq⟩ := List.any_eq_true.mp hh
    obtain ⟨j, hj, rfl⟩ := List.mem_map.mp hp
    have hj' := List.mem_range.mp hj
    have hq' : tokO j = tokO n := of_decide_eq_true hq
    revert hq'
    rcases n with _ | _ | _ | _ | _ | n <;> rcases j with _ | _ | _ | _ | _ | j <;> first | omega | decide
  unfold stored
  rw [e]
  simp [tabOf, List.range_succ]
theorem tabOf_at (g : Nat → Value) {o : Nat} (h : o < 5) : valueAt (tabOf g 5) (tokO o) = some (g o) := by
  rcases o with _ | _ | _ | _ | _ | o <;> first | omega | rfl

local macro_rules | `(tactic| walk_at "go") => `(tactic| first
  | with_reducible refine' r_slice ?_
  | ((with_reducible refine' r_in39 ?G ?S ?_); (case G => with_reducible assumption); (case S => with_reducible assumption); intro _ _)
  | ((with_reducible refine' r_notin39 ?G ?S ?_); (case G => with_reducible assumption); (case S => with_reducible assumption); intro _ _)
  | ((with_reducible refine' r_item39 ?G ?S ?hv ?_ ?hs); (case G => with_reducible assumption); (case S => with_reducible assumption); (case hv => assumption); (case hs => with_unfolding_all rfl); intro _ _)
  | ((with_reducible refine' r_meth PySem.F.plainAttrs_str PySem.F.slot_str_index PySem.F.type_str_index ?hb ?hf ?hp ?hl ?_); (case hb => rfl); (case hf => rfl); (case hp => rfl); (case hl => rfl))
  | walk_at "go0")
local macro_rules | `(tactic| walk_at "go") => `(tactic| first
  | ((with_reducible refine' r_newDict ?G ?S ?_); (case G => with_reducible assumption); (case S => with_reducible assumption); intro _ _ _ _)
  | ((with_reducible refine' r_dset ?S ?c ?hd ?hz ?_); (case S => with_reducible assumption); (case c => walk_at "chgA"); (case hd => with_reducible assumption); (case hz => walk_at "size"); intro _ _ _ _)
  | ((with_reducible refine' r_asgS ?_ ?hs); (case hs => rfl))
  | ((with_reducible refine' r_eqL ?rm ?S ?h1 ?h2 ?hi ?hj ?_); (case rm => with_reducible assumption); (case S => with_reducible assumption); (case h1 => walk_at "mem"); (case h2 => walk_at "mem"); (case hi => first | assumption | exact IntL.nil); (case hj => first | assumption | exact IntL.nil))
  | ((with_reducible refine' r_ditem ?S ?D ?hv ?_ ?hs); (case S => with_reducible assumption); (case D => assumption); (case hv => assumption); (case hs => with_unfolding_all rfl); intro _ _)
  | walk_at "go0")
local macro_rules | `(tactic| walk_at "chgA") => `(tactic| first | exact ChgA.head | (refine' ChgA.tail ?c9; (case c9 => walk_at "chgA")))

theorem StrL.snoc : ∀ {vs : List Value} {ns : List Str} {n : Str}, StrL vs (ns ++ [n]) → ∃ vs' t, vs = vs' ++ [.str n t] ∧ StrL vs' ns
  | _, [], n, h => by
    cases h with
    | cons h => cases h; exact ⟨[], _, rfl, .nil⟩
  | _, m :: ns, n, h => by
    cases h with
    | cons h =>
      obtain ⟨vs', t, rfl, h'⟩ := StrL.snoc h
      exact ⟨_ :: vs', t, rfl, .cons h'⟩
noncomputable def totS (l : List Str) : Nat := (l.map Str.length).sum

/-- the pile of texts while a row is joined -/
noncomputable def stepJ (pile : List Str) : P → Option (List Str)
  | .op o => match pile with
    | r :: l :: rest => some ((("(" : Str) ++ l ++ signS o ++ r ++ (")" : Str)) :: rest)
    | _ => none
  | .let_ c => some (letterS c :: pile)
  | _ => none
noncomputable def runJ : List P → List Str → Option (List Str)
  | [], st => some st
  | q :: qs, st => match stepJ st q with
    | some st' => runJ qs st'
    | none => none

theorem runJ_app : ∀ (qs rs : List P) (st : List Str), runJ (qs ++ rs) st = (runJ qs st).bind (runJ rs)
  | [], rs, st => rfl
  | q :: qs, rs, st => by
    simp only [List.cons_append, runJ]
    cases stepJ st q with
    | none => rfl
    | some st' => exact runJ_app qs rs st'
theorem signS_len {o : Nat} (h : o < 5) : (signS o).length ≤ 2 := by
  rcases o with _ | _ | _ | _ | _ | o <;> first | omega | decide

theorem c_joined {B : Base} (G : Gnd B) (ps : List P) (hp : ∀ q ∈ ps, q.ok) (hn : ps.length ≤ 1000) (ra : Addr) (rvs : List Value) (rn : Nat) (ι : Led) (hr : (ra, listO rvs rn) ∈ ι) (hri : IntL rvs (ps.map tokP))
    (out : List Str) (hout : runJ ps [] = some out) :
    Fn B 287 [.ref ra] [] 3 [] ι (fun v μ' new => μ' = [] ∧ ∃ a vs n, v = .ref a ∧ (a, listO vs n) ∈ new ∧ StrL vs out.reverse) := by
  refine fn_intro (binds := [("done", .ref ra)]) G rfl rfl (fun s X => BindsTo.of_eq rfl) rfl (by decide) rfl rfl rfl ?_
  intro A s L rm S
  repeat walk_at "go"
  refine r_for ?_
  repeat walk_at "go"
  walk_at "signs"
  rename_i da hda _ _ _ _ sa sn st S9
  refine loop_list (vs := [.str "=" (st 0), .str "->" (st 1), .str "+" (st 2), .str "**" (st 3), .str "//" (st 4)]) (ol := listO _ sn) rm.handled S9 ⟨rfl, _, rfl⟩ (fun i ls μ ι' => ι' = [(sa, listO [.str "=" (st 0), .str "->" (st 1), .str "+" (st 2), .str "**" (st 3), .str "//" (st 4)] sn)] ++ ι ∧ LocAll ls [("signs", .ref da), ("done", .ref ra)] ∧
      ∃ od, μ = [(da, od)] ∧ od.IsDictOf (PySem.intKind PP B.w) (tabOf (fun j => .str (signS j) (st j)) i)) ?_ ?_ ?_ ?_
  · exact ⟨rfl, ⟨rfl, rfl, trivial⟩, _, rfl, dict0_is⟩
  · rintro i ls μ ι' ⟨rfl, _⟩ s O
    exact (O.here (sa, listO _ sn) (List.mem_append_right _ (.head _))).1
  · rintro i v ls μ ι' s1 it o hv ⟨rfl, hls, od, rfl, hod⟩ S1
    obtain ⟨hi, rfl⟩ : i < 5 ∧ v = .str (signS i) (st i) := by
      rcases i with _ | _ | _ | _ | _ | i
      all_goals first | (cases hv; exact ⟨by omega, rfl⟩) | (simp at hv)
    obtain ⟨tx, hx⟩ := ex_op B hi
    have hz : (tabOf (fun j => Value.str (signS j) (st j)) i).length ≤ sizeLine := by unfold tabOf; rw [List.length_map, List.length_range]; show _ ≤ 16777216; omega
    have S2 := S1.pick hls
    clear S1
    repeat walk_at "go"
    rename_i hod' S3
    exact ⟨_, _, _, S3, rfl, ⟨rfl, rfl, trivial⟩, _, rfl, by have := hod'; rwa [tabOf_succ (fun j => Value.str (signS j) (st j)) hi] at this⟩
  · rintro ls μ ι' s1 ⟨rfl, hls, od, rfl, hod⟩ S1
    have S2 := (S1.pick hls).freeze
    clear S1 S9
    obtain ⟨ι1, hι1⟩ : ∃ ι1, ι1 = (da, od) :: ([(sa, listO [Value.str "=" (st 0), .str "->" (st 1), .str "+" (st 2), .str "**" (st 3), .str "//" (st 4)] sn)] ++ ι) := ⟨_, rfl⟩
    rw [← hι1] at S2
    have D : DictAt B ι1 da (valueAt (tabOf (fun j => .str (signS j) (st j)) 5)) := DictAt.of hda (by rw [hι1]; exact .head _) hod
    have hr1 : (ra, listO rvs rn) ∈ ι1 := by rw [hι1]; exact .tail _ (.tail _ hr)
    clear hod hls
    repeat walk_at "go"
    refine r_for ?_
    repeat walk_at "go"
    rename_i pa _ _ S9
    refine loop_list (vs := rvs) (ol := listO rvs rn) rm.handled S9 ⟨rfl, _, rfl⟩ (fun i ls μ ι' => ι' = ι1 ∧ LocAll ls [("pile", .ref pa), ("signs", .ref da)] ∧
        ∃ pile pvs pn, runJ (ps.take i) [] = some pile ∧ pile.length ≤ i ∧ totS pile ≤ 4 * i ∧ μ = [(pa, listO pvs pn)] ∧ StrL pvs pile.reverse) ?_ ?_ ?_ ?_
    · exact ⟨rfl, ⟨rfl, rfl, trivial⟩, [], [], _, rfl, Nat.le_refl _, Nat.le_refl _, rfl, .nil⟩
    · rintro i ls μ ι' ⟨rfl, _⟩ s O
      exact (O.here (ra, listO rvs rn) (List.mem_append_right _ hr1)).1
    · rintro i v ls μ ι' s1 it o hv ⟨rfl, hls, pile, pvs, pn, hrun, hlen, htot, rfl, hpv⟩ S1
      obtain ⟨n, tn, hn1, rfl⟩ := hri.get hv
      rw [List.getElem?_map] at hn1
      obtain ⟨q, hq, rfl⟩ := Option.map_eq_some_iff.mp hn1
      have hqok : q.ok := hp q (List.mem_of_getElem? hq)
      have htake : ps.take (i + 1) = ps.take i ++ [q] := by rw [List.take_add_one, hq]; rfl
      have hil : i < 1000 := by have := (List.getElem?_eq_some_iff.mp hq).1; omega
      obtain ⟨st', hst⟩ : ∃ st', stepJ pile q = some st' := by
        rw [← List.take_append_drop (i + 1) ps, runJ_app, htake, runJ_app, hrun] at hout
        cases h : stepJ pile q with
        | some st => exact ⟨st, rfl⟩
        | none => simp [runJ, h] at hout
      have hrun' : runJ (ps.take (i + 1)) [] = some st' := by rw [htake, runJ_app, hrun]; simp [runJ, hst]
      have S2 := S1.pick hls
      clear S1
      have pl : pvs.length = pile.length := by rw [hpv.len]; simp
      repeat walk_at "go"
      refine r_if ?_
      repeat walk_at "go"
      walk_at "flag"
      repeat walk_at "go"
      cases q with
      | lp => cases hst
      | rp => cases hst
      | let_ c =>
        cases hst
        refine ite_neg (fun h => by have := of_decide_eq_true h; have e : tokP (P.let_ c) = 256 + (c : Int) := rfl; omega) ?_
        repeat walk_at "go"
        rename_i S3
        refine r_letter (c := c) S3 (by show 256 + (c : Int) - 256 = c; omega) hqok ?_ (by with_unfolding_all rfl)
        clear S3
        intro _ _ S4
        repeat walk_at "go"
        rename_i S5
        exact ⟨_, _, _, S5, rfl, ⟨rfl, rfl, trivial⟩, letterS c :: pile, _, _, hrun', by simp; omega, by simp only [totS, List.map_cons, List.sum_cons] at htot ⊢; have : (letterS c).length = 1 := rfl; omega, rfl, by rw [List.reverse_cons]; exact hpv.app (StrL.one _ _)⟩
      | op o1 =>
        have ht := tok_op_ne (o := o1) hqok
        refine ite_pos (decide_eq_true ht.2.2.2) ?_
        match pile, hst with
        | r :: l :: rest, hst =>
          cases hst
          rw [List.reverse_cons, List.reverse_cons] at hpv
          obtain ⟨pvs1, tr, rfl, hpv1⟩ := hpv.snoc
          obtain ⟨pvs2, tl, rfl, hpv2⟩ := hpv1.snoc
          have hsg := signS_len (o := o1) hqok
          have hD : valueAt (tabOf (fun j => Value.str (signS j) (st j)) 5) (tokP (P.op o1)) = some (.str (signS o1) (st o1)) := tabOf_at _ hqok
          have pl2 : pvs2.length = rest.length := by rw [hpv2.len]; simp
          have htot2 : r.length + (l.length + totS rest) ≤ 4 * i := htot
          have hlen2 : rest.length + 2 ≤ i := hlen
          repeat walk_at "go"
          rename_i S5
          exact ⟨_, _, _, S5, rfl, ⟨rfl, rfl, trivial⟩, _ :: rest, _, _, hrun', by simp; omega, by simp only [totS, List.map_cons, List.sum_cons, PySem.Str.length_append, len_lp, len_rp] at htot2 ⊢; omega, rfl, by rw [List.reverse_cons]; exact hpv2.app (StrL.one _ _)⟩
    · rintro ls μ ι' s1 ⟨rfl, hls, pile, pvs, pn, hrun, hlen, htot, rfl, hpv⟩ S1
      have ho : pile = out := by
        rw [List.take_of_length_le (by rw [hri.len]; simp)] at hrun
        rw [hrun] at hout
        exact Option.some.inj hout
      subst ho
      have S2 := S1.pick hls
      clear S1
      repeat walk_at "go"
      exact ret_sub (new := [(pa, listO pvs pn)]) (μ' := []) (by assumption) (by rw [hι1]; exact ((List.sublist_cons_self _ _).trans (List.sublist_cons_self _ _)).cons_cons _) ⟨rfl, pa, pvs, pn, rfl, .head _, hpv⟩
end
end
section
open PySem PySem.W PySem.Spec PySem.Calls PyProof.Rows
set_option maxRecDepth 100000
local macro_rules | `(tactic| walk_at "go") => `(tactic| first
  | with_reducible refine' r_slice ?_
  | ((with_reducible refine' r_in39 ?G ?S ?_); (case G => with_reducible assumption); (case S => with_reducible assumption); intro _ _)
  | ((with_reducible refine' r_notin39 ?G ?S ?_); (case G => with_reducible assumption); (case S => with_reducible assumption); intro _ _)
  | ((with_reducible refine' r_item39 ?G ?S ?hv ?_ ?hs); (case G => with_reducible assumption); (case S => with_reducible assumption); (case hv => assumption); (case hs => with_unfolding_all rfl); intro _ _)
  | ((with_reducible refine' r_meth PySem.F.plainAttrs_str PySem.F.slot_str_index PySem.F.type_str_index ?hb ?hf ?hp ?hl ?_); (case hb => rfl); (case hf => rfl); (case hp => rfl); (case hl => rfl))
  | walk_at "go0")
local macro_rules | `(tactic| walk_at "go") => `(tactic| first
  | ((with_reducible refine' r_newDict ?G ?S ?_); (case G => with_reducible assumption); (case S => with_reducible assumption); intro _ _ _ _)
  | ((with_reducible refine' r_dset ?S ?c ?hd ?hz ?_); (case S => with_reducible assumption); (case c => walk_at "chgA"); (case hd => with_reducible assumption); (case hz => walk_at "size"); intro _ _ _ _)
  | ((with_reducible refine' r_asgS ?_ ?hs); (case hs => rfl))
  | ((with_reducible refine' r_eqL ?rm ?S ?h1 ?h2 ?hi ?hj ?_); (case rm => with_reducible assumption); (case S => with_reducible assumption); (case h1 => walk_at "mem"); (case h2 => walk_at "mem"); (case hi => first | assumption | exact IntL.nil); (case hj => first | assumption | exact IntL.nil))
  | ((with_reducible refine' r_ditem ?S ?D ?hv ?_ ?hs); (case S => with_reducible assumption); (case D => assumption); (case hv => assumption); (case hs => with_unfolding_all rfl); intro _ _)
  | walk_at "go0")
local macro_rules | `(tactic| walk_at "chgA") => `(tactic| first | exact ChgA.head | (refine' ChgA.tail ?c9; (case c9 => walk_at "chgA")))
section
open PySem PySem.W PySem.Spec PySem.Calls PyProof.Rows
set_option maxRecDepth 100000
set_option maxHeartbeats 4000000
set_option linter.unusedVariables false
section

theorem StrL.are {vs ns} (h : StrL vs ns) : StrsAre vs ns := by
  induction h with
  | nil => exact .nil
  | cons _ ih => exact .cons _ _ ih
theorem join_codes : ∀ ps : List P, (Txt.join "" (ps.map pieceS)).cps.toList = codes ps := by
  intro ps
  show (Builtin.Str.glued "" (ps.map pieceS)).cps.toList = _
  rw [StrLaws.glued_eq_join]
  induction ps with
  | nil => rfl
  | cons p ps ih =>
    cases ps with
    | nil => simp [codes, Str.join]
    | cons q ps =>
      simp only [List.map_cons] at ih ⊢
      have e : Str.join "" (pieceS p :: pieceS q :: ps.map pieceS) = pieceS p ++ "" ++ Str.join "" (pieceS q :: ps.map pieceS) := rfl
      rw [e]
      have c : codes (p :: q :: ps) = (pieceS p).cps.toList ++ codes (q :: ps) := rfl
      rw [c, ← ih]
      show ((pieceS p).cps ++ #[] ++ (Str.join "" (pieceS q :: ps.map pieceS)).cps).toList = _
      simp
theorem piece_len2 {p : P} (h : p.ok) : (pieceS p).length ≤ 2 := by
  cases p with
  | lp => decide
  | rp => decide
  | let_ c => exact Nat.le_of_ble_eq_true rfl
  | op o => exact signS_len h
theorem pieces_len : ∀ {ps : List P}, (∀ q ∈ ps, q.ok) → ((ps.map pieceS).map (·.length)).sum ≤ 2 * ps.length
  | [], _ => Nat.le_refl _
  | p :: ps, h => by
    have := pieces_len fun q hq => h q (.tail _ hq)
    have := piece_len2 (h p (.head _))
    simp only [List.map_cons, List.sum_cons, List.length_cons]
    omega
section
variable {B : Base} {A : Around} {E : Value → Shared → Prop} {s : Shared} {L : Addr} {ls : Loc} {μ ι : Led} {Q : Value → Shared → Prop} {prog : Program} {w : World} {t : Tok} {a : Addr} {vs : List Value} {n : Nat}
theorem r_join {x : Str} {ys : List Str} (S : St B L s ls μ ι) (hm : (a, listO vs n) ∈ μ ++ ι) (hi : StrL vs ys) (hok : (ys.map (·.length)).sum + ys.length * x.length ≤ 16777216)
    (h : ∀ s' t', St B L s' ls μ ι → Q (.str (Txt.join x ys) t') s') : wpAny (model prog w) A (call (.builtin "str.join") [.str x t, .ref a]) Q E s :=
  join_list (S.isList hm) hi.are hok fun _ _ => h _ _ S.tok
end

local macro_rules | `(tactic| walk_at "go") => `(tactic| first
  | ((with_reducible refine' r_meth PySem.F.plainAttrs_str PySem.F.slot_str_join PySem.F.type_str_join ?hb ?hf ?hp ?hl ?_); (case hb => rfl); (case hf => rfl); (case hp => rfl); (case hl => rfl))
  | walk_at "go0")

/-- what the reading of a row gives, none where it would raise -/
noncomputable def readF (lv : Nat → Int) (ps : List P) : Option (List Str) := (doneF lv ps).bind fun out => runJ out []

theorem c_read {B : Base} (G : Gnd B) (lv : Nat → Int) (ps : List P) (hp : ∀ q ∈ ps, q.ok) (adj : Adj ps) (hn : ps.length ≤ 900) (pa la : Addr) (pvs : List Value) (pn : Nat) (ι : Led) (hpm : (pa, listO pvs pn) ∈ ι) (hpi : StrL pvs (ps.map pieceS))
    (f : Int → Option Value) (hf : LvF lv f) (hd : DictAt B ι la f) (done : List P) (hdone : doneF lv ps = some done) (hdok : ∀ q ∈ done, q.ok) (hdl : done.length ≤ 1000) (out : List Str) (hout : runJ done [] = some out) :
    Fn B 301 [.ref pa, .ref la] [] 4 [] ι (fun v μ' new => μ' = [] ∧ ∃ a vs n, v = .ref a ∧ (a, listO vs n) ∈ new ∧ StrL vs out.reverse) := by
  refine fn_intro (binds := [("pieces", .ref pa), ("levels", .ref la)]) G rfl rfl (fun s X => BindsTo.of_eq rfl) rfl (by decide) rfl rfl rfl ?_
  intro A s L rm S
  have hpl := pieces_len hp
  repeat walk_at "go"
  rename_i S1
  refine r_join (ys := ps.map pieceS) S1 (List.mem_append_right _ hpm) hpi (by rw [List.length_map]; show _ + _ * 0 ≤ _; omega) ?_
  clear S1
  intro s2 t2 S2
  repeat walk_at "go"
  refine CallAt.of S2 (call_pure S2 (rm.less (by omega)) (fun ι' h' => c_row G ps hp adj (by omega) _ (join_codes ps) _ ι') ?_)
  clear S2
  rintro v new s3 S3 ⟨ra, rvs, rn, rfl, hrm, hri⟩
  repeat walk_at "go"
  refine CallAt.of S3 (call_pure S3 (rm.less (by omega)) (fun ι' h' => c_done G lv ps hp (by omega) ra la rvs rn ι' (h' _ (List.mem_append_right _ (List.mem_append_left _ hrm))) hri f hf (hd.mono fun p hp => h' _ (List.mem_append_right _ (List.mem_append_right _ hp))) done hdone) ?_)
  clear S3
  rintro v new2 s5 S5 ⟨da, dvs, dn, rfl, hdm, hdi⟩
  repeat walk_at "go"
  refine CallAt.of S5 (call_pure S5 (rm.less (by omega)) (fun ι' h' => c_joined G done hdok hdl da dvs dn ι' (h' _ (List.mem_append_right _ (List.mem_append_left _ hdm))) hdi out hout) ?_)
  clear S5
  rintro v new3 s6 S6 ⟨ja, jvs, jn, rfl, hjm, hji⟩
  repeat walk_at "go"
  exact ret_sub (new := new3) (μ' := []) S6 (List.Sublist.append (List.Sublist.refl _) (List.Sublist.append (List.Sublist.refl _) ((List.sublist_append_right _ _).trans (List.sublist_append_right _ _)))) ⟨rfl, ja, jvs, jn, rfl, hjm, hji⟩
end
end
section
open PySem PySem.W PySem.Spec PySem.Calls PyProof.Rows
set_option maxRecDepth 100000
set_option maxHeartbeats 4000000
set_option linter.unusedVariables false
section

/-- the pieces of a tree whose flags stand for pairs of brackets -/
noncomputable def T.wr : T → List P
  | .leaf c => [.let_ c]
  | .node o l r b => if b then [.lp] ++ (l.wr ++ [.op o] ++ r.wr) ++ [.rp] else l.wr ++ [.op o] ++ r.wr
noncomputable def T.rpn : T → List P
  | .leaf c => [.let_ c]
  | .node o l r _ => l.rpn ++ r.rpn ++ [.op o]
/-- the flags as the writer sets them -/
noncomputable def T.mark (lv : Nat → Int) : T → Option (Nat × Nat) → T
  | .leaf c, _ => .leaf c
  | .node o l r d, ab => .node o (l.mark lv (some (o, 0))) (r.mark lv (some (o, 1))) (need lv ab o || d)
theorem T.write_wr (lv : Nat → Int) : ∀ (t : T) ab st, (t.write lv ab st).1 = (t.mark lv ab).wr
  | .leaf c, _, _ => rfl
  | .node o l r d, ab, st => by
    simp only [T.write, T.mark, T.wr]
    split
    · simp only [T.write_wr lv l, T.write_wr lv r]
    · simp only [T.write_wr lv l, T.write_wr lv r]
theorem T.mark_full (lv : Nat → Int) : ∀ (t : T) ab, (t.mark lv ab).full = t.full
  | .leaf c, _ => rfl
  | .node o l r d, ab => by simp only [T.mark, T.full, T.mark_full lv l, T.mark_full lv r]
theorem T.mark_ok (lv : Nat → Int) : ∀ (t : T) ab, t.ok → (t.mark lv ab).ok
  | .leaf c, _, h => h
  | .node o l r d, ab, h => ⟨h.1, T.mark_ok lv l _ h.2.1, T.mark_ok lv r _ h.2.2⟩
theorem T.mark_leaves (lv : Nat → Int) : ∀ (t : T) ab, (t.mark lv ab).leaves = t.leaves
  | .leaf c, _ => rfl
  | .node o l r d, ab => by simp only [T.mark, T.leaves, T.mark_leaves lv l, T.mark_leaves lv r]

/-- no open part needs brackets -/
noncomputable def T.sound (lv : Nat → Int) : T → Option (Nat × Nat) → Prop
  | .leaf _, _ => True
  | .node o l r b, ab => (b = false → need lv ab o = false) ∧ l.sound lv (some (o, 0)) ∧ r.sound lv (some (o, 1))
theorem T.mark_sound (lv : Nat → Int) : ∀ (t : T) ab, (t.mark lv ab).sound lv ab
  | .leaf c, _ => trivial
  | .node o l r d, ab => ⟨fun h => (Bool.or_eq_false_iff.mp h).1, l.mark_sound lv _, r.mark_sound lv _⟩

/-- does an incoming level take o off the pile -/
noncomputable def pops (lv : Nat → Int) (o : Nat) (lev : Int) : Bool := lev < lv o || (lv o == lev && lev % 2 == 0)
noncomputable def T.lops : T → List Nat
  | .leaf _ => []
  | .node o l _ b => if b then [] else o :: l.lops
noncomputable def T.rops : T → List Nat
  | .leaf _ => []
  | .node o _ r b => if b then [] else r.rops ++ [o]
noncomputable def T.dn : T → List P
  | .leaf c => [.let_ c]
  | .node o l r b => if b then l.rpn ++ r.rpn ++ [.op o] else l.rpn ++ r.dn
theorem T.dn_rops : ∀ t : T, t.dn ++ t.rops.map P.op = t.rpn
  | .leaf c => rfl
  | .node o l r b => by
    cases b with
    | true => simp [T.dn, T.rops, T.rpn]
    | false => simp only [T.dn, T.rops, T.rpn, Bool.false_eq_true, if_false, List.map_append, List.append_assoc]; rw [← T.dn_rops r]; simp
noncomputable def T.good (lv : Nat → Int) : T → Prop
  | .leaf _ => True
  | .node o l r _ => (∀ p ∈ l.rops, pops lv p (lv o) = true) ∧ (∀ p ∈ r.lops, pops lv o (lv p) = false) ∧ l.good lv ∧ r.good lv

theorem need_left {lv : Nat → Int} {a o : Nat} : need lv (some (a, 0)) o = false ↔ (lv a < lv o ∨ (lv o = lv a ∧ lv a % 2 = 0)) := by
  unfold need
  rw [Bool.or_eq_false_iff, Bool.and_eq_false_iff, decide_eq_false_iff_not, beq_eq_false_iff_ne, bne_eq_false_iff_eq]
  constructor
  · rintro ⟨h1, h2 | h2⟩
    · left; omega
    · by_cases q : lv o = lv a
      · right; exact ⟨q, by rw [← q]; omega⟩
      · left; omega
  · rintro (h | ⟨h1, h2⟩)
    · exact ⟨by omega, .inl (by omega)⟩
    · exact ⟨by omega, .inr (by rw [h1]; omega)⟩
theorem need_right {lv : Nat → Int} {a o : Nat} : need lv (some (a, 1)) o = false ↔ (lv a < lv o ∨ (lv o = lv a ∧ lv a % 2 = 1)) := by
  unfold need
  rw [Bool.or_eq_false_iff, Bool.and_eq_false_iff, decide_eq_false_iff_not, beq_eq_false_iff_ne, bne_eq_false_iff_eq]
  constructor
  · rintro ⟨h1, h2 | h2⟩
    · left; omega
    · by_cases q : lv o = lv a
      · right; exact ⟨q, by rw [← q]; omega⟩
      · left; omega
  · rintro (h | ⟨h1, h2⟩)
    · exact ⟨by omega, .inl (by omega)⟩
    · exact ⟨by omega, .inr (by rw [h1]; omega)⟩
theorem pops_iff {lv : Nat → Int} {p : Nat} {lev : Int} : pops lv p lev = true ↔ (lev < lv p ∨ (lv p = lev ∧ lev % 2 = 0)) := by
  unfold pops
  simp only [Bool.or_eq_true, Bool.and_eq_true, decide_eq_true_eq, beq_iff_eq]
theorem pops_false {lv : Nat → Int} {p : Nat} {lev : Int} : pops lv p lev = false ↔ ¬ (lev < lv p ∨ (lv p = lev ∧ lev % 2 = 0)) := by
  rw [← pops_iff, Bool.not_eq_true]

theorem rops_right {lv : Nat → Int} : ∀ (t : T) (a : Nat), t.sound lv (some (a, 1)) → ∀ p ∈ t.rops, lv a < lv p ∨ (lv p = lv a ∧ lv a % 2 = 1)
  | .leaf _, _, _, p, hp => nomatch hp
  | .node o l r b, a, h, p, hp => by
    cases b with
    | true => exact nomatch hp
    | false =>
      have h1 := need_right.mp (h.1 rfl)
      rcases List.mem_append.mp (show p ∈ r.rops ++ [o] from hp) with q | q
      · have h2 := rops_right r o h.2.2 p q
        omega
      · rw [List.mem_singleton.mp q]; exact h1
theorem rops_left {lv : Nat → Int} : ∀ (t : T) (a : Nat), t.sound lv (some (a, 0)) → ∀ p ∈ t.rops, lv a < lv p ∨ (lv p = lv a ∧ lv a % 2 = 0)
  | .leaf _, _, _, p, hp => nomatch hp
  | .node o l r b, a, h, p, hp => by
    cases b with
    | true => exact nomatch hp
    | false =>
      have h1 := need_left.mp (h.1 rfl)
      rcases List.mem_append.mp (show p ∈ r.rops ++ [o] from hp) with q | q
      · have h2 := rops_right r o h.2.2 p q
        omega
      · rw [List.mem_singleton.mp q]; exact h1
theorem lops_left {lv : Nat → Int} : ∀ (t : T) (a : Nat), t.sound lv (some (a, 0)) → ∀ p ∈ t.lops, lv a < lv p ∨ (lv p = lv a ∧ lv a % 2 = 0)
  | .leaf _, _, _, p, hp => nomatch hp
  | .node o l r b, a, h, p, hp => by
    cases b with
    | true => exact nomatch hp
    | false =>
      have h1 := need_left.mp (h.1 rfl)
      rcases List.mem_cons.mp (show p ∈ o :: l.lops from hp) with q | q
      · rw [q]; exact h1
      · have h2 := lops_left l o h.2.1 p q
        omega
theorem lops_right {lv : Nat → Int} : ∀ (t : T) (a : Nat), t.sound lv (some (a, 1)) → ∀ p ∈ t.lops, lv a < lv p ∨ (lv p = lv a ∧ lv a % 2 = 1)
  | .leaf _, _, _, p, hp => nomatch hp
  | .node o l r b, a, h, p, hp => by
    cases b with
    | true => exact nomatch hp
    | false =>
      have h1 := need_right.mp (h.1 rfl)
      rcases List.mem_cons.mp (show p ∈ o :: l.lops from hp) with q | q
      · rw [q]; exact h1
      · have h2 := lops_left l o h.2.1 p q
        omega
theorem T.sound_good {lv : Nat → Int} : ∀ (t : T) ab, t.sound lv ab → t.good lv
  | .leaf _, _, _ => trivial
  | .node o l r b, ab, h => ⟨fun p hp => pops_iff.mpr (rops_left l o h.2.1 p hp), fun p hp => pops_false.mpr (by have := lops_right r o h.2.2 p hp; omega), l.sound_good _ h.2.1, r.sound_good _ h.2.2⟩

/-- one pair of brackets taken out -/
inductive Clr (lv : Nat → Int) : Option (Nat × Nat) → T → T → Bool → Prop
  | here {ab o l r} : Clr lv ab (.node o l r true) (.node o l r false) (need lv ab o)
  | left {ab o l l' r b nd} : Clr lv (some (o, 0)) l l' nd → Clr lv ab (.node o l r b) (.node o l' r b) nd
  | right {ab o l r r' b nd} : Clr lv (some (o, 1)) r r' nd → Clr lv ab (.node o l r b) (.node o l r' b) nd
theorem Clr.sound {lv ab X Y nd} (c : Clr lv ab X Y nd) : nd = false → X.sound lv ab → Y.sound lv ab := by
  induction c with
  | here => intro e h; exact ⟨fun _ => e, h.2.1, h.2.2⟩
  | left _ ih => intro e h; exact ⟨h.1, ih e h.2.1, h.2.2⟩
  | right _ ih => intro e h; exact ⟨h.1, h.2.1, ih e h.2.2⟩
theorem Clr.full {lv ab X Y nd} (c : Clr lv ab X Y nd) : Y.full = X.full := by
  induction c with
  | here => rfl
  | left _ ih => simp only [T.full, ih]
  | right _ ih => simp only [T.full, ih]
theorem Clr.ok {lv ab X Y nd} (c : Clr lv ab X Y nd) : X.ok → Y.ok := by
  induction c with
  | here => exact id
  | left _ ih => exact fun h => ⟨h.1, ih h.2.1, h.2.2⟩
  | right _ ih => exact fun h => ⟨h.1, h.2.1, ih h.2.2⟩
theorem Clr.leaves {lv ab X Y nd} (c : Clr lv ab X Y nd) : Y.leaves = X.leaves := by
  induction c with
  | here => rfl
  | left _ ih => simp only [T.leaves, ih]
  | right _ ih => simp only [T.leaves, ih]

/-- each pair of the writer's, taken out -/
theorem T.write_clr (lv : Nat → Int) : ∀ (t : T) ab st b e nd, (b, e, nd) ∈ (t.write lv ab st).2 →
    ∃ A M Z Y, (t.write lv ab st).1 = A ++ [.lp] ++ M ++ [.rp] ++ Z ∧ b = st + A.length ∧ e = st + A.length + 1 + M.length ∧ A ++ M ++ Z = Y.wr ∧ Clr lv ab (t.mark lv ab) Y nd
  | .leaf c, _, _, _, _, _, h => nomatch h
  | .node o l r d, ab, st, b, e, nd, h => by
    have hl := T.write_clr lv l (some (o, 0))
    have hr := T.write_clr lv r (some (o, 1))
    by_cases br : (need lv ab o || d) = true
    · simp only [T.write, br, if_true, List.mem_append, List.mem_singleton] at h ⊢
      simp only [T.mark, br]
      rcases h with (h | h) | h
      · obtain ⟨A, M, Z, Y, h1, h2, h3, h4, h5⟩ := hl _ _ _ _ h
        refine ⟨[.lp] ++ A, M, Z ++ [.op o] ++ (r.write lv (some (o, 1)) (st + 1 + (l.write lv (some (o, 0)) (st + 1)).1.length + 1)).1 ++ [.rp], .node o Y (r.mark lv (some (o, 1))) true, ?_, ?_, ?_, ?_, .left h5⟩
        · rw [h1]; simp
        · simp only [List.length_append, List.length_singleton]; omega
        · simp only [List.length_append, List.length_singleton]; omega
        · simp only [T.wr, if_true, ← h4, T.write_wr]; simp
      · obtain ⟨A, M, Z, Y, h1, h2, h3, h4, h5⟩ := hr _ _ _ _ h
        refine ⟨[.lp] ++ (l.write lv (some (o, 0)) (st + 1)).1 ++ [.op o] ++ A, M, Z ++ [.rp], .node o (l.mark lv (some (o, 0))) Y true, ?_, ?_, ?_, ?_, .right h5⟩
        · rw [h1]; simp
        · simp only [List.length_append, List.length_singleton]; omega
        · simp only [List.length_append, List.length_singleton]; omega
        · simp only [T.wr, if_true, ← h4, T.write_wr]; simp
      · cases h
        refine ⟨[], (l.write lv (some (o, 0)) (st + 1)).1 ++ [.op o] ++ (r.write lv (some (o, 1)) (st + 1 + (l.write lv (some (o, 0)) (st + 1)).1.length + 1)).1, [], .node o (l.mark lv (some (o, 0))) (r.mark lv (some (o, 1))) false, ?_, ?_, ?_, ?_, .here⟩
        · simp
        · rfl
        · simp only [List.length_append, List.length_singleton, List.length_nil]; omega
        · simp only [T.wr, T.write_wr]; simp
    · rw [Bool.not_eq_true] at br
      simp only [T.write, br, Bool.false_eq_true, if_false, List.mem_append] at h ⊢
      simp only [T.mark, br]
      rcases h with h | h
      · obtain ⟨A, M, Z, Y, h1, h2, h3, h4, h5⟩ := hl _ _ _ _ h
        refine ⟨A, M, Z ++ [.op o] ++ (r.write lv (some (o, 1)) (st + (l.write lv (some (o, 0)) st).1.length + 1)).1, .node o Y (r.mark lv (some (o, 1))) false, ?_, ?_, ?_, ?_, .left h5⟩
        · rw [h1]; simp
        · omega
        · omega
        · simp only [T.wr, Bool.false_eq_true, if_false, ← h4, T.write_wr]; simp
      · obtain ⟨A, M, Z, Y, h1, h2, h3, h4, h5⟩ := hr _ _ _ _ h
        refine ⟨(l.write lv (some (o, 0)) st).1 ++ [.op o] ++ A, M, Z, .node o (l.mark lv (some (o, 0))) Y false, ?_, ?_, ?_, ?_, .right h5⟩
        · rw [h1]; simp
        · simp only [List.length_append, List.length_singleton]; omega
        · simp only [List.length_append, List.length_singleton]; omega
        · simp only [T.wr, Bool.false_eq_true, if_false, ← h4, T.write_wr]; simp

/-! the reader -/
section
variable {lv : Nat → Int}
theorem popW_cons (o : Nat) (stk out : List P) (lev : Int) : popW lv lev (.op o :: stk) out = if pops lv o lev then popW lv lev stk (out ++ [.op o]) else (.op o :: stk, out) := rfl
theorem popW_all {lev : Int} : ∀ (os : List Nat) (stk out : List P), (∀ p ∈ os, pops lv p lev = true) → popW lv lev (os.map P.op ++ stk) out = popW lv lev stk (out ++ os.map P.op)
  | [], stk, out, _ => by simp
  | o :: os, stk, out, h => by
    rw [List.map_cons, List.cons_append, popW_cons, h o (.head _), if_pos rfl, popW_all os stk _ fun p hp => h p (.tail _ hp)]
    simp
/-- nothing on this pile is taken off by that level -/
noncomputable def Stop (lv : Nat → Int) (lev : Int) (stk : List P) : Prop := ∀ a s, stk = .op a :: s → pops lv a lev = false
theorem popW_stop {lev : Int} {stk out : List P} (h : Stop lv lev stk) : popW lv lev stk out = (stk, out) := by
  cases stk with
  | nil => rfl
  | cons p stk => cases p with
    | op a => rw [popW_cons, h a stk rfl]; rfl
    | _ => rfl
theorem popW_drop {lev : Int} : ∀ (stk out : List P), ∃ k, popW lv lev stk out = (stk.drop k, out ++ stk.take k) ∧ ∀ p ∈ stk.take k, p.isOp = true
  | [], out => ⟨0, by simp [popW], fun p hp => nomatch hp⟩
  | .op o :: stk, out => by
    rw [popW_cons]
    cases h : pops lv o lev with
    | true =>
      obtain ⟨k, h1, h2⟩ := popW_drop stk (out ++ [.op o])
      refine ⟨k + 1, by rw [if_pos rfl, h1]; simp, fun p hp => ?_⟩
      rcases List.mem_cons.mp hp with rfl | hp
      · rfl
      · exact h2 p hp
    | false => exact ⟨0, by simp, fun p hp => nomatch hp⟩
  | .lp :: stk, out => ⟨0, by simp [popW], fun p hp => nomatch hp⟩
  | .rp :: stk, out => ⟨0, by simp [popW], fun p hp => nomatch hp⟩
  | .let_ _ :: stk, out => ⟨0, by simp [popW], fun p hp => nomatch hp⟩

noncomputable abbrev run (lv : Nat → Int) (ps : List P) (st : List P × List P) : Option (List P × List P) := runD lv (ps.map some) st
theorem run_app (ps qs : List P) (st : List P × List P) : run lv (ps ++ qs) st = (run lv ps st).bind (run lv qs) := by
  unfold run; rw [List.map_append, runD_app]
theorem run_then {ps qs : List P} {st st' : List P × List P} {r : Option (List P × List P)} (h : run lv ps st = some st') (h' : run lv qs st' = r) : run lv (ps ++ qs) st = r := by rw [run_app, h]; exact h'
theorem run_op (o : Nat) (stk dn : List P) : run lv [.op o] (stk, dn) = some (.op o :: (popW lv (lv o) stk dn).1, (popW lv (lv o) stk dn).2) := rfl
theorem run_lp (stk dn : List P) : run lv [.lp] (stk, dn) = some (.lp :: stk, dn) := rfl
theorem run_let (c : Nat) (stk dn : List P) : run lv [.let_ c] (stk, dn) = some (stk, dn ++ [.let_ c]) := rfl
theorem run_rp {stk dn s : List P} {p : P} {d : List P} (h : popW lv (-1) stk dn = (p :: s, d)) : run lv [.rp] (stk, dn) = some (s, d) := by
  show runD lv [some .rp] (stk, dn) = _
  simp only [runD, stepD, h]

variable (hlv : ∀ o, 0 ≤ lv o)
include hlv
theorem pops_neg (o : Nat) : pops lv o (-1) = true := by rw [pops_iff]; left; have := hlv o; omega

/-- a sound part is read as it is -/
theorem read_safe : ∀ (t : T), t.good lv → ∀ stk dn, (∀ p ∈ t.lops, Stop lv (lv p) stk) → run lv t.wr (stk, dn) = some (t.rops.map P.op ++ stk, dn ++ t.dn)
  | .leaf c, _, stk, dn, _ => rfl
  | .node o l r b, g, stk, dn, hs => by
    have core : ∀ stk dn, (∀ p ∈ o :: l.lops, Stop lv (lv p) stk) → run lv (l.wr ++ [.op o] ++ r.wr) (stk, dn) = some ((r.rops ++ [o]).map P.op ++ stk, dn ++ (l.rpn ++ r.dn)) := by
      intro stk dn hs
      have h1 := read_safe l g.2.2.1 stk dn fun p hp => hs p (.tail _ hp)
      refine run_then (run_then h1 (run_op _ _ _)) ?_
      rw [popW_all _ _ _ g.1, popW_stop (hs o (.head _))]
      rw [read_safe r g.2.2.2 _ _ (fun p hp a s e => by cases e; exact g.2.1 p hp)]
      rw [List.append_assoc dn, T.dn_rops]
      simp
    cases b with
    | false => exact core stk dn hs
    | true =>
      show run lv ([.lp] ++ (l.wr ++ [.op o] ++ r.wr) ++ [.rp]) (stk, dn) = _
      refine run_then (run_then (run_lp _ _) (core (.lp :: stk) dn fun p hp a s e => by cases e)) ?_
      have e : popW lv (-1) ((r.rops ++ [o]).map P.op ++ .lp :: stk) (dn ++ (l.rpn ++ r.dn)) = (.lp :: stk, dn ++ (l.rpn ++ r.dn) ++ (r.rops ++ [o]).map P.op) := by
        rw [popW_all _ _ _ fun p _ => pops_neg hlv p]
        rfl
      rw [run_rp e]
      simp only [T.rops, T.dn, if_true, List.map_nil, List.nil_append, List.map_append, List.append_assoc]
      rw [← T.dn_rops r]
      simp

/-- a sound part, on any pile -/
theorem read_any : ∀ (t : T), t.good lv → ∀ stk dn, ∃ k d, run lv t.wr (stk, dn) = some (t.rops.map P.op ++ stk.drop k, d) ∧ ∀ p ∈ stk.take k, p.isOp = true
  | .leaf c, _, stk, dn => ⟨0, _, rfl, fun p hp => nomatch hp⟩
  | .node o l r true, g, stk, dn => ⟨0, _, read_safe hlv (.node o l r true) g stk dn fun p hp => (nomatch hp), fun p hp => nomatch hp⟩
  | .node o l r false, g, stk, dn => by
    obtain ⟨k, d, h1, h2⟩ := read_any l g.2.2.1 stk dn
    obtain ⟨k2, h3, h4⟩ := popW_drop (lv := lv) (lev := lv o) (stk.drop k) (d ++ l.rops.map P.op)
    have e := read_safe hlv r g.2.2.2 (.op o :: stk.drop (k + k2)) (d ++ l.rops.map P.op ++ (stk.drop k).take k2) (fun p hp a s e => by cases e; exact g.2.1 p hp)
    refine ⟨k + k2, d ++ l.rops.map P.op ++ (stk.drop k).take k2 ++ r.dn, ?_, ?_⟩
    · show run lv (l.wr ++ [.op o] ++ r.wr) (stk, dn) = _
      refine run_then (run_then h1 (run_op _ _ _)) ?_
      rw [popW_all _ _ _ g.1, h3, List.drop_drop, e]
      simp only [T.rops, Bool.false_eq_true, if_false, List.map_append, List.map_cons, List.map_nil, List.append_assoc, List.cons_append, List.nil_append]
    · intro p hp
      rw [List.take_add] at hp
      rcases List.mem_append.mp hp with hp | hp
      · exact h2 p hp
      · exact h4 p hp
end

theorem runJ_rpn : ∀ (t : T) (rest : List P) (st : List Str), runJ (t.rpn ++ rest) st = runJ rest (t.full :: st)
  | .leaf c, rest, st => rfl
  | .node o l r b, rest, st => by
    simp only [T.rpn, List.append_assoc]
    rw [runJ_rpn l, runJ_rpn r]
    rfl

theorem doneF_of {lv : Nat → Int} {ps stk dn d : List P} (h : run lv ps ([], []) = some (stk, dn)) (h' : popW lv (-1) stk dn = ([], d)) : doneF lv ps = some d := by
  unfold doneF
  rw [runD_app]
  have h : runD lv (ps.map some) ([], []) = some (stk, dn) := h
  rw [h]
  simp [runD, stepD, h']
theorem good_done {lv : Nat → Int} (hlv : ∀ o, 0 ≤ lv o) {t : T} (g : t.good lv) : doneF lv t.wr = some t.rpn := by
  refine doneF_of (read_safe hlv t g [] [] fun p _ a s e => nomatch e) ?_
  rw [popW_all _ _ _ fun p _ => pops_neg hlv p, List.nil_append, T.dn_rops]
  rfl
end
end
section
open PySem PySem.W PySem.Spec PySem.Calls PyProof.Rows
set_option maxRecDepth 100000
set_option maxHeartbeats 4000000
set_option linter.unusedVariables false
section

noncomputable def P.isLet : P → Bool
  | .let_ _ => true
  | _ => false
noncomputable abbrev nO (l : List P) : Nat := l.countP P.isOp
noncomputable abbrev nL (l : List P) : Nat := l.countP P.isLet
theorem nO_app (a b : List P) : nO (a ++ b) = nO a + nO b := List.countP_append
theorem nL_app (a b : List P) : nL (a ++ b) = nL a + nL b := List.countP_append
theorem nO_op (o : Nat) (l : List P) : nO (.op o :: l) = nO l + 1 := List.countP_cons_of_pos rfl
theorem nO_lp (l : List P) : nO (.lp :: l) = nO l := List.countP_cons_of_neg (by decide)
theorem nO_map : ∀ os : List Nat, nO (os.map P.op) = os.length
  | [] => rfl
  | o :: os => by rw [List.map_cons, nO_op, nO_map os]; rfl
theorem nL_ops : ∀ {l : List P}, (∀ p ∈ l, p.isOp = true) → nL l = 0
  | [], _ => rfl
  | p :: l, h => by
    have := nL_ops fun q hq => h q (.tail _ hq)
    have hp := h p (.head _)
    cases p with
    | op o => rw [show nL (P.op o :: l) = nL l from List.countP_cons_of_neg Bool.false_ne_true]; exact this
    | _ => cases hp
theorem nO_ops : ∀ {l : List P}, (∀ p ∈ l, p.isOp = true) → nO l = l.length
  | [], _ => rfl
  | p :: l, h => by
    have := nO_ops fun q hq => h q (.tail _ hq)
    have hp := h p (.head _)
    cases p with
    | op o => rw [nO_op, this]; rfl
    | _ => cases hp

/-- how a part read changes the pile: operators on it, operators off it -/
inductive Ext : List P → List P → Prop
  | refl {s} : Ext s s
  | push {s s' o} : Ext s s' → Ext s (.op o :: s')
  | pop {s s' o} : Ext s (.op o :: s') → Ext s s'
theorem Ext.trans {a b c} (h : Ext a b) (h' : Ext b c) : Ext a c := by
  induction h' with
  | refl => exact h
  | push _ ih => exact .push ih
  | pop _ ih => exact .pop ih
theorem Ext.on_lp {s s'} (h : Ext (.lp :: s) s') : ∃ os : List Nat, s' = os.map P.op ++ .lp :: s := by
  induction h with
  | refl => exact ⟨[], rfl⟩
  | @push s' o _ ih => obtain ⟨os, rfl⟩ := ih; exact ⟨o :: os, rfl⟩
  | @pop s' o _ ih =>
    obtain ⟨os, e⟩ := ih
    cases os with
    | nil => cases e
    | cons q os => cases e; exact ⟨os, rfl⟩
theorem Ext.on_nil {s'} (h : Ext [] s') : ∃ os : List Nat, s' = os.map P.op := by
  induction h with
  | refl => exact ⟨[], rfl⟩
  | @push s' o _ ih => obtain ⟨os, rfl⟩ := ih; exact ⟨o :: os, rfl⟩
  | @pop s' o _ ih =>
    obtain ⟨os, e⟩ := ih
    cases os with
    | nil => cases e
    | cons q os => cases e; exact ⟨os, rfl⟩
theorem popW_ext (lv : Nat → Int) (lev : Int) : ∀ (s stk out : List P), Ext s stk → Ext s (popW lv lev stk out).1
  | s, [], _, h => h
  | s, .op o :: stk, out, h => by
    rw [popW_cons]
    split
    · exact popW_ext lv lev s stk _ (.pop h)
    · exact h
  | s, .lp :: stk, _, h => h
  | s, .rp :: stk, _, h => h
  | s, .let_ _ :: stk, _, h => h

/-- so many texts lie on the pile -/
noncomputable def Dig (dn : List P) (k : Nat) : Prop := ∃ pile, runJ dn [] = some pile ∧ pile.length = k
theorem popW_dig (lv : Nat → Int) (lev : Int) : ∀ (stk out : List P), Dig out (nO stk + 1) → Dig (popW lv lev stk out).2 (nO (popW lv lev stk out).1 + 1)
  | [], _, h => h
  | .op o :: stk, out, h => by
    rw [popW_cons]
    split
    · refine popW_dig lv lev stk _ ?_
      obtain ⟨pile, h1, h2⟩ := h
      rw [nO_op] at h2
      match pile, h2 with
      | r :: l :: rest, h2 => exact ⟨_, by rw [runJ_app, h1]; rfl, by simp only [List.length_cons] at h2 ⊢; omega⟩
    · exact h
  | .lp :: stk, _, h => h
  | .rp :: stk, _, h => h
  | .let_ _ :: stk, _, h => h

section
variable {lv : Nat → Int} (hlv : ∀ o, 0 ≤ lv o)
include hlv
theorem read_total : ∀ (t : T) (stk dn : List P), Dig dn (nO stk) → ∃ s d, run lv t.wr (stk, dn) = some (s, d) ∧ Ext stk s ∧ Dig d (nO s + 1)
  | .leaf c, stk, dn, ⟨pile, h1, h2⟩ => ⟨stk, dn ++ [.let_ c], rfl, .refl, letterS c :: pile, by rw [runJ_app, h1]; rfl, by simp only [List.length_cons]; omega⟩
  | .node o l r b, stk, dn, h => by
    have core : ∀ stk dn, Dig dn (nO stk) → ∃ s d, run lv (l.wr ++ [.op o] ++ r.wr) (stk, dn) = some (s, d) ∧ Ext stk s ∧ Dig d (nO s + 1) := by
      intro stk dn h
      obtain ⟨s1, d1, h1, h2, h3⟩ := read_total l stk dn h
      have e := popW_ext lv (lv o) stk s1 d1 h2
      have g := popW_dig lv (lv o) s1 d1 h3
      obtain ⟨s2, d2, h4, h5, h6⟩ := read_total r (.op o :: (popW lv (lv o) s1 d1).1) (popW lv (lv o) s1 d1).2 (by rw [nO_op]; exact g)
      exact ⟨s2, d2, run_then (run_then h1 (run_op _ _ _)) h4, (Ext.push e).trans h5, h6⟩
    cases b with
    | false => exact core stk dn h
    | true =>
      obtain ⟨s, d, h1, h2, h3⟩ := core (.lp :: stk) dn (by rw [nO_lp]; exact h)
      obtain ⟨os, rfl⟩ := h2.on_lp
      have e : popW lv (-1) (os.map P.op ++ .lp :: stk) d = (.lp :: stk, d ++ os.map P.op) := by
        rw [popW_all _ _ _ fun p _ => pops_neg hlv p]; rfl
      have g := popW_dig lv (-1) _ _ h3
      rw [e] at g
      refine ⟨stk, d ++ os.map P.op, ?_, .refl, by rw [nO_lp] at g; exact g⟩
      show run lv ([.lp] ++ (l.wr ++ [.op o] ++ r.wr) ++ [.rp]) (stk, dn) = _
      exact run_then (run_then (run_lp _ _) h1) (run_rp e)

theorem total (t : T) : ∃ s d x, run lv t.wr ([], []) = some (s, d) ∧ doneF lv t.wr = some (d ++ s) ∧ runJ (d ++ s) [] = some [x] := by
  obtain ⟨s, d, h1, h2, h3⟩ := read_total hlv t [] [] ⟨[], rfl, rfl⟩
  obtain ⟨os, rfl⟩ := h2.on_nil
  have e : popW lv (-1) (os.map P.op) d = ([], d ++ os.map P.op) := by
    have := popW_all (lv := lv) (lev := -1) os [] d fun p _ => pops_neg hlv p
    rw [List.append_nil] at this
    rw [this]; rfl
  have g := popW_dig lv (-1) _ _ h3
  rw [e] at g
  obtain ⟨pile, h4, h5⟩ := g
  match pile, h5 with
  | [x], _ => exact ⟨_, d, x, h1, doneF_of h1 e, h4⟩

/-- nothing gets lost -/
theorem step_keeps {stk dn s d : List P} {p : P} (h : run lv [p] (stk, dn) = some (s, d)) : nO s + nO d = nO stk + nO dn + nO [p] ∧ nL d = nL dn + nL [p] ∧ ∃ z, d = dn ++ z := by
  have pw : ∀ lev, ∃ k, popW lv lev stk dn = (stk.drop k, dn ++ stk.take k) ∧ ∀ p ∈ stk.take k, p.isOp = true := fun lev => popW_drop stk dn
  have sp : ∀ k, nO stk = nO (stk.take k) + nO (stk.drop k) := fun k => by rw [← nO_app, List.take_append_drop]
  cases p with
  | let_ c =>
    cases h
    exact ⟨by rw [nO_app]; show nO stk + (nO dn + nO [P.let_ c]) = _; omega, by rw [nL_app], _, rfl⟩
  | lp => cases h; exact ⟨by rw [nO_lp]; rfl, rfl, [], by simp⟩
  | op o =>
    obtain ⟨k, h1, h2⟩ := pw (lv o)
    rw [run_op, h1] at h
    cases h
    refine ⟨?_, ?_, _, rfl⟩
    · dsimp only
      rw [nO_op, nO_app, sp k, show nO [P.op o] = 1 from rfl]; omega
    · rw [nL_app, nL_ops h2]; rfl
  | rp =>
    obtain ⟨k, h1, h2⟩ := pw (-1)
    cases hd : stk.drop k with
    | nil =>
      rw [hd] at h1
      have : run lv [.rp] (stk, dn) = none := by
        show runD lv [some .rp] (stk, dn) = _
        simp only [runD, stepD, h1]
      rw [this] at h; cases h
    | cons q s' =>
      rw [hd] at h1
      rw [run_rp h1] at h
      obtain ⟨rfl, rfl⟩ : s' = s ∧ dn ++ stk.take k = d := by cases h; exact ⟨rfl, rfl⟩
      have hq : q.isOp = false := by
        cases hq : q.isOp with
        | false => rfl
        | true =>
          exfalso
          obtain ⟨o, rfl⟩ : ∃ o, q = .op o := by cases q <;> first | exact ⟨_, rfl⟩ | cases hq
          have key : ∀ (stk out s' : List P) (o : Nat), (popW lv (-1) stk out).1 ≠ .op o :: s' := by
            intro stk
            induction stk with
            | nil => intro out s' o h; cases h
            | cons p stk ih =>
              intro out s' o h
              cases p with
              | op a => rw [popW_cons, pops_neg hlv, if_pos rfl] at h; exact ih _ _ _ h
              | _ => cases h
          exact key stk dn s' o (by rw [h1])
      have e := sp k
      rw [hd] at e
      have e2 : nO (q :: s') = nO s' := List.countP_cons_of_neg (by rw [hq]; decide)
      refine ⟨?_, ?_, _, rfl⟩
      · rw [nO_app, show nO [P.rp] = 0 from rfl]; omega
      · rw [nL_app, nL_ops h2]; rfl
theorem run_keeps : ∀ (ps stk dn : List P) {s d : List P}, run lv ps (stk, dn) = some (s, d) → nO s + nO d = nO stk + nO dn + nO ps ∧ nL d = nL dn + nL ps ∧ ∃ z, d = dn ++ z
  | [], stk, dn, s, d, h => by cases h; exact ⟨rfl, rfl, [], by simp⟩
  | p :: ps, stk, dn, s, d, h => by
    rw [show p :: ps = [p] ++ ps from rfl, run_app] at h
    cases hp : run lv [p] (stk, dn) with
    | none => rw [hp] at h; cases h
    | some st =>
      obtain ⟨s1, d1⟩ := st
      rw [hp] at h
      obtain ⟨h1, h2, z, rfl⟩ := step_keeps hlv hp
      obtain ⟨h3, h4, z', rfl⟩ := run_keeps ps s1 _ h
      have a1 : nO (p :: ps) = nO [p] + nO ps := nO_app [p] ps
      have a2 : nL (p :: ps) = nL [p] + nL ps := nL_app [p] ps
      exact ⟨by omega, by omega, z ++ z', by simp⟩
end

/-! two readings that part -/
/-- up to a letter the two texts hold the same, but not so much is left on the pile -/
noncomputable def Diff (lv : Nat → Int) (X Y : List P) (stk dn : List P) : Prop :=
  ∃ v1 c v2 w1 c' w2 sX dX sY dY, X = v1 ++ .let_ c :: v2 ∧ Y = w1 ++ .let_ c' :: w2 ∧ run lv v1 (stk, dn) = some (sX, dX) ∧ run lv w1 (stk, dn) = some (sY, dY) ∧ nL v1 = nL w1 ∧ nO v1 = nO w1 ∧ nO sX ≠ nO sY
section
variable {lv : Nat → Int}
theorem Diff.app {X Y Z Z' stk dn} (h : Diff lv X Y stk dn) : Diff lv (X ++ Z) (Y ++ Z') stk dn := by
  obtain ⟨v1, c, v2, w1, c', w2, sX, dX, sY, dY, rfl, rfl, r⟩ := h
  exact ⟨v1, c, v2 ++ Z, w1, c', w2 ++ Z', sX, dX, sY, dY, by simp, by simp, r⟩
theorem Diff.pre {W X Y stk dn s d} (hw : run lv W (stk, dn) = some (s, d)) (h : Diff lv X Y s d) : Diff lv (W ++ X) (W ++ Y) stk dn := by
  obtain ⟨v1, c, v2, w1, c', w2, sX, dX, sY, dY, rfl, rfl, r1, r2, r3, r4, r5⟩ := h
  exact ⟨W ++ v1, c, v2, W ++ w1, c', w2, sX, dX, sY, dY, by simp, by simp, run_then hw r1, run_then hw r2, by rw [nL_app, nL_app, r3], by rw [nO_app, nO_app, r4], r5⟩
theorem first_letter : ∀ t : T, ∃ j c z, t.wr = List.replicate j .lp ++ .let_ c :: z
  | .leaf c => ⟨0, c, [], rfl⟩
  | .node o l r b => by
    obtain ⟨j, c, z, h⟩ := first_letter l
    cases b with
    | true => exact ⟨j + 1, c, z ++ [.op o] ++ r.wr ++ [.rp], by simp only [T.wr, if_true, h, List.replicate_succ]; simp⟩
    | false => exact ⟨j, c, z ++ [.op o] ++ r.wr, by simp only [T.wr, Bool.false_eq_true, if_false, h]; simp⟩
theorem run_lps (stk dn : List P) : ∀ j, ∃ s, run lv (List.replicate j .lp) (stk, dn) = some (s, dn) ∧ nO s = nO stk
  | 0 => ⟨stk, rfl, rfl⟩
  | j + 1 => by
    obtain ⟨s, h1, h2⟩ := run_lps stk dn j
    refine ⟨.lp :: s, ?_, by rw [nO_lp, h2]⟩
    rw [List.replicate_succ']
    exact run_then h1 (run_lp _ _)
/-- behind a prefix stands the same part: the letter is its first -/
theorem Diff.at {V W stk dn sX dX sY dY} (t : T) {Z Z'} (hX : run lv V (stk, dn) = some (sX, dX)) (hY : run lv W (stk, dn) = some (sY, dY)) (h1 : nL V = nL W) (h2 : nO V = nO W) (h3 : nO sX ≠ nO sY) :
    Diff lv (V ++ (t.wr ++ Z)) (W ++ (t.wr ++ Z')) stk dn := by
  obtain ⟨j, c, z, e⟩ := first_letter t
  obtain ⟨s1, e1, e2⟩ := run_lps (lv := lv) sX dX j
  obtain ⟨s3, e3, e4⟩ := run_lps (lv := lv) sY dY j
  exact ⟨V ++ List.replicate j .lp, c, z ++ Z, W ++ List.replicate j .lp, c, z ++ Z', s1, dX, s3, dY, by rw [e]; simp, by rw [e]; simp, run_then hX e1, run_then hY e3, by rw [nL_app, nL_app, h1], by rw [nO_app, nO_app, h2], by rw [e2, e4]; exact h3⟩
theorem popW_guard {lev : Int} {o : Nat} (h : pops lv o lev = false) (stk : List P) : ∀ (os : List Nat) (out : List P), nO stk + 1 ≤ nO (popW lv lev (os.map P.op ++ .op o :: stk) out).1
  | [], out => by rw [List.map_nil, List.nil_append, popW_cons, h, if_neg Bool.false_ne_true, nO_op]; exact Nat.le_refl _
  | q :: os, out => by
    rw [List.map_cons, List.cons_append, popW_cons]
    split
    · exact popW_guard h stk os _
    · rw [nO_op, nO_app, nO_op]; omega
theorem popW_le {lev : Int} (stk out : List P) : nO (popW lv lev stk out).1 ≤ nO stk := by
  obtain ⟨k, h, _⟩ := popW_drop (lv := lv) (lev := lev) stk out
  rw [h]
  exact (List.drop_sublist k stk).countP_le
theorem drop_le (k : Nat) (stk : List P) : nO (stk.drop k) ≤ nO stk := (List.drop_sublist k stk).countP_le

variable (hlv : ∀ o, 0 ≤ lv o)
include hlv
/-- a bare part read up to its operator, on any pile -/
theorem bare_head {o : Nat} {l r : T} (g : (T.node o l r false).good lv) (stk dn : List P) : ∃ k d, run lv (l.wr ++ [.op o]) (stk, dn) = some (.op o :: stk.drop k, d) ∧ (∀ p ∈ stk.take k, p.isOp = true) ∧
    ∀ a s, stk = .op a :: s → pops lv a (lv o) = true → nO (stk.drop k) ≤ nO s := by
  obtain ⟨k, d, h1, h2⟩ := read_any hlv l g.2.2.1 stk dn
  obtain ⟨k2, h3, h4⟩ := popW_drop (lv := lv) (lev := lv o) (stk.drop k) (d ++ l.rops.map P.op)
  refine ⟨k + k2, d ++ l.rops.map P.op ++ (stk.drop k).take k2, ?_, ?_, ?_⟩
  · refine run_then h1 ?_
    rw [run_op, popW_all _ _ _ g.1, h3, List.drop_drop]
  · intro p hp
    rw [List.take_add] at hp
    rcases List.mem_append.mp hp with hp | hp
    · exact h2 p hp
    · exact h4 p hp
  · rintro a s rfl hp
    cases k with
    | zero =>
      have e : (popW lv (lv o) (.op a :: s) (d ++ l.rops.map P.op)).1 = ((P.op a :: s).drop 0).drop k2 := by rw [List.drop_zero] at h3; rw [h3]; rfl
      rw [popW_cons, hp, if_pos rfl] at e
      rw [show 0 + k2 = k2 by omega]
      have := popW_le (lv := lv) (lev := lv o) s (d ++ l.rops.map P.op ++ [.op a])
      rw [e] at this
      exact this
    | succ k =>
      rw [show k + 1 + k2 = (k + k2) + 1 by omega, List.drop_succ_cons]
      exact drop_le _ _
/-- the same part within its brackets -/
theorem full_head {o : Nat} {l r : T} (g : (T.node o l r false).good lv) (stk dn : List P) : ∃ d, run lv ([.lp] ++ (l.wr ++ [.op o])) (stk, dn) = some (.op o :: .lp :: stk, d) := by
  have h1 := read_safe hlv l g.2.2.1 (.lp :: stk) dn fun p hp a s e => by cases e
  refine ⟨dn ++ l.dn ++ l.rops.map P.op, run_then (run_lp _ _) (run_then h1 ?_)⟩
  rw [run_op, popW_all _ _ _ g.1]
  rfl

/-- a needed pair on the left -/
theorem diff_left {o a : Nat} {l r r' : T} (g : (T.node o l r false).good lv) (hp : pops lv o (lv a) = false) (stk dn : List P) :
    Diff lv ((T.node o l r true).wr ++ [.op a] ++ r'.wr) ((T.node o l r false).wr ++ [.op a] ++ r'.wr) stk dn := by
  obtain ⟨k, d, h1, h2, _⟩ := bare_head hlv g stk dn
  obtain ⟨d', h3⟩ := full_head hlv g stk dn
  have sp : nO stk = nO (stk.take k) + nO (stk.drop k) := by rw [← nO_app, List.take_append_drop]
  by_cases hk : nO (stk.drop k) = nO stk
  · have hk0 : stk.take k = [] := by
      have := nO_ops h2
      exact List.length_eq_zero_iff.mp (by omega)
    have hs : stk.drop k = stk := by
      have := List.take_append_drop k stk
      rwa [hk0, List.nil_append] at this
    rw [hs] at h1
    have e1 := read_safe hlv (.node o l r true) g stk dn fun p hp => nomatch hp
    have e2 := read_safe hlv r g.2.2.2 (.op o :: stk) d (fun p hp a s e => by cases e; exact g.2.1 p hp)
    have f1 := run_then e1 (run_op a _ _)
    have f2 : run lv ((T.node o l r false).wr ++ [.op a]) (stk, dn) = _ := run_then (run_then h1 e2) (run_op a _ _)
    have := Diff.at (Z := []) (Z' := []) r' f1 f2 ?_ ?_ ?_
    · simpa using this
    · simp only [T.wr, if_true, Bool.false_eq_true, if_false, nL_app, show nL [P.lp] = 0 from rfl, show nL [P.rp] = 0 from rfl]; omega
    · simp only [T.wr, if_true, Bool.false_eq_true, if_false, nO_app, show nO [P.lp] = 0 from rfl, show nO [P.rp] = 0 from rfl]; omega
    · simp only [T.rops, if_true, List.map_nil, List.nil_append]
      rw [nO_op, nO_op]
      have b1 := popW_guard hp stk r.rops (d ++ r.dn)
      have b2 := popW_le (lv := lv) (lev := lv a) stk (dn ++ (T.node o l r true).dn)
      omega
  · have := Diff.at (Z := [.rp] ++ [.op a] ++ r'.wr) (Z' := [.op a] ++ r'.wr) r h3 h1 ?_ ?_ ?_
    · simpa [T.wr] using this
    · simp only [nL_app, show nL [P.lp] = 0 from rfl]; omega
    · simp only [nO_app, show nO [P.lp] = 0 from rfl]; omega
    · rw [nO_op, nO_op, nO_lp]; omega
/-- a needed pair on the right -/
theorem diff_right {o a : Nat} {l r : T} (g : (T.node o l r false).good lv) (hp : pops lv a (lv o) = true) (stk dn : List P) :
    Diff lv (T.node o l r true).wr (T.node o l r false).wr (.op a :: stk) dn := by
  obtain ⟨k, d, h1, h2, h4⟩ := bare_head hlv g (.op a :: stk) dn
  obtain ⟨d', h3⟩ := full_head hlv g (.op a :: stk) dn
  have := Diff.at (Z := [.rp]) (Z' := []) r h3 h1 ?_ ?_ ?_
  · simpa [T.wr] using this
  · simp only [nL_app, show nL [P.lp] = 0 from rfl]; omega
  · simp only [nO_app, show nO [P.lp] = 0 from rfl]; omega
  · have := h4 a stk rfl hp
    rw [nO_op, nO_op, nO_lp, nO_op]; omega

theorem clr_diff {ab X Y nd} (c : Clr lv ab X Y nd) : nd = true → X.good lv →
    (∃ o l r, X = .node o l r true ∧ Y = .node o l r false ∧ need lv ab o = true) ∨ ∀ stk dn, Diff lv X.wr Y.wr stk dn := by
  induction c with
  | here => exact fun e g => .inl ⟨_, _, _, rfl, rfl, e⟩
  | @left ab o l l' r b nd c ih =>
    intro e g
    refine .inr ?_
    have core : ∀ stk dn, Diff lv (l.wr ++ [.op o] ++ r.wr) (l'.wr ++ [.op o] ++ r.wr) stk dn := by
      rcases ih e g.2.2.1 with ⟨o1, l1, r1, rfl, rfl, hn⟩ | h
      · refine diff_left hlv (l := l1) (r := r1) g.2.2.1 ?_
        rw [pops_false]
        intro q
        have := (need_left (lv := lv)).mpr q
        rw [this] at hn; cases hn
      · intro stk dn
        exact ((h stk dn).app).app
    intro stk dn
    cases b with
    | false => exact core stk dn
    | true => exact ((core (.lp :: stk) dn).pre (run_lp _ _)).app
  | @right ab o l r r' b nd c ih =>
    intro e g
    refine .inr ?_
    have core : ∀ stk dn, Diff lv (l.wr ++ [.op o] ++ r.wr) (l.wr ++ [.op o] ++ r'.wr) stk dn := by
      intro stk dn
      obtain ⟨k, d, h1, _⟩ := read_any hlv l g.2.2.1 stk dn
      have f := run_then h1 (run_op o _ _)
      rcases ih e g.2.2.2 with ⟨o1, l1, r1, rfl, rfl, hn⟩ | h
      · refine Diff.pre f (diff_right hlv (l := l1) (r := r1) g.2.2.2 ?_ _ _)
        cases hp : pops lv o (lv o1) with
        | true => rfl
        | false =>
          rw [pops_false] at hp
          have := (need_right (lv := lv) (a := o) (o := o1)).mpr (by omega)
          rw [this] at hn; cases hn
      · exact Diff.pre f (h _ _)
    intro stk dn
    cases b with
    | false => exact core stk dn
    | true => exact ((core (.lp :: stk) dn).pre (run_lp _ _)).app
end

/-! the joined text tells the row -/
noncomputable def keepC (c : Nat) : Bool := c == 41 || Nat.ble 97 c
noncomputable def er (s : Str) : List Nat := s.cps.toList.filter keepC
theorem er_app (a b : Str) : er (a ++ b) = er a ++ er b := by
  unfold er
  show (a.cps ++ b.cps).toList.filter keepC = _
  rw [Array.toList_append, List.filter_append]
noncomputable def codeE : P → Nat
  | .let_ c => 97 + c
  | _ => 41
theorem er_sign (o : Nat) : er (signS o) = [] := by
  unfold signS signL
  rcases o with _ | _ | _ | _ | _ | o <;> rfl
theorem er_letter (c : Nat) : er (letterS c) = [97 + c] := by
  show List.filter keepC [97 + c] = _
  have : keepC (97 + c) = true := by unfold keepC; rw [Bool.or_eq_true]; right; exact Nat.ble_eq_true_of_le (by omega)
  rw [List.filter_cons, this]; rfl
theorem runJ_er : ∀ (ps : List P) (st st' : List Str), runJ ps st = some st' → st'.reverse.flatMap er = st.reverse.flatMap er ++ ps.map codeE
  | [], st, st', h => by cases h; simp
  | p :: ps, st, st', h => by
    simp only [runJ] at h
    split at h
    · rename_i st1 h1
      rw [runJ_er ps st1 st' h]
      cases p with
      | lp => cases h1
      | rp => cases h1
      | let_ c => cases h1; simp [er_letter, codeE]
      | op o =>
        match st, h1 with
        | r :: l :: rest, h1 =>
          cases h1
          have e1 : er (("(" : Str) ++ l ++ signS o ++ r ++ (")" : Str)) = er l ++ er r ++ [41] := by
            rw [er_app, er_app, er_app, er_app, er_sign, show er ("(" : Str) = [] from rfl, show er (")" : Str) = [41] from rfl]; simp
          simp [e1, codeE]
    · cases h
theorem split_eq {α : Type} (q : α → Bool) : ∀ (A A' : List α) (x x' : α) (B B' : List α), A ++ x :: B = A' ++ x' :: B' → q x = true → q x' = true → A.countP q = A'.countP q → A.length = A'.length
  | [], [], _, _, _, _, _, _, _, _ => rfl
  | [], a :: A', x, x', B, B', h, hx, _, hc => by
    injection h with h1 h2
    subst h1
    rw [List.countP_cons_of_pos hx] at hc
    simp at hc
  | a :: A, [], x, x', B, B', h, _, hx', hc => by
    injection h with h1 h2
    subst h1
    rw [List.countP_cons_of_pos hx'] at hc
    simp at hc
  | a :: A, a' :: A', x, x', B, B', h, hx, hx', hc => by
    injection h with h1 h2
    subst h1
    have := split_eq q A A' x x' B B' h2 hx hx' (by
      rw [List.countP_cons, List.countP_cons] at hc
      omega)
    simp only [List.length_cons, this]
theorem len_count : ∀ (ps : List P), (∀ p ∈ ps, p.isOp = true ∨ p.isLet = true) → ps.length = nO ps + nL ps
  | [], _ => rfl
  | p :: ps, h => by
    have := len_count ps fun q hq => h q (.tail _ hq)
    rcases h p (.head _) with q | q <;> cases p <;> first | cases q | (simp only [nO, nL, List.countP_cons, P.isOp, P.isLet, List.length_cons] at this ⊢; omega) | skip
    all_goals (simp [nO, nL, List.countP_cons, P.isOp, P.isLet] at this ⊢; omega)
noncomputable def isLc (c : Nat) : Bool := Nat.ble 97 c
theorem codeE_let {p : P} (h : p.isOp = true ∨ p.isLet = true) : isLc (codeE p) = p.isLet := by
  cases p with
  | let_ c => exact Nat.ble_eq_true_of_le (by show 97 ≤ 97 + c; omega)
  | op o => rfl
  | lp => rcases h with h | h <;> cases h
  | rp => rcases h with h | h <;> cases h
theorem count_codeE : ∀ (ps : List P), (∀ p ∈ ps, p.isOp = true ∨ p.isLet = true) → (ps.map codeE).countP isLc = nL ps
  | [], _ => rfl
  | p :: ps, h => by
    rw [List.map_cons, List.countP_cons, codeE_let (h p (.head _)), count_codeE ps fun q hq => h q (.tail _ hq)]
    show _ = List.countP _ _
    rw [List.countP_cons]
/-- what may be done -/
noncomputable def DoneOk (ps : List P) : Prop := ∀ p ∈ ps, p.isOp = true ∨ p.isLet = true
theorem runJ_ok : ∀ (ps : List P) (st st' : List Str), runJ ps st = some st' → DoneOk ps
  | [], _, _, _ => fun p hp => nomatch hp
  | p :: ps, st, st', h => by
    simp only [runJ] at h
    split at h
    · rename_i st1 h1
      have := runJ_ok ps st1 st' h
      intro q hq
      rcases List.mem_cons.mp hq with rfl | hq
      · cases q with
        | lp => cases h1
        | rp => cases h1
        | let_ c => exact .inr rfl
        | op o => exact .inl rfl
      · exact this q hq
    · cases h

section
variable {lv : Nat → Int} (hlv : ∀ o, 0 ≤ lv o)
include hlv
theorem good_read {t : T} (g : t.good lv) : ∃ done, doneF lv t.wr = some done ∧ runJ done [] = some [t.full] := by
  refine ⟨t.rpn, good_done hlv g, ?_⟩
  have := runJ_rpn t [] []
  rw [List.append_nil] at this
  rw [this]; rfl
/-- two texts whose readings part are read as two things -/
theorem diff_read {X Y : T} {done : List P} {x : Str} (hX : doneF lv X.wr = some done) (hx : runJ done [] = some [x]) (h : Diff lv X.wr Y.wr [] []) : ∃ done' y, doneF lv Y.wr = some done' ∧ runJ done' [] = some [y] ∧ y ≠ x := by
  obtain ⟨s2, d2, y, f1, f2, f3⟩ := total hlv Y
  obtain ⟨s1, d1, x', e1, e2, e3⟩ := total hlv X
  rw [e2] at hX
  cases hX
  refine ⟨_, y, f2, f3, fun exy => ?_⟩
  subst exy
  obtain ⟨v1, c, v2, w1, c', w2, sX, dX, sY, dY, hX, hY, r1, r2, r3, r4, r5⟩ := h
  have gX := run_keeps hlv _ _ _ r1
  have gY := run_keeps hlv _ _ _ r2
  have kX : ∃ z, d1 = dX ++ .let_ c :: z := by
    rw [hX, run_app, r1] at e1
    have e1 : run lv ([.let_ c] ++ v2) (sX, dX) = some (s1, d1) := e1
    rw [run_app, run_let] at e1
    obtain ⟨_, _, z, hz⟩ := run_keeps hlv _ _ _ e1
    exact ⟨z, by rw [hz]; simp⟩
  have kY : ∃ z, d2 = dY ++ .let_ c' :: z := by
    rw [hY, run_app, r2] at f1
    have f1 : run lv ([.let_ c'] ++ w2) (sY, dY) = some (s2, d2) := f1
    rw [run_app, run_let] at f1
    obtain ⟨_, _, z, hz⟩ := run_keeps hlv _ _ _ f1
    exact ⟨z, by rw [hz]; simp⟩
  obtain ⟨zX, rfl⟩ := kX
  obtain ⟨zY, rfl⟩ := kY
  have oX := runJ_ok _ _ _ hx
  have oY := runJ_ok _ _ _ f3
  have oX' : DoneOk dX := fun p hp => oX p (by simp [hp])
  have oY' : DoneOk dY := fun p hp => oY p (by simp [hp])
  have eX := runJ_er _ _ _ hx
  have eY := runJ_er _ _ _ f3
  rw [eX] at eY
  simp only [List.reverse_nil, List.flatMap_nil, List.nil_append, List.map_append, List.map_cons, List.append_assoc, List.cons_append] at eY
  have hl := split_eq isLc _ _ _ _ _ _ eY (codeE_let (p := .let_ c) (.inr rfl)) (codeE_let (p := .let_ c') (.inr rfl)) (by rw [count_codeE _ oX', count_codeE _ oY']; omega)
  rw [List.length_map, List.length_map, len_count _ oX', len_count _ oY'] at hl
  omega
end
end
end
section
open PySem PySem.W PySem.Spec PySem.Calls PyProof.Rows
set_option maxRecDepth 100000
set_option maxHeartbeats 4000000
set_option linter.unusedVariables false
section

theorem T.wr_ok : ∀ t : T, t.ok → ∀ q ∈ t.wr, q.ok
  | .leaf c, h, q, hq => by rw [List.mem_singleton.mp hq]; exact h
  | .node o l r b, h, q, hq => by
    have hl := T.wr_ok l h.2.1
    have hr := T.wr_ok r h.2.2
    have core : ∀ q ∈ l.wr ++ [P.op o] ++ r.wr, q.ok := by
      intro q hq
      simp only [List.mem_append, List.mem_singleton] at hq
      rcases hq with (hq | rfl) | hq
      · exact hl q hq
      · exact h.1
      · exact hr q hq
    cases b with
    | false => exact core q hq
    | true =>
      simp only [T.wr, if_true] at hq
      rcases List.mem_append.mp hq with hq | hq
      · rcases List.mem_append.mp hq with hq | hq
        · rw [List.mem_singleton.mp hq]; trivial
        · exact core q hq
      · rw [List.mem_singleton.mp hq]; trivial
theorem T.wr_len : ∀ t : T, t.wr.length + 3 ≤ 4 * t.leaves
  | .leaf c => Nat.le_refl _
  | .node o l r b => by
    have hl := T.wr_len l
    have hr := T.wr_len r
    cases b <;> simp only [T.wr, T.leaves, if_true, Bool.false_eq_true, if_false, List.length_append, List.length_singleton] <;> omega
/-- neither the first nor the last piece is an operator -/
theorem T.wr_ends : ∀ t : T, ∃ p z, t.wr = p :: z ∧ p.isOp = false
  | .leaf c => ⟨_, _, rfl, rfl⟩
  | .node o l r b => by
    obtain ⟨p, z, h, hp⟩ := T.wr_ends l
    cases b with
    | true => exact ⟨_, _, rfl, rfl⟩
    | false => exact ⟨p, z ++ [.op o] ++ r.wr, by simp only [T.wr, Bool.false_eq_true, if_false, h]; rfl, hp⟩
theorem T.wr_last : ∀ t : T, ∃ p z, t.wr = z ++ [p] ∧ p.isOp = false
  | .leaf c => ⟨_, [], rfl, rfl⟩
  | .node o l r b => by
    obtain ⟨p, z, h, hp⟩ := T.wr_last r
    cases b with
    | true => exact ⟨.rp, _, rfl, rfl⟩
    | false => exact ⟨p, l.wr ++ [.op o] ++ z, by simp only [T.wr, Bool.false_eq_true, if_false, h]; simp, hp⟩
theorem adj_app : ∀ (a : List P) (p q : P) (b : List P), Adj (a ++ [p]) → Adj (q :: b) → (p.isOp = true → q.isOp = false) → Adj (a ++ [p] ++ (q :: b))
  | [], p, q, b, _, h2, h => ⟨h, h2⟩
  | [x], p, q, b, h1, h2, h => ⟨h1.1, h, h2⟩
  | x :: y :: a, p, q, b, h1, h2, h => ⟨h1.1, adj_app (y :: a) p q b h1.2 h2 h⟩
theorem T.wr_adj : ∀ t : T, Adj t.wr
  | .leaf c => trivial
  | .node o l r b => by
    obtain ⟨p1, z1, e1, f1⟩ := T.wr_ends l
    obtain ⟨p2, z2, e2, f2⟩ := T.wr_last l
    obtain ⟨p3, z3, e3, f3⟩ := T.wr_ends r
    obtain ⟨p4, z4, e4, f4⟩ := T.wr_last r
    have hl := T.wr_adj l
    have hr := T.wr_adj r
    have h1 : Adj (l.wr ++ [.op o]) := by
      rw [e2] at hl ⊢
      exact adj_app z2 p2 (.op o) [] hl trivial (fun h => by rw [f2] at h; cases h)
    have core : Adj (l.wr ++ [.op o] ++ r.wr) := by
      rw [e3] at hr ⊢
      exact adj_app l.wr (.op o) p3 z3 h1 hr fun _ => f3
    cases b with
    | false => exact core
    | true =>
      show Adj ([.lp] ++ (l.wr ++ [.op o] ++ r.wr) ++ [.rp])
      have h2 : Adj ([.lp] ++ (l.wr ++ [.op o] ++ r.wr)) := by
        rw [e1] at core ⊢
        exact adj_app [] .lp p1 _ trivial core fun h => by cases h
      rw [e4] at h2 ⊢
      have h3 : Adj ([.lp] ++ (l.wr ++ [.op o] ++ z4) ++ [p4]) := by simpa using h2
      have := adj_app _ p4 .rp [] h3 trivial (fun h => by rw [f4] at h; cases h)
      simpa using this

/-- all that the reading's contract asks of a text -/
structure Readable (lv : Nat → Int) (ps : List P) (y : Str) : Prop where
  ok : ∀ q ∈ ps, q.ok
  adj : Adj ps
  len : ps.length ≤ 900
  done : ∃ done, doneF lv ps = some done ∧ (∀ q ∈ done, q.ok) ∧ done.length ≤ 1000 ∧ runJ done [] = some [y]

theorem runD_ok {lv : Nat → Int} : ∀ (qs : List (Option P)) (stk dn : List P) (st : List P × List P), PileOk stk → (∀ q ∈ dn, q.ok) → (∀ p, some p ∈ qs → p.ok) → runD lv qs (stk, dn) = some st → PileOk st.1 ∧ (∀ q ∈ st.2, q.ok) ∧ st.1.length + st.2.length ≤ stk.length + dn.length + qs.length
  | [], stk, dn, st, h1, h2, _, h => by cases h; exact ⟨h1, h2, by simp⟩
  | q :: qs, stk, dn, st, h1, h2, h3, h => by
    simp only [runD] at h
    split at h
    · rename_i st1 hst
      have hq : ∀ p, q = some p → p.ok := fun p e => h3 p (by rw [e]; exact .head _)
      obtain ⟨g1, g2⟩ := stepD_ok h1 hq hst
      have pw : ∀ lev, ∀ x ∈ (popW lv lev stk dn).2, x.ok := by
        intro lev x hx
        obtain ⟨k, e, _⟩ := popW_drop (lv := lv) (lev := lev) stk dn
        rw [e] at hx
        rcases List.mem_append.mp hx with hx | hx
        · exact h2 x hx
        · rcases h1 x (List.mem_of_mem_take hx) with rfl | ⟨o, rfl, ho⟩
          · trivial
          · exact ho
      have g3 : ∀ x ∈ st1.2, x.ok := by
        cases q with
        | none => cases hst; exact pw _
        | some p => cases p with
          | lp => cases hst; exact h2
          | let_ c =>
            cases hst
            intro x hx
            rcases List.mem_append.mp hx with hx | hx
            · exact h2 x hx
            · rw [List.mem_singleton.mp hx]; exact hq _ rfl
          | op o => cases hst; exact pw _
          | rp =>
            simp only [stepD] at hst
            split at hst
            · rename_i e
              cases hst
              have := pw (-1)
              rw [e] at this
              exact this
            · cases hst
      obtain ⟨a1, a2, a3⟩ := runD_ok qs st1.1 st1.2 st g1 g3 (fun p hp => h3 p (.tail _ hp)) h
      exact ⟨a1, a2, by simp only [List.length_cons]; omega⟩
    · cases h
theorem done_ok {lv : Nat → Int} {ps done : List P} (hp : ∀ q ∈ ps, q.ok) (h : doneF lv ps = some done) : (∀ q ∈ done, q.ok) ∧ done.length ≤ ps.length + 1 := by
  unfold doneF at h
  cases e : runD lv (ps.map some ++ [none]) ([], []) with
  | none => rw [e] at h; cases h
  | some st =>
    rw [e] at h
    obtain ⟨_, h2, h3⟩ := runD_ok _ [] [] st (fun _ h => nomatch h) (fun _ h => nomatch h) (fun p hq => hp p (by simpa using hq)) e
    have h : (if st.1 = [] then st.2 else []) = done := Option.some.inj h
    subst h
    simp only [List.length_append, List.length_map, List.length_singleton, List.length_nil] at h3
    split
    · exact ⟨h2, by omega⟩
    · exact ⟨fun _ h => (nomatch h), by simp⟩

theorem T.readable {lv : Nat → Int} {t : T} (ok : t.ok) (sz : t.leaves ≤ 100) {done : List P} {y : Str} (h : doneF lv t.wr = some done) (h' : runJ done [] = some [y]) : Readable lv t.wr y := by
  have hp := t.wr_ok ok
  have hl := t.wr_len
  obtain ⟨h1, h2⟩ := done_ok hp h
  exact ⟨hp, t.wr_adj, by omega, done, h, h1, by omega, h'⟩

/-- THE PLAIN LAW -/
theorem plain_law (lv : Nat → Int) (hlv : ∀ o, 0 ≤ lv o) (t : T) (ok : t.ok) (sz : t.leaves ≤ 100) :
    Readable lv (t.write lv none 0).1 t.full ∧ ∀ b e nd, (b, e, nd) ∈ (t.write lv none 0).2 →
      ∃ A M Z y, (t.write lv none 0).1 = A ++ [.lp] ++ M ++ [.rp] ++ Z ∧ b = A.length ∧ e = A.length + 1 + M.length ∧ Readable lv (A ++ M ++ Z) y ∧ (y ≠ t.full ↔ nd = true) := by
  have g := T.sound_good _ _ (t.mark_sound lv none)
  have okm := t.mark_ok lv none ok
  have szm : (t.mark lv none).leaves ≤ 100 := by rw [t.mark_leaves]; exact sz
  obtain ⟨done, h1, h2⟩ := good_read hlv g
  rw [t.mark_full] at h2
  refine ⟨by rw [t.write_wr]; exact T.readable okm szm h1 h2, fun b e nd h => ?_⟩
  obtain ⟨A, M, Z, Y, e1, e2, e3, e4, c⟩ := t.write_clr lv none 0 b e nd h
  have okY := c.ok okm
  have szY : Y.leaves ≤ 100 := by rw [c.leaves]; exact szm
  cases nd with
  | false =>
    have gY := T.sound_good _ _ (c.sound rfl (t.mark_sound lv none))
    obtain ⟨done', f1, f2⟩ := good_read hlv gY
    rw [c.full, t.mark_full] at f2
    exact ⟨A, M, Z, t.full, e1, by omega, by omega, by rw [e4]; exact T.readable okY szY f1 f2, by simp⟩
  | true =>
    rcases clr_diff hlv c rfl g with ⟨o, l, r, _, _, hn⟩ | hd
    · cases hn
    · obtain ⟨done', y, f1, f2, f3⟩ := diff_read hlv h1 h2 (hd [] [])
      exact ⟨A, M, Z, y, e1, by omega, by omega, by rw [e4]; exact T.readable okY szY f1 f2, by simp [f3]⟩
end
end
section
open PySem PySem.W PySem.Spec PySem.Calls PyProof.Rows
set_option maxRecDepth 100000
set_option maxHeartbeats 4000000
set_option linter.unusedVariables false
section

theorem slot_search : PySem.Slot "re.Pattern" "search" "re.Pattern.search" :=
  PySem.Slot.of (owner := "re.Pattern") (n := "search") (by rw [typeLookup_type, builtinLookup_eq_fast]; kernel_rfl) (by decide +kernel) (by decide +kernel) (by decide +kernel)
    (by first | exact .inl (by decide +kernel) | exact .inr (by decide +kernel)) (by rw [isSubtype_type]; kernel_rfl)
theorem plain_pattern : PlainAttrs "re.Pattern" :=
  ⟨⟨"object.__getattribute__", by rw [typeLookup_type, builtinLookup_eq_fast]; kernel_rfl, by decide +kernel⟩, by rw [typeLookup_type, builtinLookup_eq_fast]; kernel_rfl⟩
theorem type_search : typeOf (.builtin "re.Pattern.search") = pure (.type "method_descriptor") := by show builtinType _ = _; rw [builtinType_eq_fast]; kernel_rfl
theorem entry_search : entryFor table "re.Pattern.search" = some Builtin.«re.Pattern.search» := entryFor_of_tree (by kernel_rfl)
theorem args_search (a b : Value) : argsOk "re.Pattern.search" ⟨[a, b], []⟩ := by unfold argsOk; kernel_rfl

/-- the matcher's turns -/
noncomputable def drv : Nat → Sre.M → Sre.M
  | 0, m => m
  | k + 1, m => if (m.runFor Builtin.Re.reTurnSteps).outcome.isSome then m.runFor Builtin.Re.reTurnSteps else drv k (m.runFor Builtin.Re.reTurnSteps)
noncomputable def fails (m : Sre.M) : Bool := match m.outcome with
  | some .failed => true
  | _ => false
section
variable {M : Model} {A : Around} {E : Value → Shared → Prop} {s : Shared}
theorem wp_drive {Q : Sre.M → Shared → Prop} : ∀ (k n : Nat) (m : Sre.M), k ≤ n → m.outcome.isSome = false → (drv k m).outcome.isSome = true → Q (drv k m) s → wpAny M A (Builtin.Re.reDrive n m) Q E s
  | 0, n, m, _, h1, h2, _ => by rw [show drv 0 m = m from rfl, h1] at h2; cases h2
  | k + 1, 0, m, h, _, _, _ => by omega
  | k + 1, n + 1, m, h, h1, h2, hq => by
    unfold Builtin.Re.reDrive
    simp only [drv] at h2 hq
    cases e : (m.runFor Builtin.Re.reTurnSteps).outcome.isSome with
    | true =>
      rw [if_pos e] at hq
      simp only [e, if_true]
      exact wpAny_pure hq
    | false =>
      rw [e, if_neg Bool.false_ne_true] at hq h2
      simp only [e, Bool.false_eq_true, if_false]
      exact wpAny_bind (wpAny_rule (wp_drive k n _ (by omega) e h2 hq))
theorem wp_seen {Q : PUnit → Shared → Prop} (f : Nat → PUnit → Sem (ForInStep PUnit)) (hf : ∀ i b, ∀ R : ForInStep PUnit → Shared → Prop, ∀ s, R (.yield ⟨⟩) s → wpAny M A (f i b) R E s) (l : List Nat) (h : Q ⟨⟩ s) : wpAny M A (forIn l PUnit.unit f) Q E s :=
  wpAny_forIn_list f (fun _ _ s => Q ⟨⟩ s) Q (fun x rest b s h => hf x b _ s h) (fun _ _ h => h) l _ h
theorem wp_runToEnd {Q : Option Sre.M → Shared → Prop} {m : Sre.M} (k : Nat) (hk : k ≤ 1000) (h1 : m.outcome.isSome = false) (h2 : fails (drv k m) = true) (hq : Q none s) : wpAny M A (Builtin.Re.reRunToEnd m) Q E s := by
  unfold fails at h2
  unfold Builtin.Re.reRunToEnd
  have ho : (drv k m).outcome = some .failed := by
    split at h2
    · assumption
    · cases h2
  refine wpAny_bind (wp_drive k _ m (by omega) h1 (by rw [ho]; rfl) ?_)
  refine wpAny_bind (wp_seen _ ?_ _ ?_)
  · intro i b R s h
    split
    · exact wpAny_bind (wpAny_rule (wpAny_pure h))
    · exact wpAny_pure h
  · rw [ho]
    exact wpAny_pure hq

theorem named_one (id f : String) (v : Value) : Builtin.Re.reNamed "re.Pattern.search" "search" ["string", "pos", "endpos"] 1 [v] [] = pure [some v, none, none] := by
  kernel_rfl
end

section
variable {prog : Program} {w : World} {A : Around} {E : Value → Shared → Prop} {s : Shared} {Q : Value → Shared → Prop}
theorem search_none {a ca : Addr} {x : Str} {t : Tok} {fs cs : Array Value} {od : Option Addr} {sl : Array (Option Value)} {n : Nat} {od' : Option Addr} {sl' : Array (Option Value)}
    (ho : s.heap.get? a = some ⟨.type "re.Pattern", od, .fields fs, sl⟩) (h5 : fs.getD 5 .none = .ref ca) (h6 : Builtin.Re.reRawNat (fs.getD 6 .none) = 0)
    (hc : s.heap.get? ca = some ⟨.type "tuple", od', .seq cs n, sl'⟩) (k : Nat) (hk : k ≤ 1000)
    (h1 : (Sre.forSearch ((cs.map Builtin.Re.reRawOf).map (·.toNat)) x.cps (Builtin.Re.reRawNat (fs.getD 2 .none)) (min (0 : Int).toNat x.cps.size) (min (2 ^ 63 - 1 : Int).toNat x.cps.size) false).outcome.isSome = false)
    (h2 : fails (drv k (Sre.forSearch ((cs.map Builtin.Re.reRawOf).map (·.toNat)) x.cps (Builtin.Re.reRawNat (fs.getD 2 .none)) (min (0 : Int).toNat x.cps.size) (min (2 ^ 63 - 1 : Int).toNat x.cps.size) false)) = true)
    (h : Q .none s) : wpAny (model prog w) A (call (.builtin "re.Pattern.search") [.ref a, .str x t]) Q E s := by
  refine wpAny_call (codeAny_call_builtin slot_search.plain entry_search (slot_search.check _ _ _ _ _ _ _ _ ⟨_, ho, rfl⟩ (args_search _ _) ?_))
  unfold Builtin.«re.Pattern.search» Builtin.Re.reTarget
  dsimp only
  rw [named_one "" ""]
  refine wpAny_bind (wpAny_bind (wpAny_pure ?_))
  dsimp only
  refine wpAny_bind (wpAny_pure (wpAny_bind (wpAny_pure ?_)))
  refine wpAny_bind (wpAny_fieldsOf ho rfl ?_)
  unfold Builtin.Re.reTextOf
  refine wpAny_bind (wpAny_bind (wpAny_pure (wpAny_pure ?_)))
  dsimp only
  rw [h6, if_neg (by decide), if_neg (by decide)]
  unfold Builtin.Re.reNoCollectionInside Builtin.Re.reRawItems
  rw [if_neg (by decide), h5]
  refine wpAny_bind (wpAny_pure (wpAny_bind ?_))
  refine wpAny_bind (wpAny_seqItems hc rfl (wpAny_pure (wpAny_pure ?_)))
  unfold Builtin.Re.reAnswer
  refine wpAny_bind (wp_runToEnd k hk h1 h2 ?_)
  exact wpAny_pure h
end

section
variable {B : Base} {A : Around} {E : Value → Shared → Prop} {s : Shared} {L : Addr} {ls : Loc} {μ ι : Led} {Q : Value → Shared → Prop}
noncomputable def nameCode : Array Nat := #[14, 10, 4, 1, 1, 22, 0, 31, 16, 127, 0, 13, 7, 22, 0, 31, 16, 127, 0, 1]
noncomputable def valueCode : Array Nat := #[14, 14, 4, 1, 1, 9, 4294966783, 0, 0, 2147483648, 0, 0, 0, 0, 0, 13, 11, 9, 4294966783, 0, 0, 2147483648, 0, 0, 0, 0, 0, 1]
/-- the search of this code finds nothing in x -/
noncomputable def clean (code : Array Nat) (x : Str) : Bool := (Sre.forSearch code x.cps 0 0 x.cps.size false).outcome.isNone && fails (drv 100 (Sre.forSearch code x.cps 0 0 x.cps.size false))
theorem lookup_name (B : Base) : ∃ fs cs od sl n od' sl', (KF B).lookup 72 = some ⟨.type "re.Pattern", od, .fields fs, sl⟩ ∧ fs.getD 5 .none = .ref 71 ∧ Builtin.Re.reRawNat (fs.getD 6 .none) = 0 ∧ Builtin.Re.reRawNat (fs.getD 2 .none) = 0 ∧
    (KF B).lookup 71 = some ⟨.type "tuple", od', .seq cs n, sl'⟩ ∧ (cs.map Builtin.Re.reRawOf).map (·.toNat) = nameCode :=
  ⟨_, _, _, _, _, _, _, rfl, rfl, rfl, rfl, rfl, by kernel_rfl⟩
theorem lookup_value (B : Base) : ∃ fs cs od sl n od' sl', (KF B).lookup 77 = some ⟨.type "re.Pattern", od, .fields fs, sl⟩ ∧ fs.getD 5 .none = .ref 76 ∧ Builtin.Re.reRawNat (fs.getD 6 .none) = 0 ∧ Builtin.Re.reRawNat (fs.getD 2 .none) = 0 ∧
    (KF B).lookup 76 = some ⟨.type "tuple", od', .seq cs n, sl'⟩ ∧ (cs.map Builtin.Re.reRawOf).map (·.toNat) = valueCode :=
  ⟨_, _, _, _, _, _, _, rfl, rfl, rfl, rfl, rfl, by kernel_rfl⟩
theorem lim_min {x : Str} (h : x.length ≤ 1000) : min (2 ^ 63 - 1 : Int).toNat x.cps.size = x.cps.size := by
  have : x.cps.size ≤ 1000 := h
  omega
theorem r_search72 {x : Str} {t : Tok} (G : Gnd B) (S : St B L s ls μ ι) (hx : x.length ≤ 1000) (hc : clean nameCode x = true) (h : Q .none s) : wpAny (model PP B.w) A (call (.builtin "re.Pattern.search") [.ref 72, .str x t]) Q E s := by
  obtain ⟨fs, cs, od, sl, n, od', sl', h1, h2, h3, h4, h5, h6⟩ := lookup_name B
  have X := G.X.keeps S.own.keep
  obtain ⟨c1, c2⟩ := Bool.and_eq_true_iff.mp hc
  refine search_none (X _ _ h1) h2 h3 (X _ _ h5) 100 (by decide) ?_ ?_ h
  · rw [h6, h4, lim_min hx]; rw [Option.isNone_iff_eq_none] at c1; show Option.isSome (Sre.M.outcome (Sre.forSearch nameCode x.cps 0 0 x.cps.size false)) = false; rw [c1]; rfl
  · rw [h6, h4, lim_min hx]; exact c2
theorem r_search77 {x : Str} {t : Tok} (G : Gnd B) (S : St B L s ls μ ι) (hx : x.length ≤ 1000) (hc : clean valueCode x = true) (h : Q .none s) : wpAny (model PP B.w) A (call (.builtin "re.Pattern.search") [.ref 77, .str x t]) Q E s := by
  obtain ⟨fs, cs, od, sl, n, od', sl', h1, h2, h3, h4, h5, h6⟩ := lookup_value B
  have X := G.X.keeps S.own.keep
  obtain ⟨c1, c2⟩ := Bool.and_eq_true_iff.mp hc
  refine search_none (X _ _ h1) h2 h3 (X _ _ h5) 100 (by decide) ?_ ?_ h
  · rw [h6, h4, lim_min hx]; rw [Option.isNone_iff_eq_none] at c1; show Option.isSome (Sre.M.outcome (Sre.forSearch valueCode x.cps 0 0 x.cps.size false)) = false; rw [c1]; rfl
  · rw [h6, h4, lim_min hx]; exact c2
end
noncomputable def digS (l : Nat) : Str := ⟨#[48 + l]⟩
theorem clean_sign {o : Nat} (h : o < 5) : clean nameCode (signS o) = true := by
  rcases o with _ | _ | _ | _ | _ | o
  all_goals first | decide +kernel | omega
theorem clean_dig {l : Nat} (h : l < 5) : clean valueCode (digS l) = true := by
  rcases l with _ | _ | _ | _ | _ | l
  all_goals first | decide +kernel | omega
end
end
section
open PySem PySem.W PySem.Spec PySem.Calls PyProof.Rows
set_option maxRecDepth 100000
set_option maxHeartbeats 4000000
set_option linter.unusedVariables false
section
section
variable {B : Base} {A : Around} {E : Value → Shared → Prop} {s : Shared} {L : Addr} {ls : Loc} {μ ι : Led} {Q : Value → Shared → Prop} {prog : Program} {w : World} {x : Str} {t : Tok}
theorem on72 {P : Prop} (G : Gnd B) (S : St B L s ls μ ι) (h : P) : s.TypeIs (.ref 72) "re.Pattern" ∧ (∀ b, Value.ref 72 = .ref b → ∃ ob, s.heap.get? b = some ob ∧ ob.dict = none) ∧ P := by
  have X := G.X.keeps S.own.keep
  have e := X 72 _ rfl
  exact ⟨⟨_, e, rfl⟩, fun b h => by cases h; exact ⟨_, e, rfl⟩, h⟩
theorem on77 {P : Prop} (G : Gnd B) (S : St B L s ls μ ι) (h : P) : s.TypeIs (.ref 77) "re.Pattern" ∧ (∀ b, Value.ref 77 = .ref b → ∃ ob, s.heap.get? b = some ob ∧ ob.dict = none) ∧ P := by
  have X := G.X.keeps S.own.keep
  have e := X 77 _ rfl
  exact ⟨⟨_, e, rfl⟩, fun b h => by cases h; exact ⟨_, e, rfl⟩, h⟩
theorem r_typeL {l : Addr} {vs : List Value} {n : Nat} (S : St B L s ls μ ι) (hm : (l, listO vs n) ∈ μ ++ ι) (h : Q (.type "list") s) : wpAny (model prog w) A (call (.type "type") [.ref l]) Q E s :=
  call_type_of (Tx := "list") ⟨_, S.get hm, rfl⟩ (by decide +kernel) h
theorem r_lower (S : St B L s ls μ ι) (hl : x.length ≤ 1000) (h : ∀ s' t', St B L s' ls μ ι → Q (.str (Txt.lower x) t') s') : wpAny (model prog w) A (call (.builtin "str.lower") [.str x t]) Q E s :=
  SC.lower (fit_lower (by omega)) (h _ _ S.tok)
theorem truthy_no {M : Model} {Q : Bool → Shared → Prop} (h : Q false s) : wpAny M A (truthy .none) Q E s := by
  unfold truthy
  exact wpAny_pure h
end
local macro_rules | `(tactic| walk_at "go") => `(tactic| first
  | ((with_reducible refine' cw_t ?_ ?hp); (case hp => rfl))
  | ((with_reducible show wpAny _ _ (call (Value.type "type") [Value.str _ _]) _ _ _); refine call_type_of (Tx := "str") rfl (by decide +kernel) ?_)
  | ((with_reducible show wpAny _ _ (call (Value.type "type") [Value.ref _]) _ _ _); refine' r_typeL ?S ?hm ?_; (case S => with_reducible assumption); (case hm => walk_at "mem"))
  | ((with_reducible show wpAny _ _ (compareOp CmpOp.Is (Value.type _) (Value.type _)) _ _ _); refine wpAny_is_self (by rfl) ?_)
  | ((with_reducible show wpAny _ _ (compareOp CmpOp.IsNot (Value.type _) (Value.type _)) _ _ _); refine wpAny_isNot_self (by rfl) ?_)
  | ((with_reducible show wpAny _ _ (compareOp CmpOp.Is Value.none Value.none) _ _ _); refine wpAny_is_self (by rfl) ?_)
  | ((with_reducible show wpAny _ _ (compareOp CmpOp.IsNot Value.none Value.none) _ _ _); refine wpAny_isNot_self (by rfl) ?_)
  | ((with_reducible show wpAny _ _ (compareOp CmpOp.Is (Value.str _ _) Value.none) _ _ _); refine wpAny_is_other (by rfl) (fun h => nomatch h) ?_)
  | ((with_reducible show wpAny _ _ (compareOp CmpOp.IsNot (Value.str _ _) Value.none) _ _ _); refine wpAny_isNot_other (by rfl) (fun h => nomatch h) ?_)
  | ((with_reducible show wpAny _ _ (compareOp CmpOp.IsNot (Value.ref _) Value.none) _ _ _); refine wpAny_isNot_other (by rfl) (fun h => nomatch h) ?_)
  | (with_reducible refine' truthy_no ?_)
  | ((with_reducible refine' PyProof.Rows.eq_str ?_))
  | ((with_reducible refine' ne_str ?_))
  | ((with_reducible refine' r_meth plain_pattern slot_search type_search ?hb ?hf ?hp ?hl ?_); (case hb => rfl); (case hf => rfl); (case hp => rfl); (case hl => rfl))
  | ((with_reducible refine' on72 ?G ?S ?_); (case G => with_reducible assumption); (case S => with_reducible assumption))
  | ((with_reducible refine' on77 ?G ?S ?_); (case G => with_reducible assumption); (case S => with_reducible assumption))
  | ((with_reducible refine' r_search72 ?G ?S ?hx ?hc ?_); (case G => with_reducible assumption); (case S => with_reducible assumption); (case hx => assumption); (case hc => assumption))
  | ((with_reducible refine' r_search77 ?G ?S ?hx ?hc ?_); (case G => with_reducible assumption); (case S => with_reducible assumption); (case hx => assumption); (case hc => assumption))
  | ((with_reducible refine' r_meth PySem.F.plainAttrs_str PySem.F.slot_str_lower PySem.F.type_str_lower ?hb ?hf ?hp ?hl ?_); (case hb => rfl); (case hf => rfl); (case hp => rfl); (case hl => rfl))
  | ((with_reducible refine' r_lower ?S ?hl ?_); (case S => with_reducible assumption); (case hl => assumption); intro _ _ _))
theorem c_conv {B : Base} (G : Gnd B) (x : Value) (v : Str) (t : Tok) (b : Bool) (hv : v.length ≤ 1000) (hc : clean (if b then nameCode else valueCode) v = true) (ι : Led) :
    Fn B 107 [x, .str v t] [("name", .bool b)] 1 [] ι (fun r μ' new => μ' = [] ∧ r = .str v t) := by
  refine fn_intro (binds := [("self", x), ("value", .str v t), ("name", .bool b)]) G rfl rfl (fun s X => BindsTo.of_eq rfl) rfl (by decide) rfl rfl rfl ?_
  intro A s L rm S
  refine r_if ?_
  repeat walk_at "go"
  cases b with
  | true =>
    rw [if_pos rfl] at hc
    repeat walk_at "go"
    refine r_if ?_
    repeat walk_at "go"
    exact ret_at (new := []) (by assumption) ⟨rfl, rfl⟩
  | false =>
    rw [if_neg Bool.false_ne_true] at hc
    repeat walk_at "go"
    refine r_if ?_
    repeat walk_at "go"
    exact ret_at (new := []) (by assumption) ⟨rfl, rfl⟩
end
end
section
open PySem PySem.W PySem.Spec PySem.Calls PyProof.Rows
set_option maxRecDepth 100000
set_option maxHeartbeats 4000000
set_option linter.unusedVariables false
section

noncomputable abbrev hdrD (l : Addr) (hs : Int) (tk : Tok) (n : Nat) : Obj := { cls := .type "dict", data := .dict #[⟨hs, .str "_headers" tk, .ref l⟩] n }
/-- a table of headers at x, its list at l -/
noncomputable def HAt (ι : Led) (x l : Addr) : Prop := ∃ dx hs tk n, (x, instObj 208 dx) ∈ ι ∧ (dx, hdrD l hs tk n) ∈ ι
theorem HAt.mono {ι ι' : Led} (h : ∀ p ∈ ι, p ∈ ι') {x l} (H : HAt ι x l) : HAt ι' x l := let ⟨dx, hs, tk, n, a, b⟩ := H; ⟨dx, hs, tk, n, h _ a, h _ b⟩

/-- the pairs of a table of headers -/
inductive HdrL (ι : Led) : List Value → List (Nat × Nat) → Prop
  | nil : HdrL ι [] []
  | cons {a o l t u n vs es} : (a, tupO [.str (signS o) t, .str (digS l) u] n) ∈ ι → o < 5 → l < 5 → HdrL ι vs es → HdrL ι (.ref a :: vs) ((o, l) :: es)
theorem HdrL.mono {ι ι' : Led} (h : ∀ p ∈ ι, p ∈ ι') {vs es} (x : HdrL ι vs es) : HdrL ι' vs es := by
  induction x with
  | nil => exact .nil
  | cons m a b _ ih => exact .cons (h _ m) a b ih
theorem HdrL.app {ι : Led} {vs es vs' es'} (h : HdrL ι vs es) (h' : HdrL ι vs' es') : HdrL ι (vs ++ vs') (es ++ es') := by
  induction h with
  | nil => exact h'
  | cons m a b _ ih => exact .cons m a b ih
theorem HdrL.len {ι : Led} {vs es} (h : HdrL ι vs es) : vs.length = es.length := by
  induction h with
  | nil => rfl
  | cons _ _ _ _ ih => simp [ih]
theorem HdrL.get {ι : Led} {vs es} (h : HdrL ι vs es) : ∀ {i : Nat} {v : Value}, vs[i]? = some v → ∃ a o l t u n, es[i]? = some (o, l) ∧ v = .ref a ∧ (a, tupO [.str (signS o) t, .str (digS l) u] n) ∈ ι ∧ o < 5 ∧ l < 5 := by
  induction h with
  | nil => intro i v e; simp at e
  | cons m ho hl _ ih =>
    intro i v e
    cases i with
    | zero => cases e; exact ⟨_, _, _, _, _, _, rfl, rfl, m, ho, hl⟩
    | succ i => exact ih (by simpa using e)

section
variable {B : Base} {A : Around} {E : Value → Shared → Prop} {s : Shared} {L x l : Addr} {ls : Loc} {μ ι : Led} {Q : Value → Shared → Prop} {prog : Program} {w : World} {env : Env} {pos : Pos}
theorem HAt.inst (S : St B L s ls μ ι) (H : HAt ι x l) : ∃ dx hs tk n, InstAt s.heap x (instObj 208 dx) 208 (some (hdrD l hs tk n)) := by
  obtain ⟨dx, hs, tk, n, a, b⟩ := H
  exact ⟨dx, hs, tk, n, ⟨S.get (List.mem_append_right _ a), rfl, rfl, S.get (List.mem_append_right _ b)⟩⟩
theorem h_ga : findIn (KF B) (.ref 208) "__getattribute__" = some (some (.builtin "object.__getattribute__")) := by kernel_rfl
theorem h_gattr : findIn (KF B) (.ref 208) "__getattr__" = some none := by kernel_rfl
theorem h_sattr : findIn (KF B) (.ref 208) "__setattr__" = some (some (.builtin "object.__setattr__")) := by kernel_rfl
theorem h_find (hs : Int) (tk : Tok) (n : Nat) : findObj (KF B) 208 (some (hdrD l hs tk n)) "_headers" = some (.value (.ref l)) := by kernel_rfl
theorem r_getH {expr : Bool} (G : Gnd B) (S : St B L s ls μ ι) (H : HAt ι x l) (h : ∀ s', St B L s' ls μ ι → Q (.ref l) s') : wpAny (model PP B.w) A (getAttr (.ref x) "_headers" expr) Q E s := by
  obtain ⟨dx, hs, tk, n, I⟩ := H.inst S
  exact get_value (G.X.keeps S.own.keep) I h_ga (h_find hs tk n) rfl (h _ S.tok)

theorem own_conv : findIn (KF B) (.ref 208) "_convert_string_type" = some (some (.ref 107)) := by kernel_rfl
theorem own_get : findIn (KF B) (.ref 208) "get" = some (some (.ref 155)) := by kernel_rfl
theorem own_setdefault : findIn (KF B) (.ref 208) "setdefault" = some (some (.ref 198)) := by kernel_rfl
theorem own_add : findIn (KF B) (.ref 208) "add_header" = some (some (.ref 205)) := by kernel_rfl
theorem own_setitem : findIn (KF B) (.ref 208) "__setitem__" = some (some (.ref 121)) := by kernel_rfl
theorem own_delitem : findIn (KF B) (.ref 208) "__delitem__" = some (some (.ref 126)) := by kernel_rfl
theorem own_init : findIn (KF B) (.ref 208) "__init__" = some (some (.ref 100)) := by kernel_rfl
theorem isf_conv : typeIn (KF B) (.ref 107) = some (.type "function") := by kernel_rfl
theorem isf_get : typeIn (KF B) (.ref 155) = some (.type "function") := by kernel_rfl
theorem isf_setdefault : typeIn (KF B) (.ref 198) = some (.type "function") := by kernel_rfl
theorem isf_add : typeIn (KF B) (.ref 205) = some (.type "function") := by kernel_rfl
theorem isf_setitem : typeIn (KF B) (.ref 121) = some (.type "function") := by kernel_rfl
theorem isf_delitem : typeIn (KF B) (.ref 126) = some (.type "function") := by kernel_rfl
theorem isf_init : typeIn (KF B) (.ref 100) = some (.type "function") := by kernel_rfl
theorem mk208 : makesIn (KF B) 208 = true := by kernel_rfl

/-- a method of the class's, taken from an object of it -/
theorem r_own {name : Str} {f : Addr} {pl : Sem Bool} {Q : Value × List Value → Shared → Prop} (G : Gnd B) (S : St B L s ls μ ι) (H : HAt ι x l)
    (hf : findIn (KF B) (.ref 208) name = some (some (.ref f))) (ht : typeIn (KF B) (.ref f) = some (.type "function")) (hn : ((Str.ofString "_headers") == name) = false)
    (h : Q (.ref f, [.ref x]) s) : wpAny (model PP B.w) A (getMethod (.ref x) name pl) Q E s := by
  obtain ⟨dx, hs, tk, n, I⟩ := H.inst S
  refine method_fn (G.X.keeps S.own.keep) I h_ga h_gattr hf ht ?_ h
  show Option.map (·.isSome) (lookIn name _) = some false
  unfold lookIn
  dsimp only
  have e1 : List.find? (fun e : DictEntry => e.key.isStr name) [⟨hs, .str "_headers" tk, .ref l⟩] = none := by
    rw [List.find?_cons]
    have : Value.isStr (.str "_headers" tk) name = false := hn
    simp only [this]
    rfl
  rw [e1]
  rfl

/-- a call of a def of the text's with words -/
theorem cw_kw {e : Expr} {rest : List Expr} {kws : List Keyword} {f : Addr} {first : List Value} (G : Gnd B) (S : St B L s ls μ ι) (hk : keepIn (KF B) (.ref f) = true) (hall : (backToKw pos (keywordEach kws env)).all (·.1.isSome) = true)
    (h : wpAny (model PP B.w) A (spliced (backTo pos (starEach (e :: rest) env))) (fun vs s₁ => wpAny (model PP B.w) A (evalAll ((backToKw pos (keywordEach kws env)).map (·.2)))
      (fun ks s₂ => CallAt B A L (.ref f) (((backToKw pos (keywordEach kws env)).filterMap (·.1)).zip ks) Q E (first ++ vs) s₂) E s₁) E s)
    (hplain : ((backTo pos (starEach (e :: rest) env)).any (·.1) || (backToKw pos (keywordEach kws env)).any (·.1.isNone)) = false := by rfl) (he : starEach (e :: rest) env = (false, eval e env) :: starEach rest env := by rfl) :
    wpAny (model PP B.w) A (callWith pos (.ref f) first (backTo pos (starEach (e :: rest) env)) (backToKw pos (keywordEach kws env))) Q E s := by
  refine callWith_KW (K := KF B) (G.X) hk hall (wpAny_mono h (fun vs s₁ h₁ => wpAny_mono h₁ (fun ks s₂ h₂ => ?_) fun _ _ x => x) fun _ _ x => x) hplain he
  obtain ⟨⟨_, _, _, S⟩, hc⟩ := h₂
  exact ⟨G.X.keeps S.own.keep, hc⟩

/-- all of a list replaced: l[:] = m -/
theorem r_setslice {sl b : Addr} {vs ws : List Value} {n m : Nat} {μ' : Led} {Qu : Unit → Shared → Prop} (S : St B L s ls μ ι) (c : Chg l (listO vs n) (listO ws (if ws.length = vs.length then n else n + 1)) μ μ')
    (hs : (sl, ({ cls := .type "slice", data := .fields #[.none, .none, .none] } : Obj)) ∈ μ ++ ι) (hb : (b, listO ws m) ∈ μ ++ ι) (hne : b ≠ l)
    (hz : vs.length + ws.length ≤ sizeLine) (h : ∀ s', St B L s' ls μ' ι → Qu () s') :
    wpAny (model prog w) A (setItem (.ref l) (.ref sl) (.ref b)) Qu E s := by
  have ho := S.get (List.mem_append_left _ c.mem)
  have hos := S.get hs
  have hob := S.get hb
  have hT : s.TypeIs (.ref l) "list" := ⟨_, ho, rfl⟩
  have hTs : s.TypeIs (.ref sl) "slice" := ⟨_, hos, rfl⟩
  have hTb : s.TypeIs (.ref b) "list" := ⟨_, hob, rfl⟩
  unfold setItem
  refine wpAny_holding (wpAny_bind (wpAny_sequenceKey hT (by decide) ?_))
  refine wpAny_bind (wpAny_callSpecial?_slot (name := Str.ofString "__setitem__") hT F.slot_list_setitem
    (wpAny_call_entry F.slot_list_setitem hT F.entry_list_setitem ?_ (F.args_list_setitem_3 _ _ _)))
  show wpAny _ _ (Builtin.List.listSubscript? (.ref sl) >>= _) _ _ s
  refine wpAny_bind ?_
  unfold Builtin.List.listSubscript?
  refine wpAny_bind (wpAny_specialOf hTs slice_no_index ?_)
  simp only [Option.isNone_none, if_true]
  refine wpAny_pure ?_
  show wpAny _ _ (typeOf (.ref sl) >>= _) _ _ s
  refine wpAny_bind (wpAny_typeOf hTs ?_)
  rw [if_neg (by decide)]
  rw [listSliceParts_eq]
  refine wpAny_bind (wpAny_bind (wpAny_field hos rfl (x := .none) rfl (wpAny_bind (wpAny_listPart (k := none) .none ?_))))
  rw [if_neg (show ¬ ((rawPart none == rawInt 0) = true) from Bool.false_ne_true)]
  refine wpAny_bind (wpAny_field hos rfl (x := .none) rfl (wpAny_bind (wpAny_listPart (k := none) .none ?_)))
  refine wpAny_bind (wpAny_field hos rfl (x := .none) rfl (wpAny_bind (wpAny_listPart (k := none) .none (wpAny_pure ?_))))
  dsimp only
  have hsame : Builtin.List.listSameRef (.ref l) (.ref b) = false := by
    show (l == b) = false
    exact beq_false_of_ne (Ne.symm hne)
  rw [hsame, if_neg Bool.false_ne_true]
  unfold Builtin.List.listAllItems
  refine wpAny_bind (wpAny_bind (wpAny_typeOf hTb ?_))
  rw [if_pos (by decide)]
  refine listItems_at hob rfl ?_
  refine wpAny_bind (listItems_at ho rfl ?_)
  refine wpAny_bind (wpAny_of_eq (sliceIndices_raw none none none vs.toArray.size (by simp)) ?_)
  unfold sliceBounds
  dsimp only
  refine wpAny_bind (wpAny_rule ?_)
  have z1 : (none : Option Int).getD 1 > 0 := by decide
  simp only [if_pos z1, List.size_toArray]
  rw [if_neg (by unfold Builtin.List.listTooLong; simp only [decide_eq_true_eq]; omega)]
  have e1 : (max (0 : Int) (vs.length : Int)).toNat = vs.length := by omega
  rw [e1, show (0 : Int).toNat = 0 from rfl]
  have hf : ∀ xs : Array Value, xs = vs.toArray → xs.extract 0 0 ++ ws.toArray ++ xs.extract vs.length = ws.toArray := by
    rintro xs rfl
    simp
  refine wpAny_bind (listUpdate_at ho rfl ?_ (by rw [List.size_toArray]; omega) ?_)
  · refine wpAny_bind (wpAny_letGo (wpAny_pure ⟨_, rfl, wpAny_pure (h _ ?_)⟩))
    refine S.change (t := s.toks) c (Heap.SameBut.update ..).extBut ?_
    have q := PySem.IsL.update ho (fun xs => xs.extract 0 0 ++ ws.toArray ++ xs.extract vs.length)
    rw [hf _ rfl] at q
    rw [q]
    simp only [List.size_toArray, beq_iff_eq]
  · rw [hf _ rfl, List.size_toArray]; omega
end
end
end
section
open PySem PySem.W PySem.Spec PySem.Calls PyProof.Rows
set_option maxRecDepth 100000
local macro_rules | `(tactic| walk_at "go") => `(tactic| first
  | ((with_reducible refine' cw_t ?_ ?hp); (case hp => rfl))
  | ((with_reducible show wpAny _ _ (call (Value.type "type") [Value.str _ _]) _ _ _); refine call_type_of (Tx := "str") rfl (by decide +kernel) ?_)
  | ((with_reducible show wpAny _ _ (call (Value.type "type") [Value.ref _]) _ _ _); refine' r_typeL ?S ?hm ?_; (case S => with_reducible assumption); (case hm => walk_at "mem"))
  | ((with_reducible show wpAny _ _ (compareOp CmpOp.Is (Value.type _) (Value.type _)) _ _ _); refine wpAny_is_self (by rfl) ?_)
  | ((with_reducible show wpAny _ _ (compareOp CmpOp.IsNot (Value.type _) (Value.type _)) _ _ _); refine wpAny_isNot_self (by rfl) ?_)
  | ((with_reducible show wpAny _ _ (compareOp CmpOp.Is Value.none Value.none) _ _ _); refine wpAny_is_self (by rfl) ?_)
  | ((with_reducible show wpAny _ _ (compareOp CmpOp.IsNot Value.none Value.none) _ _ _); refine wpAny_isNot_self (by rfl) ?_)
  | ((with_reducible show wpAny _ _ (compareOp CmpOp.Is (Value.str _ _) Value.none) _ _ _); refine wpAny_is_other (by rfl) (fun h => nomatch h) ?_)
  | ((with_reducible show wpAny _ _ (compareOp CmpOp.IsNot (Value.str _ _) Value.none) _ _ _); refine wpAny_isNot_other (by rfl) (fun h => nomatch h) ?_)
  | ((with_reducible show wpAny _ _ (compareOp CmpOp.IsNot (Value.ref _) Value.none) _ _ _); refine wpAny_isNot_other (by rfl) (fun h => nomatch h) ?_)
  | (with_reducible refine' truthy_no ?_)
  | ((with_reducible refine' PyProof.Rows.eq_str ?_))
  | ((with_reducible refine' ne_str ?_))
  | ((with_reducible refine' r_meth plain_pattern slot_search type_search ?hb ?hf ?hp ?hl ?_); (case hb => rfl); (case hf => rfl); (case hp => rfl); (case hl => rfl))
  | ((with_reducible refine' on72 ?G ?S ?_); (case G => with_reducible assumption); (case S => with_reducible assumption))
  | ((with_reducible refine' on77 ?G ?S ?_); (case G => with_reducible assumption); (case S => with_reducible assumption))
  | ((with_reducible refine' r_search72 ?G ?S ?hx ?hc ?_); (case G => with_reducible assumption); (case S => with_reducible assumption); (case hx => assumption); (case hc => assumption))
  | ((with_reducible refine' r_search77 ?G ?S ?hx ?hc ?_); (case G => with_reducible assumption); (case S => with_reducible assumption); (case hx => assumption); (case hc => assumption))
  | ((with_reducible refine' r_meth PySem.F.plainAttrs_str PySem.F.slot_str_lower PySem.F.type_str_lower ?hb ?hf ?hp ?hl ?_); (case hb => rfl); (case hf => rfl); (case hp => rfl); (case hl => rfl))
  | ((with_reducible refine' r_lower ?S ?hl ?_); (case S => with_reducible assumption); (case hl => assumption); intro _ _ _))
section
open PySem PySem.W PySem.Spec PySem.Calls PyProof.Rows
set_option maxRecDepth 100000
set_option maxHeartbeats 4000000
set_option linter.unusedVariables false
section
theorem lower_sign {o : Nat} (h : o < 5) : Txt.lower (signS o) = signS o := by
  rcases o with _ | _ | _ | _ | _ | o
  all_goals first | decide +kernel | omega
theorem sign_short {o : Nat} (h : o < 5) : (signS o).length ≤ 1000 := by have := signS_len h; omega
theorem dig_short (l : Nat) : (digS l).length ≤ 1000 := Nat.le_of_ble_eq_true rfl
theorem sign_beq {o o' : Nat} (h : o < 5) (h' : o' < 5) : ((signS o).cps.toList == (signS o').cps.toList) = decide (o = o') := by
  rcases o with _ | _ | _ | _ | _ | o <;> rcases o' with _ | _ | _ | _ | _ | o' <;> first | omega | decide +kernel
theorem sign_beq' {o o' : Nat} (h : o < 5) (h' : o' < 5) : (signS o == signS o') = decide (o = o') := by
  rcases o with _ | _ | _ | _ | _ | o <;> rcases o' with _ | _ | _ | _ | _ | o' <;> first | omega | decide +kernel

/-- the first level of an operator in a table -/
noncomputable def lookupH (es : List (Nat × Nat)) (o : Nat) : Option Nat := (es.find? fun p => p.1 == o).map (·.2)
noncomputable def GetPost (l : Addr) (vs : List Value) (n : Nat) (es : List (Nat × Nat)) (o : Nat) (dflt : Value) (v : Value) (μ' new : Led) : Prop :=
  μ' = [(l, listO vs n)] ∧ match lookupH es o with | some lev => lev < 5 ∧ ∃ tk, v = .str (digS lev) tk | none => v = dflt
local macro_rules | `(tactic| walk_at "at") => `(tactic| first | with_reducible assumption | exact HAt.mono (fun _ h => List.mem_append_right _ h) (by assumption) | exact HAt.mono (fun _ h => List.mem_cons_of_mem _ h) (by assumption) | assumption | ((refine' HAt.mono ?h9 ‹HAt _ _ _›); (case h9 => intro p hp; simp only [List.mem_append, List.mem_cons, hp, true_or, or_true])))
local macro_rules | `(tactic| walk_at "go") => `(tactic| first
  | ((with_reducible refine' Attribute_Name_ ?_ ?he); (case he => rfl))
  | ((with_reducible refine' r_getH ?G ?S ?H ?_); (case G => with_reducible assumption); (case S => with_reducible assumption); (case H => walk_at "at"); intro _ _)
  | ((with_reducible show wpAny _ _ (eval (Expr.Call (Expr.Attribute _ _ _) _ (_ :: _) _) _) _ _ _); (with_reducible refine' methodCall_KW ?_ ?he); (case he => rfl))
  | ((with_reducible show wpAny _ _ (eval (Expr.Call (Expr.Attribute _ (Str.ofString "get") _) _ [] _) _) _ _ _); (with_reducible refine' MethodCall_ ?_ ?he); (case he => rfl))
  | ((with_reducible show wpAny _ _ (eval (Expr.Call (Expr.Attribute _ (Str.ofString "setdefault") _) _ [] _) _) _ _ _); (with_reducible refine' MethodCall_ ?_ ?he); (case he => rfl))
  | ((with_reducible show wpAny _ _ (eval (Expr.Call (Expr.Attribute _ (Str.ofString "add_header") _) _ [] _) _) _ _ _); (with_reducible refine' MethodCall_ ?_ ?he); (case he => rfl))
  | ((with_reducible refine' r_own (name := Str.ofString "_convert_string_type") ?G ?S ?H own_conv isf_conv ?hn ?_); (case G => with_reducible assumption); (case S => with_reducible assumption); (case H => walk_at "at"); (case hn => decide))
  | ((with_reducible refine' r_own (name := Str.ofString "get") ?G ?S ?H own_get isf_get ?hn ?_); (case G => with_reducible assumption); (case S => with_reducible assumption); (case H => walk_at "at"); (case hn => decide))
  | ((with_reducible refine' r_own (name := Str.ofString "setdefault") ?G ?S ?H own_setdefault isf_setdefault ?hn ?_); (case G => with_reducible assumption); (case S => with_reducible assumption); (case H => walk_at "at"); (case hn => decide))
  | ((with_reducible refine' r_own (name := Str.ofString "add_header") ?G ?S ?H own_add isf_add ?hn ?_); (case G => with_reducible assumption); (case S => with_reducible assumption); (case H => walk_at "at"); (case hn => decide))
  | ((with_reducible refine' cw_kw ?G ?S ?hk ?hall ?_ ?hp ?he); (case G => with_reducible assumption); (case S => with_reducible assumption); (case hk => rfl); (case hall => rfl); (case hp => rfl); (case he => rfl))
  | ((with_reducible refine' cw_f ?G ?S ?hk ?_ ?hp); (case G => with_reducible assumption); (case S => with_reducible assumption); (case hk => rfl); (case hp => rfl))
  | (with_reducible refine' kwAll_cons ?_)
  | (with_reducible refine' kwAll_nil ?_)
  )
local macro_rules | `(tactic| walk_at "convN") => `(tactic| (refine' CallAt.of ?S (call_pure0 ?S2 ?rm (fun ι' _ => c_conv ?G _ _ _ true ?hv ?hc ι') ?_); (case S => assumption); (case S2 => assumption); (case rm => exact Room.less (by assumption) (by omega)); (case G => assumption); (case hv => assumption); (case hc => assumption); intro _ _ _ h9; subst h9))
local macro_rules | `(tactic| walk_at "convV") => `(tactic| (refine' CallAt.of ?S (call_pure0 ?S2 ?rm (fun ι' _ => c_conv ?G _ _ _ false ?hv ?hc ι') ?_); (case S => assumption); (case S2 => assumption); (case rm => exact Room.less (by assumption) (by omega)); (case G => assumption); (case hv => assumption); (case hc => assumption); intro _ _ _ h9; subst h9))
theorem c_get {B : Base} (G : Gnd B) (x l : Addr) (vs : List Value) (n : Nat) (es : List (Nat × Nat)) (o : Nat) (ho : o < 5) (t : Tok) (more : List Value) (dflt : Value) (hm : more = [dflt] ∨ (more = [] ∧ dflt = .none)) (ι₀ ι : Led) (hsub : ∀ p ∈ ι₀, p ∈ ι) (H : HAt ι₀ x l) (hes : HdrL ι₀ vs es) (hlen : vs.length ≤ 1000) :
    Fn B 155 (.ref x :: .str (signS o) t :: more) [] 3 [(l, listO vs n)] ι (GetPost l vs n es o dflt) := by
  have H' := H.mono hsub
  refine fn_intro (binds := [("self", .ref x), ("name", .str (signS o) t), ("default", dflt)]) G rfl rfl ?_ rfl (by decide) rfl rfl rfl ?_
  · intro s X
    rcases hm with rfl | ⟨rfl, rfl⟩
    · exact binds_K X rfl rfl rfl rfl rfl
    · exact binds_K X rfl rfl rfl rfl rfl
  intro A s L rm S
  have hs := sign_short ho
  have hcl := clean_sign ho
  repeat walk_at "go"
  rw [lower_sign ho]
  walk_at "convN"
  repeat walk_at "go"
  refine r_for ?_
  repeat walk_at "go"
  rename_i S9
  refine loop_list (vs := vs) (ol := listO vs n) rm.handled S9 ⟨rfl, _, rfl⟩ (fun i ls μ ι' => ι' = ι ∧ μ = [(l, listO vs n)] ∧ (∃ tk, LocAll ls [("name", .str (signS o) tk), ("default", dflt)]) ∧ ∀ p ∈ es.take i, (p.1 == o) = false) ?_ ?_ ?_ ?_
  · exact ⟨rfl, rfl, ⟨_, rfl, rfl, trivial⟩, fun p hp => by simp at hp⟩
  · rintro i ls μ ι' ⟨rfl, rfl, _⟩ s O
    exact (O.here (l, listO vs n) (.head _)).1
  · rintro i v ls μ ι' s1 it oo hv ⟨rfl, rfl, ⟨tk, hls⟩, hno⟩ S1
    obtain ⟨a, o1, l1, t1, u1, n1, he, rfl, hm1, ho1, hl1⟩ := hes.get hv
    have S2 := S1.pick hls
    clear S1 S9
    have hm2 := hsub _ hm1
    have hs1 := sign_short ho1
    repeat walk_at "go"
    refine r_if ?_
    repeat walk_at "go"
    rw [lower_sign ho1]
    by_cases e1 : o1 = o
    · subst e1
      refine ite_pos (by simp) ?_
      repeat walk_at "go"
      rename_i S3
      show Ret B L ι' (GetPost l vs n es o1 dflt) (.ret (.str (digS l1) u1)) _
      refine ret_sub (μ' := [(l, listO vs n)]) (new := []) S3 (List.sublist_cons_self _ _) ⟨rfl, ?_⟩
      have hf : lookupH es o1 = some l1 := by
        unfold lookupH
        have hl : es = es.take i ++ (o1, l1) :: es.drop (i + 1) := by
          have h1 := List.getElem?_eq_some_iff.mp he
          obtain ⟨h2, h3⟩ := h1
          have h4 := List.take_append_drop i es
          rw [List.drop_eq_getElem_cons h2, h3] at h4
          exact h4.symm
        rw [hl, List.find?_append]
        have h0 : (es.take i).find? (fun p => p.1 == o1) = none := List.find?_eq_none.mpr fun p hp => by rw [hno p hp]; exact Bool.false_ne_true
        rw [h0]
        simp
      rw [hf]
      exact ⟨hl1, _, rfl⟩
    · refine ite_neg (by rw [sign_beq' ho1 ho]; simpa using e1) ?_
      repeat walk_at "go"
      rename_i S3
      refine ⟨_, _, _, S3, rfl, rfl, ⟨tk, rfl, rfl, trivial⟩, ?_⟩
      intro p hp
      rw [List.take_add_one, he] at hp
      rcases List.mem_append.mp hp with hp | hp
      · exact hno p hp
      · simp at hp; subst hp; exact beq_false_of_ne e1
  · rintro ls μ ι' s1 ⟨rfl, rfl, ⟨tk, hls⟩, hno⟩ S1
    have S2 := S1.pick hls
    clear S1 S9
    repeat walk_at "go"
    refine ret_sub (μ' := [(l, listO vs n)]) (new := []) (by assumption) (List.Sublist.refl _) ⟨rfl, ?_⟩
    have hf : lookupH es o = none := by
      unfold lookupH
      rw [Option.map_eq_none_iff, List.find?_eq_none]
      intro p hp
      rw [hno p (by rw [hes.len, List.take_length]; exact hp)]
      exact Bool.false_ne_true
    rw [hf]
end
end
section
open PySem PySem.W PySem.Spec PySem.Calls PyProof.Rows
set_option maxRecDepth 100000
set_option maxHeartbeats 4000000
set_option linter.unusedVariables false
section
section
variable {B : Base} {A : Around} {E : Value → Shared → Prop} {s : Shared} {L x l dx : Addr} {ls : Loc} {μ ι : Led} {Q : Value → Shared → Prop} {Qu : Unit → Shared → Prop} {prog : Program} {w : World} {env : Env} {pos : Pos}
theorem put_hdr (l : Addr) (h : Int) (tk : Tok) : ∃ n, Obj.putName "_headers" h (.str "_headers" tk) (.ref l) dict0 = hdrD l h tk n := ⟨_, rfl⟩
theorem h_over : plainOver (KF B) 208 = true := by kernel_rfl
theorem h_taker : takerIn (KF B) 208 "_headers" = some none := by kernel_rfl
theorem h_hasD : (clsIn (KF B) 208).any (·.hasDict) = true := by kernel_rfl
theorem r_setH (G : Gnd B) (S : St B L s ls ((dx, dict0) :: μ) ι) (hx : (x, instObj 208 dx) ∈ ι) (h : ∀ s' hs tk n, St B L s' ls ((dx, hdrD l hs tk n) :: μ) ι → Qu () s') :
    wpAny (model PP B.w) A (setAttr (.ref x) "_headers" (.ref l)) Qu E s := by
  have S1 := S.tok (t := s.toks + 1)
  have X := G.X.keeps S1.own.keep
  have hD := S1.get (.head _)
  have hX := S1.get (List.mem_append_right _ hx)
  have I : InstAt ({ s with toks := s.toks + 1 } : Shared).heap x (instObj 208 dx) 208 (some dict0) := ⟨hX, rfl, rfl, hD⟩
  refine set_plain (K := KF B) (G.X.keeps S.own.keep) I h_sattr (osa_open (s := { s with toks := s.toks + 1 }) X I h_over h_taker fun b => ?_)
  obtain ⟨cd, hc, hd'⟩ := any_some (h_hasD (B := B))
  refine wpAny_bind (wpAny_pure (wpAny_bind (wpAny_bind (wpAny_loadPart hX (wpAny_bind ((looks_clsIn X hc).here ?_))))))
  rw [hd']
  refine wpAny_pure (a := some dx) (wpAny_bind (wpAny_pure (wpAny_bind ?_)))
  unfold nsSet
  refine wpAny_bind (wpAny_bind (wpAny_askSetting (wpAny_pure (wpAny_bind (wpAny_mkText (wpAny_bind (wpAny_loadPart hD ?_)))))))
  dsimp only
  rw [if_neg (by decide)]
  refine wpAny_updatePart hD ?_
  generalize (if (Str.ofString "_headers").cps.isEmpty = true then (0 : Int) else reduceHash ((model PP B.w).w.params.strHash (Str.ofString "_headers").cps)) = hh
  obtain ⟨n, hn⟩ := put_hdr l hh (s.toks + 1)
  have U : (s.heap.update dx (Obj.putName "_headers" hh (.str "_headers" (s.toks + 1)) (.ref l))).get? dx = some (hdrD l hh (s.toks + 1) n) := by
    rw [← hn]
    exact Heap.get?_update_self _ hD (by rw [hn]; rfl)
  refine wpAny_bind (wpAny_lookBehind U (pastItsLine_dict (Nat.le_of_ble_eq_true rfl)) ?_)
  refine wpAny_pure ?_
  exact h _ hh (s.toks + 1) n (S1.change (t := s.toks + 2) .head (Heap.SameBut.update ..).extBut U)
end
end
end
section
open PySem PySem.W PySem.Spec PySem.Calls PyProof.Rows
set_option maxRecDepth 100000
local macro_rules | `(tactic| walk_at "at") => `(tactic| first | with_reducible assumption | exact HAt.mono (fun _ h => List.mem_append_right _ h) (by assumption) | exact HAt.mono (fun _ h => List.mem_cons_of_mem _ h) (by assumption) | assumption | ((refine' HAt.mono ?h9 ‹HAt _ _ _›); (case h9 => intro p hp; simp only [List.mem_append, List.mem_cons, hp, true_or, or_true])))
local macro_rules | `(tactic| walk_at "go") => `(tactic| first
  | ((with_reducible refine' Attribute_Name_ ?_ ?he); (case he => rfl))
  | ((with_reducible refine' r_getH ?G ?S ?H ?_); (case G => with_reducible assumption); (case S => with_reducible assumption); (case H => walk_at "at"); intro _ _)
  | ((with_reducible show wpAny _ _ (eval (Expr.Call (Expr.Attribute _ _ _) _ (_ :: _) _) _) _ _ _); (with_reducible refine' methodCall_KW ?_ ?he); (case he => rfl))
  | ((with_reducible show wpAny _ _ (eval (Expr.Call (Expr.Attribute _ (Str.ofString "get") _) _ [] _) _) _ _ _); (with_reducible refine' MethodCall_ ?_ ?he); (case he => rfl))
  | ((with_reducible show wpAny _ _ (eval (Expr.Call (Expr.Attribute _ (Str.ofString "setdefault") _) _ [] _) _) _ _ _); (with_reducible refine' MethodCall_ ?_ ?he); (case he => rfl))
  | ((with_reducible show wpAny _ _ (eval (Expr.Call (Expr.Attribute _ (Str.ofString "add_header") _) _ [] _) _) _ _ _); (with_reducible refine' MethodCall_ ?_ ?he); (case he => rfl))
  | ((with_reducible refine' r_own (name := Str.ofString "_convert_string_type") ?G ?S ?H own_conv isf_conv ?hn ?_); (case G => with_reducible assumption); (case S => with_reducible assumption); (case H => walk_at "at"); (case hn => decide))
  | ((with_reducible refine' r_own (name := Str.ofString "get") ?G ?S ?H own_get isf_get ?hn ?_); (case G => with_reducible assumption); (case S => with_reducible assumption); (case H => walk_at "at"); (case hn => decide))
  | ((with_reducible refine' r_own (name := Str.ofString "setdefault") ?G ?S ?H own_setdefault isf_setdefault ?hn ?_); (case G => with_reducible assumption); (case S => with_reducible assumption); (case H => walk_at "at"); (case hn => decide))
  | ((with_reducible refine' r_own (name := Str.ofString "add_header") ?G ?S ?H own_add isf_add ?hn ?_); (case G => with_reducible assumption); (case S => with_reducible assumption); (case H => walk_at "at"); (case hn => decide))
  | ((with_reducible refine' cw_kw ?G ?S ?hk ?hall ?_ ?hp ?he); (case G => with_reducible assumption); (case S => with_reducible assumption); (case hk => rfl); (case hall => rfl); (case hp => rfl); (case he => rfl))
  | ((with_reducible refine' cw_f ?G ?S ?hk ?_ ?hp); (case G => with_reducible assumption); (case S => with_reducible assumption); (case hk => rfl); (case hp => rfl))
  | (with_reducible refine' kwAll_cons ?_)
  | (with_reducible refine' kwAll_nil ?_)
  )
local macro_rules | `(tactic| walk_at "convN") => `(tactic| (refine' CallAt.of ?S (call_pure0 ?S2 ?rm (fun ι' _ => c_conv ?G _ _ _ true ?hv ?hc ι') ?_); (case S => assumption); (case S2 => assumption); (case rm => exact Room.less (by assumption) (by omega)); (case G => assumption); (case hv => assumption); (case hc => assumption); intro _ _ _ h9; subst h9))
local macro_rules | `(tactic| walk_at "convV") => `(tactic| (refine' CallAt.of ?S (call_pure0 ?S2 ?rm (fun ι' _ => c_conv ?G _ _ _ false ?hv ?hc ι') ?_); (case S => assumption); (case S2 => assumption); (case rm => exact Room.less (by assumption) (by omega)); (case G => assumption); (case hv => assumption); (case hc => assumption); intro _ _ _ h9; subst h9))
section
open PySem PySem.W PySem.Spec PySem.Calls PyProof.Rows
set_option maxRecDepth 100000
set_option maxHeartbeats 4000000
set_option linter.unusedVariables false
section
theorem name_debug {M : Model} {A : Around} {E : Value → Shared → Prop} {s : Shared} {env : Env} {pos : Pos} {Q : Value → Shared → Prop} (h : Q (.bool true) s) : wpAny M A (eval (.Name "__debug__" pos) env) Q E s := by
  have e : eval (.Name "__debug__" pos) env = ((do
      standAt pos
      if (Str.ofString "__debug__") == ("__debug__" : Str) then (do rule "name.__debug__"; pure (Value.bool true)) else loadName env "__debug__") : Sem Value) := rfl
  rw [e, if_pos (by decide)]
  exact wpAny_bind (wpAny_standAt (wpAny_bind (wpAny_rule (wpAny_pure h))))
local macro_rules | `(tactic| walk_at "go") => `(tactic| first
  | ((with_reducible refine' r_asgA ?_ ?hs); (case hs => rfl))
  | ((with_reducible refine' r_setH ?G ?S ?hx ?_); (case G => with_reducible assumption); (case S => with_reducible assumption); (case hx => assumption); intro _ _ _ _ _)
  | (with_reducible refine' name_debug ?_)
  )
theorem c_init {B : Base} (G : Gnd B) (x dx l : Addr) (ι : Led) (hx : (x, instObj 208 dx) ∈ ι) (hl : (l, listO [] 0) ∈ ι) :
    Fn B 100 [.ref x, .ref l] [] 1 [(dx, dict0)] ι (fun v μ' new => v = .none ∧ new = [] ∧ ∃ hs tk n, μ' = [(dx, hdrD l hs tk n)]) := by
  refine fn_intro (binds := [("self", .ref x), ("headers", .ref l)]) G rfl rfl ?_ rfl (by decide) rfl rfl rfl ?_
  · intro s X
    exact binds_K X rfl rfl rfl rfl rfl
  intro A s L rm S
  repeat walk_at "go"
  refine r_if ?_
  repeat walk_at "go"
  refine r_if ?_
  repeat walk_at "go"
  refine r_for ?_
  repeat walk_at "go"
  rename_i hs tk n S9
  refine loop_list (vs := []) (ol := listO [] 0) rm.handled S9 ⟨rfl, _, rfl⟩ (fun i ls μ ι' => ι' = ι ∧ μ = [(dx, hdrD l hs tk n)]) ⟨rfl, rfl⟩ ?_ ?_ ?_
  · rintro i ls μ ι' ⟨rfl, rfl⟩ s O
    exact (O.here (l, listO [] 0) (List.mem_append_right _ hl)).1
  · intro i v ls μ ι' s1 it oo hv
    simp at hv
  · rintro ls μ ι' s1 ⟨rfl, rfl⟩ S1
    refine r_nil ?_
    exact ⟨_, [(dx, hdrD l hs tk n)], [], S1, rfl, rfl, _, _, _, rfl⟩

section
variable {B : Base} {f : Addr} {args : List Value} {kw : List (Str × Value)} {d : Nat} {μ ι : Led} {post : Value → Led → Led → Prop} {A : Around} {s : Shared} {L : Addr} {ls : Loc} {R : Result → Shared → Prop}
theorem code_fn {μ1 μ2 : Led} (S : St B L s ls μ ι) (rm : Room A d) (hp : μ.Perm (μ1 ++ μ2))
    (C : ∀ ι', (∀ p ∈ μ2 ++ ι, p ∈ ι') → Fn B f args kw d μ1 ι' post)
    (h : ∀ v μ1' new s', St B L s' ls (μ1' ++ μ2) (new ++ ι) → post v μ1' new → R (.ok (.ret v)) s') : codeAny (model PP B.w) A (.call (.ref f) ⟨args, kw⟩) R s := by
  obtain ⟨oL, hL, m, hm, hl⟩ := S.frame
  have O0 : Own B s (μ1 ++ μ2) ι := S.own.perm (hp.symm.append_right _)
  have hne : ∀ p ∈ μ1 ++ μ2 ++ ι, p.1 ≠ L := fun p h => S.ne p ((hp.symm.append_right ι).subset h)
  have O : Own B s μ1 ((L, oL) :: (μ2 ++ ι)) := by
    refine Own.perm (μ := (L, oL) :: (μ1 ++ μ2)) (ι := ι) ⟨S.own.keep, fun p hp' => ?_, ?_, S.own.gens, S.own.os⟩ ?_
    · rcases List.mem_cons.mp hp' with rfl | x
      · exact ⟨hL, S.H_L⟩
      · exact O0.here p x
    · show ((L, oL) :: (μ1 ++ μ2 ++ ι) |>.map (·.1)).Nodup
      rw [List.map_cons, List.nodup_cons]
      refine ⟨fun x => ?_, O0.nd⟩
      obtain ⟨p, hp', e⟩ := List.mem_map.mp x
      exact hne p hp' e
    · simp only [List.cons_append, List.append_assoc]
      exact List.perm_middle
  refine C _ (fun p hp' => .tail _ hp') A s _ rm O (Nat.le_trans S.lo (Nat.le_of_lt S.L_lt)) fun v μ' nw s' S' hpost => ?_
  have O' : Own B s' ((L, oL) :: (μ' ++ μ2)) (nw ++ ι) := by
    refine S'.perm ?_
    have e : (μ' ++ (nw ++ (L, oL) :: (μ2 ++ ι))).Perm ((L, oL) :: (μ' ++ (nw ++ (μ2 ++ ι)))) := by
      rw [← List.append_assoc, ← List.append_assoc]
      exact List.perm_middle
    refine (List.Perm.trans ?_ e.symm)
    simp only [List.cons_append, List.append_assoc]
    refine List.Perm.cons _ (List.Perm.append_left _ ?_)
    rw [← List.append_assoc, ← List.append_assoc]
    exact List.perm_append_comm.append_right _
  have nd := nodup_fst O'.nd (List.cons_append ..)
  refine h v μ' nw s' ⟨O'.sub (List.sublist_cons_self _ _), ⟨m, hm _ ?_, hl⟩, S.lo, nd⟩ hpost
  exact (O'.here (L, oL) (.head _)).1
end
/-- Headers([]) -/
theorem r_make {B : Base} {A : Around} {E : Value → Shared → Prop} {s : Shared} {L l : Addr} {ls : Loc} {μ ι : Led} {Q : Value → Shared → Prop} {d : Nat} (G : Gnd B) (rm : Room A (d + 3)) (S : St B L s ls μ ι) (hl : (l, listO [] 0) ∈ μ ++ ι)
    (h : ∀ s' x dx hs tk n, St B L s' ls μ ((dx, hdrD l hs tk n) :: (x, instObj 208 dx) :: ι) → Q (.ref x) s') : wpAny (model PP B.w) A (call (.ref 208) [.ref l]) Q E s := by
  have X := G.X.keeps S.own.keep
  refine wpAny_call ?_
  obtain ⟨hh, g, dr, t, os⟩ := s
  refine make_core (makes_of X mk208) (looks_findIn X own_init) (fun self => bind_fn X self isf_init) (.inl rfl) ?_
  have S1 := S.pushM (o := emptyDict) (t := t) rfl
  have S2 := S1.pushI (o := instObj 208 hh.objs.size) (t := t) rfl
  dsimp only at S2
  rw [Heap.size_push] at S2
  have rm' : Room (A.under (.builtin "type.__call__" ⟨[.ref 208, .ref l], []⟩)) 1 := ⟨rm.1, by
    have := rm.2.1
    show A.depth + _ + 1 < 900
    have : (Code.builtin "type.__call__" ⟨[.ref 208, .ref l], []⟩).weight ≤ 1 := Nat.le_of_ble_eq_true (by kernel_rfl)
    omega, by
    have := rm.2.2
    show A.units + _ + 10 < 9000
    have : (Code.builtin "type.__call__" ⟨[.ref 208, .ref l], []⟩).cUnits ≤ 10 := Nat.le_of_ble_eq_true (by kernel_rfl)
    omega⟩
  refine code_fn (μ1 := [(hh.objs.size, emptyDict)]) (μ2 := μ) S2 rm' (List.Perm.refl _) (fun ι' h' => c_init G _ _ l ι' (h' _ (List.mem_append_right _ (.head _))) (h' _ ?_)) ?_
  · rcases List.mem_append.mp hl with q | q
    · exact List.mem_append_left _ q
    · exact List.mem_append_right _ (.tail _ q)
  · rintro v μ' new s' S' ⟨rfl, rfl, hs, tk, n, rfl⟩
    exact ⟨rfl, h s' _ _ hs tk n S'.freeze⟩
end
end
section
open PySem PySem.W PySem.Spec PySem.Calls PyProof.Rows
set_option maxRecDepth 100000
local macro_rules | `(tactic| walk_at "go") => `(tactic| first
  | ((with_reducible refine' r_asgA ?_ ?hs); (case hs => rfl))
  | ((with_reducible refine' r_setH ?G ?S ?hx ?_); (case G => with_reducible assumption); (case S => with_reducible assumption); (case hx => assumption); intro _ _ _ _ _)
  | (with_reducible refine' name_debug ?_)
  )
section
open PySem PySem.W PySem.Spec PySem.Calls PyProof.Rows
set_option maxRecDepth 100000
set_option maxHeartbeats 4000000
set_option linter.unusedVariables false
section
section
variable {B : Base} {A : Around} {E : Value → Shared → Prop} {s : Shared} {L x l dx c : Addr} {ls : Loc} {μ ι : Led} {Q : Value → Shared → Prop} {Qu : Unit → Shared → Prop} {prog : Program} {w : World} {env : Env} {pos : Pos} {y : Str} {v : Value} {oc : Obj} {M : Model}
theorem r_locE (S : St B L s ls μ ι) (hL : env.locals = L) (hk : env.scope.kind = .function) (hl : env.kindOf y = some .local) (hv : ls.lookup y = some v) (hd : (y == ("__debug__" : Str)) = false) (h : Q v s) : wpAny M A (eval (.Name y pos) env) Q E s := by
  obtain ⟨m, hm, hl'⟩ := S.ns
  subst hL
  exact wpAny_Name (wpAny_loadName_local hk hl hm (hl' _ _ hv) h) hd
theorem r_cellE (S : St B L s ls μ ι) (hm : (c, oc) ∈ μ ++ ι) (hd : oc.data = .cell (some v)) (hk : env.scope.kind = .function) (hl : env.kindOf y = some .cell) (hc : env.cells.lookup y = some c) (h : Q v s) (hdb : (y == ("__debug__" : Str)) = false) :
    wpAny M A (eval (.Name y pos) env) Q E s :=
  wpAny_Name (wpAny_loadName_cell hk hl hc ⟨oc, S.get hm, hd⟩ h) hdb
theorem r_cellS {v₀ : Option Value} (S : St B L s ls ((c, oc) :: μ) ι) (hk : env.scope.kind = .function) (hl : env.kindOf y = some .cell) (hc : env.cells.lookup y = some c) (hd : oc.data = .cell v₀)
    (h : ∀ s' oc', oc'.data = .cell (some v) → St B L s' ls ((c, oc') :: μ) ι → Qu () s') : wpAny M A (storeName env y v) Qu E s := by
  refine wpAny_storeName_cell hk hl hc ⟨oc, S.get (.head _), hd⟩ fun h' hc' hs => ?_
  obtain ⟨o', ho', hd'⟩ := hc'
  exact h _ o' hd' (S.change (t := s.toks) .head hs.extBut ho')
end

theorem fn_introC {B : Base} {f : Addr} {d : Nat} {μ ι : Led} {post : Value → Led → Led → Prop} (G : Gnd B) {name qual : Str} {params : Arguments} {body : List Stmt} {names : List (Str × NameKind)} {ig ic : Bool} {more : List (Str × Const)} {dV kV doc pm cdv ct oc : Value} {an od : Option Addr} {osl : Array (Option Value)} {xv v : Value}
    (ho : (KF B).lookup f = some ⟨oc, od, .func (fnOf name qual params body ⟨.function, names, ig, ic, more⟩ dV kV doc pm an cdv ct), osl⟩) (hcd : codeIn (KF B) cdv qual = true)
    (hnames : names = [(("self" : Str), NameKind.local), (("name" : Str), NameKind.cell)]) (hig : ig = false) (hic : ic = false)
    (hbind : bindArgs (fnOf name qual params body ⟨.function, names, ig, ic, more⟩ dV kV doc pm an cdv ct) ⟨[xv, v], []⟩ = pure [(("self" : Str), xv), (("name" : Str), v)])
    (h : ∀ A s L ocl, Room A d → St B L s [("self", xv)] ((L + 1, ocl) :: μ) ι → ocl.data = .cell (some v) → wpAny (model PP B.w) A (execs body (callEnvC (fnOf name qual params body ⟨.function, names, ig, ic, more⟩ dV kV doc pm an cdv ct) L f)) (Ret B L ι post) (fun _ _ => False) s) :
    Fn B f [xv, v] [] (d + 1) μ ι post := by
  subst hnames hig hic
  intro A s R rm S big k
  have X : (KF B).In s.heap := G.X.keeps S.keep
  refine codeAny_call_cells (fd := fnOf name qual params body ⟨.function, [(("self" : Str), NameKind.local), (("name" : Str), NameKind.cell)], false, false, more⟩ dV kV doc pm an cdv ct) (body := body) (by have := rm.2.1; show A.depth < 1000; omega) (X _ _ ho) rfl (G.nolimit S) (codeRec_of X hcd) rfl hbind rfl ?_ (fun s₁ IC => ?_) rfl rfl rfl
  · intro y hy
    rcases List.mem_cons.mp hy with rfl | hy
    · exact .inl rfl
    · rw [List.mem_singleton.mp hy]
      exact .inr ⟨rfl, rfl⟩
  obtain ⟨oc1, ho1, hd1⟩ := IC.cell "name" (s.heap.objs.size + 1) rfl
  have new : ∀ p ∈ μ ++ ι, p.1 < s.heap.objs.size := fun p hp => Heap.lt_size (S.here p hp).1
  obtain ⟨⟨h', t', es⟩, hns, hk₁, hle⟩ := IC.toInCall
  have hB : B.H.get? (s.heap.objs.size + 1) = none := none_of_size (by omega)
  have S1 : St B s.heap.objs.size s₁ [("self", xv)] ((s.heap.objs.size + 1, oc1) :: μ) ι := by
    refine ⟨⟨fun b o e => hk₁ _ _ (S.keep b o e), fun p hp => ?_, ?_, ?_, ?_⟩, ⟨_, hns, fun y u hy => ?_⟩, big, fun p hp => ?_⟩
    · rcases List.mem_cons.mp hp with rfl | hp
      · exact ⟨ho1, hB⟩
      · exact ⟨hk₁ _ _ (S.here p hp).1, (S.here p hp).2⟩
    · show ((s.heap.objs.size + 1, oc1) :: (μ ++ ι) |>.map (·.1)).Nodup
      rw [List.map_cons, List.nodup_cons]
      refine ⟨fun hm => ?_, S.nd⟩
      obtain ⟨p, hp, e⟩ := List.mem_map.mp hm
      have h1 := new p hp
      have h2 : p.1 = s.heap.objs.size + 1 := e
      exact absurd h2 (Nat.ne_of_lt (Nat.lt_succ_of_lt h1))
    · rw [es]; exact S.gens
    · rw [es]; exact S.os
    · rw [List.lookup_cons] at hy
      by_cases q : y = "self"
      · subst q
        simp only [beq_self_eq_true] at hy
        exact hy
      · have : (y == ("self" : Str)) = false := by simpa using q
        rw [this] at hy
        cases hy
    · rcases List.mem_cons.mp hp with rfl | hp
      · show s.heap.objs.size + 1 ≠ s.heap.objs.size; omega
      · exact Nat.ne_of_lt (new p hp)
  refine wpAny_mono (h _ _ s.heap.objs.size oc1 rm.deeper S1 hd1) (fun fl s' hr => ?_) fun _ _ x => x.elim
  obtain ⟨ls', μ', nw, S', hp⟩ := hr
  exact k _ μ' nw s' S'.own hp

open Classical in
/-- does this pair stay: its name is another -/
noncomputable def stays (ι : Led) (o : Nat) (v : Value) : Bool := decide (∃ a o' l t u n, v = .ref a ∧ (a, tupO [.str (signS o') t, .str (digS l) u] n) ∈ ι ∧ o' < 5 ∧ o' ≠ o)
theorem stays_eq {ι : Led} {o o' a l t u n} (nd : ∀ p ∈ ι, ∀ q ∈ ι, p.1 = q.1 → p.2 = q.2) (ho : o < 5) (ho' : o' < 5) (hm : (a, tupO [.str (signS o') t, .str (digS l) u] n) ∈ ι) : stays ι o (.ref a) = (o' != o) := by
  unfold stays
  by_cases h : o' = o
  · rw [show (o' != o) = false by simp [h]]
    refine @decide_eq_false _ (Classical.propDecidable _) ?_
    rintro ⟨a1, o1, l1, t1, u1, n1, e, m1, h1, h2⟩
    cases e
    have q := nd _ hm _ m1 rfl
    have q2 : signS o' = signS o1 := by
      have q3 := congrArg Obj.data q
      have q4 : [Value.str (signS o') t, Value.str (digS l) u] = [Value.str (signS o1) t1, Value.str (digS l1) u1] := by
        have q5 : ([Value.str (signS o') t, Value.str (digS l) u].toArray, n) = ([Value.str (signS o1) t1, Value.str (digS l1) u1].toArray, n1) := by
          injection q3 with a b
          rw [a, b]
        have := congrArg (fun z : Array Value × Nat => z.1.toList) q5
        simpa using this
      injection q4 with a b
      injection a
    have q6 := sign_beq' ho' h1
    rw [q2] at q6
    simp at q6
    exact h2 (by omega)
  · rw [show (o' != o) = true by simpa using h]
    exact @decide_eq_true _ (Classical.propDecidable _) ⟨_, _, _, _, _, _, rfl, hm, ho', h⟩
theorem HdrL.filter {ι₀ ι : Led} (hsub : ∀ p ∈ ι₀, p ∈ ι) (nd : ∀ p ∈ ι, ∀ q ∈ ι, p.1 = q.1 → p.2 = q.2) {o : Nat} (ho : o < 5) {vs es} (h : HdrL ι₀ vs es) : HdrL ι₀ (vs.filter (stays ι o)) (es.filter fun p => p.1 != o) := by
  induction h with
  | nil => exact .nil
  | cons m h1 h2 _ ih =>
    rw [List.filter_cons, List.filter_cons, stays_eq nd ho h1 (hsub _ m)]
    dsimp only
    split
    · exact .cons m h1 h2 ih
    · exact ih
theorem St.same {B : Base} {L : Addr} {s : Shared} {ls : Loc} {μ ι : Led} (S : St B L s ls μ ι) : ∀ p ∈ ι, ∀ q ∈ ι, p.1 = q.1 → p.2 = q.2 := by
  intro p hp q hq e
  have a := S.get (a := p.1) (o := p.2) (List.mem_append_right _ hp)
  have b := S.get (a := q.1) (o := q.2) (List.mem_append_right _ hq)
  rw [e] at a
  exact Option.some.inj (a.symm.trans b)
/-- a list that others have made goes onto the changing part -/
theorem St.adopt {B : Base} {L D : Addr} {s : Shared} {ls : Loc} {μ ι : Led} {o : Obj} (S : St B L s ls μ ι) (hD : s.heap.get? D = some o) (hB : B.H.get? D = none) (hne : ∀ p ∈ μ ++ ι, p.1 ≠ D) (hL : D ≠ L) : St B L s ls ((D, o) :: μ) ι := by
  refine ⟨⟨S.own.keep, fun p hp => ?_, ?_, S.own.gens, S.own.os⟩, S.ns, S.lo, fun p hp => ?_⟩
  · rcases List.mem_cons.mp hp with rfl | hp
    · exact ⟨hD, hB⟩
    · exact S.own.here p hp
  · show ((D, o) :: (μ ++ ι) |>.map (·.1)).Nodup
    rw [List.map_cons, List.nodup_cons]
    refine ⟨fun hm => ?_, S.own.nd⟩
    obtain ⟨p, hp, e⟩ := List.mem_map.mp hm
    exact hne p hp e
  · rcases List.mem_cons.mp hp with rfl | hp
    · exact hL
    · exact S.ne p hp
theorem r_sliceN {B : Base} {A : Around} {E : Value → Shared → Prop} {s : Shared} {L : Addr} {ls : Loc} {μ ι : Led} {Q : Value → Shared → Prop} {M : Model} {env : Env} {pos : Pos} (S : St B L s ls μ ι)
    (h : ∀ s' a, St B L s' ls μ ((a, ({ cls := .type "slice", data := .fields #[.none, .none, .none] } : Obj)) :: ι) → Q (.ref a) s') : wpAny M A (eval (.Slice none none none pos) env) Q E s := by
  refine wpAny_Slice (wpAny_evalPart_none (wpAny_evalPart_none (wpAny_evalPart_none ?_)))
  exact h _ _ (S.pushI (t := s.toks) rfl)
theorem paired_eq : ∀ {l m : List Value}, Paired (fun v y => y = v) l m → m = l
  | _, _, .nil => rfl
  | _, _, .cons h r => by rw [h, paired_eq r]

local macro_rules | `(tactic| walk_at "go") => `(tactic| first
  | ((with_reducible refine' r_locE ?S ?hL ?hk ?hl ?hv ?hd ?_); (case S => with_reducible assumption); (case hL => rfl); (case hk => rfl); (case hl => rfl); (case hv => rfl); (case hd => decide))
  | ((with_reducible refine' r_cellE ?S ?hm ?hd ?hk ?hl ?hc ?_ ?hdb); (case S => with_reducible assumption); (case hm => exact List.Mem.head _); (case hd => with_reducible assumption); (case hk => rfl); (case hl => rfl); (case hc => rfl); (case hdb => decide))
  | ((with_reducible refine' r_cellS ?S ?hk ?hl ?hc ?hd ?_); (case S => with_reducible assumption); (case hk => rfl); (case hl => rfl); (case hc => rfl); (case hd => with_reducible assumption); intro _ _ _ _)
  )
theorem c_delitem {B : Base} (G : Gnd B) (x l : Addr) (vs : List Value) (n : Nat) (es : List (Nat × Nat)) (o : Nat) (ho : o < 5) (t : Tok) (ι₀ ι : Led) (hsub : ∀ p ∈ ι₀, p ∈ ι) (H : HAt ι₀ x l) (hes : HdrL ι₀ vs es) (hlen : vs.length ≤ 1000) :
    Fn B 126 [.ref x, .str (signS o) t] [] 3 [(l, listO vs n)] ι (fun v μ' new => v = .none ∧ new = [] ∧ ∃ vs' n', μ' = [(l, listO vs' n')] ∧ HdrL ι₀ vs' (es.filter fun p => p.1 != o)) := by
  have H' := H.mono hsub
  refine fn_introC G rfl rfl rfl rfl rfl rfl ?_
  intro A s L ocl rm S hcell
  have hs := sign_short ho
  have hcl := clean_sign ho
  repeat walk_at "go"
  rw [lower_sign ho]
  walk_at "convN"
  repeat walk_at "go"
  rename_i oc2 hcell2 S8
  have nd := S8.same
  refine wpAny_ListComp_free (cl := [(("name" : Str), L + 1)]) (stays ι o) (fun v y => y = v) rfl (by decide) rfl (by decide) rfl ?_ (by intro _; rfl)
  repeat walk_at "go"
  rename_i S9
  refine wpAny_pyIter_list (S9.isList (.tail _ (.head _))) ?_
  rename_i s9
  have S10 := S9.pushM (o := { cls := .type "list_iterator", data := .fields #[.ref l, .int 0 0] }) (t := s9.toks) rfl
  have hlI : l ≠ s9.heap.objs.size := S9.new _ (List.mem_append_left _ (.tail _ (.head _)))
  refine ⟨s9.heap.objs.size, _, _, _, _, _, rfl, Walks.list rm.handled s9.heap.objs.size l hlI vs.toArray, by rw [List.size_toArray]; show _ ≤ 16777216; omega, ⟨⟨_, S10.get (.head _), rfl, rfl⟩, S10.isList (.tail _ (.tail _ (.head _)))⟩, ?_, ?_, ?_⟩
  · intro b hb
    rw [Heap.size_push]
    simp only [List.mem_cons, List.not_mem_nil, or_false] at hb
    rcases hb with rfl | rfl
    · exact Nat.lt_succ_self _
    · exact Nat.lt_succ_of_lt (Heap.lt_size (S9.get (a := b) (o := listO vs n) (.tail _ (.head _))))
  · refine ⟨?_, ?_⟩
    · intro C i v s₃ m₃ E' hC hv hns hm hk htk
      rw [List.getElem?_toArray] at hv
      obtain ⟨a, o1, l1, t1, u1, n1, he, rfl, hm1, ho1, hl1⟩ := hes.get hv
      have hm2 := hsub _ hm1
      have haI : a ≠ s9.heap.objs.size := S9.new _ (List.mem_append_right _ hm2)
      have hcI : L + 1 ≠ s9.heap.objs.size := S9.new _ (List.mem_append_left _ (.head _))
      have ha : s₃.heap.get? a = some (tupO [.str (signS o1) t1, .str (digS l1) u1] n1) := hk _ _ (by simpa using haI) (S10.get (List.mem_append_right _ hm2))
      have hcell3 : s₃.heap.IsCell (L + 1) (some (.str (signS o) _)) := ⟨oc2, hk _ _ (by simpa using hcI) (S10.get (.tail _ (.head _))), hcell2⟩
      refine wpAny_tests_one (wpAny_isTrue_Compare1 ?_)
      refine r_meth PySem.F.plainAttrs_str PySem.F.slot_str_lower PySem.F.type_str_lower rfl rfl rfl rfl ?_
      refine Subscript_ (wpAny_Name (wpAny_loadName_local rfl rfl hns hm (wpAny_Constant_int ?_)) (by decide))
      refine item_tupleT (j := 0) ⟨_, ha, rfl, _, rfl⟩ (by decide) (by decide) rfl rfl ?_ (by with_unfolding_all rfl)
      refine onStr ?_
      refine spliced_none ?_
      refine SC.lower (fit_lower (by have := sign_short ho1; omega)) ?_
      refine wpAny_Name (wpAny_loadName_cell rfl rfl rfl hcell3 ?_) (by decide)
      refine ne_str ?_
      refine wpAny_truthy_bool ?_
      refine ⟨?_, ⟨_, _, rfl, fun _ _ e => e⟩⟩
      rw [lower_sign ho1, stays_eq (fun p hp q hq => nd p (hp) q (hq)) ho ho1 hm2]
      have q := sign_beq' ho1 ho
      show (!(signS o1 == signS o)) = (!(o1 == o))
      rw [q]
      rfl
    · intro C i v s₃ m₃ E' hC hv hp hns hm hk htk
      exact wpAny_Name (wpAny_loadName_local rfl rfl hns hm ⟨rfl, _, _, rfl, fun _ _ e => e⟩) (by decide)
  · intro D h' tk ys vs' hD hl hpl hlen' hP hF hk
    obtain ⟨m, hm⟩ := hpl
    have hys := paired_eq hF
    have e1 : vs' = vs := by
      refine List.ext_getElem? fun j => ?_
      cases hj : vs'[j]? with
      | none =>
        have h1 := List.getElem?_eq_none_iff.mp hj
        rw [hlen', List.size_toArray] at h1
        exact (List.getElem?_eq_none_iff.mpr h1).symm
      | some v =>
        have := hP j v hj
        rw [List.getElem?_toArray] at this
        exact this.symm
    rw [e1] at hys
    have S11 := S10.lose (t := tk) (h' := h') (fun b o hb e => hk b o (by simpa using hb) e)
    have ne0 : ∀ b o, (s9.heap.push { cls := .type "list_iterator", data := .fields #[.ref l, .int 0 0] }).get? b = some o → b ≠ D := by
      rintro b o e rfl
      rw [hD] at e; cases e
    have hDL : D ≠ L := by
      obtain ⟨oL, hL, _⟩ := S10.frame
      exact (ne0 _ _ hL).symm
    have hDB : B.H.get? D = none := by
      cases q : B.H.get? D with
      | none => rfl
      | some o => exact absurd rfl (ne0 _ _ (S10.own.keep _ _ q))
    have S12 := S11.adopt (D := D) (o := listO (vs.filter (stays ι o)) m) (by rw [← hys]; simpa using hm) hDB (fun p hp => ne0 _ _ (S10.get (List.mem_cons_of_mem _ hp))) hDL
    have hlD : l ≠ D := ne0 _ _ (S10.get (.tail _ (.tail _ (.head _))))
    clear S S8 S9 S10 S11
    repeat walk_at "go"
    refine r_sliceN ‹_› ?_
    clear S12
    intro s13 sl S13
    have S14 := S13.perm (μ' := [(l, listO vs n), (D, listO (vs.filter (stays ι o)) m), (L + 1, oc2)]) (List.perm_middle (a := (l, listO vs n)) (l₁ := [(D, listO (vs.filter (stays ι o)) m), (L + 1, oc2)]) (l₂ := [])).symm
    clear S13
    have hfl : (vs.filter (stays ι o)).length ≤ vs.length := List.length_filter_le _ _
    refine r_setslice S14 .head (List.mem_append_right _ (.head _)) (List.mem_append_left _ (.tail _ (.head _))) hlD.symm (by show _ ≤ 16777216; omega) ?_
    clear S14
    intro s15 S15
    refine r_nil ?_
    exact ⟨_, [(l, listO (vs.filter (stays ι o)) _)], [], S15.sub (by walk_at "sub"), rfl, rfl, _, _, rfl, hes.filter hsub nd ho⟩
end
end
section
open PySem PySem.W PySem.Spec PySem.Calls PyProof.Rows
set_option maxRecDepth 100000
set_option maxHeartbeats 4000000
set_option linter.unusedVariables false
section
section
variable {B : Base} {A : Around} {E : Value → Shared → Prop} {s : Shared} {L x l dx c : Addr} {ls : Loc} {μ ι : Led} {Q : Value → Shared → Prop} {Qu : Unit → Shared → Prop} {prog : Program} {w : World} {i v : Value}
theorem h_noseq : noSeq (KF B) 208 = true := by kernel_rfl
theorem r_delH (G : Gnd B) (S : St B L s ls μ ι) (H : HAt ι x l) (h : wpAny (model PP B.w) A (call (.ref 126) [.ref x, i]) (fun _ s' => Qu () s') E s) : wpAny (model PP B.w) A (delItem (.ref x) i) Qu E s := by
  obtain ⟨dx, hs, tk, n, I⟩ := H.inst S
  have X := G.X.keeps S.own.keep
  unfold delItem sequenceKey
  refine wpAny_holding (wpAny_bind (wpAny_bind (I.type.here ?_)))
  refine wpAny_bind ((anyM_none X h_noseq).here ?_)
  rw [if_pos (show (!false) = true from rfl)]
  exact wpAny_pure (wpAny_bind (special_fn X I own_delitem isf_delitem (wpAny_mono h (fun _ _ z => wpAny_pure z) fun _ _ z => z)))
theorem r_setHI (G : Gnd B) (S : St B L s ls μ ι) (H : HAt ι x l) (h : wpAny (model PP B.w) A (call (.ref 121) [.ref x, i, v]) (fun _ s' => Qu () s') E s) : wpAny (model PP B.w) A (setItem (.ref x) i v) Qu E s := by
  obtain ⟨dx, hs, tk, n, I⟩ := H.inst S
  have X := G.X.keeps S.own.keep
  unfold setItem sequenceKey
  refine wpAny_holding (wpAny_bind (wpAny_bind (I.type.here ?_)))
  refine wpAny_bind ((anyM_none X h_noseq).here ?_)
  rw [if_pos (show (!false) = true from rfl)]
  exact wpAny_pure (wpAny_bind (special_fn X I own_setitem isf_setitem (wpAny_mono h (fun _ _ z => wpAny_pure z) fun _ _ z => z)))
end
local macro_rules | `(tactic| walk_at "go") => `(tactic| first
  | (with_reducible refine' r_del ?_)
  | ((with_reducible refine' r_delH ?G ?S ?H ?_); (case G => with_reducible assumption); (case S => with_reducible assumption); (case H => walk_at "at"))
  | ((with_reducible refine' r_setHI ?G ?S ?H ?_); (case G => with_reducible assumption); (case S => with_reducible assumption); (case H => walk_at "at"))
  | ((with_reducible refine' r_asgS ?_ ?hs); (case hs => rfl))
  )
noncomputable def HdrPost (l : Addr) (ι₀ : Led) (es : List (Nat × Nat)) (v : Value) (μ' new : Led) : Prop := ∃ vs' n', μ' = [(l, listO vs' n')] ∧ HdrL (new ++ ι₀) vs' es
theorem c_setitem {B : Base} (G : Gnd B) (x l : Addr) (vs : List Value) (n : Nat) (es : List (Nat × Nat)) (o lev : Nat) (ho : o < 5) (hlev : lev < 5) (t u : Tok) (ι₀ ι : Led) (hsub : ∀ p ∈ ι₀, p ∈ ι) (H : HAt ι₀ x l) (hes : HdrL ι₀ vs es) (hlen : vs.length ≤ 1000) :
    Fn B 121 [.ref x, .str (signS o) t, .str (digS lev) u] [] 4 [(l, listO vs n)] ι (HdrPost l ι₀ (es.filter (fun p => p.1 != o) ++ [(o, lev)])) := by
  have H' := H.mono hsub
  refine fn_intro (binds := [("self", .ref x), ("name", .str (signS o) t), ("val", .str (digS lev) u)]) G rfl rfl (fun s X => BindsTo.of_eq rfl) rfl (by decide) rfl rfl rfl ?_
  intro A s L rm S
  have hs := sign_short ho
  have hcl := clean_sign ho
  have hd := dig_short lev
  have hcd := clean_dig hlev
  repeat walk_at "go"
  refine call_fn (μ1 := [(l, listO vs n)]) (μ2 := []) S rm (List.Perm.refl _) (fun ι' h' => c_delitem G x l vs n es o ho t ι₀ ι' (fun p hp => h' _ (hsub _ hp)) H hes hlen) ?_
  clear S
  rintro _ _ _ s1 S1 ⟨rfl, rfl, vs', n', rfl, hes'⟩
  have hl' : vs'.length ≤ 1000 := by
    have := hes'.len
    have h2 : (es.filter fun p => p.1 != o).length ≤ es.length := List.length_filter_le _ _
    have := hes.len
    omega
  have S2 : St B L s1 _ [(l, listO vs' n')] ι := S1
  clear S1
  repeat walk_at "go"
  walk_at "convN"
  repeat walk_at "go"
  walk_at "convV"
  repeat walk_at "go"
  rename_i S9
  exact ⟨_, [_], [_], S9, _, _, rfl, (hes'.mono fun p hp => .tail _ hp).app (.cons (.head _) ho hlev .nil)⟩

theorem c_setdefault {B : Base} (G : Gnd B) (x l : Addr) (vs : List Value) (n : Nat) (es : List (Nat × Nat)) (o lev : Nat) (ho : o < 5) (hlev : lev < 5) (t u : Tok) (ι₀ ι : Led) (hsub : ∀ p ∈ ι₀, p ∈ ι) (H : HAt ι₀ x l) (hes : HdrL ι₀ vs es) (hlen : vs.length ≤ 1000) :
    Fn B 198 [.ref x, .str (signS o) t, .str (digS lev) u] [] 4 [(l, listO vs n)] ι (HdrPost l ι₀ (if (lookupH es o).isSome then es else es ++ [(o, lev)])) := by
  have H' := H.mono hsub
  refine fn_intro (binds := [("self", .ref x), ("name", .str (signS o) t), ("value", .str (digS lev) u)]) G rfl rfl (fun s X => BindsTo.of_eq rfl) rfl (by decide) rfl rfl rfl ?_
  intro A s L rm S
  have hs := sign_short ho
  have hcl := clean_sign ho
  have hd := dig_short lev
  have hcd := clean_dig hlev
  repeat walk_at "go"
  refine CallAt.of S (call_fn (μ1 := [(l, listO vs n)]) (μ2 := []) S rm (List.Perm.refl _) (fun ι' h' => c_get G x l vs n es o ho t [] .none (.inr ⟨rfl, rfl⟩) ι₀ ι' (fun p hp => h' _ (hsub _ hp)) H hes hlen) ?_)
  clear S
  rintro v _ new s1 S1 ⟨rfl, hv⟩
  have S2 : St B L s1 _ [(l, listO vs n)] (new ++ ι) := S1
  clear S1
  cases e : lookupH es o with
  | none =>
    rw [e] at hv
    subst hv
    repeat walk_at "go"
    refine r_if ?_
    repeat walk_at "go"
    walk_at "convN"
    repeat walk_at "go"
    walk_at "convV"
    repeat walk_at "go"
    rename_i S9
    refine ret_sub (μ' := [_]) (new := [_]) S9 ((List.Sublist.refl [(l, _)]).append ((List.sublist_append_right _ _).cons_cons _)) ⟨_, _, rfl, ?_⟩
    exact (hes.mono fun p hp => .tail _ hp).app (.cons (.head _) ho hlev .nil)
  | some l1 =>
    rw [e] at hv
    obtain ⟨hl1, tk, rfl⟩ := hv
    repeat walk_at "go"
    refine r_if ?_
    repeat walk_at "go"
    rename_i S9
    exact ret_sub (μ' := [_]) (new := []) S9 ((List.Sublist.refl [(l, _)]).append (List.sublist_append_right _ _)) ⟨_, _, rfl, hes⟩
end
end
section
open PySem PySem.W PySem.Spec PySem.Calls PyProof.Rows
set_option maxRecDepth 100000
local macro_rules | `(tactic| walk_at "go") => `(tactic| first
  | (with_reducible refine' r_del ?_)
  | ((with_reducible refine' r_delH ?G ?S ?H ?_); (case G => with_reducible assumption); (case S => with_reducible assumption); (case H => walk_at "at"))
  | ((with_reducible refine' r_setHI ?G ?S ?H ?_); (case G => with_reducible assumption); (case S => with_reducible assumption); (case H => walk_at "at"))
  | ((with_reducible refine' r_asgS ?_ ?hs); (case hs => rfl))
  )
section
open PySem PySem.W PySem.Spec PySem.Calls PyProof.Rows
set_option maxRecDepth 100000
set_option maxHeartbeats 4000000
set_option linter.unusedVariables false
section
noncomputable abbrev viewO (d : Addr) : Obj := { cls := .type "dict_items", data := .fields #[.ref d] }
section
variable {B : Base} {A : Around} {E : Value → Shared → Prop} {s : Shared} {L x l d v : Addr} {ls : Loc} {μ ι : Led} {Q : Value → Shared → Prop} {Qf : Flow → Shared → Prop} {prog : Program} {w : World} {env : Env} {body rest : List Stmt} {target : Expr}
theorem onD0 {P : Prop} (S : St B L s ls μ ι) (hm : (d, dict0) ∈ μ ++ ι) (h : P) : s.TypeIs (.ref d) "dict" ∧ (∀ b, Value.ref d = .ref b → ∃ ob, s.heap.get? b = some ob ∧ ob.dict = none) ∧ P :=
  ⟨⟨_, S.get hm, rfl⟩, fun b e => by cases e; exact ⟨_, S.get hm, rfl⟩, h⟩
theorem d0_of (S : St B L s ls μ ι) (hm : (d, dict0) ∈ μ ++ ι) : s.heap.DictOf (PySem.intKind PP B.w) d [] := Heap.dictOf_iff.mpr ⟨dict0, S.get hm, dict0_is⟩
theorem r_items0 (lo : (d == sysModules) = false) (S : St B L s ls μ ι) (hm : (d, dict0) ∈ μ ++ ι) (h : ∀ s' v, St B L s' ls μ ((v, viewO d) :: ι) → Q (.ref v) s') : wpAny (model PP B.w) A (call (.builtin "dict.items") [.ref d]) Q E s :=
  wpAny_call (codeAny_call_builtin F.slot_dict_items.plain F.entry_dict_items (F.slot_dict_items.check _ _ _ _ _ _ _ _ ⟨_, S.get hm, rfl⟩ (F.args_dict_items_1 _) (meets_dict_items (PySem.intKind PP B.w) d lo A (wants Q E) s ⟨⟨_, d0_of S hm⟩, h _ _ (S.pushI (t := s.toks) rfl)⟩)))
theorem loop_items0 (hh : A.handled = none) (S : St B L s ls μ ι) (hm : (d, dict0) ∈ μ ++ ι) (hv : (v, viewO d) ∈ μ ++ ι) (fin : ∀ s', St B L s' ls μ ι → wpAny (model PP B.w) A (execs rest env) Qf E s') :
    wpAny (model PP B.w) A (pyIter (.ref v)) (ForK PP B.w A target body rest env Qf E) E s := by
  obtain ⟨ep, hd⟩ := (d0_of S hm).dictAt
  refine wpAny_pyIter_items (knd := PySem.intKind PP B.w) ⟨_, S.get hv, rfl, rfl⟩ hd ?_
  have S1 := S.pushM (o := { cls := .type "dict_itemiterator", data := .fields #[.none, .bool false, .ref d, .int 0 0, .int 0 0, .int ep 0, .none, .none] }) (t := s.toks) rfl
  obtain ⟨ep2, hd2⟩ := (d0_of S1 (List.mem_cons_of_mem _ hm)).dictAt
  have hd3 := hd.keep (h' := s.heap.push { cls := .type "dict_itemiterator", data := .fields #[.none, .bool false, .ref d, .int 0 0, .int 0 0, .int ep 0, .none, .none] }) fun _ _ e => Heap.get?_push_of_some _ e
  unfold ForK
  refine codeAny_forLoop_any (I := fun _ sx => sx = ({ s with heap := s.heap.push { cls := .type "dict_itemiterator", data := .fields #[.none, .bool false, .ref d, .int 0 0, .int 0 0, .int ep 0, .none, .none] } } : Shared)) (fun k s₁ hI => ?_) 0 rfl
  subst hI
  refine wpAny_pyNext_items_end (i := 0) hh (S1.get (.head _)) hd3 rfl fun h' he => ?_
  exact wpAny_execs_nil (fin _ (S1.lose (t := s.toks) he))
end

theorem wpAny_of_eq' {α : Type} {M : Model} {A : Around} {E : Value → Shared → Prop} {s : Shared} {Q : α → Shared → Prop} {t t' : Sem α} (h : t = t') (h' : wpAny M A t' Q E s) : wpAny M A t Q E s := h ▸ h'
theorem fn_introK {B : Base} {f : Addr} {args : List Value} {kw : List (Str × Value)} {d : Nat} {μ ι : Led} {post : Value → Led → Led → Prop} (G : Gnd B) {name qual : Str} {params : Arguments} {body : List Stmt} {scope : Scope} {dV kV doc pm cdv ct oc : Value} {an od : Option Addr} {osl : Array (Option Value)} {binds : Addr → List (Str × Value)}
    (ho : (KF B).lookup f = some ⟨oc, od, .func (fnOf name qual params body scope dV kV doc pm an cdv ct), osl⟩) (hcd : codeIn (KF B) cdv qual = true)
    (hbind : ∀ (s : Shared) (M : Model) (A : Around) (E : Value → Shared → Prop) (Q : List (Str × Value) → Shared → Prop), Q (binds s.heap.objs.size) { s with heap := s.heap.push dict0 } → wpAny M A (bindArgs (fnOf name qual params body scope dV kV doc pm an cdv ct) ⟨args, kw⟩) Q E s)
    (hloc : ∀ a, ((binds a).all fun x => decide (scope.names.lookup x.1 = some .local)) = true)
    (hcell : ∀ x ∈ scope.names, x.2 ≠ .cell) (hco : scope.isCoroutine = false) (hgen : scope.isGenerator = false) (hk : scope.kind = .function)
    (h : ∀ A s L dp, Room A d → (dp == sysModules) = false → St B L s (binds dp).reverse ((dp, dict0) :: μ) ι → wpAny (model PP B.w) A (execs body (envOf qual scope L f cdv)) (Ret B L ι post) (fun _ _ => False) s) :
    Fn B f args kw (d + 1) μ ι post := by
  intro A s R rm S big k
  have X : (KF B).In s.heap := G.X.keeps S.keep
  refine codeAny_call_function (fd := fnOf name qual params body scope dV kV doc pm an cdv ct) (body := body) (by have := rm.2.1; show A.depth < 1000; omega) (X _ _ ho) rfl hco hgen rfl (codeRec_of X hcd) (hbind _ _ _ _ _ ?_)
  have hlim : (s.heap.push dict0).NoLimit := (G.nolimit S).keeps fun _ _ e => Heap.get?_push_of_some _ e
  have new : ∀ p ∈ μ ++ ι, p.1 < s.heap.objs.size := fun p hp => Heap.lt_size (S.here p hp).1
  have hsz : (s.heap.push dict0).objs.size = s.heap.objs.size + 1 := Heap.size_push ..
  refine wpAny_newFunctionEnv hcell (locs (hloc _)) (fun h₀ hns₀ hsb₀ => ⟨hlim.fresh _ hsb₀, codeAny_func ?_⟩) hk
  have hk₁ : ∀ b o, s.heap.get? b = some o → h₀.get? b = some o := fun b o e =>
    hsb₀.extBut b o (by show b ≠ (s.heap.push dict0).objs.size; rw [hsz]; exact Nat.ne_of_lt (Nat.lt_succ_of_lt (Heap.lt_size e))) (Heap.get?_push_of_some _ (Heap.get?_push_of_some _ e))
  have hd0 : h₀.get? s.heap.objs.size = some dict0 := hsb₀.extBut _ _ (by show s.heap.objs.size ≠ (s.heap.push dict0).objs.size; rw [hsz]; exact Nat.ne_of_lt (Nat.lt_succ_self _)) (Heap.get?_push_of_some _ (Heap.get?_push_size _ rfl))
  have lo : (s.heap.objs.size == sysModules) = false := by
    obtain ⟨mg, mb, ⟨o, _, _, h0, _⟩, _⟩ := G.top
    have := Heap.lt_size (S.keep _ _ h0)
    have h3 : mainGlobals = 3 := rfl
    rw [h3] at this
    exact beq_false_of_ne fun e => by rw [e] at this; exact absurd this (by decide)
  refine wpAny_mono (h _ _ (s.heap.push dict0).objs.size s.heap.objs.size rm.deeper lo ?_) (fun fl s' hr => ?_) fun _ _ x => x.elim
  · refine ⟨⟨fun b o e => hk₁ _ _ (S.keep b o e), fun p hp => ?_, ?_, S.gens, S.os⟩, ⟨_, hns₀, fun _ _ e => e⟩, by rw [hsz]; exact Nat.le_succ_of_le big, fun p hp => ?_⟩
    · rcases List.mem_cons.mp hp with rfl | hp
      · exact ⟨hd0, none_of_size big⟩
      · exact ⟨hk₁ _ _ (S.here p hp).1, (S.here p hp).2⟩
    · show ((s.heap.objs.size, dict0) :: (μ ++ ι) |>.map (·.1)).Nodup
      rw [List.map_cons, List.nodup_cons]
      refine ⟨fun hm => ?_, S.nd⟩
      obtain ⟨p, hp, e⟩ := List.mem_map.mp hm
      exact absurd e (Nat.ne_of_lt (new p hp))
    · rw [hsz]
      rcases List.mem_cons.mp hp with rfl | hp
      · exact Nat.ne_of_lt (Nat.lt_succ_self _)
      · exact Nat.ne_of_lt (Nat.lt_succ_of_lt (new p hp))
  · obtain ⟨ls', μ', nw, S', hp⟩ := hr
    exact k _ μ' nw s' S'.own hp

theorem join_one (x y : Str) : Txt.join x [y] = y := by
  show Builtin.Str.glued x [y] = y
  rw [StrLaws.glued_eq_join]
  rfl
local macro_rules | `(tactic| walk_at "go") => `(tactic| first
  | ((with_reducible refine' r_meth PySem.F.plainAttrs_dict PySem.F.slot_dict_items PySem.F.type_dict_items ?hb ?hf ?hp ?hl ?_); (case hb => rfl); (case hf => rfl); (case hp => rfl); (case hl => rfl))
  | ((with_reducible refine' onD0 ?S ?hm ?_); (case S => with_reducible assumption); (case hm => walk_at "mem"))
  | ((with_reducible refine' r_items0 ?lo ?S ?hm ?_); (case lo => assumption); (case S => with_reducible assumption); (case hm => walk_at "mem"); intro _ _ _)
  | ((with_reducible refine' r_meth PySem.F.plainAttrs_str PySem.F.slot_str_join PySem.F.type_str_join ?hb ?hf ?hp ?hl ?_); (case hb => rfl); (case hf => rfl); (case hp => rfl); (case hl => rfl))
  )
theorem c_add {B : Base} (G : Gnd B) (x l : Addr) (vs : List Value) (n : Nat) (es : List (Nat × Nat)) (o lev : Nat) (ho : o < 5) (hlev : lev < 5) (t u : Tok) (ι₀ ι : Led) (hsub : ∀ p ∈ ι₀, p ∈ ι) (H : HAt ι₀ x l) (hes : HdrL ι₀ vs es) (hlen : vs.length ≤ 1000) :
    Fn B 205 [.ref x, .str (signS o) t, .str (digS lev) u] [] 4 [(l, listO vs n)] ι (HdrPost l ι₀ (es ++ [(o, lev)])) := by
  have H' := H.mono hsub
  refine fn_introK (binds := fun dp => [("self", .ref x), ("_name", .str (signS o) t), ("_value", .str (digS lev) u), ("_params", .ref dp)]) G rfl rfl ?_ (fun _ => rfl) (by decide) rfl rfl rfl ?_
  · intro s M A E Q hq
    refine wpAny_of_eq' (t' := alloc dict0 >>= fun d => pure [(("self" : Str), Value.ref x), (("_name" : Str), Value.str (signS o) t), (("_value" : Str), Value.str (digS lev) u), (("_params" : Str), Value.ref d)]) (by kernel_rfl) ?_
    exact wpAny_bind (wpAny_alloc (wpAny_pure hq))
  intro A s L dp rm lo S
  have hs := sign_short ho
  have hcl := clean_sign ho
  have hd := dig_short lev
  have hcd := clean_dig hlev
  repeat walk_at "go"
  refine r_if ?_
  repeat walk_at "go"
  walk_at "convV"
  repeat walk_at "go"
  refine r_for ?_
  repeat walk_at "go"
  rename_i S9
  refine loop_items0 rm.handled S9 (by walk_at "mem") (by walk_at "mem") ?_
  clear S9
  intro s2 S2
  repeat walk_at "go"
  walk_at "convN"
  repeat walk_at "go"
  rename_i S3
  refine r_join (ys := [digS lev]) S3 (.head _) (StrL.one _ _) (by show (digS lev).length + 0 + 1 * 2 ≤ 16777216; omega) ?_
  rw [join_one]
  clear S3
  intro s4 t4 S4
  repeat walk_at "go"
  rename_i S5
  refine ⟨_, [(l, listO _ _)], [(_, tupO [.str (signS o) t, .str (digS lev) t4] 0)], S5.sub (by walk_at "sub"), _, _, rfl, ?_⟩
  exact (hes.mono fun p hp => .tail _ hp).app (.cons (.head _) ho hlev .nil)
end
end
section
open PySem PySem.W PySem.Spec PySem.Calls PyProof.Rows
set_option maxRecDepth 100000
set_option maxHeartbeats 4000000
set_option linter.unusedVariables false
section
theorem str_dig {l : Nat} (h : l < 5) : ((toString (l : Int) : String) : Str) = digS l := by
  rcases l with _ | _ | _ | _ | _ | l
  all_goals first | decide +kernel | omega
section
variable {B : Base} {A : Around} {E : Value → Shared → Prop} {s : Shared} {L x l d v : Addr} {ls : Loc} {μ ι : Led} {Q : Value → Shared → Prop} {prog : Program} {w : World} {t : Tok}
theorem r_strDig {l : Nat} (hl : l < 5) (S : St B L s ls μ ι) (h : ∀ s' t', St B L s' ls μ ι → Q (.str (digS l) t') s') : wpAny (model prog w) A (call (.type "str") [.int (l : Nat) t]) Q E s := by
  refine str_of_int_fit (N := 100) (by split <;> omega) (by decide) fun _ => ?_
  rw [str_dig hl]
  exact h _ _ S.tok
theorem int_dig {l : Nat} (h : l < 5) : PySem.intText? (digS l) = some (l : Int) := by
  rcases l with _ | _ | _ | _ | _ | l
  all_goals first | decide +kernel | omega
theorem r_intDig {l : Nat} (hl : l < 5) (S : St B L s ls μ ι) (h : ∀ s' t', St B L s' ls μ ι → Q (.int (l : Nat) t') s') : wpAny (model prog w) A (call (.type "int") [.str (digS l) t]) Q E s :=
  KIN.call_text (int_dig hl) (Nat.le_of_ble_eq_true rfl) (h _ _ S.tok)
end

/-- the calls as the text has them -/
inductive CallL (ι : Led) : List Value → List (Nat × Nat × Nat) → Prop
  | nil : CallL ι [] []
  | cons {a c o l t u w n vs cs} : (a, tupO [.int (c : Nat) t, .int (o : Nat) u, .int (l : Nat) w] n) ∈ ι → c < 4 → o < 5 → l < 5 → CallL ι vs cs → CallL ι (.ref a :: vs) ((c, o, l) :: cs)
theorem CallL.mono {ι ι' : Led} (h : ∀ p ∈ ι, p ∈ ι') {vs cs} (x : CallL ι vs cs) : CallL ι' vs cs := by
  induction x with
  | nil => exact .nil
  | cons m a b c _ ih => exact .cons (h _ m) a b c ih
theorem CallL.len {ι : Led} {vs cs} (h : CallL ι vs cs) : vs.length = cs.length := by
  induction h with
  | nil => rfl
  | cons _ _ _ _ _ ih => simp [ih]
theorem CallL.app {ι : Led} {vs es vs' es'} (h : CallL ι vs es) (h' : CallL ι vs' es') : CallL ι (vs ++ vs') (es ++ es') := by
  induction h with
  | nil => exact h'
  | cons m a b c _ ih => exact .cons m a b c ih
theorem CallL.get {ι : Led} {vs cs} (h : CallL ι vs cs) : ∀ {i : Nat} {v : Value}, vs[i]? = some v → ∃ a c o l t u w n, cs[i]? = some (c, o, l) ∧ v = .ref a ∧ (a, tupO [.int (c : Nat) t, .int (o : Nat) u, .int (l : Nat) w] n) ∈ ι ∧ c < 4 ∧ o < 5 ∧ l < 5 := by
  induction h with
  | nil => intro i v e; simp at e
  | cons m hc ho hl _ ih =>
    intro i v e
    cases i with
    | zero => cases e; exact ⟨_, _, _, _, _, _, _, _, rfl, rfl, m, hc, ho, hl⟩
    | succ i => exact ih (by simpa using e)

noncomputable def tabStep (es : List (Nat × Nat)) (c : Nat × Nat × Nat) : List (Nat × Nat) :=
  if c.1 = 0 then es.filter (fun p => p.1 != c.2.1) ++ [(c.2.1, c.2.2)] else if c.1 = 1 then es ++ [(c.2.1, c.2.2)] else if c.1 = 2 then (if (lookupH es c.2.1).isSome then es else es ++ [(c.2.1, c.2.2)]) else es.filter (fun p => p.1 != c.2.1)
theorem tabStep_len (es : List (Nat × Nat)) (c : Nat × Nat × Nat) : (tabStep es c).length ≤ es.length + 1 := by
  have := List.length_filter_le (fun p : Nat × Nat => p.1 != c.2.1) es
  unfold tabStep
  split
  · simp; omega
  · split
    · simp
    · split
      · split <;> simp
      · omega
local macro_rules | `(tactic| walk_at "go") => `(tactic| first
  | ((with_reducible refine' r_strDig ?hl ?S ?_); (case hl => assumption); (case S => with_reducible assumption); intro _ _ _)
  )
theorem c_table {B : Base} (G : Gnd B) (ca : Addr) (cvs : List Value) (cn : Nat) (cs : List (Nat × Nat × Nat)) (ι : Led) (hc : (ca, listO cvs cn) ∈ ι) (hcs : CallL ι cvs cs) (hlen : cs.length ≤ 900) :
    Fn B 238 [.ref ca] [] 7 [] ι (fun v μ' new => μ' = [] ∧ ∃ x l vs n nw, v = .ref x ∧ new = (l, listO vs n) :: nw ∧ HAt nw x l ∧ HdrL nw vs (cs.foldl tabStep []) ∧ (cs.foldl tabStep []).length ≤ cs.length) := by
  refine fn_intro (binds := [("calls", .ref ca)]) G rfl rfl (fun s X => BindsTo.of_eq rfl) rfl (by decide) rfl rfl rfl ?_
  intro A s L rm S
  repeat walk_at "go"
  rename_i l0 S9
  refine CallAt.of S9 (r_make G (d := 3) rm S9 (.head _) ?_)
  clear S9
  intro s1 x dx hs tk n S1
  have H0 : HAt [(dx, hdrD l0 hs tk n), (x, instObj 208 dx)] x l0 := ⟨dx, hs, tk, n, .tail _ (.head _), .head _⟩
  repeat walk_at "go"
  refine r_for ?_
  repeat walk_at "go"
  rename_i S9
  refine loop_list (vs := cvs) (ol := listO cvs cn) rm.handled S9 ⟨rfl, _, rfl⟩ (fun i ls μ ι' => LocAll ls [("table", .ref x)] ∧ ∃ nw vs m, ι' = nw ++ ι ∧ μ = [(l0, listO vs m)] ∧ HAt nw x l0 ∧ HdrL nw vs ((cs.take i).foldl tabStep []) ∧ ((cs.take i).foldl tabStep []).length ≤ i) ?_ ?_ ?_ ?_
  · exact ⟨⟨rfl, trivial⟩, [(dx, hdrD l0 hs tk n), (x, instObj 208 dx)], [], 0, rfl, rfl, H0, .nil, Nat.le_refl _⟩
  · rintro i ls μ ι' ⟨_, nw, vs, m, rfl, rfl, _⟩ s O
    exact (O.here (ca, listO cvs cn) (List.mem_append_right _ (List.mem_append_right _ hc))).1
  · rintro i v ls μ ι' s1 it oo hv ⟨hls, nw, vs, m, rfl, rfl, H, hes, hln⟩ S1
    obtain ⟨a, c, o, lv, t1, t2, t3, n1, hci, rfl, hm1, hc4, ho, hl5⟩ := hcs.get hv
    have hil : i < 900 := by have := (List.getElem?_eq_some_iff.mp hci).1; omega
    have htk : cs.take (i + 1) = cs.take i ++ [(c, o, lv)] := by rw [List.take_add_one, hci]; rfl
    have hvl : vs.length ≤ 1000 := by rw [hes.len]; omega
    generalize hes0 : (cs.take i).foldl tabStep [] = es at hes hln
    have hst : (cs.take (i + 1)).foldl tabStep [] = tabStep es (c, o, lv) := by rw [htk, List.foldl_append, hes0]; rfl
    have hsl := tabStep_len es (c, o, lv)
    have S2 := S1.pick hls
    clear S1 S9
    have hm2 : (a, tupO [.int (c : Nat) t1, .int (o : Nat) t2, .int (lv : Nat) t3] n1) ∈ nw ++ ι := List.mem_append_right _ hm1
    repeat walk_at "go"
    walk_at "signs"
    repeat walk_at "go"
    rename_i S3
    have fin : ∀ s' ls' vs' m' new sg, LocAll ls' [("table", .ref x)] → St B L s' ls' ([(l0, listO vs' m')] ++ [(it, oo)]) (new ++ ([sg] ++ (nw ++ ι))) → HdrL (new ++ nw) vs' (tabStep es (c, o, lv)) →
        ∃ ls' μ' ι', St B L s' ls' ((it, oo) :: μ') ι' ∧ (LocAll ls' [("table", .ref x)] ∧ ∃ nw vs m, ι' = nw ++ ι ∧ μ' = [(l0, listO vs m)] ∧ HAt nw x l0 ∧ HdrL nw vs ((cs.take (i + 1)).foldl tabStep []) ∧ ((cs.take (i + 1)).foldl tabStep []).length ≤ i + 1) := by
      intro s' ls' vs' m' new sg h1 S' h2
      refine ⟨ls', [(l0, listO vs' m')], (new ++ ([sg] ++ nw)) ++ ι, ?_, h1, _, _, _, rfl, rfl, H.mono fun p hp => by simp [hp], ?_, by rw [hst]; omega⟩
      · have S4 := S'.perm (List.Perm.swap (it, oo) (l0, listO vs' m') []).symm
        simpa [List.append_assoc] using S4
      · rw [hst]
        exact h2.mono fun p hp => by
          rcases List.mem_append.mp hp with h | h
          · simp [h]
          · simp [h]
    obtain rfl | rfl | rfl | rfl : c = 0 ∨ c = 1 ∨ c = 2 ∨ c = 3 := by omega
    · refine r_if ?_
      repeat walk_at "go"
      rename_i S4
      refine call_fn (μ1 := [(l0, listO vs m)]) (μ2 := [(it, oo)]) S4 (rm.less (by omega)) (List.Perm.swap _ _ _) (fun ι' h' => c_setitem G x l0 vs m es o lv ho hl5 _ _ nw ι' (fun p hp => h' _ (by simp [hp])) H hes hvl) ?_
      clear S4 S3 S2
      rintro _ _ new s5 S5 ⟨vs', n', rfl, hes'⟩
      repeat walk_at "go"
      exact fin _ _ _ _ _ _ ⟨rfl, trivial⟩ S5 hes'
    · refine r_if ?_
      repeat walk_at "go"
      refine r_if ?_
      repeat walk_at "go"
      rename_i S4
      refine CallAt.of S4 (call_fn (μ1 := [(l0, listO vs m)]) (μ2 := [(it, oo)]) S4 (rm.less (by omega)) (List.Perm.swap _ _ _) (fun ι' h' => c_add G x l0 vs m es o lv ho hl5 _ _ nw ι' (fun p hp => h' _ (by simp [hp])) H hes hvl) ?_)
      clear S4 S3 S2
      rintro _ _ new s5 S5 ⟨vs', n', rfl, hes'⟩
      repeat walk_at "go"
      exact fin _ _ _ _ _ _ ⟨rfl, trivial⟩ S5 hes'
    · refine r_if ?_
      repeat walk_at "go"
      refine r_if ?_
      repeat walk_at "go"
      refine r_if ?_
      repeat walk_at "go"
      rename_i S4
      refine CallAt.of S4 (call_fn (μ1 := [(l0, listO vs m)]) (μ2 := [(it, oo)]) S4 (rm.less (by omega)) (List.Perm.swap _ _ _) (fun ι' h' => c_setdefault G x l0 vs m es o lv ho hl5 _ _ nw ι' (fun p hp => h' _ (by simp [hp])) H hes hvl) ?_)
      clear S4 S3 S2
      rintro _ _ new s5 S5 ⟨vs', n', rfl, hes'⟩
      repeat walk_at "go"
      exact fin _ _ _ _ _ _ ⟨rfl, trivial⟩ S5 hes'
    · refine r_if ?_
      repeat walk_at "go"
      refine r_if ?_
      repeat walk_at "go"
      refine r_if ?_
      repeat walk_at "go"
      rename_i S4
      refine call_fn (μ1 := [(l0, listO vs m)]) (μ2 := [(it, oo)]) S4 (rm.less (by omega)) (List.Perm.swap _ _ _) (fun ι' h' => c_delitem G x l0 vs m es o ho _ nw ι' (fun p hp => h' _ (by simp [hp])) H hes hvl) ?_
      clear S4 S3 S2
      rintro _ _ new s5 S5 ⟨rfl, rfl, vs', n', rfl, hes'⟩
      repeat walk_at "go"
      exact fin _ _ _ _ _ _ ⟨rfl, trivial⟩ S5 hes'
  · rintro ls μ ι' s1 ⟨hls, nw, vs, m, rfl, rfl, H, hes, hln⟩ S1
    have S2 := S1.pick hls
    clear S1 S9
    repeat walk_at "go"
    have hcl : cs.take cvs.length = cs := by rw [hcs.len, List.take_length]
    rw [hcl] at hes hln
    refine ret_sub (μ' := []) (new := (l0, listO vs m) :: nw) S2 (List.Sublist.refl _) ⟨rfl, x, l0, vs, m, nw, rfl, rfl, H, hes, by rw [← hcs.len]; exact hln⟩
end
end
section
open PySem PySem.W PySem.Spec PySem.Calls PyProof.Rows
set_option maxRecDepth 100000
set_option maxHeartbeats 4000000
set_option linter.unusedVariables false
section
theorem tabOf_congr {g g' : Nat → Value} {n : Nat} (h : ∀ j, j < n → g j = g' j) : tabOf g n = tabOf g' n := by
  unfold tabOf
  refine List.map_congr_left fun j hj => ?_
  rw [h j (List.mem_range.mp hj)]
theorem zero_dig : Str.ofString "0" = digS 0 := by decide +kernel
/-- the levels that stand in a table -/
noncomputable def lvOf (es : List (Nat × Nat)) (o : Nat) : Int := ((lookupH es o).getD 0 : Nat)
theorem lvF_of {lv : Nat → Int} {g : Nat → Value} (h : ∀ j, j < 5 → ∃ t, g j = .int (lv j) t) : LvF lv (valueAt (tabOf g 5)) :=
  ⟨fun o ho => by obtain ⟨t, e⟩ := h o ho; exact ⟨t, by rw [tabOf_at g ho, e]⟩, rfl, rfl⟩
local macro_rules | `(tactic| walk_at "go") => `(tactic| first
  | ((with_reducible refine' r_strDig ?hl ?S ?_); (case hl => assumption); (case S => with_reducible assumption); intro _ _ _)
  )
local macro_rules | `(tactic| walk_at "go") => `(tactic| first
  | ((with_reducible refine' r_intDig ?hl ?S ?_); (case hl => assumption); (case S => with_reducible assumption); intro _ _ _)
  | ((with_reducible refine' r_newDict ?G ?S ?_); (case G => with_reducible assumption); (case S => with_reducible assumption); intro _ _ _ _)
  | ((with_reducible refine' r_dset ?S ?c ?hd ?hz ?_); (case S => with_reducible assumption); (case c => walk_at "chgA"); (case hd => with_reducible assumption); (case hz => walk_at "size"); intro _ _ _ _))
theorem c_levels {B : Base} (G : Gnd B) (x l : Addr) (vs : List Value) (n : Nat) (es : List (Nat × Nat)) (ι₀ ι : Led) (hsub : ∀ p ∈ ι₀, p ∈ ι) (H : HAt ι₀ x l) (hes : HdrL ι₀ vs es) (hlen : vs.length ≤ 1000) :
    Fn B 273 [.ref x] [] 5 [(l, listO vs n)] ι (fun v μ' new => μ' = [(l, listO vs n)] ∧ ∃ d f, v = .ref d ∧ DictAt B new d f ∧ LvF (lvOf es) f) := by
  have H' := H.mono hsub
  refine fn_intro (binds := [("table", .ref x)]) G rfl rfl (fun s X => BindsTo.of_eq rfl) rfl (by decide) rfl rfl rfl ?_
  intro A s L rm S
  repeat walk_at "go"
  refine r_for ?_
  repeat walk_at "go"
  walk_at "signs"
  rename_i da hda _ _ _ _ sa sn st S9
  refine loop_list (vs := [.str "=" (st 0), .str "->" (st 1), .str "+" (st 2), .str "**" (st 3), .str "//" (st 4)]) (ol := listO _ sn) rm.handled S9 ⟨rfl, _, rfl⟩ (fun i ls μ ι' => ι' = [(sa, listO [.str "=" (st 0), .str "->" (st 1), .str "+" (st 2), .str "**" (st 3), .str "//" (st 4)] sn)] ++ ι ∧ LocAll ls [("levels", .ref da), ("table", .ref x)] ∧
      ∃ od g, μ = [(da, od), (l, listO vs n)] ∧ od.IsDictOf (PySem.intKind PP B.w) (tabOf g i) ∧ ∀ j, j < i → ∃ t, g j = .int (lvOf es j) t) ?_ ?_ ?_ ?_
  · exact ⟨rfl, ⟨rfl, rfl, trivial⟩, _, fun _ => .none, rfl, dict0_is, fun j hj => absurd hj (Nat.not_lt_zero j)⟩
  · rintro i ls μ ι' ⟨rfl, _⟩ s O
    exact (O.here (sa, listO _ sn) (List.mem_append_right _ (.head _))).1
  · rintro i v ls μ ι' s1 it o hv ⟨rfl, hls, od, g, rfl, hod, hg⟩ S1
    obtain ⟨hi, rfl⟩ : i < 5 ∧ v = .str (signS i) (st i) := by
      rcases i with _ | _ | _ | _ | _ | i
      all_goals first | (cases hv; exact ⟨by omega, rfl⟩) | (simp at hv)
    obtain ⟨tx, hx⟩ := ex_op B hi
    have hz : (tabOf g i).length ≤ sizeLine := by unfold tabOf; rw [List.length_map, List.length_range]; show _ ≤ 16777216; omega
    have S2 := S1.pick hls
    clear S1 S9
    repeat walk_at "go"
    rename_i S3
    refine CallAt.of S3 (call_fn (μ1 := [(l, listO vs n)]) (μ2 := [(it, o), (da, od)]) S3 (rm.less (by omega)) (List.perm_middle (a := (l, listO vs n)) (l₁ := [(it, o), (da, od)]) (l₂ := [])) (fun ι' h' => c_get G x l vs n es i hi _ [.str "0" _] (.str "0" _) (.inl rfl) ι₀ ι' (fun p hp => h' _ (by simp [hsub p hp])) H hes hlen) ?_)
    rintro v _ new s4 S4 ⟨rfl, hv⟩
    obtain ⟨lv, tk, rfl, hlv, hlo⟩ : ∃ (lv : Nat) (tk : Tok), v = .str (digS lv) tk ∧ lv < 5 ∧ (lv : Int) = lvOf es i := by
      unfold lvOf
      cases e : lookupH es i with
      | some lv => rw [e] at hv; obtain ⟨h1, tk, rfl⟩ := hv; exact ⟨lv, tk, rfl, h1, rfl⟩
      | none => rw [e] at hv; subst hv; exact ⟨0, _, by rw [zero_dig], by decide, rfl⟩
    have S5 := S4.less (List.sublist_append_right _ _)
    clear S4 S3 S2
    have hv' := hv
    clear hv hv'
    repeat walk_at "go"
    rename_i od' hod' S6
    have S7 := S6.perm (μ' := [(it, o), (da, od'), (l, listO vs n)]) (List.perm_middle (a := (l, listO vs n)) (l₁ := [(it, o), (da, od')]) (l₂ := []))
    have key : ∀ tv, od'.IsDictOf (PySem.intKind PP B.w) (stored (tabOf g i) (tokO i) (.int (lv : Int) tv)) → ∃ g' : Nat → Value, od'.IsDictOf (PySem.intKind PP B.w) (tabOf g' (i + 1)) ∧ ∀ j, j < i + 1 → ∃ t, g' j = .int (lvOf es j) t := by
      intro tv h
      have e0 : tabOf (fun j => if j = i then Value.int (lvOf es i) tv else g j) i = tabOf g i := tabOf_congr fun j hj => if_neg (Nat.ne_of_lt hj)
      refine ⟨fun j => if j = i then Value.int (lvOf es i) tv else g j, ?_, ?_⟩
      · rw [← tabOf_succ _ hi, e0]
        rw [if_pos rfl, ← hlo]
        exact h
      · intro j hj
        by_cases e : j = i
        · subst e; exact ⟨_, if_pos rfl⟩
        · obtain ⟨t, ht⟩ := hg j (by omega)
          exact ⟨t, (if_neg e).trans ht⟩
    obtain ⟨g', h1, h2⟩ := key _ hod'
    exact ⟨_, _, _, S7, rfl, ⟨rfl, rfl, trivial⟩, od', g', rfl, h1, h2⟩
  · rintro ls μ ι' s1 ⟨rfl, hls, od, g, rfl, hod, hg⟩ S1
    have S2 := S1.pick hls
    clear S1 S9
    repeat walk_at "go"
    have S3 := S2.permA (μ' := [(l, listO vs n)]) (ι' := (da, od) :: ([(sa, _)] ++ ι)) (List.Perm.swap _ _ _)
    exact ret_sub (μ' := [(l, listO vs n)]) (new := [(da, od)]) S3 (by walk_at "sub") ⟨rfl, da, _, rfl, DictAt.of hda (.head _) hod, lvF_of hg⟩
end
end
end
end
end
end
end
section
open PySem PySem.W PySem.Spec PySem.Calls PyProof.Rows
set_option maxRecDepth 100000
set_option maxHeartbeats 4000000
set_option linter.unusedVariables false
section
section
variable {B : Base} {A : Around} {E : Value → Shared → Prop} {s : Shared} {L C : Addr} {ls lsC : Loc} {μ ι μ' nw : Led} {Q : Value → Shared → Prop} {Qu : Unit → Shared → Prop} {prog : Program} {w : World} {env : Env} {M : Model} {x : Str} {v : Value} {oL : Obj} {t : Nat}

theorem r_storeE (S : St B L s ls μ ι) (hL : env.locals = L) (hl : env.kindOf x = some .local) (hp : (env.scope.kind == .class || (env.scope.kind == .module && env.locals != env.globals)) = false)
    (h : ∀ s', St B L s' ((x, v) :: ls) μ ι → Qu () s') : wpAny M A (storeName env x v) Qu E s := by
  obtain ⟨m, hm, hl'⟩ := S.ns
  subst hL
  refine wpAny_storeName_local hl hm (fun h' hn hs => h _ ?_) hp
  have he := hs.extBut
  refine ⟨⟨fun b o e => he b o (fun z => ?_) (S.own.keep b o e), fun p hp => ⟨he _ _ (S.ne p hp) (S.own.here p hp).1, (S.own.here p hp).2⟩, S.own.nd, S.own.gens, S.own.os⟩, ⟨_, hn, fun y u hy => ?_⟩, S.lo, S.ne⟩
  · rw [z, S.H_L] at e
    cases e
  · rw [List.lookup_cons] at hy
    by_cases q : y = x
    · subst q
      simp only [beq_self_eq_true] at hy
      rw [if_pos rfl]; exact hy
    · rw [if_neg q]
      have : (y == x) = false := by simpa using q
      rw [this] at hy
      exact hl' y u hy

/-- what the frame L holds, told by its object alone -/
noncomputable def FrameAs (L : Addr) (oL : Obj) (ls : Loc) : Prop := ∃ m : Str → Option Value, (∀ h : Heap, h.get? L = some oL → h.Ns L m) ∧ ∀ x v, ls.lookup x = some v → m x = some v

theorem St.enter {h₁ : Heap} {m : Str → Option Value} (S : St B L s ls μ ι) (hC : s.heap.objs.size ≤ C) (hns : h₁.Ns C m) (hk : ∀ b o, s.heap.get? b = some o → h₁.get? b = some o) :
    ∃ oL, FrameAs L oL ls ∧ St B C { s with heap := h₁, toks := t } [] μ ((L, oL) :: ι) := by
  obtain ⟨oL, hL, m', hm', hl'⟩ := S.frame
  have hlt : ∀ p ∈ μ ++ ι, p.1 < s.heap.objs.size := fun p hp => Heap.lt_size (S.own.here p hp).1
  have hO : Own B { s with heap := h₁, toks := t } ((L, oL) :: μ) ι := by
    refine ⟨fun b o e => hk _ _ (S.own.keep b o e), fun p hp => ?_, ?_, S.own.gens, S.own.os⟩
    · rcases List.mem_cons.mp hp with rfl | hp
      · exact ⟨hk _ _ hL, S.H_L⟩
      · exact ⟨hk _ _ (S.own.here p hp).1, (S.own.here p hp).2⟩
    · show ((L, oL) :: (μ ++ ι) |>.map (·.1)).Nodup
      rw [List.map_cons, List.nodup_cons]
      refine ⟨fun hm => ?_, S.own.nd⟩
      obtain ⟨p, hp, e⟩ := List.mem_map.mp hm
      exact S.ne p hp e
  refine ⟨oL, ⟨m', hm', hl'⟩, hO.perm List.perm_middle, ⟨m, hns, fun x v e => (nomatch e)⟩, Nat.le_trans S.lo (Nat.le_trans (Nat.le_of_lt S.L_lt) hC), fun p hp => ?_⟩
  rcases List.mem_cons.mp (List.perm_middle.subset hp) with rfl | hp
  · exact Nat.ne_of_lt (Nat.lt_of_lt_of_le S.L_lt hC)
  · exact Nat.ne_of_lt (Nat.lt_of_lt_of_le (hlt p hp) hC)

theorem St.leave {h' : Heap} (S : St B C s lsC μ' (nw ++ ((L, oL) :: ι))) (lo : B.H.objs.size ≤ L) (F : FrameAs L oL ls) (hs : Heap.SameBut C s.heap h') : St B L { s with heap := h', toks := t } ls μ' (nw ++ ι) := by
  obtain ⟨m, hm, hl⟩ := F
  have he := hs.extBut
  have P : (μ' ++ (nw ++ ((L, oL) :: ι))).Perm ((L, oL) :: (μ' ++ (nw ++ ι))) := by
    rw [← List.append_assoc, ← List.append_assoc]
    exact List.perm_middle
  have mem : ∀ p ∈ μ' ++ (nw ++ ι), p ∈ μ' ++ (nw ++ ((L, oL) :: ι)) := fun p hp => P.symm.subset (.tail _ hp)
  have hL : s.heap.get? L = some oL := (S.own.here (L, oL) (P.symm.subset (.head _))).1
  have hLC : L ≠ C := S.ne (L, oL) (P.symm.subset (.head _))
  have nd : ((L, oL) :: (μ' ++ (nw ++ ι)) |>.map (·.1)).Nodup := (P.map _).nodup_iff.mp S.own.nd
  refine ⟨⟨fun b o e => he b o (fun z => ?_) (S.own.keep b o e), fun p hp => ⟨he _ _ (S.ne p (mem p hp)) (S.own.here p (mem p hp)).1, (S.own.here p (mem p hp)).2⟩, ?_, S.own.gens, S.own.os⟩, ⟨m, hm _ (he _ _ hLC hL), hl⟩, lo, ?_⟩
  · subst z
    have := S.H_L
    rw [show B.H.get? b = none from this] at e
    cases e
  · rw [List.map_cons, List.nodup_cons] at nd
    exact nd.2
  · exact nodup_fst nd rfl

/-- a comprehension over a list, without a test -/
theorem r_comp {elt iter : Expr} {px : Pos} {scope : Scope} {pos : Pos} (hh : A.handled = none) (hfree : ∀ y ∈ scope.names, y.2 ≠ .free) (hcell : ∀ y ∈ scope.names, y.2 ≠ .cell) (hkind : scope.kind = .function)
    (hnames : ∀ y ∈ scope.names, y.2 = .local → scope.names.lookup y.1 = some .local) (hx : scope.names.lookup x = some .local)
    (h : wpAny (model prog w) A (eval iter env) (fun xv s₁ => ∃ l vs n ls μ ι, xv = .ref l ∧ St B L s₁ ls μ ι ∧ (l, listO vs n) ∈ μ ++ ι ∧ vs.length ≤ sizeLine ∧
      ∃ I : Nat → List Value → Led → Prop, I 0 [] [] ∧ (∀ i out nw, I i out nw → out.length = i) ∧
        (∀ C i v out nw lsC m it oo oL s₂ E', vs[i]? = some v → I i out nw → St B C s₂ ((x, v) :: lsC) ((m, listO out i) :: (it, oo) :: μ) (nw ++ ((L, oL) :: ι)) →
          wpAny (model prog w) A (eval elt (compEnv scope C env)) (fun y s₃ => ∃ nw', St B C s₃ ((x, v) :: lsC) ((m, listO out i) :: (it, oo) :: μ) (nw' ++ ((L, oL) :: ι)) ∧ I (i + 1) (out ++ [y]) nw') E' s₂) ∧
        (∀ a out nw s', I vs.length out nw → St B L s' ls ((a, listO out vs.length) :: μ) (nw ++ ι) → Q (.ref a) s')) E s)
    (hs : ∀ x, foldedSetIterable iter env x = pure x := by intro _; rfl) :
    wpAny (model prog w) A (eval (.ListComp elt [⟨.Name x px, iter, [], 0⟩] scope pos) env) Q E s := by
  refine wpAny_ListComp hfree hkind hnames (wpAny_mono h (fun xv s₁ h₁ => ?_) fun _ _ e => e) hs
  obtain ⟨l, vs, n, ls, μ, ι, rfl, S, hm, hsz, I, hI0, hIl, hturn, hQ⟩ := h₁
  have hl := S.isList hm
  refine wpAny_pyIter_list hl ?_
  have S1 := S.pushM (o := { cls := .type "list_iterator", data := .fields #[.ref l, .int 0 0] }) (t := s₁.toks) rfl
  refine r_newList (vs := []) S1 (Nat.zero_le _) ?_
  intro s₂ acc S2
  refine wpAny_newFunctionEnv hcell (by intro y hy; simp at hy) (fun h₁ hns hsb => ?_) hkind
  have hk : ∀ b o, s₂.heap.get? b = some o → h₁.get? b = some o := fun b o e => hsb.extBut b o (Nat.ne_of_lt (Heap.lt_size e)) (Heap.get?_push_of_some _ e)
  obtain ⟨oL, F, S3⟩ := S2.enter (C := s₂.heap.objs.size) (t := s₂.toks + ([] : List (Str × Value)).length) (Nat.le_refl _) hns hk
  have lo := S2.lo
  have loop : ∀ s₃ : Shared, s₃ = { s₂ with heap := h₁, toks := s₂.toks + ([] : List (Str × Value)).length } →
      codeAny (model prog w) A (.compLoop (.ListComp elt [⟨.Name x px, iter, [], 0⟩] scope pos) 0 (.ref s₁.heap.objs.size) (.ref acc) (compEnv scope s₂.heap.objs.size env))
        (fun r s' => ∃ m, s'.heap.Ns s₂.heap.objs.size m ∧ ∀ h', Heap.SameBut s₂.heap.objs.size s'.heap h' →
          match r with | .ok _ => Q (.ref acc) { s' with heap := h' } | .error x => wpAny (model prog w) A (passOn "comprehension.variables-let-go" x (compEnv scope s₂.heap.objs.size env)) Q E { s' with heap := h' }) s₃ := by
    rintro s₃ rfl
    refine codeAny_compLoop_tests (I := fun k sx => ∃ i out nw lsC o, k + i = vs.length ∧ St B s₂.heap.objs.size sx lsC ((acc, listO out i) :: (s₁.heap.objs.size, o) :: μ) (nw ++ ((L, oL) :: ι)) ∧ I i out nw ∧ o.cls = .type "list_iterator" ∧ o.data = .fields #[.ref l, .int i 0]) ?_ vs.length ?_
    · rintro k sx ⟨i, out, nw, lsC, o, hki, Sx, hI, hc, hd⟩
      have hit : sx.heap.IsListIter s₁.heap.objs.size l i := ⟨o, Sx.get (.tail _ (.head _)), hc, hd⟩
      have hmx : (l, listO vs n) ∈ ((acc, listO out i) :: (s₁.heap.objs.size, o) :: μ) ++ (nw ++ ((L, oL) :: ι)) := by
        rcases List.mem_append.mp hm with q | q
        · exact List.mem_append_left _ (.tail _ (.tail _ q))
        · exact List.mem_append_right _ (List.mem_append_right _ (.tail _ q))
      have hlx := Sx.isList hmx
      cases hv : vs[i]? with
      | none =>
        have hi' : i = vs.length := by have := List.getElem?_eq_none_iff.mp hv; omega
        subst hi'
        refine wpAny_pyNext_list_end hh hit hlx (by simpa using hv) fun h' he => ?_
        have Sy := (Sx.perm (List.Perm.swap (acc, listO out vs.length) (s₁.heap.objs.size, o) μ)).lose (t := sx.toks) he
        obtain ⟨m, hns', _⟩ := Sy.ns
        exact ⟨m, hns', fun h'' hs'' => hQ acc out nw _ hI (Sy.leave (t := sx.toks) lo F hs'')⟩
      | some v =>
        refine wpAny_pyNext_list_item hit hlx (by simpa using hv) fun h' hit' hs' => ?_
        obtain ⟨o', ho', hc', hd'⟩ := hit'
        have Sy := Sx.change (t := sx.toks) (.tail .head) hs'.extBut ho'
        refine wpAny_assign_Name (r_storeE Sy rfl hx (by show (scope.kind == .class || (scope.kind == .module && _)) = false; rw [hkind]; rfl) ?_)
        intro s₅ S5
        refine wpAny_tests_nil ?_
        rw [if_pos rfl]
        refine wpAny_mono (hturn _ i v out nw lsC acc _ o' oL s₅ _ hv hI S5) ?_ fun _ _ e => e
        rintro y s₆ ⟨nw', S6, hI'⟩
        have hlen : out.length ≤ sizeLine := by
          have := hIl _ _ _ hI
          have := (List.getElem?_eq_some_iff.mp hv).1
          omega
        refine r_append S6 .head hlen ?_
        intro s₇ S7
        exact ⟨k - 1, by have := (List.getElem?_eq_some_iff.mp hv).1; omega, i + 1, _, nw', _, o', by have := (List.getElem?_eq_some_iff.mp hv).1; omega, S7, hI', hc', hd'⟩
    · exact ⟨0, [], [], _, _, rfl, S3, hI0, rfl, rfl⟩
  exact codeAny_compStart_list (loop _ rfl) (wpAny_pyIter_listiter ⟨_, S3.get (.tail _ (.head _)), rfl, rfl⟩ (loop _ rfl))
end
end
end
section
open PySem PySem.W PySem.Spec PySem.Calls PyProof.Rows
set_option maxRecDepth 100000
set_option maxHeartbeats 4000000
set_option linter.unusedVariables false
section
noncomputable def callOf (n : Nat) : Nat × Nat × Nat := (n % 4, n / 4 % 5, n / 20 % 5)
noncomputable def natI (ns : List Nat) : List Int := ns.map fun n : Nat => (n : Int)
theorem natI_get {ns : List Nat} {vs : List Value} (h : IntL vs (natI ns)) {i : Nat} {v : Value} (hv : vs[i]? = some v) : ∃ (n : Nat) (t : Tok), ns[i]? = some n ∧ v = .int (n : Int) t := by
  obtain ⟨m, t, hm, rfl⟩ := h.get hv
  unfold natI at hm
  rw [List.getElem?_map] at hm
  obtain ⟨n, hn, rfl⟩ := Option.map_eq_some_iff.mp hm
  exact ⟨n, t, hn, rfl⟩
local macro_rules | `(tactic| walk_at "go") => `(tactic| first
  | ((with_reducible refine' r_locE ?S ?hL ?hk ?hl ?hv ?hd ?_); (case S => with_reducible assumption); (case hL => rfl); (case hk => rfl); (case hl => rfl); (case hv => rfl); (case hd => decide))
  | ((with_reducible refine' r_cellE ?S ?hm ?hd ?hk ?hl ?hc ?_ ?hdb); (case S => with_reducible assumption); (case hm => exact List.Mem.head _); (case hd => with_reducible assumption); (case hk => rfl); (case hl => rfl); (case hc => rfl); (case hdb => decide))
  | ((with_reducible refine' r_cellS ?S ?hk ?hl ?hc ?hd ?_); (case S => with_reducible assumption); (case hk => rfl); (case hl => rfl); (case hc => rfl); (case hd => with_reducible assumption); intro _ _ _ _)
  )
theorem c_calls {B : Base} (G : Gnd B) (na : Addr) (nvs : List Value) (nn : Nat) (ns : List Nat) (ι : Led) (hn : (na, listO nvs nn) ∈ ι) (hns : IntL nvs (natI ns)) (hlen : ns.length ≤ 900) :
    Fn B 224 [.ref na] [] 1 [] ι (fun v μ' new => μ' = [] ∧ ∃ a vs n nw, v = .ref a ∧ new = (a, listO vs n) :: nw ∧ CallL nw vs (ns.map callOf)) := by
  refine fn_intro (binds := [("numbers", .ref na)]) G rfl rfl (fun s X => BindsTo.of_eq rfl) rfl (by decide) rfl rfl rfl ?_
  intro A s L rm S
  have hnl : nvs.length = ns.length := by rw [hns.len]; simp [natI]
  repeat walk_at "go"
  refine r_comp (B := B) (L := L) rm.handled (by decide) (by decide) rfl (by decide) rfl ?_ (by intro _; rfl)
  repeat walk_at "go"
  refine ⟨na, nvs, nn, _, _, _, rfl, S, List.mem_append_right _ hn, by show _ ≤ 16777216; omega, fun i out nw => out.length = i ∧ CallL nw out ((ns.take i).map callOf), ⟨rfl, .nil⟩, fun _ _ _ h => h.1, ?_, ?_⟩
  · intro C i v out nw lsC m it oo oL s2 E' hv hI S2
    obtain ⟨k, t, hk, rfl⟩ := natI_get hns hv
    repeat walk_at "go"
    rename_i S3
    refine ⟨(_, tupO [Value.int (k % 4) _, Value.int (k / 4 % 5) _, Value.int (k / 20 % 5) _] 0) :: nw, S3, by rw [List.length_append, hI.1]; rfl, ?_⟩
    rw [List.take_add_one, hk, List.map_append]
    refine (hI.2.mono fun p hp => .tail _ hp).app ?_
    have e1 : ((k : Int) % 4) = ((k % 4 : Nat) : Int) := by omega
    have e2 : ((k : Int) / 4 % 5) = ((k / 4 % 5 : Nat) : Int) := by omega
    have e3 : ((k : Int) / 20 % 5) = ((k / 20 % 5 : Nat) : Int) := by omega
    rw [e1, e2, e3]
    exact .cons (.head _) (Nat.mod_lt _ (by decide)) (Nat.mod_lt _ (by decide)) (Nat.mod_lt _ (by decide)) .nil
  · intro a out nw s' hI S2
    rw [hnl, List.take_length] at hI
    exact ret_at (new := (a, listO out nvs.length) :: nw) S2.freeze ⟨rfl, a, out, _, nw, rfl, rfl, hI.2⟩
end
end
section
open PySem PySem.W PySem.Spec PySem.Calls PyProof.Rows
set_option maxRecDepth 100000
set_option maxHeartbeats 4000000
set_option linter.unusedVariables false
section
noncomputable abbrev rangeO (n : Nat) (t u v : Tok) : Obj := { cls := .type "range", data := .fields #[.int 0 t, .int (n : Int) u, .int 1 v] }
section
variable {B : Base} {A : Around} {E : Value → Shared → Prop} {s : Shared} {L : Addr} {ls : Loc} {μ ι : Led} {Q : Value → Shared → Prop} {prog : Program} {w : World} {t : Tok}
theorem r_range {n : Nat} {k : Int} (hk : k = (n : Int)) (S : St B L s ls μ ι) (h : ∀ s' r t u v, St B L s' ls μ ((r, rangeO n t u v) :: ι) → Q (.ref r) s') : wpAny (model prog w) A (call (.type "range") [.int k t]) Q E s := by
  subst hk
  exact call_range_1 (h _ _ _ _ _ (S.pushI (t := s.toks + 1 + 1) rfl))
end
/-- the first level, as the told fold has it -/
noncomputable def toldStep (o : Nat) (first : Option Nat) (c : Nat × Nat × Nat) : Option Nat :=
  if c.2.1 = o then (if c.1 = 0 then some c.2.2 else if c.1 = 3 then none else match first with | none => some c.2.2 | some f => some f) else first
noncomputable def told (cs : List (Nat × Nat × Nat)) (o : Nat) : Option Nat := cs.foldl (toldStep o) none
noncomputable def lvT (cs : List (Nat × Nat × Nat)) (o : Nat) : Int := ((told cs o).getD 0 : Nat)
theorem lookupH_app (es : List (Nat × Nat)) (p : Nat × Nat) (o : Nat) : lookupH (es ++ [p]) o = match lookupH es o with | some l => some l | none => if p.1 = o then some p.2 else none := by
  unfold lookupH
  rw [List.find?_append]
  cases h : es.find? fun p => p.1 == o with
  | some q => simp
  | none => by_cases e : p.1 = o <;> simp [e]
theorem lookupH_filter (q o : Nat) : ∀ es : List (Nat × Nat), lookupH (es.filter fun p => p.1 != q) o = if q = o then none else lookupH es o
  | [] => by unfold lookupH; simp
  | p :: es => by
    have ih := lookupH_filter q o es
    unfold lookupH at ih ⊢
    rw [List.filter_cons]
    by_cases h1 : p.1 = q
    · rw [show (p.1 != q) = false by simp [h1], if_neg Bool.false_ne_true, ih]
      by_cases h2 : q = o
      · simp [h2]
      · rw [if_neg h2, if_neg h2, List.find?_cons, show (p.1 == o) = false by rw [h1]; exact beq_false_of_ne h2]
    · rw [show (p.1 != q) = true by simpa using h1, if_pos rfl, List.find?_cons, List.find?_cons]
      by_cases h2 : p.1 = o
      · rw [show (p.1 == o) = true by simpa using h2]
        have h3 : q ≠ o := fun e => h1 (h2.trans e.symm)
        simp [h3]
      · rw [show (p.1 == o) = false from beq_false_of_ne h2]
        exact ih
theorem told_step (es : List (Nat × Nat)) (c : Nat × Nat × Nat) (hc : c.1 < 4) (o : Nat) : lookupH (tabStep es c) o = toldStep o (lookupH es o) c := by
  obtain ⟨c, q, l⟩ := c
  unfold tabStep toldStep
  obtain rfl | rfl | rfl | rfl : c = 0 ∨ c = 1 ∨ c = 2 ∨ c = 3 := by simp only at hc; omega
  · simp only [if_true]
    rw [lookupH_app, lookupH_filter]
    by_cases e : q = o
    · simp [e]
    · simp [e]; cases lookupH es o <;> rfl
  · simp only [if_true, Nat.one_ne_zero, if_false]
    rw [lookupH_app]
    by_cases e : q = o
    · simp [e]; cases lookupH es o <;> rfl
    · simp [e]; cases lookupH es o <;> rfl
  · simp only [if_true, show (2 : Nat) ≠ 0 by decide, show (2 : Nat) ≠ 1 by decide, show (2 : Nat) ≠ 3 by decide, if_false]
    split
    · rename_i h
      obtain ⟨x, hx⟩ := Option.isSome_iff_exists.mp h
      by_cases e : q = o
      · subst e; simp [hx]
      · simp [e]
    · rename_i h
      rw [lookupH_app]
      by_cases e : q = o
      · subst e
        simp
        cases h2 : lookupH es q with
        | none => rfl
        | some x => simp [h2] at h
      · simp [e]; cases lookupH es o <;> rfl
  · simp only [show (3 : Nat) ≠ 0 by decide, show (3 : Nat) ≠ 1 by decide, show (3 : Nat) ≠ 2 by decide, if_true, if_false]
    rw [lookupH_filter]
theorem told_table (cs : List (Nat × Nat × Nat)) (hc : ∀ c ∈ cs, c.1 < 4) (o : Nat) : lookupH (cs.foldl tabStep []) o = told cs o := by
  have key : ∀ (cs : List (Nat × Nat × Nat)) (es : List (Nat × Nat)) (f : Option Nat), (∀ c ∈ cs, c.1 < 4) → lookupH es o = f → lookupH (cs.foldl tabStep es) o = cs.foldl (toldStep o) f := by
    intro cs
    induction cs with
    | nil => intro es f _ h; exact h
    | cons c cs ih =>
      intro es f hc h
      rw [List.foldl_cons, List.foldl_cons]
      refine ih _ _ (fun c h => hc c (.tail _ h)) ?_
      rw [told_step es c (hc c (.head _)), h]
  exact key cs [] none hc rfl
theorem lv_same (cs : List (Nat × Nat × Nat)) (hc : ∀ c ∈ cs, c.1 < 4) : lvOf (cs.foldl tabStep []) = lvT cs := by
  funext o
  unfold lvOf lvT
  rw [told_table cs hc]
theorem lvT_nonneg (cs : List (Nat × Nat × Nat)) (o : Nat) : 0 ≤ lvT cs o := Int.natCast_nonneg _

/-- a level, or none yet -/
noncomputable def IsFirst (v : Value) : Option Nat → Prop
  | none => v = .none
  | some l => ∃ t, v = .int (l : Nat) t
local macro_rules | `(tactic| walk_at "go") => `(tactic| first
  | ((with_reducible refine' cw_t ?_ ?hp); (case hp => rfl))
  | ((with_reducible show wpAny _ _ (call (Value.type "type") [Value.str _ _]) _ _ _); refine call_type_of (Tx := "str") rfl (by decide +kernel) ?_)
  | ((with_reducible show wpAny _ _ (call (Value.type "type") [Value.ref _]) _ _ _); refine' r_typeL ?S ?hm ?_; (case S => with_reducible assumption); (case hm => walk_at "mem"))
  | ((with_reducible show wpAny _ _ (compareOp CmpOp.Is (Value.type _) (Value.type _)) _ _ _); refine wpAny_is_self (by rfl) ?_)
  | ((with_reducible show wpAny _ _ (compareOp CmpOp.IsNot (Value.type _) (Value.type _)) _ _ _); refine wpAny_isNot_self (by rfl) ?_)
  | ((with_reducible show wpAny _ _ (compareOp CmpOp.Is Value.none Value.none) _ _ _); refine wpAny_is_self (by rfl) ?_)
  | ((with_reducible show wpAny _ _ (compareOp CmpOp.IsNot Value.none Value.none) _ _ _); refine wpAny_isNot_self (by rfl) ?_)
  | ((with_reducible show wpAny _ _ (compareOp CmpOp.Is (Value.str _ _) Value.none) _ _ _); refine wpAny_is_other (by rfl) (fun h => nomatch h) ?_)
  | ((with_reducible show wpAny _ _ (compareOp CmpOp.IsNot (Value.str _ _) Value.none) _ _ _); refine wpAny_isNot_other (by rfl) (fun h => nomatch h) ?_)
  | ((with_reducible show wpAny _ _ (compareOp CmpOp.IsNot (Value.ref _) Value.none) _ _ _); refine wpAny_isNot_other (by rfl) (fun h => nomatch h) ?_)
  | (with_reducible refine' truthy_no ?_)
  | ((with_reducible refine' PyProof.Rows.eq_str ?_))
  | ((with_reducible refine' ne_str ?_))
  | ((with_reducible refine' r_meth plain_pattern slot_search type_search ?hb ?hf ?hp ?hl ?_); (case hb => rfl); (case hf => rfl); (case hp => rfl); (case hl => rfl))
  | ((with_reducible refine' on72 ?G ?S ?_); (case G => with_reducible assumption); (case S => with_reducible assumption))
  | ((with_reducible refine' on77 ?G ?S ?_); (case G => with_reducible assumption); (case S => with_reducible assumption))
  | ((with_reducible refine' r_search72 ?G ?S ?hx ?hc ?_); (case G => with_reducible assumption); (case S => with_reducible assumption); (case hx => assumption); (case hc => assumption))
  | ((with_reducible refine' r_search77 ?G ?S ?hx ?hc ?_); (case G => with_reducible assumption); (case S => with_reducible assumption); (case hx => assumption); (case hc => assumption))
  | ((with_reducible refine' r_meth PySem.F.plainAttrs_str PySem.F.slot_str_lower PySem.F.type_str_lower ?hb ?hf ?hp ?hl ?_); (case hb => rfl); (case hf => rfl); (case hp => rfl); (case hl => rfl))
  | ((with_reducible refine' r_lower ?S ?hl ?_); (case S => with_reducible assumption); (case hl => assumption); intro _ _ _))
local macro_rules | `(tactic| walk_at "go") => `(tactic| first
  | ((with_reducible show wpAny _ _ (compareOp CmpOp.Is (Value.int _ _) Value.none) _ _ _); refine wpAny_is_other (by rfl) (fun h => nomatch h) ?_)
  | ((with_reducible refine' cw_t ?_ ?hp); (case hp => rfl)))
theorem c_told {B : Base} (G : Gnd B) (ca : Addr) (cvs : List Value) (cn : Nat) (cs : List (Nat × Nat × Nat)) (ι : Led) (hc : (ca, listO cvs cn) ∈ ι) (hcs : CallL ι cvs cs) (hlen : cs.length ≤ 900) :
    Fn B 231 [.ref ca] [] 1 [] ι (fun v μ' new => μ' = [] ∧ ∃ a, v = .ref a ∧ LevAt new a (lvT cs)) := by
  refine fn_intro (binds := [("calls", .ref ca)]) G rfl rfl (fun s X => BindsTo.of_eq rfl) rfl (by decide) rfl rfl rfl ?_
  intro A s L rm S
  repeat walk_at "go"
  refine r_for ?_
  repeat walk_at "go"
  rename_i S9
  refine r_range (n := 5) rfl S9 ?_
  clear S9
  intro s1 ra t0 u0 v0 S1
  rename_i la _ _ _ _ _
  refine loop_range (n := 5) rm.handled (by decide) S1 (S1.get (List.mem_append_right _ (.head _))) (fun i ls μ ι' => LocAll ls [("levels", .ref la), ("calls", .ref ca)] ∧ ι' = (ra, rangeO 5 t0 u0 v0) :: ι ∧ ∃ vs n, μ = [(la, listO vs n)] ∧ vs.length = i ∧ ∀ j, j < i → ∃ t, vs[j]? = some (.int (lvT cs j) t)) ?_ ?_ ?_
  · exact ⟨⟨rfl, rfl, trivial⟩, rfl, [], 0, rfl, rfl, fun j hj => absurd hj (Nat.not_lt_zero j)⟩
  · rintro i t ls μ ι' s2 it o hi ⟨hls, hι, vs, n, rfl, hvl, hv⟩ S2
    have hsub : ∀ p ∈ ι, p ∈ ι' := fun p hp => by rw [hι]; exact .tail _ hp
    have S3 := S2.pick hls
    clear S1 S2
    repeat walk_at "go"
    refine r_for ?_
    repeat walk_at "go"
    rename_i S4
    refine loop_list (vs := cvs) (ol := listO cvs cn) rm.handled S4 ⟨rfl, _, rfl⟩ (fun k ls μ ι2 => ι2 = ι' ∧ μ = [(it, o), (la, listO vs n)] ∧ ∃ fv, LocAll ls [("first", fv), ("one", .int (i : Nat) t), ("levels", .ref la), ("calls", .ref ca)] ∧ IsFirst fv ((cs.take k).foldl (toldStep i) none)) ?_ ?_ ?_ ?_
    · exact ⟨rfl, rfl, .none, ⟨rfl, rfl, rfl, rfl, trivial⟩, rfl⟩
    · rintro k ls μ ι2 ⟨rfl, rfl, _⟩ s O
      exact (O.here (ca, listO cvs cn) (List.mem_append_right _ (hsub _ hc))).1
    · rintro k v ls μ ι2 s5 it2 o2 hv2 ⟨rfl, rfl, fv, hls, hf⟩ S5
      obtain ⟨a, c, q, lv, t1, t2, t3, n1, hci, rfl, hm1, hc4, hq5, hl5⟩ := hcs.get hv2
      have htk : cs.take (k + 1) = cs.take k ++ [(c, q, lv)] := by rw [List.take_add_one, hci]; rfl
      have hst : (cs.take (k + 1)).foldl (toldStep i) none = toldStep i ((cs.take k).foldl (toldStep i) none) (c, q, lv) := by rw [htk, List.foldl_append]; rfl
      rw [hst]
      generalize (cs.take k).foldl (toldStep i) none = f at hf
      have hm2 := hsub _ hm1
      have S6 := S5.pick hls
      clear S5 S4
      repeat walk_at "go"
      refine r_if ?_
      repeat walk_at "go"
      rename_i S7
      have fin : ∀ s' ls' fv', LocAll ls' [("first", fv'), ("one", .int (i : Nat) t), ("levels", .ref la), ("calls", .ref ca)] → St B L s' ls' [(it2, o2), (it, o), (la, listO vs n)] ι2 → IsFirst fv' (toldStep i f (c, q, lv)) →
          ∃ ls' μ' ι3, St B L s' ls' ((it2, o2) :: μ') ι3 ∧ (ι3 = ι2 ∧ μ' = [(it, o), (la, listO vs n)] ∧ ∃ fv, LocAll ls' [("first", fv), ("one", .int (i : Nat) t), ("levels", .ref la), ("calls", .ref ca)] ∧ IsFirst fv (toldStep i f (c, q, lv))) :=
        fun s' ls' fv' h1 h2 h3 => ⟨ls', _, ι2, h2, rfl, rfl, fv', h1, h3⟩
      by_cases hqi : q = i
      · subst hqi
        refine ite_pos (by simp) ?_
        repeat walk_at "go"
        obtain rfl | rfl | rfl | rfl : c = 0 ∨ c = 1 ∨ c = 2 ∨ c = 3 := by omega
        · refine r_if ?_
          repeat walk_at "go"
          refine fin _ _ (.int (lv : Nat) t3) ⟨rfl, rfl, rfl, rfl, trivial⟩ (by assumption) ?_
          unfold toldStep
          rw [if_pos rfl]
          show ∃ t, _ = Value.int _ t
          exact ⟨_, rfl⟩
        · refine r_if ?_
          repeat walk_at "go"
          refine r_if ?_
          repeat walk_at "go"
          refine r_if ?_
          cases f with
          | none =>
            cases hf
            repeat walk_at "go"
            refine fin _ _ (.int (lv : Nat) t3) ⟨rfl, rfl, rfl, rfl, trivial⟩ (by assumption) ?_
            unfold toldStep
            rw [if_pos rfl]
            show ∃ t, _ = Value.int _ t
            exact ⟨_, rfl⟩
          | some x =>
            obtain ⟨tx, rfl⟩ := hf
            repeat walk_at "go"
            refine fin _ _ (.int (x : Nat) tx) ⟨rfl, rfl, rfl, rfl, trivial⟩ (by assumption) ?_
            unfold toldStep
            rw [if_pos rfl]
            show ∃ t, _ = Value.int _ t
            exact ⟨_, rfl⟩
        · refine r_if ?_
          repeat walk_at "go"
          refine r_if ?_
          repeat walk_at "go"
          refine r_if ?_
          cases f with
          | none =>
            cases hf
            repeat walk_at "go"
            refine fin _ _ (.int (lv : Nat) t3) ⟨rfl, rfl, rfl, rfl, trivial⟩ (by assumption) ?_
            unfold toldStep
            rw [if_pos rfl]
            show ∃ t, _ = Value.int _ t
            exact ⟨_, rfl⟩
          | some x =>
            obtain ⟨tx, rfl⟩ := hf
            repeat walk_at "go"
            refine fin _ _ (.int (x : Nat) tx) ⟨rfl, rfl, rfl, rfl, trivial⟩ (by assumption) ?_
            unfold toldStep
            rw [if_pos rfl]
            show ∃ t, _ = Value.int _ t
            exact ⟨_, rfl⟩
        · refine r_if ?_
          repeat walk_at "go"
          refine r_if ?_
          repeat walk_at "go"
          refine fin _ _ .none ⟨rfl, rfl, rfl, rfl, trivial⟩ (by assumption) ?_
          unfold toldStep
          rw [if_pos rfl]
          show _ = Value.none
          rfl
      · refine ite_neg (by simp; omega) ?_
        repeat walk_at "go"
        have e0 : toldStep i f (c, q, lv) = f := by simp [toldStep, hqi]
        exact fin _ _ _ ⟨rfl, rfl, rfl, rfl, trivial⟩ S7 (by rw [e0]; exact hf)
    · rintro ls μ ι2 s5 ⟨rfl, rfl, fv, hls, hf⟩ S5
      rw [hcs.len, List.take_length] at hf
      have S6 := S5.pick hls
      clear S5 S4
      have hz : vs.length ≤ 5 := by omega
      repeat walk_at "go"
      have fin : ∀ s' ls' tv, LocAll ls' [("levels", .ref la), ("calls", .ref ca)] → St B L s' ls' [(it, o), (la, listO (vs ++ [.int (lvT cs i) tv]) (n + 1))] ι2 →
          ∃ ls' μ' ι3, St B L s' ls' ((it, o) :: μ') ι3 ∧ (LocAll ls' [("levels", .ref la), ("calls", .ref ca)] ∧ ι3 = (ra, rangeO 5 t0 u0 v0) :: ι ∧ ∃ vs n, μ' = [(la, listO vs n)] ∧ vs.length = i + 1 ∧ ∀ j, j < i + 1 → ∃ t, vs[j]? = some (.int (lvT cs j) t)) := by
        intro s' ls' tv h1 h2
        refine ⟨ls', _, ι2, h2, h1, hι, _, _, rfl, by rw [List.length_append, hvl]; rfl, fun j hj => ?_⟩
        by_cases e : j < i
        · obtain ⟨t, ht⟩ := hv j e
          exact ⟨t, by rw [List.getElem?_append_left (by omega)]; exact ht⟩
        · have : j = i := by omega
          subst this
          exact ⟨tv, by rw [← hvl]; simp⟩
      have e1 : lvT cs i = (((cs.foldl (toldStep i) none).getD 0 : Nat) : Int) := rfl
      generalize cs.foldl (toldStep i) none = f at hf e1
      cases f with
      | none =>
        cases hf
        repeat walk_at "go"
        rename_i S7
        exact fin _ _ _ ⟨rfl, rfl, trivial⟩ (by rw [e1]; exact S7)
      | some x =>
        obtain ⟨tx, rfl⟩ := hf
        repeat walk_at "go"
        rename_i S7
        exact fin _ _ _ ⟨rfl, rfl, trivial⟩ (by rw [e1]; exact S7)
  · rintro ls μ ι' s2 ⟨hls, rfl, vs, n, rfl, hvl, hv⟩ S2
    have S3 := S2.pick hls
    clear S1 S2
    repeat walk_at "go"
    exact ret_sub (μ' := []) (new := [(la, listO vs n)]) S3 ((List.sublist_cons_self _ _).cons_cons _) ⟨rfl, la, rfl, vs, n, .head _, hv⟩
end
end
section
open PySem PySem.W PySem.Spec PySem.Calls PyProof.Rows
set_option maxRecDepth 100000
set_option maxHeartbeats 4000000
set_option linter.unusedVariables false
section
/-- a pile of trees -/
inductive TreeL (ι : Led) : List Value → List T → Prop
  | nil : TreeL ι [] []
  | cons {v t vs ts} : TreeAt ι v t → t.ok → TreeL ι vs ts → TreeL ι (v :: vs) (t :: ts)
theorem TreeL.mono {ι ι' : Led} (h : ∀ p ∈ ι, p ∈ ι') {vs ts} (x : TreeL ι vs ts) : TreeL ι' vs ts := by
  induction x with
  | nil => exact .nil
  | cons a b _ ih => exact .cons (a.mono h) b ih
theorem TreeL.len {ι : Led} {vs ts} (h : TreeL ι vs ts) : vs.length = ts.length := by
  induction h with
  | nil => rfl
  | cons _ _ _ ih => simp [ih]
theorem TreeL.app {ι : Led} {vs es vs' es'} (h : TreeL ι vs es) (h' : TreeL ι vs' es') : TreeL ι (vs ++ vs') (es ++ es') := by
  induction h with
  | nil => exact h'
  | cons a b _ ih => exact .cons a b ih
theorem TreeL.snoc {ι : Led} : ∀ {vs : List Value} {ts : List T} {t : T}, TreeL ι vs (ts ++ [t]) → ∃ vs' v, vs = vs' ++ [v] ∧ TreeL ι vs' ts ∧ TreeAt ι v t ∧ t.ok
  | _, [], t, h => by
    cases h with
    | cons a b h => cases h; exact ⟨[], _, rfl, .nil, a, b⟩
  | _, m :: ts, t, h => by
    cases h with
    | cons a b h =>
      obtain ⟨vs', v, rfl, h', h2⟩ := TreeL.snoc h
      exact ⟨_ :: vs', v, rfl, .cons a b h', h2⟩
noncomputable def sumL (ts : List T) : Nat := (ts.map T.leaves).sum
theorem sumL_app (a b : List T) : sumL (a ++ b) = sumL a + sumL b := by unfold sumL; simp
theorem sumL_one (t : T) : sumL [t] = t.leaves := by unfold sumL; simp
theorem sumL_len : ∀ ts : List T, ts.length ≤ sumL ts
  | [] => Nat.le_refl _
  | t :: ts => by
    have := sumL_len ts
    have := t.leaves_pos
    show ts.length + 1 ≤ sumL (t :: ts)
    have : sumL (t :: ts) = t.leaves + sumL ts := by unfold sumL; simp
    omega
theorem TreeL.two {ι : Led} {vs : List Value} {ts : List T} (h : TreeL ι vs ts) (hl : 1 < vs.length) : ∃ vs2 vl vr ts2 tl tr, vs = vs2 ++ [vl] ++ [vr] ∧ TreeL ι vs2 ts2 ∧ TreeAt ι vl tl ∧ tl.ok ∧ TreeAt ι vr tr ∧ tr.ok ∧ sumL ts = sumL ts2 + tl.leaves + tr.leaves := by
  have hl' := h.len
  rcases List.eq_nil_or_concat ts with rfl | ⟨ts1, tr, rfl⟩
  · have hl2 : vs.length = 0 := hl'
    omega
  · rw [List.concat_eq_append] at h hl' ⊢
    obtain ⟨vs1, vr, rfl, h1, h2, h3⟩ := h.snoc
    rcases List.eq_nil_or_concat ts1 with rfl | ⟨ts2, tl, rfl⟩
    · have hl2 : vs1.length = 0 := h1.len
      rw [List.length_append, hl2] at hl
      exact absurd hl (Nat.lt_irrefl 1)
    · rw [List.concat_eq_append] at h1 ⊢
      obtain ⟨vs2, vl, rfl, h4, h5, h6⟩ := h1.snoc
      exact ⟨vs2, vl, vr, ts2, tl, tr, rfl, h4, h5, h6, h2, h3, by rw [sumL_app, sumL_app, sumL_one, sumL_one]⟩
local macro_rules | `(tactic| walk_at "go") => `(tactic| first
  | ((with_reducible refine' cw_t ?_ ?hp); (case hp => rfl))
  | ((with_reducible show wpAny _ _ (call (Value.type "type") [Value.str _ _]) _ _ _); refine call_type_of (Tx := "str") rfl (by decide +kernel) ?_)
  | ((with_reducible show wpAny _ _ (call (Value.type "type") [Value.ref _]) _ _ _); refine' r_typeL ?S ?hm ?_; (case S => with_reducible assumption); (case hm => walk_at "mem"))
  | ((with_reducible show wpAny _ _ (compareOp CmpOp.Is (Value.type _) (Value.type _)) _ _ _); refine wpAny_is_self (by rfl) ?_)
  | ((with_reducible show wpAny _ _ (compareOp CmpOp.IsNot (Value.type _) (Value.type _)) _ _ _); refine wpAny_isNot_self (by rfl) ?_)
  | ((with_reducible show wpAny _ _ (compareOp CmpOp.Is Value.none Value.none) _ _ _); refine wpAny_is_self (by rfl) ?_)
  | ((with_reducible show wpAny _ _ (compareOp CmpOp.IsNot Value.none Value.none) _ _ _); refine wpAny_isNot_self (by rfl) ?_)
  | ((with_reducible show wpAny _ _ (compareOp CmpOp.Is (Value.str _ _) Value.none) _ _ _); refine wpAny_is_other (by rfl) (fun h => nomatch h) ?_)
  | ((with_reducible show wpAny _ _ (compareOp CmpOp.IsNot (Value.str _ _) Value.none) _ _ _); refine wpAny_isNot_other (by rfl) (fun h => nomatch h) ?_)
  | ((with_reducible show wpAny _ _ (compareOp CmpOp.IsNot (Value.ref _) Value.none) _ _ _); refine wpAny_isNot_other (by rfl) (fun h => nomatch h) ?_)
  | (with_reducible refine' truthy_no ?_)
  | ((with_reducible refine' PyProof.Rows.eq_str ?_))
  | ((with_reducible refine' ne_str ?_))
  | ((with_reducible refine' r_meth plain_pattern slot_search type_search ?hb ?hf ?hp ?hl ?_); (case hb => rfl); (case hf => rfl); (case hp => rfl); (case hl => rfl))
  | ((with_reducible refine' on72 ?G ?S ?_); (case G => with_reducible assumption); (case S => with_reducible assumption))
  | ((with_reducible refine' on77 ?G ?S ?_); (case G => with_reducible assumption); (case S => with_reducible assumption))
  | ((with_reducible refine' r_search72 ?G ?S ?hx ?hc ?_); (case G => with_reducible assumption); (case S => with_reducible assumption); (case hx => assumption); (case hc => assumption))
  | ((with_reducible refine' r_search77 ?G ?S ?hx ?hc ?_); (case G => with_reducible assumption); (case S => with_reducible assumption); (case hx => assumption); (case hc => assumption))
  | ((with_reducible refine' r_meth PySem.F.plainAttrs_str PySem.F.slot_str_lower PySem.F.type_str_lower ?hb ?hf ?hp ?hl ?_); (case hb => rfl); (case hf => rfl); (case hp => rfl); (case hl => rfl))
  | ((with_reducible refine' r_lower ?S ?hl ?_); (case S => with_reducible assumption); (case hl => assumption); intro _ _ _))
theorem c_tree {B : Base} (G : Gnd B) (na : Addr) (nvs : List Value) (nn : Nat) (ns : List Nat) (ι : Led) (hn : (na, listO nvs nn) ∈ ι) (hns : IntL nvs (natI ns)) (hlen : ns.length ≤ 8) (hpos : 0 < ns.length) :
    Fn B 245 [.ref na] [] 1 [] ι (fun v μ' new => μ' = [] ∧ ∃ t, t.ok ∧ t.leaves ≤ 8 ∧ TreeAt new v t) := by
  refine fn_intro (binds := [("numbers", .ref na)]) G rfl rfl (fun s X => BindsTo.of_eq rfl) rfl (by decide) rfl rfl rfl ?_
  intro A s L rm S
  have hnl : nvs.length = ns.length := by rw [hns.len]; simp [natI]
  repeat walk_at "go"
  refine r_for ?_
  repeat walk_at "go"
  rename_i S9
  refine r_range (n := ns.length) (by rw [hnl]) S9 ?_
  clear S9
  intro s1 ra t0 u0 v0 S1
  rename_i pa _ _ _ _ _
  refine loop_range (n := ns.length) rm.handled (by omega) S1 (S1.get (List.mem_append_right _ (.head _))) (fun i ls μ ι' => LocAll ls [("pile", .ref pa), ("numbers", .ref na)] ∧ ∃ nw vs n ts, ι' = nw ++ ι ∧ μ = [(pa, listO vs n)] ∧ TreeL nw vs ts ∧ sumL ts = i) ?_ ?_ ?_
  · exact ⟨⟨rfl, rfl, trivial⟩, [(ra, rangeO ns.length t0 u0 v0)], [], _, [], rfl, rfl, .nil, rfl⟩
  · rintro i t ls μ ι' s2 it o hi ⟨hls, nw, vs, n, ts, rfl, rfl, hts, hsum⟩ S2
    have S3 := S2.pick hls
    clear S1 S2
    have hv1 := hts.len
    have hv2 := sumL_len ts
    obtain ⟨v, hv⟩ : ∃ v, nvs[i]? = some v := ⟨nvs[i], List.getElem?_eq_getElem (by omega)⟩
    obtain ⟨k, tk, hk, rfl⟩ := natI_get hns hv
    repeat walk_at "go"
    rename_i S4
    refine r_letter (c := i) S4 rfl (by omega) ?_ (by with_unfolding_all rfl)
    clear S4 S3
    intro _ _ S4
    repeat walk_at "go"
    refine r_for ?_
    repeat walk_at "go"
    rename_i S5
    refine r_range (n := k / 100 % 3) (by omega) S5 ?_
    clear S5 S4
    intro s6 rb t6 u6 v6 S6
    refine loop_range (n := k / 100 % 3) rm.handled (by omega) S6 (S6.get (List.mem_append_right _ (.head _))) (fun j ls μ ι' => LocAll ls [("n", .int (k : Nat) tk), ("pile", .ref pa), ("numbers", .ref na)] ∧ ∃ nw vs n ts, ι' = nw ++ ι ∧ μ = [(it, o), (pa, listO vs n)] ∧ TreeL nw vs ts ∧ sumL ts = i + 1) ?_ ?_ ?_
    · refine ⟨⟨rfl, rfl, rfl, trivial⟩, (rb, rangeO (k / 100 % 3) t6 u6 v6) :: _ :: nw, _, _, ts ++ [.leaf i], rfl, rfl, ?_, by rw [sumL_app, sumL_one, hsum]; rfl⟩
      exact (hts.mono fun p hp => .tail _ (.tail _ hp)).app (.cons (.leaf (.tail _ (.head _))) (show i < 8 by omega) .nil)
    · rintro j tj ls μ ι' s7 it2 o2 hj ⟨hls, nw, vs, n, ts, rfl, rfl, hts, hsum⟩ S7
      have S8 := S7.pick hls
      clear S7 S6
      have hv1 := hts.len
      have hv2 := sumL_len ts
      have hz : vs.length ≤ 20 := by omega
      repeat walk_at "go"
      refine r_if ?_
      repeat walk_at "go"
      by_cases hl : 1 < vs.length
      · refine ite_pos (decide_eq_true (by omega)) ?_
        obtain ⟨vs2, vl, vr, ts2, tl, tr, rfl, h1, h2, h3, h4, h5, h6⟩ := hts.two hl
        have hz2 : vs2.length ≤ 20 := by rw [List.length_append, List.length_append] at hz; omega
        repeat walk_at "go"
        rename_i S9
        have e : ((k : Int) / 300 + (j : Int)) % 5 = (((k / 300 + j) % 5 : Nat) : Int) := by omega
        rw [e] at S9
        refine ⟨_, _, _, S9, ⟨rfl, rfl, rfl, trivial⟩, _ :: nw, _, _, ts2 ++ [.node ((k / 300 + j) % 5) tl tr ((k : Int) / 1500 % 2 == 1)], rfl, rfl, ?_, by rw [sumL_app, sumL_one]; show sumL ts2 + (tl.leaves + tr.leaves) = _; omega⟩
        exact (h1.mono fun p hp => .tail _ hp).app (.cons (.node (.head _) (h2.mono fun p hp => .tail _ hp) (h4.mono fun p hp => .tail _ hp)) ⟨Nat.mod_lt _ (by decide), h3, h5⟩ .nil)
      · refine ite_neg (fun h => hl (by have := of_decide_eq_true h; omega)) ?_
        repeat walk_at "go"
        rename_i S9
        exact ⟨_, _, _, S9, ⟨rfl, rfl, rfl, trivial⟩, nw, vs, n, ts, rfl, rfl, hts, hsum⟩
    · rintro ls μ ι' s7 ⟨hls, nw, vs, n, ts, rfl, rfl, hts, hsum⟩ S7
      have S8 := S7.pick hls
      repeat walk_at "go"
      exact ⟨_, _, _, S8, ⟨rfl, rfl, trivial⟩, nw, vs, n, ts, rfl, rfl, hts, hsum⟩
  · rintro ls μ ι' s2 ⟨hls, nw, vs, n, ts, rfl, rfl, hts, hsum⟩ S2
    have S3 := S2.pick hls
    clear S1 S2
    refine r_while (fun m s => ∃ nw vs n ts, vs.length = m ∧ TreeL nw vs ts ∧ sumL ts = ns.length ∧ St B L s [("pile", .ref pa), ("numbers", .ref na)] [(pa, listO vs n)] (nw ++ ι)) vs.length ⟨nw, vs, n, ts, rfl, hts, hsum, S3⟩ ?_
    clear S3 hts
    rintro m s4 ⟨nw, vs, n, ts, rfl, hts, hsum, S4⟩
    have hv1 := hts.len
    have hv2 := sumL_len ts
    have hz : vs.length ≤ 20 := by omega
    repeat walk_at "go"
    by_cases hl : 1 < vs.length
    · refine ite_pos (decide_eq_true (by omega)) ?_
      obtain ⟨vs2, vl, vr, ts2, tl, tr, rfl, h1, h2, h3, h4, h5, h6⟩ := hts.two hl
      have hz2 : vs2.length ≤ 20 := by rw [List.length_append, List.length_append] at hz; omega
      repeat walk_at "go"
      rename_i S9
      have e : (vs2.length : Int) % 5 = ((vs2.length % 5 : Nat) : Int) := by omega
      rw [e] at S9
      refine ⟨vs2.length + 1, by simp, _ :: nw, _, _, ts2 ++ [.node (vs2.length % 5) tl tr false], by simp, ?_, by rw [sumL_app, sumL_one]; show sumL ts2 + (tl.leaves + tr.leaves) = _; omega, S9.pick ⟨rfl, rfl, trivial⟩⟩
      exact (h1.mono fun p hp => .tail _ hp).app (.cons (.node (.head _) (h2.mono fun p hp => .tail _ hp) (h4.mono fun p hp => .tail _ hp)) ⟨Nat.mod_lt _ (by decide), h3, h5⟩ .nil)
    · refine ite_neg (fun h => hl (by have := of_decide_eq_true h; omega)) ?_
      cases hts with
      | nil => have : sumL [] = 0 := rfl; omega
      | cons a b h' => cases h' with
        | cons a2 b2 h2 => simp only [List.length_cons] at hl; omega
        | nil =>
          repeat walk_at "go"
          rename_i S9
          rw [sumL_one] at hsum
          exact ret_sub (μ' := []) (new := nw) S9 (List.sublist_cons_self _ _) ⟨rfl, _, b, by omega, a⟩
end
end
section
open PySem PySem.W PySem.Spec PySem.Calls PyProof.Rows PyProof.V
set_option maxRecDepth 100000
set_option maxHeartbeats 4000000
set_option linter.unusedVariables false
section
theorem str_carried : ∀ {vs : List Value} {ns : List Str}, StrL vs ns → CarriedAll vs (ns.map PyData.str)
  | _, _, .nil => .nil
  | _, _, .cons r => .cons (.str _ _) (str_carried r)
theorem str_canLay : ∀ ns : List Str, (∀ x ∈ ns, PyData.strOk x = true) → PyData.canLayAll0 (ns.map PyData.str) = true
  | [], _ => rfl
  | x :: r, h => by
    have := str_canLay r fun y hy => h y (.tail _ hy)
    simp [PyData.canLayAll0, PyData.canLay0, this, h x (.head _)]
theorem str_depth : ∀ ns : List Str, PyData.depthAll (ns.map PyData.str) = 0
  | [] => rfl
  | _ :: r => by simp [PyData.depthAll, PyData.depth, str_depth r]
theorem str_shaped (ns : List Str) (h : ∀ x ∈ ns, PyData.strOk x = true) : SeqAt.shaped (.list (ns.map PyData.str)) = true := by
  simp [SeqAt.shaped, PyData.canLay0, PyData.depth, str_canLay ns h, str_depth]
theorem str_sameAll : ∀ ns ms : List Str, PySem.Spec.sameAll (ns.map PyData.str) (ms.map PyData.str) = decide (ns = ms)
  | [], [] => by simp [PySem.Spec.sameAll]
  | [], _ :: _ => by simp [PySem.Spec.sameAll]
  | _ :: _, [] => by simp [PySem.Spec.sameAll]
  | a :: r, b :: t => by
    simp only [List.map_cons, PySem.Spec.sameAll, PySem.Spec.same, str_sameAll r t]
    by_cases h : a = b <;> by_cases h' : r = t <;> simp [h, h']
theorem str_same (ns ms : List Str) : PySem.Spec.same (.list (ns.map PyData.str)) (.list (ms.map PyData.str)) = decide (ns = ms) := by
  simp only [PySem.Spec.same]; exact str_sameAll ns ms
section
variable {B : Base} {A : Around} {E : Value → Shared → Prop} {s : Shared} {L a b l : Addr} {ls : Loc} {μ ι : Led} {Q : Value → Shared → Prop} {prog : Program} {w : World} {xs ys vs : List Value} {n m d : Nat} {ns ms : List Str}
theorem r_neS (rm : Room A d) (S : St B L s ls μ ι) (h1 : (a, listO xs n) ∈ μ ++ ι) (h2 : (b, listO ys m) ∈ μ ++ ι) (hi : StrL xs ns) (hj : StrL ys ms) (b1 : ∀ x ∈ ns, PyData.strOk x = true) (b2 : ∀ x ∈ ms, PyData.strOk x = true) (h : Q (.bool (!decide (ns = ms))) s) :
    wpAny (model prog w) A (compareOp .NotEq (.ref a) (.ref b)) Q E s :=
  ne_dataH_same (reads_newData (S.isList h1) (str_carried hi)) (reads_newData (S.isList h2) (str_carried hj)) (str_shaped _ b1) (str_shaped _ b2) (by have := rm.units; omega) (SeqAt.noMix_of_shape (.list .str) rfl _ _ (list_map_has fun _ => rfl) (list_map_has fun _ => rfl)) (by rw [str_same]; exact h)

/-- a slice of a list -/
theorem sl_list {vl vu : Value} {lo hi : Option Int} (S : St B L s ls μ ι) (hl : s.heap.IsList l vs.toArray) (pl : IsPart vl lo) (pu : IsPart vu hi) (hz : vs.length ≤ sizeLine)
    (h : ∀ s' a, St B L s' ls ((a, listO (slicePick vs.toArray lo hi none).toList 0) :: μ) ι → Q (.ref a) s') :
    ∃ T, s.TypeIs (.ref l) T ∧ (∃ id, typeLookup (.type T) "__getitem__" = pure (some (.builtin id))) ∧
        wpAny (model prog w) A (getItem (.ref l) (.ref s.heap.objs.size)) Q E { s with heap := s.heap.push { cls := .type "slice", data := .fields #[vl, vu, .none] } } := by
  refine ⟨"list", hl.typeIs, ⟨_, F.slot_list_getitem.lookup⟩, ?_⟩
  refine wpAny_getItem_list_slice (hl.push _) (Heap.IsSliceOf.new ..) pl pu .none (by simp) ?_ (by rw [List.size_toArray]; exact hz)
  have S1 : St B L { s with heap := s.heap.push { cls := .type "slice", data := .fields #[vl, vu, .none] } } ls μ ι := S.ext fun _ _ e => Heap.get?_push_of_some _ e
  have S2 := S1.pushM (o := listO (slicePick vs.toArray lo hi none).toList 0) (t := s.toks) rfl
  exact h _ _ S2
end
/-- the law's text -/
noncomputable def lawB (B : Base) : List Stmt := match (KF B).lookup 306 with
  | some ⟨_, _, .func fd, _⟩ => (match fd.body with | .stmts b => b | _ => [])
  | _ => []
noncomputable def lawS (B : Base) : Scope := match (KF B).lookup 306 with
  | some ⟨_, _, .func fd, _⟩ => fd.scope
  | _ => { kind := .function, names := [], isGenerator := false, isCoroutine := false }
theorem law_open {B : Base} {name qual : Str} {params : Arguments} {body : List Stmt} {scope : Scope} {dV kV doc pm cdv ct oc : Value} {an od : Option Addr} {osl : Array (Option Value)}
    (ho : (KF B).lookup 306 = some ⟨oc, od, .func (fnOf name qual params body scope dV kV doc pm an cdv ct), osl⟩) {P : List Stmt → Scope → Prop} (h : P body scope) : P (lawB B) (lawS B) := by
  unfold lawB lawS
  rw [ho]
  exact h
end
end
section
open PySem PySem.W PySem.Spec PySem.Calls PyProof.Rows
set_option maxRecDepth 100000
set_option maxHeartbeats 4000000
set_option linter.unusedVariables false
section
theorem strOk_app (a b : Str) (ha : PyData.strOk a = true) (hb : PyData.strOk b = true) : PyData.strOk (a ++ b) = true := by
  unfold PyData.strOk at *
  show (a.cps ++ b.cps).all _ = true
  rw [Array.all_append, ha, hb]; rfl
theorem strOk_sign (o : Nat) : PyData.strOk (signS o) = true := by
  unfold signS signL
  rcases o with _ | _ | _ | _ | _ | o
  all_goals first | decide +kernel | exact (by decide +kernel : PyData.strOk ("=" : Str) = true)
theorem strOk_letter {c : Nat} (h : c < 8) : PyData.strOk (letterS c) = true := by
  rcases c with _ | _ | _ | _ | _ | _ | _ | _ | c
  all_goals first | decide +kernel | omega
theorem runJ_strOk : ∀ (ps : List P) (st st' : List Str), (∀ p ∈ ps, p.ok) → (∀ x ∈ st, PyData.strOk x = true) → runJ ps st = some st' → ∀ x ∈ st', PyData.strOk x = true
  | [], st, st', _, hs, h => by cases h; exact hs
  | p :: ps, st, st', hp, hs, h => by
    simp only [runJ] at h
    split at h
    · rename_i st1 h1
      refine runJ_strOk ps st1 st' (fun q hq => hp q (.tail _ hq)) ?_ h
      cases p with
      | lp => cases h1
      | rp => cases h1
      | let_ c =>
        cases h1
        intro x hx
        rcases List.mem_cons.mp hx with rfl | hx
        · exact strOk_letter (hp _ (.head _))
        · exact hs x hx
      | op o =>
        match st, h1 with
        | r :: l :: rest, h1 =>
          cases h1
          intro x hx
          rcases List.mem_cons.mp hx with rfl | hx
          · exact strOk_app _ _ (strOk_app _ _ (strOk_app _ _ (strOk_app _ _ (by decide +kernel) (hs l (by simp))) (strOk_sign o)) (hs r (by simp))) (by decide +kernel)
          · exact hs x (by simp [hx])
    · cases h
theorem Readable.strOk {lv : Nat → Int} {ps : List P} {y : Str} (h : Readable lv ps y) : ∀ x ∈ [y], PyData.strOk x = true := by
  obtain ⟨done, h1, h2, h3, h4⟩ := h.done
  exact runJ_strOk done [] [y] h2 (fun x hx => nomatch hx) h4

noncomputable def numsOf (ns : List Int) : List Nat := [28, 773, 1042] ++ (ns.take 5).map fun x => (x % 3000).toNat
theorem numsOf_len (ns : List Int) : (numsOf ns).length ≤ 8 ∧ 0 < (numsOf ns).length := by
  unfold numsOf
  simp only [List.length_append, List.length_cons, List.length_nil, List.length_map, List.length_take]
  omega
theorem IntL.of_are {vs : List Value} {ns : List Int} (h : IntsAre vs ns) : IntL vs ns := by
  induction h with
  | nil => exact .nil
  | cons _ _ _ ih => exact .cons ih
theorem IntL.take {vs : List Value} {ns : List Int} (h : IntL vs ns) (k : Nat) : IntL (vs.take k) (ns.take k) := by
  induction h generalizing k with
  | nil => simp; exact .nil
  | cons h ih => cases k with
    | zero => exact .nil
    | succ k => exact .cons (ih k)
theorem PairL.get {ι : Led} {vs ps} (h : PairL ι vs ps) : ∀ {i : Nat} {v : Value}, vs[i]? = some v → ∃ a b e nd n t u, ps[i]? = some (b, e, nd) ∧ v = .ref a ∧ (a, tupO [.int (b : Nat) t, .int (e : Nat) u, .bool nd] n) ∈ ι := by
  induction h with
  | nil => intro i v e; simp at e
  | cons m _ ih =>
    intro i v e
    cases i with
    | zero => cases e; exact ⟨_, _, _, _, _, _, _, rfl, rfl, m⟩
    | succ i => exact ih (by simpa using e)
theorem StrL.take {vs : List Value} {ns : List Str} (h : StrL vs ns) (k : Nat) : StrL (vs.take k) (ns.take k) := by
  induction h generalizing k with
  | nil => simp; exact .nil
  | cons h ih => cases k with
    | zero => exact .nil
    | succ k => exact .cons (ih k)
theorem StrL.drop {vs : List Value} {ns : List Str} (h : StrL vs ns) (k : Nat) : StrL (vs.drop k) (ns.drop k) := by
  induction h generalizing k with
  | nil => simp; exact .nil
  | cons h ih => cases k with
    | zero => exact .cons h
    | succ k => exact ih k
/-- the pieces without a pair of brackets -/
theorem bare_strs {vs : List Value} {A M Z : List P} (h : StrL vs ((A ++ [P.lp] ++ M ++ [P.rp] ++ Z).map pieceS)) {b e : Nat} (hb : b = A.length) (he : e = A.length + 1 + M.length) :
    StrL (vs.take b ++ (vs.drop (b + 1)).take (e - (b + 1)) ++ vs.drop (e + 1)) ((A ++ M ++ Z).map pieceS) := by
  subst hb he
  have h1 := h.take A.length
  have h2 := (h.drop (A.length + 1)).take (A.length + 1 + M.length - (A.length + 1))
  have h3 := h.drop (A.length + 1 + M.length + 1)
  have e1 : ((A ++ [P.lp] ++ M ++ [P.rp] ++ Z).map pieceS).take A.length = A.map pieceS := by
    rw [← List.map_take]; congr 1; simp [List.append_assoc]
  have e2 : (((A ++ [P.lp] ++ M ++ [P.rp] ++ Z).map pieceS).drop (A.length + 1)).take (A.length + 1 + M.length - (A.length + 1)) = M.map pieceS := by
    rw [← List.map_drop, ← List.map_take]; congr 1
    have : A ++ [P.lp] ++ M ++ [P.rp] ++ Z = (A ++ [P.lp]) ++ (M ++ ([P.rp] ++ Z)) := by simp
    rw [this, show A.length + 1 = (A ++ [P.lp]).length by simp, List.drop_left, show (A ++ [P.lp]).length + M.length - (A ++ [P.lp]).length = M.length by omega, List.take_left]
  have e3 : ((A ++ [P.lp] ++ M ++ [P.rp] ++ Z).map pieceS).drop (A.length + 1 + M.length + 1) = Z.map pieceS := by
    rw [← List.map_drop]; congr 1
    rw [show A.length + 1 + M.length + 1 = (A ++ [P.lp] ++ M ++ [P.rp]).length by simp [List.length_append]; omega, List.drop_left]
  rw [e1] at h1
  rw [e2] at h2
  rw [e3] at h3
  rw [List.map_append, List.map_append]
  exact (h1.app h2).app h3
theorem callOf_lt (nums : List Nat) : ∀ c ∈ nums.map callOf, c.1 < 4 := by
  intro c hc
  obtain ⟨n, _, rfl⟩ := List.mem_map.mp hc
  exact Nat.mod_lt _ (by decide)
local macro_rules | `(tactic| walk_at "go") => `(tactic| first
  | with_reducible refine' r_slice ?_
  | ((with_reducible refine' r_in39 ?G ?S ?_); (case G => with_reducible assumption); (case S => with_reducible assumption); intro _ _)
  | ((with_reducible refine' r_notin39 ?G ?S ?_); (case G => with_reducible assumption); (case S => with_reducible assumption); intro _ _)
  | ((with_reducible refine' r_item39 ?G ?S ?hv ?_ ?hs); (case G => with_reducible assumption); (case S => with_reducible assumption); (case hv => assumption); (case hs => with_unfolding_all rfl); intro _ _)
  | ((with_reducible refine' r_meth PySem.F.plainAttrs_str PySem.F.slot_str_index PySem.F.type_str_index ?hb ?hf ?hp ?hl ?_); (case hb => rfl); (case hf => rfl); (case hp => rfl); (case hl => rfl))
  | walk_at "go0")
local macro_rules | `(tactic| walk_at "go") => `(tactic| first
  | ((with_reducible refine' r_locE ?S ?hL ?hk ?hl ?hv ?hd ?_); (case S => with_reducible assumption); (case hL => rfl); (case hk => rfl); (case hl => rfl); (case hv => rfl); (case hd => decide))
  | ((with_reducible refine' r_cellE ?S ?hm ?hd ?hk ?hl ?hc ?_ ?hdb); (case S => with_reducible assumption); (case hm => exact List.Mem.head _); (case hd => with_reducible assumption); (case hk => rfl); (case hl => rfl); (case hc => rfl); (case hdb => decide))
  | ((with_reducible refine' r_cellS ?S ?hk ?hl ?hc ?hd ?_); (case S => with_reducible assumption); (case hk => rfl); (case hl => rfl); (case hc => rfl); (case hd => with_reducible assumption); intro _ _ _ _)
  )
local macro_rules | `(tactic| walk_at "go") => `(tactic| ((with_reducible show wpAny _ _ (compareOp CmpOp.NotEq (Value.bool _) (Value.bool _)) _ _ _); refine PyProof.Rows.ne_bool ?_))
theorem c_law {B : Base} (G : Gnd B) (sa fa : Addr) (cd : Value) (svs : List Value) (ns : List Int) (hs : B.H.IsList sa svs.toArray) (hns : IntsAre svs ns) (hlen : ns.length ≤ 63) (A : Around) (s : Shared) (L : Addr) (rm : Room A 20) (S : St B L s [("script", .ref sa)] [] []) :
    wpAny (model PP B.w) A (execs (lawB B) (envOf "law" (lawS B) L fa cd)) (fun fl s' => fl = .ret (.bool true) ∧ ∃ ls μ ι, St B L s' ls μ ι) (fun _ _ => False) s := by
  refine law_open (P := fun b sc => wpAny (model PP B.w) A (execs b (envOf "law" sc L fa cd)) (fun fl s' => fl = .ret (.bool true) ∧ ∃ ls μ ι, St B L s' ls μ ι) (fun _ _ => False) s) rfl ?_
  have hsl : svs.length = ns.length := (IntL.of_are hns).len
  repeat walk_at "go"
  rename_i _ tA _ _ tB _ _ tC _ _ n0 _
  refine r_comp (B := B) (L := L) rm.handled (by decide) (by decide) rfl (by decide) rfl ?_ (by intro _; rfl)
  repeat walk_at "go"
  rename_i S1
  have hs1 : ∀ s' ls μ ι, St B L s' ls μ ι → s'.heap.IsList sa svs.toArray := fun s' ls μ ι S => let ⟨o, ho, hc, n, hd⟩ := hs; ⟨o, S.own.keep _ _ ho, hc, n, hd⟩
  refine sl_list (lo := none) (hi := some ((5 : Nat) : Int)) S1 (hs1 _ _ _ _ S1) .none (.int _ _) (by show _ ≤ 16777216; omega) ?_
  clear S1
  intro s2 a2 S2
  rw [slicePick_upto' _ 5] at S2
  have e5 : ((svs.toArray.toList.take 5).toArray).toList = svs.take 5 := by simp
  rw [e5] at S2
  have h5 := (IntL.of_are hns).take 5
  refine ⟨a2, svs.take 5, 0, _, _, _, rfl, S2, .head _, by rw [List.length_take]; show _ ≤ 16777216; omega, fun i out nw => out.length = i ∧ nw = [] ∧ IntL out (natI (((ns.take 5).take i).map fun x => (x % 3000).toNat)), ⟨rfl, rfl, .nil⟩, fun _ _ _ h => h.1, ?_, ?_⟩
  · rintro C i v out nw lsC m it oo oL s3 E' hv ⟨hl, rfl, ho⟩ S3
    obtain ⟨x, t, hx, rfl⟩ := h5.get hv
    repeat walk_at "go"
    rename_i S4
    refine ⟨[], S4, by rw [List.length_append, hl]; rfl, rfl, ?_⟩
    rw [List.take_add_one, hx, List.map_append]
    unfold natI at ho ⊢
    rw [List.map_append]
    refine ho.app ?_
    have e : (((x % 3000).toNat : Nat) : Int) = x % 3000 := by omega
    show IntL _ [(((x % 3000).toNat : Nat) : Int)]
    rw [e]
    exact IntL.one _ _
  · rintro a3 out nw s3 ⟨hl, rfl, ho⟩ S3
    rw [List.length_take] at hl
    have e : (ns.take 5).take (svs.take 5).length = ns.take 5 := by
      have : (svs.take 5).length = (ns.take 5).length := by rw [List.length_take, List.length_take, hsl]
      rw [this, List.take_length]
    rw [e] at ho
    have hz : out.length ≤ 5 := by omega
    clear S2
    repeat walk_at "go"
    rename_i nb _ _ S4
    have hn : IntL ([Value.int 28 tA, Value.int 773 tB, Value.int 1042 tC] ++ out) (natI (numsOf ns)) := by
      unfold numsOf natI
      rw [List.map_append]
      exact IntL.app (.cons (.cons (.cons .nil))) ho
    have S5 : St B L _ [(("numbers" : Str), .ref nb)] [(nb, listO ([Value.int 28 tA, Value.int 773 tB, Value.int 1042 tC] ++ out) 0)] [] := (S4.pick (ls' := [(("numbers" : Str), .ref nb)]) ⟨rfl, trivial⟩).sub (by walk_at "sub")
    clear S4 S3 ho e hl S hz h5 e5 hs1
    have nl := numsOf_len ns
    generalize [Value.int 28 tA, Value.int 773 tB, Value.int 1042 tC] ++ out = nvs at hn S5
    generalize numsOf ns = nums at hn nl
    refine CallAt.of S5 (call_pure S5 (rm.less (by omega)) (fun ι' h' => c_calls G nb nvs 0 nums ι' (h' _ (.head _)) hn (by omega)) ?_)
    rintro _ new1 s6 S6 ⟨ca, cvs, cn, nw1, rfl, rfl, hcs⟩
    clear S5
    repeat walk_at "go"
    rename_i S7
    refine CallAt.of S7 (call_pure S7 (rm.less (by omega)) (fun ι' h' => c_tree G nb nvs 0 nums ι' (h' _ (.head _)) hn nl.1 nl.2) ?_)
    rintro tv new2 s8 S8 ⟨tr, htok, htl, htr⟩
    clear S7 S6
    repeat walk_at "go"
    rename_i S9
    have hca : (ca, listO cvs cn) ∈ [(nb, listO nvs 0)] ++ (new2 ++ ((ca, listO cvs cn) :: nw1 ++ [])) := by simp
    have hcs9 : ∀ ι', (∀ p ∈ [(nb, listO nvs 0)] ++ (new2 ++ ((ca, listO cvs cn) :: nw1 ++ [])), p ∈ ι') → CallL ι' cvs (nums.map callOf) := fun ι' h' => hcs.mono fun p hp => h' p (by simp [hp])
    have hnl : (nums.map callOf).length ≤ 900 := by rw [List.length_map]; omega
    refine CallAt.of S9 (call_pure S9 (rm.less (by omega)) (fun ι' h' => c_told G ca cvs cn (nums.map callOf) ι' (h' _ hca) (hcs9 _ h') hnl) ?_)
    rintro _ new3 s10 S10 ⟨la, rfl, hlev⟩
    clear S9
    repeat walk_at "go"
    refine CallAt.of S10 (call_pure S10 (rm.less (by have := tr.depth_lt; omega)) (fun ι' h' => c_written G (lvT (nums.map callOf)) la tr htok (by omega) ι' tv (htr.mono fun p hp => h' p (by simp [hp])) (hlev.mono fun p hp => h' p (by simp [hp]))) ?_)
    rintro _ new4 s12 S12 ⟨wa, wn, pa, pvs, pn, qa, qvs, qn, rfl, hw1, hw2, hw3, hps, hqs⟩
    have S13 := S12.freeze
    clear S12 S10 S8
    obtain ⟨ι1, hι1⟩ : ∃ ι1, ι1 = (nb, listO nvs 0) :: (new4 ++ (new3 ++ (new2 ++ ((ca, listO cvs cn) :: nw1 ++ [])))) := ⟨_, rfl⟩
    have k4 : ∀ p ∈ new4, p ∈ ι1 := fun p hp => by rw [hι1]; simp [hp]
    have hca1 : (ca, listO cvs cn) ∈ ι1 := by rw [hι1]; simp
    have hcs1 : CallL ι1 cvs (nums.map callOf) := hcs.mono fun p hp => by rw [hι1]; simp [hp]
    have htr1 : TreeAt ι1 tv tr := htr.mono fun p hp => by rw [hι1]; simp [hp]
    have hw1' := k4 _ hw1
    have hw2' := k4 _ hw2
    have hw3' := k4 _ hw3
    have hqs' := hqs.mono k4
    rw [← hι1] at S13
    clear hw1 hw2 hw3 hqs k4 hι1 hlev htr hcs9 hca hcs
    repeat walk_at "go"
    rename_i S14
    refine CallAt.of S14 (call_pure S14 (rm.less (by omega)) (fun ι' h' => c_table G ca cvs cn (nums.map callOf) ι' (h' _ (List.mem_append_right _ hca1)) (hcs1.mono fun p hp => h' _ (List.mem_append_right _ hp)) hnl) ?_)
    rintro _ new5 s15 S15 ⟨x, l, hvs, hn5, nw5, rfl, rfl, H, hes, hel⟩
    clear S14 S13
    repeat walk_at "go"
    have S16 := S15.permA (μ' := [(l, listO hvs hn5)]) (ι' := nw5 ++ ι1) (List.Perm.refl _)
    clear S15
    have hhl : hvs.length ≤ 1000 := by rw [hes.len]; omega
    rw [List.length_map] at hel
    refine CallAt.of S16 (call_fn (μ1 := [(l, listO hvs hn5)]) (μ2 := []) S16 (rm.less (by omega)) (List.Perm.refl _) (fun ι' h' => c_levels G x l hvs hn5 _ nw5 ι' (fun p hp => h' _ (by simp [hp])) H hes hhl) ?_)
    rintro _ _ new6 s17 S17 ⟨rfl, d, f, rfl, hD, hf⟩
    rw [lv_same _ (callOf_lt nums)] at hf
    clear S16
    repeat walk_at "go"
    rename_i S18
    refine CallAt.of S18 (call_pure S18 (rm.less (by have := tr.depth_lt; omega)) (fun ι' h' => c_full G tr htok (by omega) ι' tv (htr1.mono fun p hp => h' _ (by simp [hp]))) ?_)
    rintro _ new7 s19 S19 ⟨tk, rfl⟩
    clear S18 S17
    repeat walk_at "go"
    rename_i du _ sC S20
    obtain ⟨RF, RB⟩ := plain_law (lvT (nums.map callOf)) (lvT_nonneg _) tr htok (by omega)
    generalize hwr : (tr.write (lvT (nums.map callOf)) none 0).1 = ps at hps RF RB
    generalize hwp : (tr.write (lvT (nums.map callOf)) none 0).2 = prs at hqs' RB
    generalize lvT (nums.map callOf) = lv at hf RF RB
    obtain ⟨ι2, hι2⟩ : ∃ ι2, ι2 = (du, listO [.str tr.full tk] 0) :: (l, listO hvs hn5) :: (new7 ++ (new6 ++ (nw5 ++ ι1))) := ⟨_, rfl⟩
    have S21 : St B L sC [(("due" : Str), .ref du), (("levels" : Str), .ref d), (("pairs" : Str), .ref qa), (("pieces" : Str), .ref pa)] [] ι2 := by
      have S20' := S20.pick (ls' := [(("due" : Str), .ref du), (("levels" : Str), .ref d), (("pairs" : Str), .ref qa), (("pieces" : Str), .ref pa)]) ⟨rfl, rfl, rfl, rfl, trivial⟩
      rw [hι2]
      exact S20'.permA (List.Perm.refl _)
    have hdu : (du, listO [.str tr.full tk] 0) ∈ ι2 := by rw [hι2]; simp
    have hpa : (pa, listO pvs pn) ∈ ι2 := by rw [hι2]; simp [hw2']
    have hqa : (qa, listO qvs qn) ∈ ι2 := by rw [hι2]; simp [hw3']
    have hqs2 : PairL ι2 qvs prs := hqs'.mono fun p hp => by rw [hι2]; simp [hp]
    have hD2 : DictAt B ι2 d f := hD.mono fun p hp => by rw [hι2]; simp [hp]
    clear S20 S19 hι2 hD hqs' hw1' hw2' hw3' hcs1 htr1 hca1 H hes
    have hfull := RF.strOk
    have hpl : pvs.length ≤ 900 := by rw [hps.len, List.length_map]; exact RF.len
    obtain ⟨done, d1, d2, d3, d4⟩ := RF.done
    refine r_if ?_
    repeat walk_at "go"
    refine CallAt.of S21 (call_pure S21 (rm.less (by omega)) (fun ι' h' => c_read G lv ps RF.ok RF.adj RF.len pa d pvs pn ι' (h' _ hpa) hps f hf (hD2.mono fun p hp => h' _ hp) done d1 d2 d3 [tr.full] d4) ?_)
    rintro _ new8 s23 S23 ⟨ja, jvs, jn, rfl, hjm, hjs⟩
    clear S21
    repeat walk_at "go"
    refine r_neS rm S23 (List.mem_append_right _ (List.mem_append_left _ hjm)) (List.mem_append_right _ (List.mem_append_right _ hdu)) hjs (StrL.one _ _) (by simpa using hfull) (by simpa using hfull) ?_
    repeat walk_at "go"
    refine ite_neg (by simp) ?_
    repeat walk_at "go"
    have S25 := S23.less (List.sublist_append_right _ _)
    clear S23
    refine r_for ?_
    repeat walk_at "go"
    refine loop_list (vs := qvs) (ol := listO qvs qn) rm.handled S25 ⟨rfl, _, rfl⟩ (fun i ls μ ι' => ι' = ι2 ∧ μ = [] ∧ LocAll ls [("due", .ref du), ("levels", .ref d), ("pieces", .ref pa)]) ⟨rfl, rfl, rfl, rfl, rfl, trivial⟩ ?_ ?_ ?_
    · rintro i ls μ ι' ⟨rfl, rfl, _⟩ s O
      exact (O.here (qa, listO qvs qn) (List.mem_append_right _ hqa)).1
    · rintro i v ls μ ι' s26 it o hv ⟨rfl, rfl, hls⟩ S26
      obtain ⟨a, b, e, nd, n1, tb, te, hpi, rfl, hm⟩ := hqs2.get hv
      have S27 := S26.pick hls
      clear S26 S25
      obtain ⟨A', M, Z, y, e1, e2, e3, RY, hiff⟩ := RB b e nd (List.mem_of_getElem? hpi)
      have hbare := bare_strs (by rw [← e1]; exact hps) e2 e3
      have hle : e < pvs.length := by rw [hps.len, List.length_map, e1]; simp only [List.length_append, List.length_singleton]; omega
      have hbe : b < e := by omega
      repeat walk_at "go"
      rename_i S28
      refine sl_list (lo := none) (hi := some (b : Int)) S28 (S28.isList (List.mem_append_right _ hpa)) .none (.int _ _) (by show _ ≤ 16777216; omega) ?_
      rw [slicePick_upto' _ b, show ((pvs.toArray.toList.take b).toArray).toList = pvs.take b from by simp]
      clear S28
      intro s29 x1 S29
      repeat walk_at "go"
      rename_i S30
      refine sl_list (lo := some ((b : Int) + 1)) (hi := some (e : Int)) S30 (S30.isList (List.mem_append_right _ hpa)) (.int _ _) (.int _ _) (by show _ ≤ 16777216; omega) ?_
      rw [show ((b : Int) + 1) = ((b + 1 : Nat) : Int) by omega, slicePick_run _ (b + 1) e (by rw [List.size_toArray]; omega) (by omega), show (((pvs.toArray.toList.drop (b + 1)).take (e - (b + 1))).toArray).toList = (pvs.drop (b + 1)).take (e - (b + 1)) from by simp]
      clear S30 S29
      intro s31 x2 S31
      have hz1 : (pvs.take b).length ≤ 1000 := by rw [List.length_take]; omega
      have hz2 : ((pvs.drop (b + 1)).take (e - (b + 1))).length ≤ 1000 := by rw [List.length_take, List.length_drop]; omega
      have hz3 : (pvs.drop (e + 1)).length ≤ 1000 := by rw [List.length_drop]; omega
      repeat walk_at "go"
      rename_i S32
      refine sl_list (lo := some ((e : Int) + 1)) (hi := none) S32 (S32.isList (List.mem_append_right _ hpa)) (.int _ _) .none (by show _ ≤ 16777216; omega) ?_
      rw [show ((e : Int) + 1) = ((e + 1 : Nat) : Int) by omega, slicePick_from' _ (e + 1), show ((pvs.toArray.toList.drop (e + 1)).toArray).toList = pvs.drop (e + 1) from by simp]
      clear S32 S31
      intro s33 x3 S33
      repeat walk_at "go"
      rename_i x4 _ s34 S34
      have S35 := S34.sub (μ' := [(x4, listO (pvs.take b ++ (pvs.drop (b + 1)).take (e - (b + 1)) ++ pvs.drop (e + 1)) 0), (it, o)]) (ι' := ι') (by walk_at "sub")
      clear S34 S33
      obtain ⟨dn2, f1, f2, f3, f4⟩ := RY.done
      have hy := RY.strOk
      refine r_if ?_
      repeat walk_at "go"
      refine CallAt.of S35 (call_pure S35 (rm.less (by omega)) (fun ι' h' => c_read G lv (A' ++ M ++ Z) RY.ok RY.adj RY.len x4 d _ 0 ι' (h' _ (.head _)) hbare f hf (hD2.mono fun p hp => h' _ (List.mem_append_right _ hp)) dn2 f1 f2 f3 [y] f4) ?_)
      clear S35
      rintro _ new9 s36 S36 ⟨jb, jws, jm, rfl, hjm2, hjs2⟩
      repeat walk_at "go"
      refine r_neS rm S36 (List.mem_append_right _ (List.mem_append_left _ hjm2)) (List.mem_append_right _ (List.mem_append_right _ hdu)) hjs2 (StrL.one _ _) (by simpa using hy) (by simpa using hfull) ?_
      repeat walk_at "go"
      have hb : (!decide ([y].reverse = [tr.full])) = nd := by
        cases nd with
        | true =>
          have h := hiff.mpr rfl
          simp [h]
        | false =>
          have h : y = tr.full := Classical.byContradiction fun h => Bool.false_ne_true (hiff.mp h)
          simp [h]
      rw [hb]
      refine ite_neg (by simp) ?_
      repeat walk_at "go"
      exact ⟨_, _, _, S36.sub (μ' := [(it, o)]) (ι' := ι') ((List.sublist_cons_self _ _).append (List.sublist_append_right _ _)), rfl, rfl, rfl, rfl, rfl, trivial⟩
    · rintro ls μ ι' s26 ⟨rfl, rfl, hls⟩ S26
      have S27 := S26.pick hls
      clear S26 S25
      repeat walk_at "go"
      exact ⟨by first | rfl | trivial, _, _, _, S27⟩
end
end
end Mine
end
section
open PySem PySem.W PySem.Spec PySem.Calls PyProof.Rows
set_option maxRecDepth 100000
set_option maxHeartbeats 8000000
namespace Mine
theorem fin_st {w : World} {s₁ : Shared} {h₁ : Heap} {m : Str → Option Value} {sa : Addr} {t : Nat} (F : Fr s₁.heap s₁.heap.objs.size h₁ m) (hg : s₁.gens = #[]) (hm : m "script" = some (.ref sa)) :
    St ⟨s₁.heap, s₁.os, w⟩ s₁.heap.objs.size { s₁ with heap := h₁, toks := t } [("script", .ref sa)] [] [] := by
  refine ⟨⟨F.keep, fun p hp => (nomatch hp), List.nodup_nil, hg, rfl⟩, ⟨m, F.ns, fun x v e => ?_⟩, Nat.le_refl _, fun p hp => (nomatch hp)⟩
  rw [List.lookup_cons] at e
  by_cases q : x = "script"
  · subst q
    simp only [beq_self_eq_true] at e
    cases e
    exact hm
  · have : (x == ("script" : Str)) = false := by simpa using q
    rw [this] at e
    cases e
theorem fin_fr {B : Base} {L : Addr} {s : Shared} {ls : Loc} {μ ι : Led} (S : St B L s ls μ ι) : ∃ m, Fr B.H L s.heap m := by
  obtain ⟨m, hm, _⟩ := S.ns
  exact ⟨m, hm, S.own.keep, S.lo⟩
theorem finish {w : World} {s₁ : Shared} {h₁ : Heap} {m mg mb : Str → Option Value} {sa fa : Addr} {svs : List Value} {ns : List Int} {t : Nat} {cd : Value} {env : Env} {Q : Flow → Shared → Prop} {E : Value → Shared → Prop}
    (KX : (K0 w.params).In s₁.heap) (g1 : s₁.heap.Ns mainGlobals mg) (g2 : s₁.heap.Ns builtinsNs mb) (g3 : ∀ x : Str, x ≠ "__name__" → mb x = bootBuiltins x) (g4 : s₁.heap.NoLimit) (g5 : ∃ mc, s₁.heap.Ns cStatics mc ∧ mc "sys.int_max_str_digits" = none)
    (F : Fr s₁.heap s₁.heap.objs.size h₁ m) (hg : s₁.gens = #[]) (hm : m "script" = some (.ref sa)) (hs : s₁.heap.IsList sa svs.toArray) (hns : IntsAre svs ns) (hlen : ns.length ≤ 63)
    (hQ : ∀ s' L m, Fr s₁.heap L s'.heap m → s'.gens = #[] → s'.os = s₁.os → Q (.ret (.bool true)) s') :
    wpAny (model PP w) (callerA.deeper env) (execs (lawB ⟨s₁.heap, s₁.os, w⟩) (envOf "law" (lawS ⟨s₁.heap, s₁.os, w⟩) s₁.heap.objs.size fa cd)) Q E { s₁ with heap := h₁, toks := t } := by
  have G : Gnd ⟨s₁.heap, s₁.os, w⟩ := ⟨KX, ⟨mg, mb, g1, g2, g3⟩, g4, g5⟩
  have rm : Room (callerA.deeper env) 20 := ⟨rfl, by show callerA.depth + 1 + 20 < 900; decide, by show callerA.units + 3 + 10 * 20 < 9000; decide⟩
  refine wpAny_mono (c_law G sa fa cd svs ns hs hns hlen _ _ _ rm (fin_st F hg hm)) ?_ fun _ _ x => x.elim
  rintro _ s' ⟨rfl, ls, μ, ι, S'⟩
  obtain ⟨m', F'⟩ := fin_fr S'
  exact hQ s' _ m' F' S'.own.gens S'.own.os
end Mine
-- The names below are taken so that the library makes no quick twins of these constants of the head (Open.Fast, stemIn): the equations of
-- the longest twins alone would take the compiled file past its lid. Each is just True; no proof leans on any of them.
namespace Mine.top
theorem tw9259996480138605426 : True := trivial
theorem tw3430127420881650015 : True := trivial
theorem tw9437893007894698314 : True := trivial
theorem tw16564338904533104989 : True := trivial
theorem tw3457614207058545065 : True := trivial
theorem tw8156875820450504230 : True := trivial
theorem tw4997509813036325311 : True := trivial
theorem tw9143552886667351555 : True := trivial
theorem tw15678150376924940171 : True := trivial
theorem tw10797620697341660853 : True := trivial
theorem tw12737934349104522410 : True := trivial
theorem tw5225916559131626549 : True := trivial
theorem tw11426215844183674140 : True := trivial
theorem tw11858546649754279707 : True := trivial
theorem tw908825868028484722 : True := trivial
theorem tw17810072253543177317 : True := trivial
theorem tw6491118196486620199 : True := trivial
theorem tw14177919720447124146 : True := trivial
theorem tw4571971715460732019 : True := trivial
theorem tw11613256710310857696 : True := trivial
theorem tw17081178143035459574 : True := trivial
theorem tw9540978300799542760 : True := trivial
theorem tw594810645892935528 : True := trivial
theorem tw8148004212497801138 : True := trivial
theorem tw6930518751129746686 : True := trivial
theorem tw13090165191389475591 : True := trivial
theorem tw708234853630380328 : True := trivial
theorem tw944164533710043270 : True := trivial
theorem tw17323899518341599180 : True := trivial
theorem tw16900427199656544559 : True := trivial
theorem tw11682991924649985610 : True := trivial
theorem tw9514973924220054061 : True := trivial
theorem tw8622502720953521162 : True := trivial
theorem tw12415523145999629524 : True := trivial
theorem tw4076138812419527698 : True := trivial
theorem tw279221788311839977 : True := trivial
theorem tw2822501910515967889 : True := trivial
theorem tw14762295962024373759 : True := trivial
theorem tw11520865232209809239 : True := trivial
theorem tw12102947074072374899 : True := trivial
theorem tw6973401727384321114 : True := trivial
theorem tw6211089042160764376 : True := trivial
theorem tw16044733080236030384 : True := trivial
theorem tw2126296398998916975 : True := trivial
theorem tw18186074749648716422 : True := trivial
theorem tw9614876229902214918 : True := trivial
theorem tw14608685727046917156 : True := trivial
theorem tw5915399644114372684 : True := trivial
theorem tw16420938139371093754 : True := trivial
theorem tw18352913462542482217 : True := trivial
theorem tw17620759639134147866 : True := trivial
theorem tw14533951869480809633 : True := trivial
theorem tw16580785732701462914 : True := trivial
theorem tw1676862907878916244 : True := trivial
theorem tw1638113669730673903 : True := trivial
theorem tw10548783162686979305 : True := trivial
theorem tw13044034144603486326 : True := trivial
theorem tw10501702545626575530 : True := trivial
theorem tw17850308014834455258 : True := trivial
theorem tw11203750815551599093 : True := trivial
theorem tw4321519831107876412 : True := trivial
theorem tw14851680436948445374 : True := trivial
theorem tw3976154599441133093 : True := trivial
theorem tw17486766287000646611 : True := trivial
theorem tw575894324575664597 : True := trivial
theorem tw16759092144687519636 : True := trivial
theorem tw8363718466572441477 : True := trivial
theorem tw9631074621892390191 : True := trivial
theorem tw10962730384373954536 : True := trivial
theorem tw14399976873020721970 : True := trivial
theorem tw14263998999751124003 : True := trivial
theorem tw12317137736924338119 : True := trivial
theorem tw14390669486469195807 : True := trivial
theorem tw2327409098240617249 : True := trivial
theorem tw9166809390415177425 : True := trivial
theorem tw7414872774492366064 : True := trivial
theorem tw795583310449317561 : True := trivial
theorem tw4335235751029319853 : True := trivial
theorem tw11423202765487971197 : True := trivial
theorem tw5221569119214977344 : True := trivial
theorem tw4047667213573674445 : True := trivial
theorem tw14823308797102314842 : True := trivial
theorem tw13501252493785611398 : True := trivial
theorem tw390997316461189296 : True := trivial
theorem tw5766051744304087583 : True := trivial
theorem tw10936122117785486979 : True := trivial
theorem tw6430265229019958763 : True := trivial
theorem tw5977478716191010641 : True := trivial
theorem tw15286249088069653756 : True := trivial
theorem tw15918733279669447828 : True := trivial
theorem tw7600245330811189008 : True := trivial
theorem tw620129878449983639 : True := trivial
theorem tw7715697345341360870 : True := trivial
theorem tw12000148581231595520 : True := trivial
theorem tw6452381517774572576 : True := trivial
theorem tw666178014696001600 : True := trivial
theorem tw10070628768616008896 : True := trivial
theorem tw6949335884518802656 : True := trivial
theorem tw2197644976524658112 : True := trivial
theorem tw16251831376318589376 : True := trivial
theorem tw12313314913006752320 : True := trivial
theorem tw1691087244127792960 : True := trivial
theorem tw17633952099492047840 : True := trivial
theorem tw5572668375632515040 : True := trivial
theorem tw12573894729163131361 : True := trivial
theorem tw163800345392931489 : True := trivial
theorem tw13561703133436349377 : True := trivial
theorem tw9331974493046798273 : True := trivial
theorem tw5271831634804147234 : True := trivial
theorem tw2461075431143344194 : True := trivial
theorem tw12440245866629031202 : True := trivial
theorem tw5455373037630999106 : True := trivial
theorem tw11883965871820190274 : True := trivial
theorem tw4124195216658388578 : True := trivial
theorem tw9725226474159665762 : True := trivial
theorem tw11098862592369493666 : True := trivial
theorem tw14228022310291300034 : True := trivial
theorem tw16105732594530341826 : True := trivial
theorem tw4116765824396710819 : True := trivial
theorem tw15508991699535783395 : True := trivial
theorem tw12223101557292187524 : True := trivial
theorem tw12438412976066343812 : True := trivial
theorem tw18199595993818810565 : True := trivial
theorem tw1755294244928084485 : True := trivial
theorem tw12001448351616866853 : True := trivial
theorem tw5403876386621127205 : True := trivial
theorem tw6507613554101201477 : True := trivial
theorem tw9206772266342587109 : True := trivial
theorem tw10182086068434079782 : True := trivial
theorem tw6155621857309647910 : True := trivial
theorem tw7501519522183535782 : True := trivial
theorem tw108269737360812358 : True := trivial
theorem tw13068141519181420870 : True := trivial
theorem tw8834376445255511494 : True := trivial
theorem tw8398870688028557894 : True := trivial
theorem tw3433264753161877062 : True := trivial
theorem tw1965185784555640518 : True := trivial
theorem tw15284882228588325734 : True := trivial
theorem tw4094332215077447622 : True := trivial
theorem tw10732284593669374950 : True := trivial
theorem tw16162621360409112807 : True := trivial
theorem tw14142121597724677575 : True := trivial
theorem tw7885628744170378855 : True := trivial
theorem tw2865258192380574599 : True := trivial
theorem tw4572766750233055111 : True := trivial
theorem tw12139355152317784967 : True := trivial
theorem tw13934442838841507752 : True := trivial
theorem tw12589232262067516328 : True := trivial
theorem tw2978340336200282153 : True := trivial
theorem tw684462480740090089 : True := trivial
theorem tw10076542579524665673 : True := trivial
theorem tw18338651121032914441 : True := trivial
theorem tw15926182043645843401 : True := trivial
theorem tw1642369589952840681 : True := trivial
theorem tw7508589415057356970 : True := trivial
theorem tw279415760414158058 : True := trivial
theorem tw1704210190596681962 : True := trivial
theorem tw2312079873457561930 : True := trivial
theorem tw15911102940402724234 : True := trivial
theorem tw1931150876050663050 : True := trivial
theorem tw2489264582895049578 : True := trivial
theorem tw4691337794736022571 : True := trivial
theorem tw17051036884353626315 : True := trivial
theorem tw15608306648504345835 : True := trivial
theorem tw8084613134392625515 : True := trivial
theorem tw750215334881125003 : True := trivial
theorem tw9896960167819281387 : True := trivial
theorem tw4233451593811158060 : True := trivial
theorem tw3936071033714407468 : True := trivial
theorem tw7232151418206066796 : True := trivial
theorem tw5265746127010379052 : True := trivial
theorem tw2156030980382099916 : True := trivial
theorem tw1619487848837474828 : True := trivial
theorem tw5034908611866263116 : True := trivial
theorem tw12594373701988032236 : True := trivial
theorem tw4565133154145385452 : True := trivial
theorem tw8124799799331628173 : True := trivial
theorem tw12181366855720957069 : True := trivial
theorem tw9127669210428096717 : True := trivial
theorem tw2261874175134968365 : True := trivial
theorem tw12891189971165970510 : True := trivial
theorem tw844161826763916430 : True := trivial
theorem tw2122779881043678478 : True := trivial
theorem tw13211564086616619662 : True := trivial
theorem tw15253377493468045102 : True := trivial
theorem tw1951969835601212366 : True := trivial
theorem tw2275612258897153998 : True := trivial
theorem tw10599666576209569103 : True := trivial
theorem tw6700736817035595375 : True := trivial
theorem tw5551019097216770959 : True := trivial
theorem tw1088878604737862575 : True := trivial
theorem tw4087438718808336303 : True := trivial
theorem tw12370293214880050288 : True := trivial
theorem tw2673932429901505712 : True := trivial
theorem tw15535876888861693360 : True := trivial
theorem tw4647914926915682288 : True := trivial
theorem tw6698218471444640913 : True := trivial
theorem tw7896837427191650641 : True := trivial
theorem tw16592557799225586033 : True := trivial
theorem tw10194653931136931217 : True := trivial
theorem tw7232797153401214513 : True := trivial
theorem tw13473591951331906481 : True := trivial
theorem tw7073711024042213554 : True := trivial
theorem tw435571600560414898 : True := trivial
theorem tw6975283740689136818 : True := trivial
theorem tw17695582483444463026 : True := trivial
theorem tw17225336580346243666 : True := trivial
theorem tw13373388254196259826 : True := trivial
theorem tw364033240165121683 : True := trivial
theorem tw9607252263773464243 : True := trivial
theorem tw17183962504784754708 : True := trivial
theorem tw7174409328190188596 : True := trivial
theorem tw18080159478629983828 : True := trivial
theorem tw9750260330447487636 : True := trivial
theorem tw15496927215513686900 : True := trivial
theorem tw7349535203127386996 : True := trivial
theorem tw12772848235895764021 : True := trivial
theorem tw13729513408188127317 : True := trivial
theorem tw16084818986325984437 : True := trivial
theorem tw15792915895921005909 : True := trivial
theorem tw13016792663052288373 : True := trivial
theorem tw11287711161130960757 : True := trivial
theorem tw12613942666980315222 : True := trivial
theorem tw9654481056738919574 : True := trivial
theorem tw12172914027836966198 : True := trivial
theorem tw6883011659952825686 : True := trivial
theorem tw8122758003621412406 : True := trivial
theorem tw7403808644946714230 : True := trivial
theorem tw2247815518227490486 : True := trivial
theorem tw6030747311490108182 : True := trivial
theorem tw16232948283598742 : True := trivial
theorem tw14055708068980857911 : True := trivial
theorem tw975890887603966295 : True := trivial
theorem tw12065807991898617367 : True := trivial
theorem tw8787676728561301111 : True := trivial
theorem tw3675814332188033751 : True := trivial
theorem tw14806354599497788151 : True := trivial
theorem tw9108332354026280759 : True := trivial
theorem tw14796233883088829271 : True := trivial
theorem tw2954470971966563864 : True := trivial
theorem tw5742459911570648632 : True := trivial
theorem tw5628897932682024504 : True := trivial
theorem tw9646767719825286744 : True := trivial
theorem tw1141847404964061976 : True := trivial
theorem tw7686670337180113816 : True := trivial
theorem tw9979420691913226329 : True := trivial
theorem tw18135035776457656409 : True := trivial
theorem tw16125342732672095513 : True := trivial
theorem tw12508850152125583769 : True := trivial
theorem tw17248188178836619801 : True := trivial
theorem tw11201699177474110009 : True := trivial
theorem tw1098301324558485594 : True := trivial
theorem tw7694256673647787482 : True := trivial
theorem tw6598025613380664058 : True := trivial
theorem tw11646720312135689114 : True := trivial
theorem tw17430580332799245403 : True := trivial
theorem tw13667263832702125307 : True := trivial
theorem tw655317560575981724 : True := trivial
theorem tw13524420023301223900 : True := trivial
theorem tw2748441773205482012 : True := trivial
theorem tw15354113939255002716 : True := trivial
theorem tw1329852722079803292 : True := trivial
theorem tw3775579580694259676 : True := trivial
theorem tw11026042755505096765 : True := trivial
theorem tw12858488554044042397 : True := trivial
theorem tw11043577018162357597 : True := trivial
theorem tw2765588460558280221 : True := trivial
theorem tw15555021361618770621 : True := trivial
theorem tw4660512933350850333 : True := trivial
theorem tw3396424853024199742 : True := trivial
theorem tw1053213611336283294 : True := trivial
theorem tw9896754242848811326 : True := trivial
theorem tw16703494753846611422 : True := trivial
theorem tw754722154605620030 : True := trivial
theorem tw18381737881011419199 : True := trivial
theorem tw5599468594470740159 : True := trivial
theorem tw2372869689190977727 : True := trivial
theorem tw3664533864054936095 : True := trivial
theorem tw9908211628528117471 : True := trivial
theorem tw11760055953109336660 : True := trivial
theorem tw2349764873487006267 : True := trivial
theorem tw1585457916280141200 : True := trivial
theorem tw14459580976405569124 : True := trivial
theorem tw14796646475526232899 : True := trivial
theorem tw1971433849790844608 : True := trivial
theorem tw3730354652608582461 : True := trivial
theorem tw517144808224063464 : True := trivial
theorem tw7313339093194340965 : True := trivial
theorem tw17492772389151264855 : True := trivial
theorem tw10864713392326063847 : True := trivial
theorem tw10648311167861321448 : True := trivial
theorem tw6333448901615975916 : True := trivial
theorem tw17022078359063049780 : True := trivial
theorem tw7671549972530922468 : True := trivial
theorem tw17030962893124633753 : True := trivial
theorem tw10956490626425055710 : True := trivial
theorem tw9843447840031818808 : True := trivial
theorem tw5225153198818245361 : True := trivial
theorem tw18245740138792012028 : True := trivial
theorem tw2988451766255067171 : True := trivial
theorem tw16821654228018055803 : True := trivial
theorem tw8025738503920905074 : True := trivial
theorem tw16713831800681072344 : True := trivial
theorem tw4205137553216949640 : True := trivial
theorem tw7743179893348639699 : True := trivial
theorem tw2555065506035805374 : True := trivial
theorem tw3337584539547039419 : True := trivial
theorem tw15174248262532581068 : True := trivial
theorem tw7897771034784582233 : True := trivial
theorem tw12166907935582030026 : True := trivial
theorem tw8369368087495890639 : True := trivial
theorem tw5058314954733539658 : True := trivial
theorem tw1421504965699865390 : True := trivial
theorem tw2506305409684761478 : True := trivial
theorem tw18063644159110109576 : True := trivial
theorem tw1284575025550258836 : True := trivial
theorem tw10987319290404115282 : True := trivial
theorem tw12094960947251128927 : True := trivial
theorem tw17565814175750979855 : True := trivial
theorem tw4859757453598101857 : True := trivial
theorem tw6124053682588569230 : True := trivial
theorem tw10567129059001840431 : True := trivial
theorem tw18164388396756303480 : True := trivial
theorem tw11133666699803404755 : True := trivial
theorem tw10773188271377071773 : True := trivial
theorem tw8443935842833279946 : True := trivial
theorem tw6505410396798821541 : True := trivial
theorem tw11279390925490393535 : True := trivial
theorem tw7250933059871147345 : True := trivial
theorem tw14917401599646851644 : True := trivial
theorem tw7204493036743257322 : True := trivial
theorem tw6370870915552960936 : True := trivial
theorem tw16550210197400561554 : True := trivial
theorem tw13091174067606910046 : True := trivial
theorem tw7527032243904285869 : True := trivial
theorem tw4784893810139332661 : True := trivial
theorem tw14861896470697024400 : True := trivial
theorem tw7201712573628287653 : True := trivial
theorem tw9962302188120564619 : True := trivial
theorem tw8640399195822439974 : True := trivial
theorem tw6761616313442571491 : True := trivial
theorem tw7444641836354208208 : True := trivial
theorem tw16104615914030681952 : True := trivial
theorem tw6749217079512962374 : True := trivial
theorem tw5118827330378232414 : True := trivial
theorem tw10079171474624433434 : True := trivial
theorem tw2617719716777270872 : True := trivial
theorem tw12622177474791663080 : True := trivial
theorem tw10005945817407372193 : True := trivial
theorem tw1483126911874232274 : True := trivial
theorem tw4655869559712951663 : True := trivial
theorem tw3584897518013459382 : True := trivial
theorem tw7078021915948373547 : True := trivial
theorem tw9059832203979395877 : True := trivial
theorem tw8689318265317240412 : True := trivial
theorem tw8140125068956082859 : True := trivial
theorem tw6885214360128481674 : True := trivial
theorem tw15878805988109762761 : True := trivial
theorem tw7297446738713254254 : True := trivial
theorem tw427420600052151026 : True := trivial
theorem tw6127594578889010139 : True := trivial
theorem tw3776753064480771068 : True := trivial
theorem tw5581607755468803823 : True := trivial
theorem tw283044589724301 : True := trivial
theorem tw12392516345856041104 : True := trivial
theorem tw1275901062530889299 : True := trivial
theorem tw104434173382791472 : True := trivial
theorem tw13420762306968818387 : True := trivial
theorem tw15985961358823992270 : True := trivial
theorem tw15362295582089109014 : True := trivial
theorem tw2741389259953327712 : True := trivial
theorem tw5889316905344633881 : True := trivial
theorem tw7673058066778466091 : True := trivial
theorem tw10008474027749305400 : True := trivial
theorem tw15740088241188596515 : True := trivial
theorem tw1492452104121835379 : True := trivial
theorem tw6883741973766446791 : True := trivial
theorem tw18008055252877512497 : True := trivial
theorem tw13928562000808390012 : True := trivial
theorem tw8321918168302905379 : True := trivial
theorem tw18237780215024852062 : True := trivial
theorem tw14697636140705633519 : True := trivial
theorem tw5476889619067714990 : True := trivial
theorem tw12427389293880184781 : True := trivial
theorem tw1124271682379634556 : True := trivial
theorem tw6189502492464219833 : True := trivial
theorem tw501154541418245514 : True := trivial
theorem tw14632489290957082403 : True := trivial
theorem tw10448899703829047738 : True := trivial
theorem tw10783980745131425670 : True := trivial
theorem tw13799840507378627052 : True := trivial
theorem tw15860264024139754761 : True := trivial
theorem tw1869187583165140508 : True := trivial
theorem tw1886144042066472794 : True := trivial
theorem tw18085771088847121727 : True := trivial
theorem tw5398424786039705171 : True := trivial
theorem tw1601500998369573665 : True := trivial
theorem tw8598144960395782539 : True := trivial
theorem tw14987219478266130788 : True := trivial
theorem tw5303079699428457377 : True := trivial
theorem tw13664746368384525793 : True := trivial
theorem tw8410488445778877200 : True := trivial
theorem tw9739860059890490050 : True := trivial
theorem tw2731995056826638727 : True := trivial
theorem tw13177472732611162249 : True := trivial
theorem tw7990429038631628895 : True := trivial
theorem tw1754339480302792767 : True := trivial
theorem tw18194552166560175392 : True := trivial
end Mine.top
open Mine
set_option Elab.async true in
theorem Mine.top : PySem.Challenge.rw_pe0256_01.Holds := by
  w_on; o_law; o_head (kHook Mine.K0 [3,39,42,44,45,47,48,49,51,52,54,55,56,58,59,61,62,71,72,76,77,93,94,96,97,99,100,101,103,104,106,107,115,117,118,120,121,122,125,126,148,149,151,152,154,155,166,168,169,171,172,192,194,195,197,198,199,201,202,204,205,206,207,208,209,210,213,215,216,218,219,220,223,224,225,227,228,230,231,232,234,235,237,238,239,241,242,244,245,246,248,249,251,252,253,255,256,258,259,260,262,263,265,266,267,269,270,272,273,274,276,277,279,280,281,283,284,286,287,288,290,291,293,294,295,297,298,300,301,302,305,306] (fun _ => by kernel_rfl)); (case hw => w_witness2)
  k_go0
  have hlen := ‹¬ _ < _›
  have T := ‹Top _ _ _ _ _ _›
  refine finish ‹Frag.In _ _› T.g T.b T.builtins T.nolimit T.nodigits ‹Fr _ _ _ _› (by assumption) rfl ‹Heap.IsList _ _ _› ‹IntsAre _ _› (by omega) ?_
  intro s' L m F hg hos
  show GoodW _ _ _ _ _ (.ok (.ret (.bool true))) s'
  refine goodW_bool F hg (raisesW_false ?_) ?_ hos
  · wrow_none_raised
  · wrow_post
end
theorem PySem.Challenge.cw_pe0256_01_holds : PySem.Challenge.rw_pe0256_01.Holds :=
  Mine.top
