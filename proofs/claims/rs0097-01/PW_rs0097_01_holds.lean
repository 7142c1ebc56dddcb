import PyProof.Rows.All
import Wide.All
import OpenK.AllK
import Wide.FinOn
import PySem.Builtin.Re_Pattern.W2All
import PySem.Challenge.RW_rs0097_01
set_option Elab.async false
-- Head
section
set_option maxRecDepth 100000
set_option maxHeartbeats 4000000
namespace Mine
open PySem PySem.Calls PySem.W PyProof.Rows

section
noncomputable def topSt (i : Nat) : Stmt := PySem.Challenge.pw_rs0097_01.main.body.getD i (.Pass default)
noncomputable def bodyOf : Stmt → List Stmt
  | .FunctionDef _ _ b _ _ _ _ _ _ _ => b
  | .For _ _ b _ _ => b
  | .While _ b _ _ => b
  | .If _ b _ _ => b
  | _ => []
noncomputable def paramsOf : Stmt → Arguments
  | .FunctionDef _ a _ _ _ _ _ _ _ _ => a
  | _ => default
noncomputable def scopeOf : Stmt → Scope
  | .FunctionDef _ _ _ _ _ _ sc _ _ _ => sc
  | _ => default

/-- what the top of the text leaves: the globals, the two patterns, the defs, their codes, the table -/
noncomputable def KF (P : Params) : Frag := [
  (3, { cls := .type "dict", data := .dict #[{ hash := PyData.keyHash P (Str.ofString "__name__"), key := .str (Str.ofString "__name__") 165, val := .str (Str.ofString "law_rs0097_01") 588 }, { hash := PyData.keyHash P (Str.ofString "__doc__"), key := .str (Str.ofString "__doc__") 166, val := .none }, { hash := PyData.keyHash P (Str.ofString "__package__"), key := .str (Str.ofString "__package__") 167, val := .none }, { hash := PyData.keyHash P (Str.ofString "__loader__"), key := .str (Str.ofString "__loader__") 168, val := .builtin "__main__.__loader__#opaque" }, { hash := PyData.keyHash P (Str.ofString "__spec__"), key := .str (Str.ofString "__spec__") 169, val := .none }, { hash := PyData.keyHash P (Str.ofString "__annotations__"), key := .str (Str.ofString "__annotations__") 170, val := .ref 6 }, { hash := PyData.keyHash P (Str.ofString "__builtins__"), key := .str (Str.ofString "__builtins__") 171, val := .ref 4 }, { hash := PyData.keyHash P (Str.ofString "__file__"), key := .str (Str.ofString "__file__") 173, val := .str (Str.ofString "/claim/cut.py") 172 }, { hash := PyData.keyHash P (Str.ofString "__cached__"), key := .str (Str.ofString "__cached__") 174, val := .none }, { hash := PyData.keyHash P (Str.ofString "_sre"), key := .str (Str.ofString "_sre") 275, val := .ref 12 }, { hash := PyData.keyHash P (Str.ofString "_twin_re_1"), key := .str (Str.ofString "_twin_re_1") 299, val := .ref 36 }, { hash := PyData.keyHash P (Str.ofString "_twin_re_2"), key := .str (Str.ofString "_twin_re_2") 341, val := .ref 41 }, { hash := PyData.keyHash P (Str.ofString "CRLF"), key := .str (Str.ofString "CRLF") 343, val := .str (Str.ofString "\x0d\n") 342 }, { hash := PyData.keyHash P (Str.ofString "quotedata"), key := .str (Str.ofString "quotedata") 350, val := .ref 48 }, { hash := PyData.keyHash P (Str.ofString "_iter_escaped_chars"), key := .str (Str.ofString "_iter_escaped_chars") 362, val := .ref 55 }, { hash := PyData.keyHash P (Str.ofString "_strip_quoted_realnames"), key := .str (Str.ofString "_strip_quoted_realnames") 374, val := .ref 62 }, { hash := PyData.keyHash P (Str.ofString "ENDMARKER"), key := .str (Str.ofString "ENDMARKER") 378, val := .int 0 377 }, { hash := PyData.keyHash P (Str.ofString "LPAR"), key := .str (Str.ofString "LPAR") 380, val := .int 7 379 }, { hash := PyData.keyHash P (Str.ofString "RPAR"), key := .str (Str.ofString "RPAR") 382, val := .int 8 381 }, { hash := PyData.keyHash P (Str.ofString "LSQB"), key := .str (Str.ofString "LSQB") 384, val := .int 9 383 }, { hash := PyData.keyHash P (Str.ofString "RSQB"), key := .str (Str.ofString "RSQB") 386, val := .int 10 385 }, { hash := PyData.keyHash P (Str.ofString "COLON"), key := .str (Str.ofString "COLON") 388, val := .int 11 387 }, { hash := PyData.keyHash P (Str.ofString "COMMA"), key := .str (Str.ofString "COMMA") 390, val := .int 12 389 }, { hash := PyData.keyHash P (Str.ofString "SEMI"), key := .str (Str.ofString "SEMI") 392, val := .int 13 391 }, { hash := PyData.keyHash P (Str.ofString "PLUS"), key := .str (Str.ofString "PLUS") 394, val := .int 14 393 }, { hash := PyData.keyHash P (Str.ofString "MINUS"), key := .str (Str.ofString "MINUS") 396, val := .int 15 395 }, { hash := PyData.keyHash P (Str.ofString "STAR"), key := .str (Str.ofString "STAR") 398, val := .int 16 397 }, { hash := PyData.keyHash P (Str.ofString "SLASH"), key := .str (Str.ofString "SLASH") 400, val := .int 17 399 }, { hash := PyData.keyHash P (Str.ofString "VBAR"), key := .str (Str.ofString "VBAR") 402, val := .int 18 401 }, { hash := PyData.keyHash P (Str.ofString "AMPER"), key := .str (Str.ofString "AMPER") 404, val := .int 19 403 }, { hash := PyData.keyHash P (Str.ofString "LESS"), key := .str (Str.ofString "LESS") 406, val := .int 20 405 }, { hash := PyData.keyHash P (Str.ofString "GREATER"), key := .str (Str.ofString "GREATER") 408, val := .int 21 407 }, { hash := PyData.keyHash P (Str.ofString "EQUAL"), key := .str (Str.ofString "EQUAL") 410, val := .int 22 409 }, { hash := PyData.keyHash P (Str.ofString "DOT"), key := .str (Str.ofString "DOT") 412, val := .int 23 411 }, { hash := PyData.keyHash P (Str.ofString "PERCENT"), key := .str (Str.ofString "PERCENT") 414, val := .int 24 413 }, { hash := PyData.keyHash P (Str.ofString "LBRACE"), key := .str (Str.ofString "LBRACE") 416, val := .int 25 415 }, { hash := PyData.keyHash P (Str.ofString "RBRACE"), key := .str (Str.ofString "RBRACE") 418, val := .int 26 417 }, { hash := PyData.keyHash P (Str.ofString "EQEQUAL"), key := .str (Str.ofString "EQEQUAL") 420, val := .int 27 419 }, { hash := PyData.keyHash P (Str.ofString "NOTEQUAL"), key := .str (Str.ofString "NOTEQUAL") 422, val := .int 28 421 }, { hash := PyData.keyHash P (Str.ofString "LESSEQUAL"), key := .str (Str.ofString "LESSEQUAL") 424, val := .int 29 423 }, { hash := PyData.keyHash P (Str.ofString "GREATEREQUAL"), key := .str (Str.ofString "GREATEREQUAL") 426, val := .int 30 425 }, { hash := PyData.keyHash P (Str.ofString "TILDE"), key := .str (Str.ofString "TILDE") 428, val := .int 31 427 }, { hash := PyData.keyHash P (Str.ofString "CIRCUMFLEX"), key := .str (Str.ofString "CIRCUMFLEX") 430, val := .int 32 429 }, { hash := PyData.keyHash P (Str.ofString "LEFTSHIFT"), key := .str (Str.ofString "LEFTSHIFT") 432, val := .int 33 431 }, { hash := PyData.keyHash P (Str.ofString "RIGHTSHIFT"), key := .str (Str.ofString "RIGHTSHIFT") 434, val := .int 34 433 }, { hash := PyData.keyHash P (Str.ofString "DOUBLESTAR"), key := .str (Str.ofString "DOUBLESTAR") 436, val := .int 35 435 }, { hash := PyData.keyHash P (Str.ofString "PLUSEQUAL"), key := .str (Str.ofString "PLUSEQUAL") 438, val := .int 36 437 }, { hash := PyData.keyHash P (Str.ofString "MINEQUAL"), key := .str (Str.ofString "MINEQUAL") 440, val := .int 37 439 }, { hash := PyData.keyHash P (Str.ofString "STAREQUAL"), key := .str (Str.ofString "STAREQUAL") 442, val := .int 38 441 }, { hash := PyData.keyHash P (Str.ofString "SLASHEQUAL"), key := .str (Str.ofString "SLASHEQUAL") 444, val := .int 39 443 }, { hash := PyData.keyHash P (Str.ofString "PERCENTEQUAL"), key := .str (Str.ofString "PERCENTEQUAL") 446, val := .int 40 445 }, { hash := PyData.keyHash P (Str.ofString "AMPEREQUAL"), key := .str (Str.ofString "AMPEREQUAL") 448, val := .int 41 447 }, { hash := PyData.keyHash P (Str.ofString "VBAREQUAL"), key := .str (Str.ofString "VBAREQUAL") 450, val := .int 42 449 }, { hash := PyData.keyHash P (Str.ofString "CIRCUMFLEXEQUAL"), key := .str (Str.ofString "CIRCUMFLEXEQUAL") 452, val := .int 43 451 }, { hash := PyData.keyHash P (Str.ofString "LEFTSHIFTEQUAL"), key := .str (Str.ofString "LEFTSHIFTEQUAL") 454, val := .int 44 453 }, { hash := PyData.keyHash P (Str.ofString "RIGHTSHIFTEQUAL"), key := .str (Str.ofString "RIGHTSHIFTEQUAL") 456, val := .int 45 455 }, { hash := PyData.keyHash P (Str.ofString "DOUBLESTAREQUAL"), key := .str (Str.ofString "DOUBLESTAREQUAL") 458, val := .int 46 457 }, { hash := PyData.keyHash P (Str.ofString "DOUBLESLASH"), key := .str (Str.ofString "DOUBLESLASH") 460, val := .int 47 459 }, { hash := PyData.keyHash P (Str.ofString "DOUBLESLASHEQUAL"), key := .str (Str.ofString "DOUBLESLASHEQUAL") 462, val := .int 48 461 }, { hash := PyData.keyHash P (Str.ofString "AT"), key := .str (Str.ofString "AT") 464, val := .int 49 463 }, { hash := PyData.keyHash P (Str.ofString "ATEQUAL"), key := .str (Str.ofString "ATEQUAL") 466, val := .int 50 465 }, { hash := PyData.keyHash P (Str.ofString "RARROW"), key := .str (Str.ofString "RARROW") 468, val := .int 51 467 }, { hash := PyData.keyHash P (Str.ofString "ELLIPSIS"), key := .str (Str.ofString "ELLIPSIS") 470, val := .int 52 469 }, { hash := PyData.keyHash P (Str.ofString "COLONEQUAL"), key := .str (Str.ofString "COLONEQUAL") 472, val := .int 53 471 }, { hash := PyData.keyHash P (Str.ofString "EXCLAMATION"), key := .str (Str.ofString "EXCLAMATION") 474, val := .int 54 473 }, { hash := PyData.keyHash P (Str.ofString "NT_OFFSET"), key := .str (Str.ofString "NT_OFFSET") 476, val := .int 256 475 }, { hash := PyData.keyHash P (Str.ofString "EXACT_TOKEN_TYPES"), key := .str (Str.ofString "EXACT_TOKEN_TYPES") 573, val := .ref 63 }, { hash := PyData.keyHash P (Str.ofString "ISTERMINAL"), key := .str (Str.ofString "ISTERMINAL") 580, val := .ref 72 }, { hash := PyData.keyHash P (Str.ofString "ISEOF"), key := .str (Str.ofString "ISEOF") 587, val := .ref 79 }, { hash := PyData.keyHash P (Str.ofString "_law_read"), key := .str (Str.ofString "_law_read") 596, val := .ref 86 }, { hash := PyData.keyHash P (Str.ofString "_law_signs"), key := .str (Str.ofString "_law_signs") 602, val := .ref 91 }, { hash := PyData.keyHash P (Str.ofString "_law_worth"), key := .str (Str.ofString "_law_worth") 612, val := .ref 98 }, { hash := PyData.keyHash P (Str.ofString "law"), key := .str (Str.ofString "law") 618, val := .ref 103 }] 73 }),
  (35, { cls := .type "tuple", data := .seq #[.int 14 0, .int 4 0, .int 0 0, .int 1 0, .int 1 0, .int 6 0, .int 1 0, .int 16 0, .int 46 0, .int 1 0] }),
  (36, { cls := .type "re.Pattern", data := .fields #[.str (Str.ofString "(?m)^\\.") 285, .int 40 298, .int 0 0, .none, .none, .ref 35, .int 0 0] }),
  (40, { cls := .type "tuple", data := .seq #[.int 14 0, .int 9 0, .int 4 0, .int 1 0, .int 2 0, .int 16 0, .int 10 0, .int 16 0, .int 13 0, .int 0 0, .int 7 0, .int 7 0, .int 16 0, .int 13 0, .int 16 0, .int 10 0, .int 15 0, .int 18 0, .int 5 0, .int 16 0, .int 10 0, .int 15 0, .int 13 0, .int 11 0, .int 16 0, .int 13 0, .int 5 0, .int 5 0, .int 0 0, .int 16 0, .int 10 0, .int 1 0, .int 15 0, .int 2 0, .int 0 0, .int 1 0] }),
  (41, { cls := .type "re.Pattern", data := .fields #[.str (Str.ofString "(?:\\r\\n|\\n|\\r(?!\\n))") 301, .int 32 340, .int 0 0, .none, .none, .ref 40, .int 0 0] }),
  (47, { cls := .type "code", data := .fields #[.str (Str.ofString "quotedata") 344, .str (Str.ofString "quotedata") 345, .str (Str.ofString "/claim/cut.py") 346, .int 6 0, .int 1 0, .int 0 0, .int 0 0, .int 3 0, .ref 42, .bool true, .int 276 0, .ref 43, .none, .ref 44, .ref 45, .ref 46, .int 348 0, .int 6 0, .str (Str.ofString "/claim/cut.py") 349] }),
  (48, { cls := .type "function", data := .func (docDef "quotedata" (paramsOf (topSt 5)) (bodyOf (topSt 5)) (scopeOf (topSt 5)) (.str (Str.ofString "cpy313.smtplib") 282) (.ref 47) .none) }),
  (54, { cls := .type "code", data := .fields #[.str (Str.ofString "_iter_escaped_chars") 353, .str (Str.ofString "_iter_escaped_chars") 354, .str (Str.ofString "/claim/cut.py") 355, .int 9 0, .int 1 0, .int 0 0, .int 0 0, .int 35 0, .ref 49, .bool true, .int 276 0, .ref 50, .none, .ref 51, .ref 52, .ref 53, .int 360 0, .int 9 0, .str (Str.ofString "/claim/cut.py") 361] }),
  (55, { cls := .type "function", data := .func (docDef "_iter_escaped_chars" (paramsOf (topSt 7)) (bodyOf (topSt 7)) (scopeOf (topSt 7)) (.str (Str.ofString "cpy313.email.utils") 351) (.ref 54) .none) }),
  (61, { cls := .type "code", data := .fields #[.str (Str.ofString "_strip_quoted_realnames") 363, .str (Str.ofString "_strip_quoted_realnames") 364, .str (Str.ofString "/claim/cut.py") 365, .int 22 0, .int 1 0, .int 0 0, .int 0 0, .int 3 0, .ref 56, .bool true, .int 276 0, .ref 57, .none, .ref 58, .ref 59, .ref 60, .int 372 0, .int 22 0, .str (Str.ofString "/claim/cut.py") 373] }),
  (62, { cls := .type "function", data := .func (docDef "_strip_quoted_realnames" (paramsOf (topSt 8)) (bodyOf (topSt 8)) (scopeOf (topSt 8)) (.str (Str.ofString "cpy313.email.utils") 351) (.ref 61) .none) }),
  (63, { cls := .type "dict", data := .dict #[{ hash := PyData.keyHash P (Str.ofString "!"), key := .str (Str.ofString "!") 477, val := .int 54 473 }, { hash := PyData.keyHash P (Str.ofString "!="), key := .str (Str.ofString "!=") 479, val := .int 28 421 }, { hash := PyData.keyHash P (Str.ofString "%"), key := .str (Str.ofString "%") 481, val := .int 24 413 }, { hash := PyData.keyHash P (Str.ofString "%="), key := .str (Str.ofString "%=") 483, val := .int 40 445 }, { hash := PyData.keyHash P (Str.ofString "&"), key := .str (Str.ofString "&") 485, val := .int 19 403 }, { hash := PyData.keyHash P (Str.ofString "&="), key := .str (Str.ofString "&=") 487, val := .int 41 447 }, { hash := PyData.keyHash P (Str.ofString "("), key := .str (Str.ofString "(") 489, val := .int 7 379 }, { hash := PyData.keyHash P (Str.ofString ")"), key := .str (Str.ofString ")") 491, val := .int 8 381 }, { hash := PyData.keyHash P (Str.ofString "*"), key := .str (Str.ofString "*") 493, val := .int 16 397 }, { hash := PyData.keyHash P (Str.ofString "**"), key := .str (Str.ofString "**") 495, val := .int 35 435 }, { hash := PyData.keyHash P (Str.ofString "**="), key := .str (Str.ofString "**=") 497, val := .int 46 457 }, { hash := PyData.keyHash P (Str.ofString "*="), key := .str (Str.ofString "*=") 499, val := .int 38 441 }, { hash := PyData.keyHash P (Str.ofString "+"), key := .str (Str.ofString "+") 501, val := .int 14 393 }, { hash := PyData.keyHash P (Str.ofString "+="), key := .str (Str.ofString "+=") 503, val := .int 36 437 }, { hash := PyData.keyHash P (Str.ofString ","), key := .str (Str.ofString ",") 505, val := .int 12 389 }, { hash := PyData.keyHash P (Str.ofString "-"), key := .str (Str.ofString "-") 507, val := .int 15 395 }, { hash := PyData.keyHash P (Str.ofString "-="), key := .str (Str.ofString "-=") 509, val := .int 37 439 }, { hash := PyData.keyHash P (Str.ofString "->"), key := .str (Str.ofString "->") 511, val := .int 51 467 }, { hash := PyData.keyHash P (Str.ofString "."), key := .str (Str.ofString ".") 513, val := .int 23 411 }, { hash := PyData.keyHash P (Str.ofString "..."), key := .str (Str.ofString "...") 515, val := .int 52 469 }, { hash := PyData.keyHash P (Str.ofString "/"), key := .str (Str.ofString "/") 517, val := .int 17 399 }, { hash := PyData.keyHash P (Str.ofString "//"), key := .str (Str.ofString "//") 519, val := .int 47 459 }, { hash := PyData.keyHash P (Str.ofString "//="), key := .str (Str.ofString "//=") 521, val := .int 48 461 }, { hash := PyData.keyHash P (Str.ofString "/="), key := .str (Str.ofString "/=") 523, val := .int 39 443 }, { hash := PyData.keyHash P (Str.ofString ":"), key := .str (Str.ofString ":") 525, val := .int 11 387 }, { hash := PyData.keyHash P (Str.ofString ":="), key := .str (Str.ofString ":=") 527, val := .int 53 471 }, { hash := PyData.keyHash P (Str.ofString ";"), key := .str (Str.ofString ";") 529, val := .int 13 391 }, { hash := PyData.keyHash P (Str.ofString "<"), key := .str (Str.ofString "<") 531, val := .int 20 405 }, { hash := PyData.keyHash P (Str.ofString "<<"), key := .str (Str.ofString "<<") 533, val := .int 33 431 }, { hash := PyData.keyHash P (Str.ofString "<<="), key := .str (Str.ofString "<<=") 535, val := .int 44 453 }, { hash := PyData.keyHash P (Str.ofString "<="), key := .str (Str.ofString "<=") 537, val := .int 29 423 }, { hash := PyData.keyHash P (Str.ofString "="), key := .str (Str.ofString "=") 539, val := .int 22 409 }, { hash := PyData.keyHash P (Str.ofString "=="), key := .str (Str.ofString "==") 541, val := .int 27 419 }, { hash := PyData.keyHash P (Str.ofString ">"), key := .str (Str.ofString ">") 543, val := .int 21 407 }, { hash := PyData.keyHash P (Str.ofString ">="), key := .str (Str.ofString ">=") 545, val := .int 30 425 }, { hash := PyData.keyHash P (Str.ofString ">>"), key := .str (Str.ofString ">>") 546, val := .int 34 433 }, { hash := PyData.keyHash P (Str.ofString ">>="), key := .str (Str.ofString ">>=") 547, val := .int 45 455 }, { hash := PyData.keyHash P (Str.ofString "@"), key := .str (Str.ofString "@") 548, val := .int 49 463 }, { hash := PyData.keyHash P (Str.ofString "@="), key := .str (Str.ofString "@=") 549, val := .int 50 465 }, { hash := PyData.keyHash P (Str.ofString "["), key := .str (Str.ofString "[") 550, val := .int 9 383 }, { hash := PyData.keyHash P (Str.ofString "]"), key := .str (Str.ofString "]") 551, val := .int 10 385 }, { hash := PyData.keyHash P (Str.ofString "^"), key := .str (Str.ofString "^") 552, val := .int 32 429 }, { hash := PyData.keyHash P (Str.ofString "^="), key := .str (Str.ofString "^=") 553, val := .int 43 451 }, { hash := PyData.keyHash P (Str.ofString "{"), key := .str (Str.ofString "{") 554, val := .int 25 415 }, { hash := PyData.keyHash P (Str.ofString "|"), key := .str (Str.ofString "|") 555, val := .int 18 401 }, { hash := PyData.keyHash P (Str.ofString "|="), key := .str (Str.ofString "|=") 556, val := .int 42 449 }, { hash := PyData.keyHash P (Str.ofString "}"), key := .str (Str.ofString "}") 557, val := .int 26 417 }, { hash := PyData.keyHash P (Str.ofString "~"), key := .str (Str.ofString "~") 558, val := .int 31 427 }] 48 }),
  (71, { cls := .type "code", data := .fields #[.str (Str.ofString "ISTERMINAL") 574, .str (Str.ofString "ISTERMINAL") 575, .str (Str.ofString "/claim/cut.py") 576, .int 92 0, .int 1 0, .int 0 0, .int 0 0, .int 3 0, .ref 66, .bool true, .int 276 0, .ref 67, .none, .ref 68, .ref 69, .ref 70, .int 578 0, .int 92 0, .str (Str.ofString "/claim/cut.py") 579] }),
  (72, { cls := .type "function", data := .func (docDef "ISTERMINAL" (paramsOf (topSt 61)) (bodyOf (topSt 61)) (scopeOf (topSt 61)) (.str (Str.ofString "cpy313.token") 375) (.ref 71) .none) }),
  (78, { cls := .type "code", data := .fields #[.str (Str.ofString "ISEOF") 581, .str (Str.ofString "ISEOF") 582, .str (Str.ofString "/claim/cut.py") 583, .int 94 0, .int 1 0, .int 0 0, .int 0 0, .int 3 0, .ref 73, .bool true, .int 276 0, .ref 74, .none, .ref 75, .ref 76, .ref 77, .int 585 0, .int 94 0, .str (Str.ofString "/claim/cut.py") 586] }),
  (79, { cls := .type "function", data := .func (docDef "ISEOF" (paramsOf (topSt 62)) (bodyOf (topSt 62)) (scopeOf (topSt 62)) (.str (Str.ofString "cpy313.token") 375) (.ref 78) .none) }),
  (85, { cls := .type "code", data := .fields #[.str (Str.ofString "_law_read") 590, .str (Str.ofString "_law_read") 591, .str (Str.ofString "/claim/cut.py") 592, .int 97 0, .int 1 0, .int 0 0, .int 0 0, .int 3 0, .ref 80, .bool true, .int 276 0, .ref 81, .none, .ref 82, .ref 83, .ref 84, .int 594 0, .int 97 0, .str (Str.ofString "/claim/cut.py") 595] }),
  (86, { cls := .type "function", data := .func (docDef "_law_read" (paramsOf (topSt 64)) (bodyOf (topSt 64)) (scopeOf (topSt 64)) (.str (Str.ofString "law_rs0097_01") 588) (.ref 85) .none) }),
  (90, { cls := .type "code", data := .fields #[.str (Str.ofString "_law_signs") 597, .str (Str.ofString "_law_signs") 598, .str (Str.ofString "/claim/cut.py") 599, .int 99 0, .int 1 0, .int 0 0, .int 0 0, .int 3 0, .ref 87, .bool true, .int 276 0, .ref 88, .none, .none, .none, .ref 89, .int 600 0, .int 99 0, .str (Str.ofString "/claim/cut.py") 601] }),
  (91, { cls := .type "function", data := .func (docDef "_law_signs" (paramsOf (topSt 65)) (bodyOf (topSt 65)) (scopeOf (topSt 65)) (.str (Str.ofString "law_rs0097_01") 588) (.ref 90) .none) }),
  (97, { cls := .type "code", data := .fields #[.str (Str.ofString "_law_worth") 603, .str (Str.ofString "_law_worth") 604, .str (Str.ofString "/claim/cut.py") 605, .int 108 0, .int 1 0, .int 0 0, .int 0 0, .int 3 0, .ref 92, .bool true, .int 276 0, .ref 93, .none, .ref 94, .ref 95, .ref 96, .int 610 0, .int 108 0, .str (Str.ofString "/claim/cut.py") 611] }),
  (98, { cls := .type "function", data := .func (docDef "_law_worth" (paramsOf (topSt 66)) (bodyOf (topSt 66)) (scopeOf (topSt 66)) (.str (Str.ofString "law_rs0097_01") 588) (.ref 97) .none) }),
  (102, { cls := .type "code", data := .fields #[.str (Str.ofString "law") 613, .str (Str.ofString "law") 614, .str (Str.ofString "/claim/cut.py") 615, .int 116 0, .int 1 0, .int 0 0, .int 0 0, .int 3 0, .ref 99, .bool true, .int 276 0, .ref 100, .none, .none, .none, .ref 101, .int 616 0, .int 116 0, .str (Str.ofString "/claim/cut.py") 617] }),
  (103, { cls := .type "function", data := .func (docDef "law" (paramsOf (topSt 67)) (bodyOf (topSt 67)) (scopeOf (topSt 67)) (.str (Str.ofString "law_rs0097_01") 588) (.ref 102) .none) })]
noncomputable def vw : Program := view PySem.Challenge.pw_rs0097_01 [0, 67]
noncomputable def loose : List Str := [.ofString "_twin_re_1", .ofString "_twin_re_2", .ofString "CRLF", .ofString "quotedata", .ofString "_iter_escaped_chars", .ofString "_strip_quoted_realnames", .ofString "ENDMARKER", .ofString "LPAR", .ofString "RPAR", .ofString "LSQB", .ofString "RSQB", .ofString "COLON", .ofString "COMMA", .ofString "SEMI", .ofString "PLUS", .ofString "MINUS", .ofString "STAR", .ofString "SLASH", .ofString "VBAR", .ofString "AMPER", .ofString "LESS", .ofString "GREATER", .ofString "EQUAL", .ofString "DOT", .ofString "PERCENT", .ofString "LBRACE", .ofString "RBRACE", .ofString "EQEQUAL", .ofString "NOTEQUAL", .ofString "LESSEQUAL", .ofString "GREATEREQUAL", .ofString "TILDE", .ofString "CIRCUMFLEX", .ofString "LEFTSHIFT", .ofString "RIGHTSHIFT", .ofString "DOUBLESTAR", .ofString "PLUSEQUAL", .ofString "MINEQUAL", .ofString "STAREQUAL", .ofString "SLASHEQUAL", .ofString "PERCENTEQUAL", .ofString "AMPEREQUAL", .ofString "VBAREQUAL", .ofString "CIRCUMFLEXEQUAL", .ofString "LEFTSHIFTEQUAL", .ofString "RIGHTSHIFTEQUAL", .ofString "DOUBLESTAREQUAL", .ofString "DOUBLESLASH", .ofString "DOUBLESLASHEQUAL", .ofString "AT", .ofString "ATEQUAL", .ofString "RARROW", .ofString "ELLIPSIS", .ofString "COLONEQUAL", .ofString "EXCLAMATION", .ofString "NT_OFFSET", .ofString "EXACT_TOKEN_TYPES", .ofString "ISTERMINAL", .ofString "ISEOF", .ofString "_law_read", .ofString "_law_signs", .ofString "_law_worth"]
noncomputable def KA : List Addr := [3,35,36,40,41,47,48,54,55,61,62,63,71,72,78,79,85,86,90,91,97,98,102,103]
theorem KA_eq (P : Params) : KA = (KF P).map (·.1) := rfl
noncomputable def o_41 : Params → Obj := fun P => { cls := .type "dict", data := .dict #[{ hash := PyData.keyHash P (Str.ofString "__name__"), key := .str (Str.ofString "__name__") 1, val := .str (Str.ofString "builtins") 160 }, { hash := PyData.keyHash P (Str.ofString "__doc__"), key := .str (Str.ofString "__doc__") 2, val := .builtin "builtins.__doc__:str#opaque" }, { hash := PyData.keyHash P (Str.ofString "__package__"), key := .str (Str.ofString "__package__") 3, val := .builtin "builtins.__package__:str#opaque" }, { hash := PyData.keyHash P (Str.ofString "__loader__"), key := .str (Str.ofString "__loader__") 4, val := .builtin "builtins.__loader__:shared#opaque" }, { hash := PyData.keyHash P (Str.ofString "__spec__"), key := .str (Str.ofString "__spec__") 5, val := .builtin "builtins.__spec__#opaque" }, { hash := PyData.keyHash P (Str.ofString "__build_class__"), key := .str (Str.ofString "__build_class__") 6, val := .builtin "__build_class__" }, { hash := PyData.keyHash P (Str.ofString "__import__"), key := .str (Str.ofString "__import__") 7, val := .builtin "__import__" }, { hash := PyData.keyHash P (Str.ofString "abs"), key := .str (Str.ofString "abs") 8, val := .builtin "abs" }, { hash := PyData.keyHash P (Str.ofString "all"), key := .str (Str.ofString "all") 9, val := .builtin "all" }, { hash := PyData.keyHash P (Str.ofString "any"), key := .str (Str.ofString "any") 10, val := .builtin "any" }, { hash := PyData.keyHash P (Str.ofString "ascii"), key := .str (Str.ofString "ascii") 11, val := .builtin "ascii" }, { hash := PyData.keyHash P (Str.ofString "bin"), key := .str (Str.ofString "bin") 12, val := .builtin "bin" }, { hash := PyData.keyHash P (Str.ofString "breakpoint"), key := .str (Str.ofString "breakpoint") 13, val := .builtin "breakpoint" }, { hash := PyData.keyHash P (Str.ofString "callable"), key := .str (Str.ofString "callable") 14, val := .builtin "callable" }, { hash := PyData.keyHash P (Str.ofString "chr"), key := .str (Str.ofString "chr") 15, val := .builtin "chr" }, { hash := PyData.keyHash P (Str.ofString "compile"), key := .str (Str.ofString "compile") 16, val := .builtin "compile" }, { hash := PyData.keyHash P (Str.ofString "delattr"), key := .str (Str.ofString "delattr") 17, val := .builtin "delattr" }, { hash := PyData.keyHash P (Str.ofString "dir"), key := .str (Str.ofString "dir") 18, val := .builtin "dir" }, { hash := PyData.keyHash P (Str.ofString "divmod"), key := .str (Str.ofString "divmod") 19, val := .builtin "divmod" }, { hash := PyData.keyHash P (Str.ofString "eval"), key := .str (Str.ofString "eval") 20, val := .builtin "eval" }, { hash := PyData.keyHash P (Str.ofString "exec"), key := .str (Str.ofString "exec") 21, val := .builtin "exec" }, { hash := PyData.keyHash P (Str.ofString "format"), key := .str (Str.ofString "format") 22, val := .builtin "format" }, { hash := PyData.keyHash P (Str.ofString "getattr"), key := .str (Str.ofString "getattr") 23, val := .builtin "getattr" }, { hash := PyData.keyHash P (Str.ofString "globals"), key := .str (Str.ofString "globals") 24, val := .builtin "globals" }, { hash := PyData.keyHash P (Str.ofString "hasattr"), key := .str (Str.ofString "hasattr") 25, val := .builtin "hasattr" }, { hash := PyData.keyHash P (Str.ofString "hash"), key := .str (Str.ofString "hash") 26, val := .builtin "hash" }, { hash := PyData.keyHash P (Str.ofString "hex"), key := .str (Str.ofString "hex") 27, val := .builtin "hex" }, { hash := PyData.keyHash P (Str.ofString "id"), key := .str (Str.ofString "id") 28, val := .builtin "id" }, { hash := PyData.keyHash P (Str.ofString "input"), key := .str (Str.ofString "input") 29, val := .builtin "input" }, { hash := PyData.keyHash P (Str.ofString "isinstance"), key := .str (Str.ofString "isinstance") 30, val := .builtin "isinstance" }, { hash := PyData.keyHash P (Str.ofString "issubclass"), key := .str (Str.ofString "issubclass") 31, val := .builtin "issubclass" }, { hash := PyData.keyHash P (Str.ofString "iter"), key := .str (Str.ofString "iter") 32, val := .builtin "iter" }, { hash := PyData.keyHash P (Str.ofString "aiter"), key := .str (Str.ofString "aiter") 33, val := .builtin "aiter" }, { hash := PyData.keyHash P (Str.ofString "len"), key := .str (Str.ofString "len") 34, val := .builtin "len" }, { hash := PyData.keyHash P (Str.ofString "locals"), key := .str (Str.ofString "locals") 35, val := .builtin "locals" }, { hash := PyData.keyHash P (Str.ofString "max"), key := .str (Str.ofString "max") 36, val := .builtin "max" }, { hash := PyData.keyHash P (Str.ofString "min"), key := .str (Str.ofString "min") 37, val := .builtin "min" }, { hash := PyData.keyHash P (Str.ofString "next"), key := .str (Str.ofString "next") 38, val := .builtin "next" }, { hash := PyData.keyHash P (Str.ofString "anext"), key := .str (Str.ofString "anext") 39, val := .builtin "anext" }, { hash := PyData.keyHash P (Str.ofString "oct"), key := .str (Str.ofString "oct") 40, val := .builtin "oct" }, { hash := PyData.keyHash P (Str.ofString "ord"), key := .str (Str.ofString "ord") 41, val := .builtin "ord" }, { hash := PyData.keyHash P (Str.ofString "pow"), key := .str (Str.ofString "pow") 42, val := .builtin "pow" }, { hash := PyData.keyHash P (Str.ofString "print"), key := .str (Str.ofString "print") 43, val := .builtin "print" }, { hash := PyData.keyHash P (Str.ofString "repr"), key := .str (Str.ofString "repr") 44, val := .builtin "repr" }, { hash := PyData.keyHash P (Str.ofString "round"), key := .str (Str.ofString "round") 45, val := .builtin "round" }, { hash := PyData.keyHash P (Str.ofString "setattr"), key := .str (Str.ofString "setattr") 46, val := .builtin "setattr" }, { hash := PyData.keyHash P (Str.ofString "sorted"), key := .str (Str.ofString "sorted") 47, val := .builtin "sorted" }, { hash := PyData.keyHash P (Str.ofString "sum"), key := .str (Str.ofString "sum") 48, val := .builtin "sum" }, { hash := PyData.keyHash P (Str.ofString "vars"), key := .str (Str.ofString "vars") 49, val := .builtin "vars" }, { hash := PyData.keyHash P (Str.ofString "None"), key := .str (Str.ofString "None") 50, val := .none }, { hash := PyData.keyHash P (Str.ofString "Ellipsis"), key := .str (Str.ofString "Ellipsis") 51, val := .ellipsis }, { hash := PyData.keyHash P (Str.ofString "NotImplemented"), key := .str (Str.ofString "NotImplemented") 52, val := .notImplemented }, { hash := PyData.keyHash P (Str.ofString "False"), key := .str (Str.ofString "False") 53, val := .bool false }, { hash := PyData.keyHash P (Str.ofString "True"), key := .str (Str.ofString "True") 54, val := .bool true }, { hash := PyData.keyHash P (Str.ofString "bool"), key := .str (Str.ofString "bool") 55, val := .type "bool" }, { hash := PyData.keyHash P (Str.ofString "memoryview"), key := .str (Str.ofString "memoryview") 56, val := .type "memoryview" }, { hash := PyData.keyHash P (Str.ofString "bytearray"), key := .str (Str.ofString "bytearray") 57, val := .type "bytearray" }, { hash := PyData.keyHash P (Str.ofString "bytes"), key := .str (Str.ofString "bytes") 58, val := .type "bytes" }, { hash := PyData.keyHash P (Str.ofString "classmethod"), key := .str (Str.ofString "classmethod") 59, val := .type "classmethod" }, { hash := PyData.keyHash P (Str.ofString "complex"), key := .str (Str.ofString "complex") 60, val := .type "complex" }, { hash := PyData.keyHash P (Str.ofString "dict"), key := .str (Str.ofString "dict") 61, val := .type "dict" }, { hash := PyData.keyHash P (Str.ofString "enumerate"), key := .str (Str.ofString "enumerate") 62, val := .type "enumerate" }, { hash := PyData.keyHash P (Str.ofString "filter"), key := .str (Str.ofString "filter") 63, val := .type "filter" }, { hash := PyData.keyHash P (Str.ofString "float"), key := .str (Str.ofString "float") 64, val := .type "float" }, { hash := PyData.keyHash P (Str.ofString "frozenset"), key := .str (Str.ofString "frozenset") 65, val := .type "frozenset" }, { hash := PyData.keyHash P (Str.ofString "property"), key := .str (Str.ofString "property") 66, val := .type "property" }, { hash := PyData.keyHash P (Str.ofString "int"), key := .str (Str.ofString "int") 67, val := .type "int" }, { hash := PyData.keyHash P (Str.ofString "list"), key := .str (Str.ofString "list") 68, val := .type "list" }, { hash := PyData.keyHash P (Str.ofString "map"), key := .str (Str.ofString "map") 69, val := .type "map" }, { hash := PyData.keyHash P (Str.ofString "object"), key := .str (Str.ofString "object") 70, val := .type "object" }, { hash := PyData.keyHash P (Str.ofString "range"), key := .str (Str.ofString "range") 71, val := .type "range" }, { hash := PyData.keyHash P (Str.ofString "reversed"), key := .str (Str.ofString "reversed") 72, val := .type "reversed" }, { hash := PyData.keyHash P (Str.ofString "set"), key := .str (Str.ofString "set") 73, val := .type "set" }, { hash := PyData.keyHash P (Str.ofString "slice"), key := .str (Str.ofString "slice") 74, val := .type "slice" }, { hash := PyData.keyHash P (Str.ofString "staticmethod"), key := .str (Str.ofString "staticmethod") 75, val := .type "staticmethod" }, { hash := PyData.keyHash P (Str.ofString "str"), key := .str (Str.ofString "str") 76, val := .type "str" }, { hash := PyData.keyHash P (Str.ofString "super"), key := .str (Str.ofString "super") 77, val := .type "super" }, { hash := PyData.keyHash P (Str.ofString "tuple"), key := .str (Str.ofString "tuple") 78, val := .type "tuple" }, { hash := PyData.keyHash P (Str.ofString "type"), key := .str (Str.ofString "type") 79, val := .type "type" }, { hash := PyData.keyHash P (Str.ofString "zip"), key := .str (Str.ofString "zip") 80, val := .type "zip" }, { hash := PyData.keyHash P (Str.ofString "__debug__"), key := .str (Str.ofString "__debug__") 81, val := .bool true }, { hash := PyData.keyHash P (Str.ofString "BaseException"), key := .str (Str.ofString "BaseException") 82, val := .type "BaseException" }, { hash := PyData.keyHash P (Str.ofString "BaseExceptionGroup"), key := .str (Str.ofString "BaseExceptionGroup") 83, val := .type "BaseExceptionGroup" }, { hash := PyData.keyHash P (Str.ofString "Exception"), key := .str (Str.ofString "Exception") 84, val := .type "Exception" }, { hash := PyData.keyHash P (Str.ofString "GeneratorExit"), key := .str (Str.ofString "GeneratorExit") 85, val := .type "GeneratorExit" }, { hash := PyData.keyHash P (Str.ofString "KeyboardInterrupt"), key := .str (Str.ofString "KeyboardInterrupt") 86, val := .type "KeyboardInterrupt" }, { hash := PyData.keyHash P (Str.ofString "SystemExit"), key := .str (Str.ofString "SystemExit") 87, val := .type "SystemExit" }, { hash := PyData.keyHash P (Str.ofString "ArithmeticError"), key := .str (Str.ofString "ArithmeticError") 88, val := .type "ArithmeticError" }, { hash := PyData.keyHash P (Str.ofString "AssertionError"), key := .str (Str.ofString "AssertionError") 89, val := .type "AssertionError" }, { hash := PyData.keyHash P (Str.ofString "AttributeError"), key := .str (Str.ofString "AttributeError") 90, val := .type "AttributeError" }, { hash := PyData.keyHash P (Str.ofString "BufferError"), key := .str (Str.ofString "BufferError") 91, val := .type "BufferError" }, { hash := PyData.keyHash P (Str.ofString "EOFError"), key := .str (Str.ofString "EOFError") 92, val := .type "EOFError" }, { hash := PyData.keyHash P (Str.ofString "ImportError"), key := .str (Str.ofString "ImportError") 93, val := .type "ImportError" }, { hash := PyData.keyHash P (Str.ofString "LookupError"), key := .str (Str.ofString "LookupError") 94, val := .type "LookupError" }, { hash := PyData.keyHash P (Str.ofString "MemoryError"), key := .str (Str.ofString "MemoryError") 95, val := .type "MemoryError" }, { hash := PyData.keyHash P (Str.ofString "NameError"), key := .str (Str.ofString "NameError") 96, val := .type "NameError" }, { hash := PyData.keyHash P (Str.ofString "OSError"), key := .str (Str.ofString "OSError") 97, val := .type "OSError" }, { hash := PyData.keyHash P (Str.ofString "ReferenceError"), key := .str (Str.ofString "ReferenceError") 98, val := .type "ReferenceError" }, { hash := PyData.keyHash P (Str.ofString "RuntimeError"), key := .str (Str.ofString "RuntimeError") 99, val := .type "RuntimeError" }, { hash := PyData.keyHash P (Str.ofString "StopAsyncIteration"), key := .str (Str.ofString "StopAsyncIteration") 100, val := .type "StopAsyncIteration" }, { hash := PyData.keyHash P (Str.ofString "StopIteration"), key := .str (Str.ofString "StopIteration") 101, val := .type "StopIteration" }, { hash := PyData.keyHash P (Str.ofString "SyntaxError"), key := .str (Str.ofString "SyntaxError") 102, val := .type "SyntaxError" }, { hash := PyData.keyHash P (Str.ofString "SystemError"), key := .str (Str.ofString "SystemError") 103, val := .type "SystemError" }, { hash := PyData.keyHash P (Str.ofString "TypeError"), key := .str (Str.ofString "TypeError") 104, val := .type "TypeError" }, { hash := PyData.keyHash P (Str.ofString "ValueError"), key := .str (Str.ofString "ValueError") 105, val := .type "ValueError" }, { hash := PyData.keyHash P (Str.ofString "Warning"), key := .str (Str.ofString "Warning") 106, val := .type "Warning" }, { hash := PyData.keyHash P (Str.ofString "FloatingPointError"), key := .str (Str.ofString "FloatingPointError") 107, val := .type "FloatingPointError" }, { hash := PyData.keyHash P (Str.ofString "OverflowError"), key := .str (Str.ofString "OverflowError") 108, val := .type "OverflowError" }, { hash := PyData.keyHash P (Str.ofString "ZeroDivisionError"), key := .str (Str.ofString "ZeroDivisionError") 109, val := .type "ZeroDivisionError" }, { hash := PyData.keyHash P (Str.ofString "BytesWarning"), key := .str (Str.ofString "BytesWarning") 110, val := .type "BytesWarning" }, { hash := PyData.keyHash P (Str.ofString "DeprecationWarning"), key := .str (Str.ofString "DeprecationWarning") 111, val := .type "DeprecationWarning" }, { hash := PyData.keyHash P (Str.ofString "EncodingWarning"), key := .str (Str.ofString "EncodingWarning") 112, val := .type "EncodingWarning" }, { hash := PyData.keyHash P (Str.ofString "FutureWarning"), key := .str (Str.ofString "FutureWarning") 113, val := .type "FutureWarning" }, { hash := PyData.keyHash P (Str.ofString "ImportWarning"), key := .str (Str.ofString "ImportWarning") 114, val := .type "ImportWarning" }, { hash := PyData.keyHash P (Str.ofString "PendingDeprecationWarning"), key := .str (Str.ofString "PendingDeprecationWarning") 115, val := .type "PendingDeprecationWarning" }, { hash := PyData.keyHash P (Str.ofString "ResourceWarning"), key := .str (Str.ofString "ResourceWarning") 116, val := .type "ResourceWarning" }, { hash := PyData.keyHash P (Str.ofString "RuntimeWarning"), key := .str (Str.ofString "RuntimeWarning") 117, val := .type "RuntimeWarning" }, { hash := PyData.keyHash P (Str.ofString "SyntaxWarning"), key := .str (Str.ofString "SyntaxWarning") 118, val := .type "SyntaxWarning" }, { hash := PyData.keyHash P (Str.ofString "UnicodeWarning"), key := .str (Str.ofString "UnicodeWarning") 119, val := .type "UnicodeWarning" }, { hash := PyData.keyHash P (Str.ofString "UserWarning"), key := .str (Str.ofString "UserWarning") 120, val := .type "UserWarning" }, { hash := PyData.keyHash P (Str.ofString "BlockingIOError"), key := .str (Str.ofString "BlockingIOError") 121, val := .type "BlockingIOError" }, { hash := PyData.keyHash P (Str.ofString "ChildProcessError"), key := .str (Str.ofString "ChildProcessError") 122, val := .type "ChildProcessError" }, { hash := PyData.keyHash P (Str.ofString "ConnectionError"), key := .str (Str.ofString "ConnectionError") 123, val := .type "ConnectionError" }, { hash := PyData.keyHash P (Str.ofString "FileExistsError"), key := .str (Str.ofString "FileExistsError") 124, val := .type "FileExistsError" }, { hash := PyData.keyHash P (Str.ofString "FileNotFoundError"), key := .str (Str.ofString "FileNotFoundError") 125, val := .type "FileNotFoundError" }, { hash := PyData.keyHash P (Str.ofString "InterruptedError"), key := .str (Str.ofString "InterruptedError") 126, val := .type "InterruptedError" }, { hash := PyData.keyHash P (Str.ofString "IsADirectoryError"), key := .str (Str.ofString "IsADirectoryError") 127, val := .type "IsADirectoryError" }, { hash := PyData.keyHash P (Str.ofString "NotADirectoryError"), key := .str (Str.ofString "NotADirectoryError") 128, val := .type "NotADirectoryError" }, { hash := PyData.keyHash P (Str.ofString "PermissionError"), key := .str (Str.ofString "PermissionError") 129, val := .type "PermissionError" }, { hash := PyData.keyHash P (Str.ofString "ProcessLookupError"), key := .str (Str.ofString "ProcessLookupError") 130, val := .type "ProcessLookupError" }, { hash := PyData.keyHash P (Str.ofString "TimeoutError"), key := .str (Str.ofString "TimeoutError") 131, val := .type "TimeoutError" }, { hash := PyData.keyHash P (Str.ofString "IndentationError"), key := .str (Str.ofString "IndentationError") 132, val := .type "IndentationError" }, { hash := PyData.keyHash P (Str.ofString "_IncompleteInputError"), key := .str (Str.ofString "_IncompleteInputError") 133, val := .type "_IncompleteInputError" }, { hash := PyData.keyHash P (Str.ofString "IndexError"), key := .str (Str.ofString "IndexError") 134, val := .type "IndexError" }, { hash := PyData.keyHash P (Str.ofString "KeyError"), key := .str (Str.ofString "KeyError") 135, val := .type "KeyError" }, { hash := PyData.keyHash P (Str.ofString "ModuleNotFoundError"), key := .str (Str.ofString "ModuleNotFoundError") 136, val := .type "ModuleNotFoundError" }, { hash := PyData.keyHash P (Str.ofString "NotImplementedError"), key := .str (Str.ofString "NotImplementedError") 137, val := .type "NotImplementedError" }, { hash := PyData.keyHash P (Str.ofString "PythonFinalizationError"), key := .str (Str.ofString "PythonFinalizationError") 138, val := .type "PythonFinalizationError" }, { hash := PyData.keyHash P (Str.ofString "RecursionError"), key := .str (Str.ofString "RecursionError") 139, val := .type "RecursionError" }, { hash := PyData.keyHash P (Str.ofString "UnboundLocalError"), key := .str (Str.ofString "UnboundLocalError") 140, val := .type "UnboundLocalError" }, { hash := PyData.keyHash P (Str.ofString "UnicodeError"), key := .str (Str.ofString "UnicodeError") 141, val := .type "UnicodeError" }, { hash := PyData.keyHash P (Str.ofString "BrokenPipeError"), key := .str (Str.ofString "BrokenPipeError") 142, val := .type "BrokenPipeError" }, { hash := PyData.keyHash P (Str.ofString "ConnectionAbortedError"), key := .str (Str.ofString "ConnectionAbortedError") 143, val := .type "ConnectionAbortedError" }, { hash := PyData.keyHash P (Str.ofString "ConnectionRefusedError"), key := .str (Str.ofString "ConnectionRefusedError") 144, val := .type "ConnectionRefusedError" }, { hash := PyData.keyHash P (Str.ofString "ConnectionResetError"), key := .str (Str.ofString "ConnectionResetError") 145, val := .type "ConnectionResetError" }, { hash := PyData.keyHash P (Str.ofString "TabError"), key := .str (Str.ofString "TabError") 146, val := .type "TabError" }, { hash := PyData.keyHash P (Str.ofString "UnicodeDecodeError"), key := .str (Str.ofString "UnicodeDecodeError") 147, val := .type "UnicodeDecodeError" }, { hash := PyData.keyHash P (Str.ofString "UnicodeEncodeError"), key := .str (Str.ofString "UnicodeEncodeError") 148, val := .type "UnicodeEncodeError" }, { hash := PyData.keyHash P (Str.ofString "UnicodeTranslateError"), key := .str (Str.ofString "UnicodeTranslateError") 149, val := .type "UnicodeTranslateError" }, { hash := PyData.keyHash P (Str.ofString "ExceptionGroup"), key := .str (Str.ofString "ExceptionGroup") 150, val := .type "ExceptionGroup" }, { hash := PyData.keyHash P (Str.ofString "EnvironmentError"), key := .str (Str.ofString "EnvironmentError") 151, val := .type "OSError" }, { hash := PyData.keyHash P (Str.ofString "IOError"), key := .str (Str.ofString "IOError") 152, val := .type "OSError" }, { hash := PyData.keyHash P (Str.ofString "open"), key := .str (Str.ofString "open") 153, val := .builtin "open" }, { hash := PyData.keyHash P (Str.ofString "quit"), key := .str (Str.ofString "quit") 154, val := .builtin "builtins.quit#opaque" }, { hash := PyData.keyHash P (Str.ofString "exit"), key := .str (Str.ofString "exit") 155, val := .builtin "builtins.exit#opaque" }, { hash := PyData.keyHash P (Str.ofString "copyright"), key := .str (Str.ofString "copyright") 156, val := .builtin "builtins.copyright#opaque" }, { hash := PyData.keyHash P (Str.ofString "credits"), key := .str (Str.ofString "credits") 157, val := .builtin "builtins.credits#opaque" }, { hash := PyData.keyHash P (Str.ofString "license"), key := .str (Str.ofString "license") 158, val := .builtin "builtins.license#opaque" }, { hash := PyData.keyHash P (Str.ofString "help"), key := .str (Str.ofString "help") 159, val := .builtin "builtins.help#opaque" }] 159 }
noncomputable def o_42 : Params → Obj := fun P => { cls := .type "dict", data := .dict #[{ hash := PyData.keyHash P (Str.ofString "builtins"), key := .str (Str.ofString "builtins") 162, val := .ref 4 }, { hash := PyData.keyHash P (Str.ofString "__main__"), key := .str (Str.ofString "__main__") 163, val := .ref 5 }, { hash := PyData.keyHash P (Str.ofString "_sre"), key := .str (Str.ofString "_sre") 244, val := .ref 12 }] 3 }
noncomputable def o_43 : Params → Obj := fun P => { cls := .none, data := .dict #[{ hash := PyData.keyHash P (Str.ofString "\x69mport.loaded._sre"), key := .str (Str.ofString "\x69mport.loaded._sre") 183, val := .bool true }, { hash := PyData.keyHash P (Str.ofString "class._frozen_importlib.BuiltinImporter"), key := .str (Str.ofString "class._frozen_importlib.BuiltinImporter") 185, val := .ref 14 }, { hash := PyData.keyHash P (Str.ofString "watched.\x69mport"), key := .str (Str.ofString "watched.\x69mport") 206, val := .ref 18 }, { hash := PyData.keyHash P (Str.ofString "class._frozen_importlib.ModuleSpec"), key := .str (Str.ofString "class._frozen_importlib.ModuleSpec") 216, val := .ref 22 }, { hash := PyData.keyHash P (Str.ofString "sys.modules.booked-epoch"), key := .str (Str.ofString "sys.modules.booked-epoch") 245, val := .int 3 0 }, { hash := PyData.keyHash P (Str.ofString "\x69mport.later-laid._sre"), key := .str (Str.ofString "\x69mport.later-laid._sre") 270, val := .bool true }, { hash := PyData.keyHash P (Str.ofString "watched.library"), key := .str (Str.ofString "watched.library") 272, val := .ref 27 }, { hash := PyData.keyHash P (Str.ofString "watched.library-objects"), key := .str (Str.ofString "watched.library-objects") 0, val := .str (Str.ofString "\x0c") 0 }, { hash := PyData.keyHash P (Str.ofString "watched.library-deep._sre"), key := .str (Str.ofString "watched.library-deep._sre") 273, val := .str (Str.ofString "\x04\x00\x00\x0b\x04\x00\x00\x0b\x04\x00\x00\x03\x04\x00\x00\x0b\x08\x04dict\x02") 0 }] 9 }
noncomputable def o_44 : Params → Obj := fun P => { cls := .type "dict", data := .dict #[{ hash := PyData.keyHash P (Str.ofString "__name__"), key := .str (Str.ofString "__name__") 165, val := .str (Str.ofString "__main__") 164 }, { hash := PyData.keyHash P (Str.ofString "__doc__"), key := .str (Str.ofString "__doc__") 166, val := .none }, { hash := PyData.keyHash P (Str.ofString "__package__"), key := .str (Str.ofString "__package__") 167, val := .none }, { hash := PyData.keyHash P (Str.ofString "__loader__"), key := .str (Str.ofString "__loader__") 168, val := .builtin "__main__.__loader__#opaque" }, { hash := PyData.keyHash P (Str.ofString "__spec__"), key := .str (Str.ofString "__spec__") 169, val := .none }, { hash := PyData.keyHash P (Str.ofString "__annotations__"), key := .str (Str.ofString "__annotations__") 170, val := .ref 6 }, { hash := PyData.keyHash P (Str.ofString "__builtins__"), key := .str (Str.ofString "__builtins__") 171, val := .ref 4 }, { hash := PyData.keyHash P (Str.ofString "__file__"), key := .str (Str.ofString "__file__") 173, val := .str (Str.ofString "/claim/cut.py") 172 }, { hash := PyData.keyHash P (Str.ofString "__cached__"), key := .str (Str.ofString "__cached__") 174, val := .none }, { hash := PyData.keyHash P (Str.ofString "_sre"), key := .str (Str.ofString "_sre") 275, val := .ref 12 }] 10 }
noncomputable def o_45 : Params → Obj := fun P => { cls := .type "module", dict := some 0 }
noncomputable def o_46 : Params → Obj := fun P => { cls := .type "module", dict := some 3 }
noncomputable def o_47 : Params → Obj := fun P => { cls := .type "dict", data := .dict #[] }
noncomputable def o_48 : Params → Obj := fun P => { cls := .type "tuple", data := .seq #[] }
noncomputable def o_49 : Params → Obj := fun P => { cls := .none, data := .fields #[] }
noncomputable def o_50 : Params → Obj := fun P => { cls := .type "code", data := .fields #[.str (Str.ofString "<module>") 176, .str (Str.ofString "<module>") 177, .str (Str.ofString "/claim/cut.py") 178, .int 1 0, .int 0 0, .int 0 0, .int 0 0, .int 0 0, .ref 7, .bool false, .int 175 0, .ref 8, .none, .none, .none, .none, .int 179 0, .int 1 0, .str (Str.ofString "/claim/cut.py") 180] }
noncomputable def o_51 : Params → Obj := fun P => { cls := .type "frame", slots := #[some (.ref 9), some (.ref 3), some (.ref 3), none, some (.str (Str.ofString "__main__") 164), none, some (.ref 0)] }
noncomputable def o_52 : Params → Obj := fun P => { cls := .type "dict", data := .dict #[{ hash := PyData.keyHash P (Str.ofString "__name__"), key := .str (Str.ofString "__name__") 247, val := .str (Str.ofString "_sre") 246 }, { hash := PyData.keyHash P (Str.ofString "__doc__"), key := .str (Str.ofString "__doc__") 248, val := .none }, { hash := PyData.keyHash P (Str.ofString "__package__"), key := .str (Str.ofString "__package__") 250, val := .str (Str.ofString "") 249 }, { hash := PyData.keyHash P (Str.ofString "__loader__"), key := .str (Str.ofString "__loader__") 251, val := .builtin "off-the-table:_sre.__loader__:shared#opaque" }, { hash := PyData.keyHash P (Str.ofString "__spec__"), key := .str (Str.ofString "__spec__") 252, val := .builtin "off-the-table:_sre.__spec__:shared#opaque" }, { hash := PyData.keyHash P (Str.ofString "compile"), key := .str (Str.ofString "compile") 253, val := .builtin "_sre.compile" }, { hash := PyData.keyHash P (Str.ofString "template"), key := .str (Str.ofString "template") 254, val := .builtin "off-the-table:_sre.template:shared#opaque" }, { hash := PyData.keyHash P (Str.ofString "getcodesize"), key := .str (Str.ofString "getcodesize") 255, val := .builtin "off-the-table:_sre.getcodesize:shared#opaque" }, { hash := PyData.keyHash P (Str.ofString "ascii_iscased"), key := .str (Str.ofString "ascii_iscased") 256, val := .builtin "off-the-table:_sre.ascii_iscased:shared#opaque" }, { hash := PyData.keyHash P (Str.ofString "unicode_iscased"), key := .str (Str.ofString "unicode_iscased") 257, val := .builtin "off-the-table:_sre.unicode_iscased:shared#opaque" }, { hash := PyData.keyHash P (Str.ofString "ascii_tolower"), key := .str (Str.ofString "ascii_tolower") 258, val := .builtin "off-the-table:_sre.ascii_tolower:shared#opaque" }, { hash := PyData.keyHash P (Str.ofString "unicode_tolower"), key := .str (Str.ofString "unicode_tolower") 259, val := .builtin "off-the-table:_sre.unicode_tolower:shared#opaque" }, { hash := PyData.keyHash P (Str.ofString "MAGIC"), key := .str (Str.ofString "MAGIC") 261, val := .int 20230612 260 }, { hash := PyData.keyHash P (Str.ofString "CODESIZE"), key := .str (Str.ofString "CODESIZE") 263, val := .int 4 262 }, { hash := PyData.keyHash P (Str.ofString "MAXREPEAT"), key := .str (Str.ofString "MAXREPEAT") 265, val := .int 4294967295 264 }, { hash := PyData.keyHash P (Str.ofString "MAXGROUPS"), key := .str (Str.ofString "MAXGROUPS") 267, val := .int 1073741823 266 }, { hash := PyData.keyHash P (Str.ofString "copyright"), key := .str (Str.ofString "copyright") 269, val := .str (Str.ofString " SRE 2.2.2 Copyright (c) 1997-2002 by Secret Labs AB ") 268 }] 17 }
noncomputable def o_53 : Params → Obj := fun P => { cls := .type "module", dict := some 11 }
noncomputable def o_54 : Params → Obj := fun P => { cls := .type "dict", data := .dict #[{ hash := PyData.keyHash P (Str.ofString "__module__"), key := .str (Str.ofString "__module__") 189, val := .str (Str.ofString "_frozen_importlib") 186 }, { hash := PyData.keyHash P (Str.ofString "__firstlineno__"), key := .str (Str.ofString "__firstlineno__") 190, val := .int 971 187 }, { hash := PyData.keyHash P (Str.ofString "__doc__"), key := .str (Str.ofString "__doc__") 191, val := .builtin "_frozen_importlib.BuiltinImporter.__doc__:str#opaque" }, { hash := PyData.keyHash P (Str.ofString "_ORIGIN"), key := .str (Str.ofString "_ORIGIN") 192, val := .str (Str.ofString "built-in") 188 }, { hash := PyData.keyHash P (Str.ofString "find_spec"), key := .str (Str.ofString "find_spec") 193, val := .builtin "_frozen_importlib.BuiltinImporter.find_spec#opaque" }, { hash := PyData.keyHash P (Str.ofString "create_module"), key := .str (Str.ofString "create_module") 194, val := .builtin "_frozen_importlib.BuiltinImporter.create_module#opaque" }, { hash := PyData.keyHash P (Str.ofString "exec_module"), key := .str (Str.ofString "exec_module") 195, val := .builtin "_frozen_importlib.BuiltinImporter.exec_module#opaque" }, { hash := PyData.keyHash P (Str.ofString "get_code"), key := .str (Str.ofString "get_code") 196, val := .builtin "_frozen_importlib.BuiltinImporter.get_code#opaque" }, { hash := PyData.keyHash P (Str.ofString "get_source"), key := .str (Str.ofString "get_source") 197, val := .builtin "_frozen_importlib.BuiltinImporter.get_source#opaque" }, { hash := PyData.keyHash P (Str.ofString "is_package"), key := .str (Str.ofString "is_package") 198, val := .builtin "_frozen_importlib.BuiltinImporter.is_package#opaque" }, { hash := PyData.keyHash P (Str.ofString "load_module"), key := .str (Str.ofString "load_module") 199, val := .builtin "_frozen_importlib.BuiltinImporter.load_module#opaque" }, { hash := PyData.keyHash P (Str.ofString "__static_attributes__"), key := .str (Str.ofString "__static_attributes__") 200, val := .ref 15 }, { hash := PyData.keyHash P (Str.ofString "__dict__"), key := .str (Str.ofString "__dict__") 202, val := .ref 16 }, { hash := PyData.keyHash P (Str.ofString "__weakref__"), key := .str (Str.ofString "__weakref__") 204, val := .ref 17 }] 14 }
noncomputable def o_55 : Params → Obj := fun P => { cls := .type "type", data := .cls { name := Str.ofString "BuiltinImporter", bases := [.type "object"], mro := [.ref 14, .type "object"], ns := 13, qualname := Str.ofString "BuiltinImporter" } }
noncomputable def o_56 : Params → Obj := fun P => { cls := .type "tuple", data := .seq #[] }
noncomputable def o_57 : Params → Obj := fun P => { cls := .type "getset_descriptor", data := .fields #[.str (Str.ofString "__dict__") 201, .ref 14, .builtin "function.__dict__", .builtin "function.__dict__#set"] }
noncomputable def o_58 : Params → Obj := fun P => { cls := .type "getset_descriptor", data := .fields #[.str (Str.ofString "__weakref__") 203, .ref 14, .builtin "ExceptionGroup.__weakref__", .none] }
noncomputable def o_60 : Params → Obj := fun P => { cls := .type "list", data := .seq #[] }
noncomputable def o_61 : Params → Obj := fun P => { cls := .type "dict", data := .dict #[{ hash := PyData.keyHash P (Str.ofString "name"), key := .str (Str.ofString "name") 208, val := .str (Str.ofString "_sre") 207 }, { hash := PyData.keyHash P (Str.ofString "loader"), key := .str (Str.ofString "loader") 209, val := .ref 14 }, { hash := PyData.keyHash P (Str.ofString "origin"), key := .str (Str.ofString "origin") 210, val := .str (Str.ofString "built-in") 184 }, { hash := PyData.keyHash P (Str.ofString "loader_state"), key := .str (Str.ofString "loader_state") 211, val := .none }, { hash := PyData.keyHash P (Str.ofString "submodule_search_locations"), key := .str (Str.ofString "submodule_search_locations") 212, val := .none }, { hash := PyData.keyHash P (Str.ofString "_uninitialized_submodules"), key := .str (Str.ofString "_uninitialized_submodules") 213, val := .ref 19 }, { hash := PyData.keyHash P (Str.ofString "_set_fileattr"), key := .str (Str.ofString "_set_fileattr") 214, val := .bool false }, { hash := PyData.keyHash P (Str.ofString "_cached"), key := .str (Str.ofString "_cached") 215, val := .none }, { hash := PyData.keyHash P (Str.ofString "_initializing"), key := .str (Str.ofString "_initializing") 243, val := .bool false }] 9 }
noncomputable def o_62 : Params → Obj := fun P => { cls := .type "dict", data := .dict #[{ hash := PyData.keyHash P (Str.ofString "__module__"), key := .str (Str.ofString "__module__") 227, val := .str (Str.ofString "_frozen_importlib") 217 }, { hash := PyData.keyHash P (Str.ofString "__firstlineno__"), key := .str (Str.ofString "__firstlineno__") 228, val := .int 562 218 }, { hash := PyData.keyHash P (Str.ofString "__doc__"), key := .str (Str.ofString "__doc__") 229, val := .builtin "_frozen_importlib.ModuleSpec.__doc__:str#opaque" }, { hash := PyData.keyHash P (Str.ofString "__init__"), key := .str (Str.ofString "__init__") 230, val := .builtin "_frozen_importlib.ModuleSpec.__init__#opaque" }, { hash := PyData.keyHash P (Str.ofString "__repr__"), key := .str (Str.ofString "__repr__") 231, val := .builtin "_frozen_importlib.ModuleSpec.__repr__#opaque" }, { hash := PyData.keyHash P (Str.ofString "__eq__"), key := .str (Str.ofString "__eq__") 232, val := .builtin "_frozen_importlib.ModuleSpec.__eq__#opaque" }, { hash := PyData.keyHash P (Str.ofString "cached"), key := .str (Str.ofString "cached") 233, val := .builtin "_frozen_importlib.ModuleSpec.cached#opaque" }, { hash := PyData.keyHash P (Str.ofString "parent"), key := .str (Str.ofString "parent") 234, val := .builtin "_frozen_importlib.ModuleSpec.parent#opaque" }, { hash := PyData.keyHash P (Str.ofString "has_location"), key := .str (Str.ofString "has_location") 235, val := .builtin "_frozen_importlib.ModuleSpec.has_location#opaque" }, { hash := PyData.keyHash P (Str.ofString "__static_attributes__"), key := .str (Str.ofString "__static_attributes__") 236, val := .ref 23 }, { hash := PyData.keyHash P (Str.ofString "__dict__"), key := .str (Str.ofString "__dict__") 238, val := .ref 24 }, { hash := PyData.keyHash P (Str.ofString "__weakref__"), key := .str (Str.ofString "__weakref__") 240, val := .ref 25 }, { hash := PyData.keyHash P (Str.ofString "__hash__"), key := .str (Str.ofString "__hash__") 241, val := .none }] 13 }
noncomputable def o_63 : Params → Obj := fun P => { cls := .type "type", data := .cls { name := Str.ofString "ModuleSpec", bases := [.type "object"], mro := [.ref 22, .type "object"], ns := 21, qualname := Str.ofString "ModuleSpec" } }
noncomputable def o_64 : Params → Obj := fun P => { cls := .type "tuple", data := .seq #[.str (Str.ofString "_cached") 219, .str (Str.ofString "_set_fileattr") 220, .str (Str.ofString "_uninitialized_submodules") 221, .str (Str.ofString "loader") 222, .str (Str.ofString "loader_state") 223, .str (Str.ofString "name") 224, .str (Str.ofString "origin") 225, .str (Str.ofString "submodule_search_locations") 226] }
noncomputable def o_65 : Params → Obj := fun P => { cls := .type "getset_descriptor", data := .fields #[.str (Str.ofString "__dict__") 237, .ref 22, .builtin "function.__dict__", .builtin "function.__dict__#set"] }
noncomputable def o_66 : Params → Obj := fun P => { cls := .type "getset_descriptor", data := .fields #[.str (Str.ofString "__weakref__") 239, .ref 22, .builtin "ExceptionGroup.__weakref__", .none] }
noncomputable def o_67 : Params → Obj := fun P => { cls := .ref 22, dict := some 20 }
noncomputable def o_68 : Params → Obj := fun P => { cls := .none, data := .seq #[.int 11 0, .str { cps := #[6, 247, 8, 95, 95, 110, 97, 109, 101, 95, 95, 6, 246, 4, 95, 115, 114, 101, 6, 248, 7, 95, 95, 100, 111, 99, 95, 95, 0, 6, 250, 11, 95, 95, 112, 97, 99, 107, 97, 103, 101, 95, 95, 6, 249, 0, 6, 251, 10, 95, 95, 108, 111, 97, 100, 101, 114, 95, 95, 4, 0, 0, 14, 6, 252, 8, 95, 95, 115, 112, 101, 99, 95, 95, 4, 0, 0, 26, 6, 253, 7, 99, 111, 109, 112, 105, 108, 101, 9, 12, 95, 115, 114, 101, 46, 99, 111, 109, 112, 105, 108, 101, 6, 254, 8, 116, 101, 109, 112, 108, 97, 116, 101, 9, 13, 95, 115, 114, 101, 46, 116, 101, 109, 112, 108, 97, 116, 101, 6, 255, 11, 103, 101, 116, 99, 111, 100, 101, 115, 105, 122, 101, 9, 16, 95, 115, 114, 101, 46, 103, 101, 116, 99, 111, 100, 101, 115, 105, 122, 101, 6, 256, 13, 97, 115, 99, 105, 105, 95, 105, 115, 99, 97, 115, 101, 100, 9, 18, 95, 115, 114, 101, 46, 97, 115, 99, 105, 105, 95, 105, 115, 99, 97, 115, 101, 100, 6, 257, 15, 117, 110, 105, 99, 111, 100, 101, 95, 105, 115, 99, 97, 115, 101, 100, 9, 20, 95, 115, 114, 101, 46, 117, 110, 105, 99, 111, 100, 101, 95, 105, 115, 99, 97, 115, 101, 100, 6, 258, 13, 97, 115, 99, 105, 105, 95, 116, 111, 108, 111, 119, 101, 114, 9, 18, 95, 115, 114, 101, 46, 97, 115, 99, 105, 105, 95, 116, 111, 108, 111, 119, 101, 114, 6, 259, 15, 117, 110, 105, 99, 111, 100, 101, 95, 116, 111, 108, 111, 119, 101, 114, 9, 20, 95, 115, 114, 101, 46, 117, 110, 105, 99, 111, 100, 101, 95, 116, 111, 108, 111, 119, 101, 114, 6, 261, 5, 77, 65, 71, 73, 67, 4, 260, 0, 20230612, 6, 263, 8, 67, 79, 68, 69, 83, 73, 90, 69, 4, 262, 0, 4, 6, 265, 9, 77, 65, 88, 82, 69, 80, 69, 65, 84, 4, 264, 0, 4294967295, 6, 267, 9, 77, 65, 88, 71, 82, 79, 85, 80, 83, 4, 266, 0, 1073741823, 6, 269, 9, 99, 111, 112, 121, 114, 105, 103, 104, 116, 6, 268, 53, 32, 83, 82, 69, 32, 50, 46, 50, 46, 50, 32, 67, 111, 112, 121, 114, 105, 103, 104, 116, 32, 40, 99, 41, 32, 49, 57, 57, 55, 45, 50, 48, 48, 50, 32, 98, 121, 32, 83, 101, 99, 114, 101, 116, 32, 76, 97, 98, 115, 32, 65, 66, 32] } 0, .bool true, .bool false, .str (Str.ofString "_sre") 271] }
noncomputable def o_69 : Params → Obj := fun P => { cls := .type "tuple", data := .seq #[] }
noncomputable def o_70 : Params → Obj := fun P => { cls := .none, data := .fields #[] }
noncomputable def o_71 : Params → Obj := fun P => { cls := .type "code", data := .fields #[.str (Str.ofString "<module>") 277, .str (Str.ofString "<module>") 278, .str (Str.ofString "/claim/cut.py") 279, .int 1 0, .int 0 0, .int 0 0, .int 0 0, .int 0 0, .ref 28, .bool false, .int 276 0, .ref 29, .none, .none, .none, .none, .int 280 0, .int 1 0, .str (Str.ofString "/claim/cut.py") 281] }
noncomputable def o_72 : Params → Obj := fun P => { cls := .type "frame", slots := #[some (.ref 30), some (.ref 3), some (.ref 3), none, some (.str (Str.ofString "__main__") 164), none, some (.ref 0)] }
noncomputable def o_75 : Params → Obj := fun P => { cls := .type "dict", data := .dict #[{ hash := PyData.keyHash P (Str.ofString "__name__"), key := .str (Str.ofString "__name__") 165, val := .str (Str.ofString "cpy313.token") 375 }, { hash := PyData.keyHash P (Str.ofString "__doc__"), key := .str (Str.ofString "__doc__") 166, val := .none }, { hash := PyData.keyHash P (Str.ofString "__package__"), key := .str (Str.ofString "__package__") 167, val := .none }, { hash := PyData.keyHash P (Str.ofString "__loader__"), key := .str (Str.ofString "__loader__") 168, val := .builtin "__main__.__loader__#opaque" }, { hash := PyData.keyHash P (Str.ofString "__spec__"), key := .str (Str.ofString "__spec__") 169, val := .none }, { hash := PyData.keyHash P (Str.ofString "__annotations__"), key := .str (Str.ofString "__annotations__") 170, val := .ref 6 }, { hash := PyData.keyHash P (Str.ofString "__builtins__"), key := .str (Str.ofString "__builtins__") 171, val := .ref 4 }, { hash := PyData.keyHash P (Str.ofString "__file__"), key := .str (Str.ofString "__file__") 173, val := .str (Str.ofString "/claim/cut.py") 172 }, { hash := PyData.keyHash P (Str.ofString "__cached__"), key := .str (Str.ofString "__cached__") 174, val := .none }, { hash := PyData.keyHash P (Str.ofString "_sre"), key := .str (Str.ofString "_sre") 275, val := .ref 12 }, { hash := PyData.keyHash P (Str.ofString "_twin_re_1"), key := .str (Str.ofString "_twin_re_1") 299, val := .ref 36 }, { hash := PyData.keyHash P (Str.ofString "_twin_re_2"), key := .str (Str.ofString "_twin_re_2") 341, val := .ref 41 }, { hash := PyData.keyHash P (Str.ofString "CRLF"), key := .str (Str.ofString "CRLF") 343, val := .str (Str.ofString "\x0d\n") 342 }, { hash := PyData.keyHash P (Str.ofString "quotedata"), key := .str (Str.ofString "quotedata") 350, val := .ref 48 }, { hash := PyData.keyHash P (Str.ofString "_iter_escaped_chars"), key := .str (Str.ofString "_iter_escaped_chars") 362, val := .ref 55 }, { hash := PyData.keyHash P (Str.ofString "_strip_quoted_realnames"), key := .str (Str.ofString "_strip_quoted_realnames") 374, val := .ref 62 }, { hash := PyData.keyHash P (Str.ofString "ENDMARKER"), key := .str (Str.ofString "ENDMARKER") 378, val := .int 0 377 }, { hash := PyData.keyHash P (Str.ofString "LPAR"), key := .str (Str.ofString "LPAR") 380, val := .int 7 379 }, { hash := PyData.keyHash P (Str.ofString "RPAR"), key := .str (Str.ofString "RPAR") 382, val := .int 8 381 }, { hash := PyData.keyHash P (Str.ofString "LSQB"), key := .str (Str.ofString "LSQB") 384, val := .int 9 383 }, { hash := PyData.keyHash P (Str.ofString "RSQB"), key := .str (Str.ofString "RSQB") 386, val := .int 10 385 }, { hash := PyData.keyHash P (Str.ofString "COLON"), key := .str (Str.ofString "COLON") 388, val := .int 11 387 }, { hash := PyData.keyHash P (Str.ofString "COMMA"), key := .str (Str.ofString "COMMA") 390, val := .int 12 389 }, { hash := PyData.keyHash P (Str.ofString "SEMI"), key := .str (Str.ofString "SEMI") 392, val := .int 13 391 }, { hash := PyData.keyHash P (Str.ofString "PLUS"), key := .str (Str.ofString "PLUS") 394, val := .int 14 393 }, { hash := PyData.keyHash P (Str.ofString "MINUS"), key := .str (Str.ofString "MINUS") 396, val := .int 15 395 }, { hash := PyData.keyHash P (Str.ofString "STAR"), key := .str (Str.ofString "STAR") 398, val := .int 16 397 }, { hash := PyData.keyHash P (Str.ofString "SLASH"), key := .str (Str.ofString "SLASH") 400, val := .int 17 399 }, { hash := PyData.keyHash P (Str.ofString "VBAR"), key := .str (Str.ofString "VBAR") 402, val := .int 18 401 }] 29 }
noncomputable def o_92 : Params → Obj := fun P => { cls := .type "code", data := .fields #[.str (Str.ofString "quotedata") 344, .str (Str.ofString "quotedata") 345, .str (Str.ofString "/claim/cut.py") 346, .int 6 0, .int 1 0, .int 0 0, .int 0 0, .int 3 0, .ref 42, .bool true, .int 276 0, .ref 43, .none, .ref 44, .ref 45, .ref 46, .int 348 0, .int 6 0, .str (Str.ofString "/claim/cut.py") 349] }
noncomputable def o_84 : Params → Obj := fun P => { cls := .type "tuple", data := .seq #[.none] }
noncomputable def o_100 : Params → Obj := fun P => { cls := .type "function", data := .func { name := Str.ofString "_iter_escaped_chars", qualname := Str.ofString "_iter_escaped_chars", params := paramsOf (topSt 7), body := .stmts (bodyOf (topSt 7)), scope := scopeOf (topSt 7), globals := 3, closure := [], defaults := .none, kwdefaults := .none, pyModule := .str (Str.ofString "cpy313.email.utils") 351, code := .ref 54 } }
noncomputable def o_80 : Params → Obj := fun P => { cls := .type "tuple", data := .seq #[.int 14 0, .int 4 0, .int 0 0, .int 1 0, .int 1 0, .int 6 0, .int 1 0, .int 16 0, .int 46 0, .int 1 0] }
noncomputable def o_96 : Params → Obj := fun P => { cls := .type "tuple", data := .seq #[.str (Str.ofString "addr") 356, .str (Str.ofString "pos") 357, .str (Str.ofString "escape") 358, .str (Str.ofString "ch") 359] }
noncomputable def o_88 : Params → Obj := fun P => { cls := .none, data := .fields #[] }
noncomputable def o_104 : Params → Obj := fun P => { cls := .type "tuple", data := .seq #[] }
noncomputable def o_78 : Params → Obj := fun P => { cls := .type "dict", data := .dict #[] }
noncomputable def o_94 : Params → Obj := fun P => { cls := .type "tuple", data := .seq #[] }
noncomputable def o_86 : Params → Obj := fun P => { cls := .type "re.Pattern", data := .fields #[.str (Str.ofString "(?:\\r\\n|\\n|\\r(?!\\n))") 301, .int 32 340, .int 0 0, .none, .none, .ref 40, .int 0 0] }
noncomputable def o_102 : Params → Obj := fun P => { cls := .none, data := .fields #[] }
noncomputable def o_82 : Params → Obj := fun P => { cls := .type "list", data := .seq #[.int 14 303, .int 9 304, .int 4 305, .int 1 306, .int 2 307, .int 16 308, .int 10 309, .int 16 310, .int 13 311, .int 0 312, .int 7 313, .int 7 314, .int 16 315, .int 13 316, .int 16 317, .int 10 318, .int 15 319, .int 18 320, .int 5 321, .int 16 322, .int 10 323, .int 15 324, .int 13 325, .int 11 326, .int 16 327, .int 13 328, .int 5 329, .int 5 330, .int 0 331, .int 16 332, .int 10 333, .int 1 334, .int 15 335, .int 2 336, .int 0 337, .int 1 338] }
noncomputable def o_98 : Params → Obj := fun P => { cls := .none, data := .func { name := Str.ofString "_iter_escaped_chars", qualname := Str.ofString "_iter_escaped_chars", params := paramsOf (topSt 7), body := .stmts (bodyOf (topSt 7)), scope := scopeOf (topSt 7), globals := 0, closure := [], defaults := .none, kwdefaults := .none } }
noncomputable def o_76 : Params → Obj := fun P => { cls := .none, data := .fields #[.int 6 0, .int 0 0, .ref 47, .int 9 0, .int 0 0, .ref 54, .int 22 0, .int 0 0, .ref 61] }
noncomputable def o_90 : Params → Obj := fun P => { cls := .type "tuple", data := .seq #[] }
noncomputable def o_106 : Params → Obj := fun P => { cls := .type "code", data := .fields #[.str (Str.ofString "_strip_quoted_realnames") 363, .str (Str.ofString "_strip_quoted_realnames") 364, .str (Str.ofString "/claim/cut.py") 365, .int 22 0, .int 1 0, .int 0 0, .int 0 0, .int 3 0, .ref 56, .bool true, .int 276 0, .ref 57, .none, .ref 58, .ref 59, .ref 60, .int 372 0, .int 22 0, .str (Str.ofString "/claim/cut.py") 373] }
noncomputable def o_77 : Params → Obj := fun P => { cls := .type "list", data := .seq #[.int 14 287, .int 4 288, .int 0 289, .int 1 290, .int 1 291, .int 6 292, .int 1 293, .int 16 294, .int 46 295, .int 1 296] }
noncomputable def o_93 : Params → Obj := fun P => { cls := .type "function", data := .func { name := Str.ofString "quotedata", qualname := Str.ofString "quotedata", params := paramsOf (topSt 5), body := .stmts (bodyOf (topSt 5)), scope := scopeOf (topSt 5), globals := 3, closure := [], defaults := .none, kwdefaults := .none, pyModule := .str (Str.ofString "cpy313.smtplib") 282, code := .ref 47 } }
noncomputable def o_85 : Params → Obj := fun P => { cls := .type "tuple", data := .seq #[.int 14 0, .int 9 0, .int 4 0, .int 1 0, .int 2 0, .int 16 0, .int 10 0, .int 16 0, .int 13 0, .int 0 0, .int 7 0, .int 7 0, .int 16 0, .int 13 0, .int 16 0, .int 10 0, .int 15 0, .int 18 0, .int 5 0, .int 16 0, .int 10 0, .int 15 0, .int 13 0, .int 11 0, .int 16 0, .int 13 0, .int 5 0, .int 5 0, .int 0 0, .int 16 0, .int 10 0, .int 1 0, .int 15 0, .int 2 0, .int 0 0, .int 1 0] }
noncomputable def o_101 : Params → Obj := fun P => { cls := .type "tuple", data := .seq #[] }
noncomputable def o_81 : Params → Obj := fun P => { cls := .type "re.Pattern", data := .fields #[.str (Str.ofString "(?m)^\\.") 285, .int 40 298, .int 0 0, .none, .none, .ref 35, .int 0 0] }
noncomputable def o_97 : Params → Obj := fun P => { cls := .type "tuple", data := .seq #[] }
noncomputable def o_89 : Params → Obj := fun P => { cls := .type "tuple", data := .seq #[.str (Str.ofString "data") 347] }
noncomputable def o_105 : Params → Obj := fun P => { cls := .none, data := .func { name := Str.ofString "_strip_quoted_realnames", qualname := Str.ofString "_strip_quoted_realnames", params := paramsOf (topSt 8), body := .stmts (bodyOf (topSt 8)), scope := scopeOf (topSt 8), globals := 0, closure := [], defaults := .none, kwdefaults := .none } }
noncomputable def o_79 : Params → Obj := fun P => { cls := .type "tuple", data := .seq #[.none] }
noncomputable def o_95 : Params → Obj := fun P => { cls := .none, data := .fields #[] }
noncomputable def o_87 : Params → Obj := fun P => { cls := .type "tuple", data := .seq #[] }
noncomputable def o_103 : Params → Obj := fun P => { cls := .type "tuple", data := .seq #[.str (Str.ofString "addr") 366, .str (Str.ofString "start") 367, .str (Str.ofString "open_pos") 368, .str (Str.ofString "result") 369, .str (Str.ofString "pos") 370, .str (Str.ofString "ch") 371] }
noncomputable def o_83 : Params → Obj := fun P => { cls := .type "dict", data := .dict #[] }
noncomputable def o_99 : Params → Obj := fun P => { cls := .type "code", data := .fields #[.str (Str.ofString "_iter_escaped_chars") 353, .str (Str.ofString "_iter_escaped_chars") 354, .str (Str.ofString "/claim/cut.py") 355, .int 9 0, .int 1 0, .int 0 0, .int 0 0, .int 35 0, .ref 49, .bool true, .int 276 0, .ref 50, .none, .ref 51, .ref 52, .ref 53, .int 360 0, .int 9 0, .str (Str.ofString "/claim/cut.py") 361] }
noncomputable def o_91 : Params → Obj := fun P => { cls := .none, data := .func { name := Str.ofString "quotedata", qualname := Str.ofString "quotedata", params := paramsOf (topSt 5), body := .stmts (bodyOf (topSt 5)), scope := scopeOf (topSt 5), globals := 0, closure := [], defaults := .none, kwdefaults := .none } }
noncomputable def o_107 : Params → Obj := fun P => { cls := .type "function", data := .func { name := Str.ofString "_strip_quoted_realnames", qualname := Str.ofString "_strip_quoted_realnames", params := paramsOf (topSt 8), body := .stmts (bodyOf (topSt 8)), scope := scopeOf (topSt 8), globals := 3, closure := [], defaults := .none, kwdefaults := .none, pyModule := .str (Str.ofString "cpy313.email.utils") 351, code := .ref 61 } }
noncomputable def o_108 : Params → Obj := fun P => { cls := .type "dict", data := .dict #[{ hash := PyData.keyHash P (Str.ofString "__name__"), key := .str (Str.ofString "__name__") 165, val := .str (Str.ofString "cpy313.token") 375 }, { hash := PyData.keyHash P (Str.ofString "__doc__"), key := .str (Str.ofString "__doc__") 166, val := .none }, { hash := PyData.keyHash P (Str.ofString "__package__"), key := .str (Str.ofString "__package__") 167, val := .none }, { hash := PyData.keyHash P (Str.ofString "__loader__"), key := .str (Str.ofString "__loader__") 168, val := .builtin "__main__.__loader__#opaque" }, { hash := PyData.keyHash P (Str.ofString "__spec__"), key := .str (Str.ofString "__spec__") 169, val := .none }, { hash := PyData.keyHash P (Str.ofString "__annotations__"), key := .str (Str.ofString "__annotations__") 170, val := .ref 6 }, { hash := PyData.keyHash P (Str.ofString "__builtins__"), key := .str (Str.ofString "__builtins__") 171, val := .ref 4 }, { hash := PyData.keyHash P (Str.ofString "__file__"), key := .str (Str.ofString "__file__") 173, val := .str (Str.ofString "/claim/cut.py") 172 }, { hash := PyData.keyHash P (Str.ofString "__cached__"), key := .str (Str.ofString "__cached__") 174, val := .none }, { hash := PyData.keyHash P (Str.ofString "_sre"), key := .str (Str.ofString "_sre") 275, val := .ref 12 }, { hash := PyData.keyHash P (Str.ofString "_twin_re_1"), key := .str (Str.ofString "_twin_re_1") 299, val := .ref 36 }, { hash := PyData.keyHash P (Str.ofString "_twin_re_2"), key := .str (Str.ofString "_twin_re_2") 341, val := .ref 41 }, { hash := PyData.keyHash P (Str.ofString "CRLF"), key := .str (Str.ofString "CRLF") 343, val := .str (Str.ofString "\x0d\n") 342 }, { hash := PyData.keyHash P (Str.ofString "quotedata"), key := .str (Str.ofString "quotedata") 350, val := .ref 48 }, { hash := PyData.keyHash P (Str.ofString "_iter_escaped_chars"), key := .str (Str.ofString "_iter_escaped_chars") 362, val := .ref 55 }, { hash := PyData.keyHash P (Str.ofString "_strip_quoted_realnames"), key := .str (Str.ofString "_strip_quoted_realnames") 374, val := .ref 62 }, { hash := PyData.keyHash P (Str.ofString "ENDMARKER"), key := .str (Str.ofString "ENDMARKER") 378, val := .int 0 377 }, { hash := PyData.keyHash P (Str.ofString "LPAR"), key := .str (Str.ofString "LPAR") 380, val := .int 7 379 }, { hash := PyData.keyHash P (Str.ofString "RPAR"), key := .str (Str.ofString "RPAR") 382, val := .int 8 381 }, { hash := PyData.keyHash P (Str.ofString "LSQB"), key := .str (Str.ofString "LSQB") 384, val := .int 9 383 }, { hash := PyData.keyHash P (Str.ofString "RSQB"), key := .str (Str.ofString "RSQB") 386, val := .int 10 385 }, { hash := PyData.keyHash P (Str.ofString "COLON"), key := .str (Str.ofString "COLON") 388, val := .int 11 387 }, { hash := PyData.keyHash P (Str.ofString "COMMA"), key := .str (Str.ofString "COMMA") 390, val := .int 12 389 }, { hash := PyData.keyHash P (Str.ofString "SEMI"), key := .str (Str.ofString "SEMI") 392, val := .int 13 391 }, { hash := PyData.keyHash P (Str.ofString "PLUS"), key := .str (Str.ofString "PLUS") 394, val := .int 14 393 }, { hash := PyData.keyHash P (Str.ofString "MINUS"), key := .str (Str.ofString "MINUS") 396, val := .int 15 395 }, { hash := PyData.keyHash P (Str.ofString "STAR"), key := .str (Str.ofString "STAR") 398, val := .int 16 397 }, { hash := PyData.keyHash P (Str.ofString "SLASH"), key := .str (Str.ofString "SLASH") 400, val := .int 17 399 }, { hash := PyData.keyHash P (Str.ofString "VBAR"), key := .str (Str.ofString "VBAR") 402, val := .int 18 401 }, { hash := PyData.keyHash P (Str.ofString "AMPER"), key := .str (Str.ofString "AMPER") 404, val := .int 19 403 }, { hash := PyData.keyHash P (Str.ofString "LESS"), key := .str (Str.ofString "LESS") 406, val := .int 20 405 }, { hash := PyData.keyHash P (Str.ofString "GREATER"), key := .str (Str.ofString "GREATER") 408, val := .int 21 407 }, { hash := PyData.keyHash P (Str.ofString "EQUAL"), key := .str (Str.ofString "EQUAL") 410, val := .int 22 409 }, { hash := PyData.keyHash P (Str.ofString "DOT"), key := .str (Str.ofString "DOT") 412, val := .int 23 411 }, { hash := PyData.keyHash P (Str.ofString "PERCENT"), key := .str (Str.ofString "PERCENT") 414, val := .int 24 413 }, { hash := PyData.keyHash P (Str.ofString "LBRACE"), key := .str (Str.ofString "LBRACE") 416, val := .int 25 415 }, { hash := PyData.keyHash P (Str.ofString "RBRACE"), key := .str (Str.ofString "RBRACE") 418, val := .int 26 417 }, { hash := PyData.keyHash P (Str.ofString "EQEQUAL"), key := .str (Str.ofString "EQEQUAL") 420, val := .int 27 419 }, { hash := PyData.keyHash P (Str.ofString "NOTEQUAL"), key := .str (Str.ofString "NOTEQUAL") 422, val := .int 28 421 }, { hash := PyData.keyHash P (Str.ofString "LESSEQUAL"), key := .str (Str.ofString "LESSEQUAL") 424, val := .int 29 423 }, { hash := PyData.keyHash P (Str.ofString "GREATEREQUAL"), key := .str (Str.ofString "GREATEREQUAL") 426, val := .int 30 425 }, { hash := PyData.keyHash P (Str.ofString "TILDE"), key := .str (Str.ofString "TILDE") 428, val := .int 31 427 }, { hash := PyData.keyHash P (Str.ofString "CIRCUMFLEX"), key := .str (Str.ofString "CIRCUMFLEX") 430, val := .int 32 429 }, { hash := PyData.keyHash P (Str.ofString "LEFTSHIFT"), key := .str (Str.ofString "LEFTSHIFT") 432, val := .int 33 431 }, { hash := PyData.keyHash P (Str.ofString "RIGHTSHIFT"), key := .str (Str.ofString "RIGHTSHIFT") 434, val := .int 34 433 }, { hash := PyData.keyHash P (Str.ofString "DOUBLESTAR"), key := .str (Str.ofString "DOUBLESTAR") 436, val := .int 35 435 }, { hash := PyData.keyHash P (Str.ofString "PLUSEQUAL"), key := .str (Str.ofString "PLUSEQUAL") 438, val := .int 36 437 }, { hash := PyData.keyHash P (Str.ofString "MINEQUAL"), key := .str (Str.ofString "MINEQUAL") 440, val := .int 37 439 }, { hash := PyData.keyHash P (Str.ofString "STAREQUAL"), key := .str (Str.ofString "STAREQUAL") 442, val := .int 38 441 }, { hash := PyData.keyHash P (Str.ofString "SLASHEQUAL"), key := .str (Str.ofString "SLASHEQUAL") 444, val := .int 39 443 }, { hash := PyData.keyHash P (Str.ofString "PERCENTEQUAL"), key := .str (Str.ofString "PERCENTEQUAL") 446, val := .int 40 445 }, { hash := PyData.keyHash P (Str.ofString "AMPEREQUAL"), key := .str (Str.ofString "AMPEREQUAL") 448, val := .int 41 447 }, { hash := PyData.keyHash P (Str.ofString "VBAREQUAL"), key := .str (Str.ofString "VBAREQUAL") 450, val := .int 42 449 }, { hash := PyData.keyHash P (Str.ofString "CIRCUMFLEXEQUAL"), key := .str (Str.ofString "CIRCUMFLEXEQUAL") 452, val := .int 43 451 }, { hash := PyData.keyHash P (Str.ofString "LEFTSHIFTEQUAL"), key := .str (Str.ofString "LEFTSHIFTEQUAL") 454, val := .int 44 453 }, { hash := PyData.keyHash P (Str.ofString "RIGHTSHIFTEQUAL"), key := .str (Str.ofString "RIGHTSHIFTEQUAL") 456, val := .int 45 455 }, { hash := PyData.keyHash P (Str.ofString "DOUBLESTAREQUAL"), key := .str (Str.ofString "DOUBLESTAREQUAL") 458, val := .int 46 457 }, { hash := PyData.keyHash P (Str.ofString "DOUBLESLASH"), key := .str (Str.ofString "DOUBLESLASH") 460, val := .int 47 459 }, { hash := PyData.keyHash P (Str.ofString "DOUBLESLASHEQUAL"), key := .str (Str.ofString "DOUBLESLASHEQUAL") 462, val := .int 48 461 }, { hash := PyData.keyHash P (Str.ofString "AT"), key := .str (Str.ofString "AT") 464, val := .int 49 463 }, { hash := PyData.keyHash P (Str.ofString "ATEQUAL"), key := .str (Str.ofString "ATEQUAL") 466, val := .int 50 465 }, { hash := PyData.keyHash P (Str.ofString "RARROW"), key := .str (Str.ofString "RARROW") 468, val := .int 51 467 }, { hash := PyData.keyHash P (Str.ofString "ELLIPSIS"), key := .str (Str.ofString "ELLIPSIS") 470, val := .int 52 469 }, { hash := PyData.keyHash P (Str.ofString "COLONEQUAL"), key := .str (Str.ofString "COLONEQUAL") 472, val := .int 53 471 }, { hash := PyData.keyHash P (Str.ofString "EXCLAMATION"), key := .str (Str.ofString "EXCLAMATION") 474, val := .int 54 473 }, { hash := PyData.keyHash P (Str.ofString "NT_OFFSET"), key := .str (Str.ofString "NT_OFFSET") 476, val := .int 256 475 }] 66 }
noncomputable def o_110 : Params → Obj := fun P => { cls := .type "dict", data := .dict #[{ hash := PyData.keyHash P (Str.ofString "__name__"), key := .str (Str.ofString "__name__") 165, val := .str (Str.ofString "cpy313.token") 375 }, { hash := PyData.keyHash P (Str.ofString "__doc__"), key := .str (Str.ofString "__doc__") 166, val := .none }, { hash := PyData.keyHash P (Str.ofString "__package__"), key := .str (Str.ofString "__package__") 167, val := .none }, { hash := PyData.keyHash P (Str.ofString "__loader__"), key := .str (Str.ofString "__loader__") 168, val := .builtin "__main__.__loader__#opaque" }, { hash := PyData.keyHash P (Str.ofString "__spec__"), key := .str (Str.ofString "__spec__") 169, val := .none }, { hash := PyData.keyHash P (Str.ofString "__annotations__"), key := .str (Str.ofString "__annotations__") 170, val := .ref 6 }, { hash := PyData.keyHash P (Str.ofString "__builtins__"), key := .str (Str.ofString "__builtins__") 171, val := .ref 4 }, { hash := PyData.keyHash P (Str.ofString "__file__"), key := .str (Str.ofString "__file__") 173, val := .str (Str.ofString "/claim/cut.py") 172 }, { hash := PyData.keyHash P (Str.ofString "__cached__"), key := .str (Str.ofString "__cached__") 174, val := .none }, { hash := PyData.keyHash P (Str.ofString "_sre"), key := .str (Str.ofString "_sre") 275, val := .ref 12 }, { hash := PyData.keyHash P (Str.ofString "_twin_re_1"), key := .str (Str.ofString "_twin_re_1") 299, val := .ref 36 }, { hash := PyData.keyHash P (Str.ofString "_twin_re_2"), key := .str (Str.ofString "_twin_re_2") 341, val := .ref 41 }, { hash := PyData.keyHash P (Str.ofString "CRLF"), key := .str (Str.ofString "CRLF") 343, val := .str (Str.ofString "\x0d\n") 342 }, { hash := PyData.keyHash P (Str.ofString "quotedata"), key := .str (Str.ofString "quotedata") 350, val := .ref 48 }, { hash := PyData.keyHash P (Str.ofString "_iter_escaped_chars"), key := .str (Str.ofString "_iter_escaped_chars") 362, val := .ref 55 }, { hash := PyData.keyHash P (Str.ofString "_strip_quoted_realnames"), key := .str (Str.ofString "_strip_quoted_realnames") 374, val := .ref 62 }, { hash := PyData.keyHash P (Str.ofString "ENDMARKER"), key := .str (Str.ofString "ENDMARKER") 378, val := .int 0 377 }, { hash := PyData.keyHash P (Str.ofString "LPAR"), key := .str (Str.ofString "LPAR") 380, val := .int 7 379 }, { hash := PyData.keyHash P (Str.ofString "RPAR"), key := .str (Str.ofString "RPAR") 382, val := .int 8 381 }, { hash := PyData.keyHash P (Str.ofString "LSQB"), key := .str (Str.ofString "LSQB") 384, val := .int 9 383 }, { hash := PyData.keyHash P (Str.ofString "RSQB"), key := .str (Str.ofString "RSQB") 386, val := .int 10 385 }, { hash := PyData.keyHash P (Str.ofString "COLON"), key := .str (Str.ofString "COLON") 388, val := .int 11 387 }, { hash := PyData.keyHash P (Str.ofString "COMMA"), key := .str (Str.ofString "COMMA") 390, val := .int 12 389 }, { hash := PyData.keyHash P (Str.ofString "SEMI"), key := .str (Str.ofString "SEMI") 392, val := .int 13 391 }, { hash := PyData.keyHash P (Str.ofString "PLUS"), key := .str (Str.ofString "PLUS") 394, val := .int 14 393 }, { hash := PyData.keyHash P (Str.ofString "MINUS"), key := .str (Str.ofString "MINUS") 396, val := .int 15 395 }, { hash := PyData.keyHash P (Str.ofString "STAR"), key := .str (Str.ofString "STAR") 398, val := .int 16 397 }, { hash := PyData.keyHash P (Str.ofString "SLASH"), key := .str (Str.ofString "SLASH") 400, val := .int 17 399 }, { hash := PyData.keyHash P (Str.ofString "VBAR"), key := .str (Str.ofString "VBAR") 402, val := .int 18 401 }, { hash := PyData.keyHash P (Str.ofString "AMPER"), key := .str (Str.ofString "AMPER") 404, val := .int 19 403 }, { hash := PyData.keyHash P (Str.ofString "LESS"), key := .str (Str.ofString "LESS") 406, val := .int 20 405 }, { hash := PyData.keyHash P (Str.ofString "GREATER"), key := .str (Str.ofString "GREATER") 408, val := .int 21 407 }, { hash := PyData.keyHash P (Str.ofString "EQUAL"), key := .str (Str.ofString "EQUAL") 410, val := .int 22 409 }, { hash := PyData.keyHash P (Str.ofString "DOT"), key := .str (Str.ofString "DOT") 412, val := .int 23 411 }, { hash := PyData.keyHash P (Str.ofString "PERCENT"), key := .str (Str.ofString "PERCENT") 414, val := .int 24 413 }, { hash := PyData.keyHash P (Str.ofString "LBRACE"), key := .str (Str.ofString "LBRACE") 416, val := .int 25 415 }, { hash := PyData.keyHash P (Str.ofString "RBRACE"), key := .str (Str.ofString "RBRACE") 418, val := .int 26 417 }, { hash := PyData.keyHash P (Str.ofString "EQEQUAL"), key := .str (Str.ofString "EQEQUAL") 420, val := .int 27 419 }, { hash := PyData.keyHash P (Str.ofString "NOTEQUAL"), key := .str (Str.ofString "NOTEQUAL") 422, val := .int 28 421 }, { hash := PyData.keyHash P (Str.ofString "LESSEQUAL"), key := .str (Str.ofString "LESSEQUAL") 424, val := .int 29 423 }, { hash := PyData.keyHash P (Str.ofString "GREATEREQUAL"), key := .str (Str.ofString "GREATEREQUAL") 426, val := .int 30 425 }, { hash := PyData.keyHash P (Str.ofString "TILDE"), key := .str (Str.ofString "TILDE") 428, val := .int 31 427 }, { hash := PyData.keyHash P (Str.ofString "CIRCUMFLEX"), key := .str (Str.ofString "CIRCUMFLEX") 430, val := .int 32 429 }, { hash := PyData.keyHash P (Str.ofString "LEFTSHIFT"), key := .str (Str.ofString "LEFTSHIFT") 432, val := .int 33 431 }, { hash := PyData.keyHash P (Str.ofString "RIGHTSHIFT"), key := .str (Str.ofString "RIGHTSHIFT") 434, val := .int 34 433 }, { hash := PyData.keyHash P (Str.ofString "DOUBLESTAR"), key := .str (Str.ofString "DOUBLESTAR") 436, val := .int 35 435 }, { hash := PyData.keyHash P (Str.ofString "PLUSEQUAL"), key := .str (Str.ofString "PLUSEQUAL") 438, val := .int 36 437 }, { hash := PyData.keyHash P (Str.ofString "MINEQUAL"), key := .str (Str.ofString "MINEQUAL") 440, val := .int 37 439 }, { hash := PyData.keyHash P (Str.ofString "STAREQUAL"), key := .str (Str.ofString "STAREQUAL") 442, val := .int 38 441 }, { hash := PyData.keyHash P (Str.ofString "SLASHEQUAL"), key := .str (Str.ofString "SLASHEQUAL") 444, val := .int 39 443 }, { hash := PyData.keyHash P (Str.ofString "PERCENTEQUAL"), key := .str (Str.ofString "PERCENTEQUAL") 446, val := .int 40 445 }, { hash := PyData.keyHash P (Str.ofString "AMPEREQUAL"), key := .str (Str.ofString "AMPEREQUAL") 448, val := .int 41 447 }, { hash := PyData.keyHash P (Str.ofString "VBAREQUAL"), key := .str (Str.ofString "VBAREQUAL") 450, val := .int 42 449 }, { hash := PyData.keyHash P (Str.ofString "CIRCUMFLEXEQUAL"), key := .str (Str.ofString "CIRCUMFLEXEQUAL") 452, val := .int 43 451 }, { hash := PyData.keyHash P (Str.ofString "LEFTSHIFTEQUAL"), key := .str (Str.ofString "LEFTSHIFTEQUAL") 454, val := .int 44 453 }, { hash := PyData.keyHash P (Str.ofString "RIGHTSHIFTEQUAL"), key := .str (Str.ofString "RIGHTSHIFTEQUAL") 456, val := .int 45 455 }, { hash := PyData.keyHash P (Str.ofString "DOUBLESTAREQUAL"), key := .str (Str.ofString "DOUBLESTAREQUAL") 458, val := .int 46 457 }, { hash := PyData.keyHash P (Str.ofString "DOUBLESLASH"), key := .str (Str.ofString "DOUBLESLASH") 460, val := .int 47 459 }, { hash := PyData.keyHash P (Str.ofString "DOUBLESLASHEQUAL"), key := .str (Str.ofString "DOUBLESLASHEQUAL") 462, val := .int 48 461 }, { hash := PyData.keyHash P (Str.ofString "AT"), key := .str (Str.ofString "AT") 464, val := .int 49 463 }, { hash := PyData.keyHash P (Str.ofString "ATEQUAL"), key := .str (Str.ofString "ATEQUAL") 466, val := .int 50 465 }, { hash := PyData.keyHash P (Str.ofString "RARROW"), key := .str (Str.ofString "RARROW") 468, val := .int 51 467 }, { hash := PyData.keyHash P (Str.ofString "ELLIPSIS"), key := .str (Str.ofString "ELLIPSIS") 470, val := .int 52 469 }, { hash := PyData.keyHash P (Str.ofString "COLONEQUAL"), key := .str (Str.ofString "COLONEQUAL") 472, val := .int 53 471 }, { hash := PyData.keyHash P (Str.ofString "EXCLAMATION"), key := .str (Str.ofString "EXCLAMATION") 474, val := .int 54 473 }, { hash := PyData.keyHash P (Str.ofString "NT_OFFSET"), key := .str (Str.ofString "NT_OFFSET") 476, val := .int 256 475 }, { hash := PyData.keyHash P (Str.ofString "EXACT_TOKEN_TYPES"), key := .str (Str.ofString "EXACT_TOKEN_TYPES") 573, val := .ref 63 }] 67 }
noncomputable def o_111 : Params → Obj := fun P => { cls := .type "dict", data := .dict #[{ hash := PyData.keyHash P (Str.ofString "!"), key := .str (Str.ofString "!") 477, val := .int 54 473 }, { hash := PyData.keyHash P (Str.ofString "!="), key := .str (Str.ofString "!=") 479, val := .int 28 421 }, { hash := PyData.keyHash P (Str.ofString "%"), key := .str (Str.ofString "%") 481, val := .int 24 413 }, { hash := PyData.keyHash P (Str.ofString "%="), key := .str (Str.ofString "%=") 483, val := .int 40 445 }, { hash := PyData.keyHash P (Str.ofString "&"), key := .str (Str.ofString "&") 485, val := .int 19 403 }, { hash := PyData.keyHash P (Str.ofString "&="), key := .str (Str.ofString "&=") 487, val := .int 41 447 }, { hash := PyData.keyHash P (Str.ofString "("), key := .str (Str.ofString "(") 489, val := .int 7 379 }, { hash := PyData.keyHash P (Str.ofString ")"), key := .str (Str.ofString ")") 491, val := .int 8 381 }, { hash := PyData.keyHash P (Str.ofString "*"), key := .str (Str.ofString "*") 493, val := .int 16 397 }, { hash := PyData.keyHash P (Str.ofString "**"), key := .str (Str.ofString "**") 495, val := .int 35 435 }, { hash := PyData.keyHash P (Str.ofString "**="), key := .str (Str.ofString "**=") 497, val := .int 46 457 }, { hash := PyData.keyHash P (Str.ofString "*="), key := .str (Str.ofString "*=") 499, val := .int 38 441 }, { hash := PyData.keyHash P (Str.ofString "+"), key := .str (Str.ofString "+") 501, val := .int 14 393 }, { hash := PyData.keyHash P (Str.ofString "+="), key := .str (Str.ofString "+=") 503, val := .int 36 437 }, { hash := PyData.keyHash P (Str.ofString ","), key := .str (Str.ofString ",") 505, val := .int 12 389 }, { hash := PyData.keyHash P (Str.ofString "-"), key := .str (Str.ofString "-") 507, val := .int 15 395 }, { hash := PyData.keyHash P (Str.ofString "-="), key := .str (Str.ofString "-=") 509, val := .int 37 439 }, { hash := PyData.keyHash P (Str.ofString "->"), key := .str (Str.ofString "->") 511, val := .int 51 467 }, { hash := PyData.keyHash P (Str.ofString "."), key := .str (Str.ofString ".") 513, val := .int 23 411 }, { hash := PyData.keyHash P (Str.ofString "..."), key := .str (Str.ofString "...") 515, val := .int 52 469 }, { hash := PyData.keyHash P (Str.ofString "/"), key := .str (Str.ofString "/") 517, val := .int 17 399 }, { hash := PyData.keyHash P (Str.ofString "//"), key := .str (Str.ofString "//") 519, val := .int 47 459 }, { hash := PyData.keyHash P (Str.ofString "//="), key := .str (Str.ofString "//=") 521, val := .int 48 461 }, { hash := PyData.keyHash P (Str.ofString "/="), key := .str (Str.ofString "/=") 523, val := .int 39 443 }, { hash := PyData.keyHash P (Str.ofString ":"), key := .str (Str.ofString ":") 525, val := .int 11 387 }, { hash := PyData.keyHash P (Str.ofString ":="), key := .str (Str.ofString ":=") 527, val := .int 53 471 }, { hash := PyData.keyHash P (Str.ofString ";"), key := .str (Str.ofString ";") 529, val := .int 13 391 }, { hash := PyData.keyHash P (Str.ofString "<"), key := .str (Str.ofString "<") 531, val := .int 20 405 }, { hash := PyData.keyHash P (Str.ofString "<<"), key := .str (Str.ofString "<<") 533, val := .int 33 431 }, { hash := PyData.keyHash P (Str.ofString "<<="), key := .str (Str.ofString "<<=") 535, val := .int 44 453 }, { hash := PyData.keyHash P (Str.ofString "<="), key := .str (Str.ofString "<=") 537, val := .int 29 423 }, { hash := PyData.keyHash P (Str.ofString "="), key := .str (Str.ofString "=") 539, val := .int 22 409 }, { hash := PyData.keyHash P (Str.ofString "=="), key := .str (Str.ofString "==") 541, val := .int 27 419 }, { hash := PyData.keyHash P (Str.ofString ">"), key := .str (Str.ofString ">") 543, val := .int 21 407 }, { hash := PyData.keyHash P (Str.ofString ">="), key := .str (Str.ofString ">=") 545, val := .int 30 425 }, { hash := PyData.keyHash P (Str.ofString ">>"), key := .str (Str.ofString ">>") 546, val := .int 34 433 }, { hash := PyData.keyHash P (Str.ofString ">>="), key := .str (Str.ofString ">>=") 547, val := .int 45 455 }, { hash := PyData.keyHash P (Str.ofString "@"), key := .str (Str.ofString "@") 548, val := .int 49 463 }, { hash := PyData.keyHash P (Str.ofString "@="), key := .str (Str.ofString "@=") 549, val := .int 50 465 }, { hash := PyData.keyHash P (Str.ofString "["), key := .str (Str.ofString "[") 550, val := .int 9 383 }, { hash := PyData.keyHash P (Str.ofString "]"), key := .str (Str.ofString "]") 551, val := .int 10 385 }, { hash := PyData.keyHash P (Str.ofString "^"), key := .str (Str.ofString "^") 552, val := .int 32 429 }, { hash := PyData.keyHash P (Str.ofString "^="), key := .str (Str.ofString "^=") 553, val := .int 43 451 }, { hash := PyData.keyHash P (Str.ofString "{"), key := .str (Str.ofString "{") 554, val := .int 25 415 }, { hash := PyData.keyHash P (Str.ofString "|"), key := .str (Str.ofString "|") 555, val := .int 18 401 }, { hash := PyData.keyHash P (Str.ofString "|="), key := .str (Str.ofString "|=") 556, val := .int 42 449 }, { hash := PyData.keyHash P (Str.ofString "}"), key := .str (Str.ofString "}") 557, val := .int 26 417 }, { hash := PyData.keyHash P (Str.ofString "~"), key := .str (Str.ofString "~") 558, val := .int 31 427 }] 48 }
noncomputable def o_113 : Params → Obj := fun P => { cls := .type "dict", data := .dict #[{ hash := PyData.keyHash P (Str.ofString ">="), key := .str (Str.ofString ">=") 545, val := .int 30 425 }, { hash := PyData.keyHash P (Str.ofString ">>"), key := .str (Str.ofString ">>") 546, val := .int 34 433 }, { hash := PyData.keyHash P (Str.ofString ">>="), key := .str (Str.ofString ">>=") 547, val := .int 45 455 }, { hash := PyData.keyHash P (Str.ofString "@"), key := .str (Str.ofString "@") 548, val := .int 49 463 }, { hash := PyData.keyHash P (Str.ofString "@="), key := .str (Str.ofString "@=") 549, val := .int 50 465 }, { hash := PyData.keyHash P (Str.ofString "["), key := .str (Str.ofString "[") 550, val := .int 9 383 }, { hash := PyData.keyHash P (Str.ofString "]"), key := .str (Str.ofString "]") 551, val := .int 10 385 }, { hash := PyData.keyHash P (Str.ofString "^"), key := .str (Str.ofString "^") 552, val := .int 32 429 }, { hash := PyData.keyHash P (Str.ofString "^="), key := .str (Str.ofString "^=") 553, val := .int 43 451 }, { hash := PyData.keyHash P (Str.ofString "{"), key := .str (Str.ofString "{") 554, val := .int 25 415 }, { hash := PyData.keyHash P (Str.ofString "|"), key := .str (Str.ofString "|") 555, val := .int 18 401 }, { hash := PyData.keyHash P (Str.ofString "|="), key := .str (Str.ofString "|=") 556, val := .int 42 449 }, { hash := PyData.keyHash P (Str.ofString "}"), key := .str (Str.ofString "}") 557, val := .int 26 417 }, { hash := PyData.keyHash P (Str.ofString "~"), key := .str (Str.ofString "~") 558, val := .int 31 427 }] 14 }
noncomputable def o_112 : Params → Obj := fun P => { cls := .type "dict", data := .dict #[{ hash := PyData.keyHash P (Str.ofString "->"), key := .str (Str.ofString "->") 511, val := .int 51 467 }, { hash := PyData.keyHash P (Str.ofString "."), key := .str (Str.ofString ".") 513, val := .int 23 411 }, { hash := PyData.keyHash P (Str.ofString "..."), key := .str (Str.ofString "...") 515, val := .int 52 469 }, { hash := PyData.keyHash P (Str.ofString "/"), key := .str (Str.ofString "/") 517, val := .int 17 399 }, { hash := PyData.keyHash P (Str.ofString "//"), key := .str (Str.ofString "//") 519, val := .int 47 459 }, { hash := PyData.keyHash P (Str.ofString "//="), key := .str (Str.ofString "//=") 521, val := .int 48 461 }, { hash := PyData.keyHash P (Str.ofString "/="), key := .str (Str.ofString "/=") 523, val := .int 39 443 }, { hash := PyData.keyHash P (Str.ofString ":"), key := .str (Str.ofString ":") 525, val := .int 11 387 }, { hash := PyData.keyHash P (Str.ofString ":="), key := .str (Str.ofString ":=") 527, val := .int 53 471 }, { hash := PyData.keyHash P (Str.ofString ";"), key := .str (Str.ofString ";") 529, val := .int 13 391 }, { hash := PyData.keyHash P (Str.ofString "<"), key := .str (Str.ofString "<") 531, val := .int 20 405 }, { hash := PyData.keyHash P (Str.ofString "<<"), key := .str (Str.ofString "<<") 533, val := .int 33 431 }, { hash := PyData.keyHash P (Str.ofString "<<="), key := .str (Str.ofString "<<=") 535, val := .int 44 453 }, { hash := PyData.keyHash P (Str.ofString "<="), key := .str (Str.ofString "<=") 537, val := .int 29 423 }, { hash := PyData.keyHash P (Str.ofString "="), key := .str (Str.ofString "=") 539, val := .int 22 409 }, { hash := PyData.keyHash P (Str.ofString "=="), key := .str (Str.ofString "==") 541, val := .int 27 419 }, { hash := PyData.keyHash P (Str.ofString ">"), key := .str (Str.ofString ">") 543, val := .int 21 407 }] 17 }
noncomputable def o_117 : Params → Obj := fun P => { cls := .type "dict", data := .dict #[{ hash := PyData.keyHash P (Str.ofString "__name__"), key := .str (Str.ofString "__name__") 165, val := .str (Str.ofString "law_rs0097_01") 588 }, { hash := PyData.keyHash P (Str.ofString "__doc__"), key := .str (Str.ofString "__doc__") 166, val := .none }, { hash := PyData.keyHash P (Str.ofString "__package__"), key := .str (Str.ofString "__package__") 167, val := .none }, { hash := PyData.keyHash P (Str.ofString "__loader__"), key := .str (Str.ofString "__loader__") 168, val := .builtin "__main__.__loader__#opaque" }, { hash := PyData.keyHash P (Str.ofString "__spec__"), key := .str (Str.ofString "__spec__") 169, val := .none }, { hash := PyData.keyHash P (Str.ofString "__annotations__"), key := .str (Str.ofString "__annotations__") 170, val := .ref 6 }, { hash := PyData.keyHash P (Str.ofString "__builtins__"), key := .str (Str.ofString "__builtins__") 171, val := .ref 4 }, { hash := PyData.keyHash P (Str.ofString "__file__"), key := .str (Str.ofString "__file__") 173, val := .str (Str.ofString "/claim/cut.py") 172 }, { hash := PyData.keyHash P (Str.ofString "__cached__"), key := .str (Str.ofString "__cached__") 174, val := .none }, { hash := PyData.keyHash P (Str.ofString "_sre"), key := .str (Str.ofString "_sre") 275, val := .ref 12 }, { hash := PyData.keyHash P (Str.ofString "_twin_re_1"), key := .str (Str.ofString "_twin_re_1") 299, val := .ref 36 }, { hash := PyData.keyHash P (Str.ofString "_twin_re_2"), key := .str (Str.ofString "_twin_re_2") 341, val := .ref 41 }, { hash := PyData.keyHash P (Str.ofString "CRLF"), key := .str (Str.ofString "CRLF") 343, val := .str (Str.ofString "\x0d\n") 342 }, { hash := PyData.keyHash P (Str.ofString "quotedata"), key := .str (Str.ofString "quotedata") 350, val := .ref 48 }, { hash := PyData.keyHash P (Str.ofString "_iter_escaped_chars"), key := .str (Str.ofString "_iter_escaped_chars") 362, val := .ref 55 }, { hash := PyData.keyHash P (Str.ofString "_strip_quoted_realnames"), key := .str (Str.ofString "_strip_quoted_realnames") 374, val := .ref 62 }, { hash := PyData.keyHash P (Str.ofString "ENDMARKER"), key := .str (Str.ofString "ENDMARKER") 378, val := .int 0 377 }, { hash := PyData.keyHash P (Str.ofString "LPAR"), key := .str (Str.ofString "LPAR") 380, val := .int 7 379 }, { hash := PyData.keyHash P (Str.ofString "RPAR"), key := .str (Str.ofString "RPAR") 382, val := .int 8 381 }, { hash := PyData.keyHash P (Str.ofString "LSQB"), key := .str (Str.ofString "LSQB") 384, val := .int 9 383 }, { hash := PyData.keyHash P (Str.ofString "RSQB"), key := .str (Str.ofString "RSQB") 386, val := .int 10 385 }, { hash := PyData.keyHash P (Str.ofString "COLON"), key := .str (Str.ofString "COLON") 388, val := .int 11 387 }, { hash := PyData.keyHash P (Str.ofString "COMMA"), key := .str (Str.ofString "COMMA") 390, val := .int 12 389 }, { hash := PyData.keyHash P (Str.ofString "SEMI"), key := .str (Str.ofString "SEMI") 392, val := .int 13 391 }, { hash := PyData.keyHash P (Str.ofString "PLUS"), key := .str (Str.ofString "PLUS") 394, val := .int 14 393 }, { hash := PyData.keyHash P (Str.ofString "MINUS"), key := .str (Str.ofString "MINUS") 396, val := .int 15 395 }, { hash := PyData.keyHash P (Str.ofString "STAR"), key := .str (Str.ofString "STAR") 398, val := .int 16 397 }, { hash := PyData.keyHash P (Str.ofString "SLASH"), key := .str (Str.ofString "SLASH") 400, val := .int 17 399 }, { hash := PyData.keyHash P (Str.ofString "VBAR"), key := .str (Str.ofString "VBAR") 402, val := .int 18 401 }, { hash := PyData.keyHash P (Str.ofString "AMPER"), key := .str (Str.ofString "AMPER") 404, val := .int 19 403 }, { hash := PyData.keyHash P (Str.ofString "LESS"), key := .str (Str.ofString "LESS") 406, val := .int 20 405 }, { hash := PyData.keyHash P (Str.ofString "GREATER"), key := .str (Str.ofString "GREATER") 408, val := .int 21 407 }, { hash := PyData.keyHash P (Str.ofString "EQUAL"), key := .str (Str.ofString "EQUAL") 410, val := .int 22 409 }, { hash := PyData.keyHash P (Str.ofString "DOT"), key := .str (Str.ofString "DOT") 412, val := .int 23 411 }, { hash := PyData.keyHash P (Str.ofString "PERCENT"), key := .str (Str.ofString "PERCENT") 414, val := .int 24 413 }, { hash := PyData.keyHash P (Str.ofString "LBRACE"), key := .str (Str.ofString "LBRACE") 416, val := .int 25 415 }, { hash := PyData.keyHash P (Str.ofString "RBRACE"), key := .str (Str.ofString "RBRACE") 418, val := .int 26 417 }, { hash := PyData.keyHash P (Str.ofString "EQEQUAL"), key := .str (Str.ofString "EQEQUAL") 420, val := .int 27 419 }, { hash := PyData.keyHash P (Str.ofString "NOTEQUAL"), key := .str (Str.ofString "NOTEQUAL") 422, val := .int 28 421 }, { hash := PyData.keyHash P (Str.ofString "LESSEQUAL"), key := .str (Str.ofString "LESSEQUAL") 424, val := .int 29 423 }, { hash := PyData.keyHash P (Str.ofString "GREATEREQUAL"), key := .str (Str.ofString "GREATEREQUAL") 426, val := .int 30 425 }, { hash := PyData.keyHash P (Str.ofString "TILDE"), key := .str (Str.ofString "TILDE") 428, val := .int 31 427 }, { hash := PyData.keyHash P (Str.ofString "CIRCUMFLEX"), key := .str (Str.ofString "CIRCUMFLEX") 430, val := .int 32 429 }, { hash := PyData.keyHash P (Str.ofString "LEFTSHIFT"), key := .str (Str.ofString "LEFTSHIFT") 432, val := .int 33 431 }, { hash := PyData.keyHash P (Str.ofString "RIGHTSHIFT"), key := .str (Str.ofString "RIGHTSHIFT") 434, val := .int 34 433 }, { hash := PyData.keyHash P (Str.ofString "DOUBLESTAR"), key := .str (Str.ofString "DOUBLESTAR") 436, val := .int 35 435 }, { hash := PyData.keyHash P (Str.ofString "PLUSEQUAL"), key := .str (Str.ofString "PLUSEQUAL") 438, val := .int 36 437 }, { hash := PyData.keyHash P (Str.ofString "MINEQUAL"), key := .str (Str.ofString "MINEQUAL") 440, val := .int 37 439 }, { hash := PyData.keyHash P (Str.ofString "STAREQUAL"), key := .str (Str.ofString "STAREQUAL") 442, val := .int 38 441 }, { hash := PyData.keyHash P (Str.ofString "SLASHEQUAL"), key := .str (Str.ofString "SLASHEQUAL") 444, val := .int 39 443 }, { hash := PyData.keyHash P (Str.ofString "PERCENTEQUAL"), key := .str (Str.ofString "PERCENTEQUAL") 446, val := .int 40 445 }, { hash := PyData.keyHash P (Str.ofString "AMPEREQUAL"), key := .str (Str.ofString "AMPEREQUAL") 448, val := .int 41 447 }, { hash := PyData.keyHash P (Str.ofString "VBAREQUAL"), key := .str (Str.ofString "VBAREQUAL") 450, val := .int 42 449 }, { hash := PyData.keyHash P (Str.ofString "CIRCUMFLEXEQUAL"), key := .str (Str.ofString "CIRCUMFLEXEQUAL") 452, val := .int 43 451 }, { hash := PyData.keyHash P (Str.ofString "LEFTSHIFTEQUAL"), key := .str (Str.ofString "LEFTSHIFTEQUAL") 454, val := .int 44 453 }, { hash := PyData.keyHash P (Str.ofString "RIGHTSHIFTEQUAL"), key := .str (Str.ofString "RIGHTSHIFTEQUAL") 456, val := .int 45 455 }, { hash := PyData.keyHash P (Str.ofString "DOUBLESTAREQUAL"), key := .str (Str.ofString "DOUBLESTAREQUAL") 458, val := .int 46 457 }, { hash := PyData.keyHash P (Str.ofString "DOUBLESLASH"), key := .str (Str.ofString "DOUBLESLASH") 460, val := .int 47 459 }, { hash := PyData.keyHash P (Str.ofString "DOUBLESLASHEQUAL"), key := .str (Str.ofString "DOUBLESLASHEQUAL") 462, val := .int 48 461 }, { hash := PyData.keyHash P (Str.ofString "AT"), key := .str (Str.ofString "AT") 464, val := .int 49 463 }, { hash := PyData.keyHash P (Str.ofString "ATEQUAL"), key := .str (Str.ofString "ATEQUAL") 466, val := .int 50 465 }, { hash := PyData.keyHash P (Str.ofString "RARROW"), key := .str (Str.ofString "RARROW") 468, val := .int 51 467 }, { hash := PyData.keyHash P (Str.ofString "ELLIPSIS"), key := .str (Str.ofString "ELLIPSIS") 470, val := .int 52 469 }, { hash := PyData.keyHash P (Str.ofString "COLONEQUAL"), key := .str (Str.ofString "COLONEQUAL") 472, val := .int 53 471 }, { hash := PyData.keyHash P (Str.ofString "EXCLAMATION"), key := .str (Str.ofString "EXCLAMATION") 474, val := .int 54 473 }, { hash := PyData.keyHash P (Str.ofString "NT_OFFSET"), key := .str (Str.ofString "NT_OFFSET") 476, val := .int 256 475 }, { hash := PyData.keyHash P (Str.ofString "EXACT_TOKEN_TYPES"), key := .str (Str.ofString "EXACT_TOKEN_TYPES") 573, val := .ref 63 }, { hash := PyData.keyHash P (Str.ofString "ISTERMINAL"), key := .str (Str.ofString "ISTERMINAL") 580, val := .ref 72 }, { hash := PyData.keyHash P (Str.ofString "ISEOF"), key := .str (Str.ofString "ISEOF") 587, val := .ref 79 }, { hash := PyData.keyHash P (Str.ofString "_law_read"), key := .str (Str.ofString "_law_read") 596, val := .ref 86 }, { hash := PyData.keyHash P (Str.ofString "_law_signs"), key := .str (Str.ofString "_law_signs") 602, val := .ref 91 }, { hash := PyData.keyHash P (Str.ofString "_law_worth"), key := .str (Str.ofString "_law_worth") 612, val := .ref 98 }, { hash := PyData.keyHash P (Str.ofString "law"), key := .str (Str.ofString "law") 618, val := .ref 103 }] 73 }
noncomputable def o_148 : Params → Obj := fun P => { cls := .type "tuple", data := .seq #[] }
noncomputable def o_132 : Params → Obj := fun P => { cls := .type "function", data := .func { name := Str.ofString "ISEOF", qualname := Str.ofString "ISEOF", params := paramsOf (topSt 62), body := .stmts (bodyOf (topSt 62)), scope := scopeOf (topSt 62), globals := 3, closure := [], defaults := .none, kwdefaults := .none, pyModule := .str (Str.ofString "cpy313.token") 375, code := .ref 78 } }
noncomputable def o_124 : Params → Obj := fun P => { cls := .type "code", data := .fields #[.str (Str.ofString "ISTERMINAL") 574, .str (Str.ofString "ISTERMINAL") 575, .str (Str.ofString "/claim/cut.py") 576, .int 92 0, .int 1 0, .int 0 0, .int 0 0, .int 3 0, .ref 66, .bool true, .int 276 0, .ref 67, .none, .ref 68, .ref 69, .ref 70, .int 578 0, .int 92 0, .str (Str.ofString "/claim/cut.py") 579] }
noncomputable def o_156 : Params → Obj := fun P => { cls := .type "function", data := .func { name := Str.ofString "law", qualname := Str.ofString "law", params := paramsOf (topSt 67), body := .stmts (bodyOf (topSt 67)), scope := scopeOf (topSt 67), globals := 3, closure := [], defaults := .none, kwdefaults := .none, pyModule := .str (Str.ofString "law_rs0097_01") 588, code := .ref 102 } }
noncomputable def o_140 : Params → Obj := fun P => { cls := .type "tuple", data := .seq #[] }
noncomputable def o_120 : Params → Obj := fun P => { cls := .none, data := .fields #[] }
noncomputable def o_152 : Params → Obj := fun P => { cls := .type "tuple", data := .seq #[] }
noncomputable def o_136 : Params → Obj := fun P => { cls := .type "tuple", data := .seq #[] }
noncomputable def o_128 : Params → Obj := fun P => { cls := .type "tuple", data := .seq #[.str (Str.ofString "x") 584] }
noncomputable def o_144 : Params → Obj := fun P => { cls := .type "function", data := .func { name := Str.ofString "_law_signs", qualname := Str.ofString "_law_signs", params := paramsOf (topSt 65), body := .stmts (bodyOf (topSt 65)), scope := scopeOf (topSt 65), globals := 3, closure := [], defaults := .none, kwdefaults := .none, pyModule := .str (Str.ofString "law_rs0097_01") 588, code := .ref 90 } }
noncomputable def o_150 : Params → Obj := fun P => { cls := .type "code", data := .fields #[.str (Str.ofString "_law_worth") 603, .str (Str.ofString "_law_worth") 604, .str (Str.ofString "/claim/cut.py") 605, .int 108 0, .int 1 0, .int 0 0, .int 0 0, .int 3 0, .ref 92, .bool true, .int 276 0, .ref 93, .none, .ref 94, .ref 95, .ref 96, .int 610 0, .int 108 0, .str (Str.ofString "/claim/cut.py") 611] }
noncomputable def o_134 : Params → Obj := fun P => { cls := .none, data := .fields #[] }
noncomputable def o_126 : Params → Obj := fun P => { cls := .type "tuple", data := .seq #[] }
noncomputable def o_142 : Params → Obj := fun P => { cls := .none, data := .func { name := Str.ofString "_law_signs", qualname := Str.ofString "_law_signs", params := paramsOf (topSt 65), body := .stmts (bodyOf (topSt 65)), scope := scopeOf (topSt 65), globals := 0, closure := [], defaults := .none, kwdefaults := .none } }
noncomputable def o_122 : Params → Obj := fun P => { cls := .type "tuple", data := .seq #[] }
noncomputable def o_154 : Params → Obj := fun P => { cls := .none, data := .func { name := Str.ofString "law", qualname := Str.ofString "law", params := paramsOf (topSt 67), body := .stmts (bodyOf (topSt 67)), scope := scopeOf (topSt 67), globals := 0, closure := [], defaults := .none, kwdefaults := .none } }
noncomputable def o_138 : Params → Obj := fun P => { cls := .type "code", data := .fields #[.str (Str.ofString "_law_read") 590, .str (Str.ofString "_law_read") 591, .str (Str.ofString "/claim/cut.py") 592, .int 97 0, .int 1 0, .int 0 0, .int 0 0, .int 3 0, .ref 80, .bool true, .int 276 0, .ref 81, .none, .ref 82, .ref 83, .ref 84, .int 594 0, .int 97 0, .str (Str.ofString "/claim/cut.py") 595] }
noncomputable def o_118 : Params → Obj := fun P => { cls := .none, data := .fields #[.int 6 0, .int 0 0, .ref 47, .int 9 0, .int 0 0, .ref 54, .int 22 0, .int 0 0, .ref 61, .int 92 0, .int 0 0, .ref 71, .int 94 0, .int 0 0, .ref 78, .int 97 0, .int 0 0, .ref 85, .int 99 0, .int 0 0, .ref 90, .int 108 0, .int 0 0, .ref 97, .int 116 0, .int 0 0, .ref 102] }
noncomputable def o_130 : Params → Obj := fun P => { cls := .none, data := .func { name := Str.ofString "ISEOF", qualname := Str.ofString "ISEOF", params := paramsOf (topSt 62), body := .stmts (bodyOf (topSt 62)), scope := scopeOf (topSt 62), globals := 0, closure := [], defaults := .none, kwdefaults := .none } }
noncomputable def o_146 : Params → Obj := fun P => { cls := .none, data := .fields #[] }
noncomputable def o_149 : Params → Obj := fun P => { cls := .none, data := .func { name := Str.ofString "_law_worth", qualname := Str.ofString "_law_worth", params := paramsOf (topSt 66), body := .stmts (bodyOf (topSt 66)), scope := scopeOf (topSt 66), globals := 0, closure := [], defaults := .none, kwdefaults := .none } }
noncomputable def o_133 : Params → Obj := fun P => { cls := .type "tuple", data := .seq #[] }
noncomputable def o_125 : Params → Obj := fun P => { cls := .type "function", data := .func { name := Str.ofString "ISTERMINAL", qualname := Str.ofString "ISTERMINAL", params := paramsOf (topSt 61), body := .stmts (bodyOf (topSt 61)), scope := scopeOf (topSt 61), globals := 3, closure := [], defaults := .none, kwdefaults := .none, pyModule := .str (Str.ofString "cpy313.token") 375, code := .ref 71 } }
noncomputable def o_141 : Params → Obj := fun P => { cls := .none, data := .fields #[] }
noncomputable def o_121 : Params → Obj := fun P => { cls := .type "tuple", data := .seq #[.str (Str.ofString "x") 577] }
noncomputable def o_153 : Params → Obj := fun P => { cls := .none, data := .fields #[] }
noncomputable def o_137 : Params → Obj := fun P => { cls := .none, data := .func { name := Str.ofString "_law_read", qualname := Str.ofString "_law_read", params := paramsOf (topSt 64), body := .stmts (bodyOf (topSt 64)), scope := scopeOf (topSt 64), globals := 0, closure := [], defaults := .none, kwdefaults := .none } }
noncomputable def o_129 : Params → Obj := fun P => { cls := .type "tuple", data := .seq #[] }
noncomputable def o_145 : Params → Obj := fun P => { cls := .type "tuple", data := .seq #[] }
noncomputable def o_119 : Params → Obj := fun P => { cls := .type "tuple", data := .seq #[] }
noncomputable def o_151 : Params → Obj := fun P => { cls := .type "function", data := .func { name := Str.ofString "_law_worth", qualname := Str.ofString "_law_worth", params := paramsOf (topSt 66), body := .stmts (bodyOf (topSt 66)), scope := scopeOf (topSt 66), globals := 3, closure := [], defaults := .none, kwdefaults := .none, pyModule := .str (Str.ofString "law_rs0097_01") 588, code := .ref 97 } }
noncomputable def o_135 : Params → Obj := fun P => { cls := .type "tuple", data := .seq #[.str (Str.ofString "typed") 593] }
noncomputable def o_127 : Params → Obj := fun P => { cls := .none, data := .fields #[] }
noncomputable def o_143 : Params → Obj := fun P => { cls := .type "code", data := .fields #[.str (Str.ofString "_law_signs") 597, .str (Str.ofString "_law_signs") 598, .str (Str.ofString "/claim/cut.py") 599, .int 99 0, .int 1 0, .int 0 0, .int 0 0, .int 3 0, .ref 87, .bool true, .int 276 0, .ref 88, .none, .none, .none, .ref 89, .int 600 0, .int 99 0, .str (Str.ofString "/claim/cut.py") 601] }
noncomputable def o_123 : Params → Obj := fun P => { cls := .none, data := .func { name := Str.ofString "ISTERMINAL", qualname := Str.ofString "ISTERMINAL", params := paramsOf (topSt 61), body := .stmts (bodyOf (topSt 61)), scope := scopeOf (topSt 61), globals := 0, closure := [], defaults := .none, kwdefaults := .none } }
noncomputable def o_155 : Params → Obj := fun P => { cls := .type "code", data := .fields #[.str (Str.ofString "law") 613, .str (Str.ofString "law") 614, .str (Str.ofString "/claim/cut.py") 615, .int 116 0, .int 1 0, .int 0 0, .int 0 0, .int 3 0, .ref 99, .bool true, .int 276 0, .ref 100, .none, .none, .none, .ref 101, .int 616 0, .int 116 0, .str (Str.ofString "/claim/cut.py") 617] }
noncomputable def o_139 : Params → Obj := fun P => { cls := .type "function", data := .func { name := Str.ofString "_law_read", qualname := Str.ofString "_law_read", params := paramsOf (topSt 64), body := .stmts (bodyOf (topSt 64)), scope := scopeOf (topSt 64), globals := 3, closure := [], defaults := .none, kwdefaults := .none, pyModule := .str (Str.ofString "law_rs0097_01") 588, code := .ref 85 } }
noncomputable def o_131 : Params → Obj := fun P => { cls := .type "code", data := .fields #[.str (Str.ofString "ISEOF") 581, .str (Str.ofString "ISEOF") 582, .str (Str.ofString "/claim/cut.py") 583, .int 94 0, .int 1 0, .int 0 0, .int 0 0, .int 3 0, .ref 73, .bool true, .int 276 0, .ref 74, .none, .ref 75, .ref 76, .ref 77, .int 585 0, .int 94 0, .str (Str.ofString "/claim/cut.py") 586] }
noncomputable def o_147 : Params → Obj := fun P => { cls := .type "tuple", data := .seq #[.str (Str.ofString "signs") 606, .str (Str.ofString "worth") 607, .str (Str.ofString "weight") 608, .str (Str.ofString "k") 609] }
noncomputable def mk18 (a c : Str) : Obj := { cls := .none, data := .seq #[.int 13 0, .str a 0, .bool true, .bool true, .str (Str.ofString "") 205, .int 21 0, .str c 0, .bool true, .bool true, .str (Str.ofString "") 242] 1 }
noncomputable def low18 (P : Params) : List Obj := [o_41 P, o_42 P, o_43 P, o_44 P, o_45 P, o_46 P, o_47 P, o_48 P, o_49 P, o_50 P, o_51 P, o_52 P, o_53 P, o_54 P, o_55 P, o_56 P, o_57 P, o_58 P]
noncomputable def high9 (P : Params) : List Obj := [o_60 P, o_61 P, o_62 P, o_63 P, o_64 P, o_65 P, o_66 P, o_67 P, o_68 P]
noncomputable def heap_68 (a c : Str) (P : Params) : Heap := ⟨(low18 P ++ mk18 a c :: high9 P).toArray, {}⟩
noncomputable def heap_72 (a c : Str) (P : Params) : Heap := { objs := { toList := [o_41 P, o_42 P, o_43 P, o_44 P, o_45 P, o_46 P, o_47 P, o_48 P, o_49 P, o_50 P, o_51 P, o_52 P, o_53 P, o_54 P, o_55 P, o_56 P, o_57 P, o_58 P, mk18 a c, o_60 P, o_61 P, o_62 P, o_63 P, o_64 P, o_65 P, o_66 P, o_67 P, o_68 P, o_69 P, o_70 P, o_71 P, o_72 P] } }
noncomputable def tree_73 (a c : Str) (P : Params) : BT := .node (o_41 P) (.node (o_42 P) (.node (o_44 P) (.node (o_48 P) (.node (o_56 P) (.node (o_72 P) .nil .nil) .nil) (.node (o_64 P) .nil .nil)) (.node (o_52 P) (.node (o_60 P) .nil .nil) (.node (o_68 P) .nil .nil))) (.node (o_46 P) (.node (o_50 P) (.node (o_58 P) .nil .nil) (.node (o_66 P) .nil .nil)) (.node (o_54 P) (.node (o_62 P) .nil .nil) (.node (o_70 P) .nil .nil)))) (.node (o_43 P) (.node (o_45 P) (.node (o_49 P) (.node (o_57 P) .nil .nil) (.node (o_65 P) .nil .nil)) (.node (o_53 P) (.node (o_61 P) .nil .nil) (.node (o_69 P) .nil .nil))) (.node (o_47 P) (.node (o_51 P) (.node (mk18 a c) .nil .nil) (.node (o_67 P) .nil .nil)) (.node (o_55 P) (.node (o_63 P) .nil .nil) (.node (o_71 P) .nil .nil))))
noncomputable def tree_107 (a c : Str) (P : Params) : BT := .node (o_41 P) (.node (o_42 P) (.node (o_75 P) (.node (o_48 P) (.node (o_56 P) (.node (o_72 P) .nil .nil) (.node (o_92 P) .nil .nil)) (.node (o_64 P) (.node (o_84 P) .nil .nil) (.node (o_100 P) .nil .nil))) (.node (o_52 P) (.node (o_60 P) (.node (o_80 P) .nil .nil) (.node (o_96 P) .nil .nil)) (.node (o_68 P) (.node (o_88 P) .nil .nil) (.node (o_104 P) .nil .nil)))) (.node (o_46 P) (.node (o_50 P) (.node (o_58 P) (.node (o_78 P) .nil .nil) (.node (o_94 P) .nil .nil)) (.node (o_66 P) (.node (o_86 P) .nil .nil) (.node (o_102 P) .nil .nil))) (.node (o_54 P) (.node (o_62 P) (.node (o_82 P) .nil .nil) (.node (o_98 P) .nil .nil)) (.node (o_76 P) (.node (o_90 P) .nil .nil) (.node (o_106 P) .nil .nil))))) (.node (o_43 P) (.node (o_45 P) (.node (o_49 P) (.node (o_57 P) (.node (o_77 P) .nil .nil) (.node (o_93 P) .nil .nil)) (.node (o_65 P) (.node (o_85 P) .nil .nil) (.node (o_101 P) .nil .nil))) (.node (o_53 P) (.node (o_61 P) (.node (o_81 P) .nil .nil) (.node (o_97 P) .nil .nil)) (.node (o_69 P) (.node (o_89 P) .nil .nil) (.node (o_105 P) .nil .nil)))) (.node (o_47 P) (.node (o_51 P) (.node (mk18 a c) (.node (o_79 P) .nil .nil) (.node (o_95 P) .nil .nil)) (.node (o_67 P) (.node (o_87 P) .nil .nil) (.node (o_103 P) .nil .nil))) (.node (o_55 P) (.node (o_63 P) (.node (o_83 P) .nil .nil) (.node (o_99 P) .nil .nil)) (.node (o_71 P) (.node (o_91 P) .nil .nil) (.node (o_107 P) .nil .nil)))))
noncomputable def tree_108 (a c : Str) (P : Params) : BT := .node (o_41 P) (.node (o_42 P) (.node (o_108 P) (.node (o_48 P) (.node (o_56 P) (.node (o_72 P) .nil .nil) (.node (o_92 P) .nil .nil)) (.node (o_64 P) (.node (o_84 P) .nil .nil) (.node (o_100 P) .nil .nil))) (.node (o_52 P) (.node (o_60 P) (.node (o_80 P) .nil .nil) (.node (o_96 P) .nil .nil)) (.node (o_68 P) (.node (o_88 P) .nil .nil) (.node (o_104 P) .nil .nil)))) (.node (o_46 P) (.node (o_50 P) (.node (o_58 P) (.node (o_78 P) .nil .nil) (.node (o_94 P) .nil .nil)) (.node (o_66 P) (.node (o_86 P) .nil .nil) (.node (o_102 P) .nil .nil))) (.node (o_54 P) (.node (o_62 P) (.node (o_82 P) .nil .nil) (.node (o_98 P) .nil .nil)) (.node (o_76 P) (.node (o_90 P) .nil .nil) (.node (o_106 P) .nil .nil))))) (.node (o_43 P) (.node (o_45 P) (.node (o_49 P) (.node (o_57 P) (.node (o_77 P) .nil .nil) (.node (o_93 P) .nil .nil)) (.node (o_65 P) (.node (o_85 P) .nil .nil) (.node (o_101 P) .nil .nil))) (.node (o_53 P) (.node (o_61 P) (.node (o_81 P) .nil .nil) (.node (o_97 P) .nil .nil)) (.node (o_69 P) (.node (o_89 P) .nil .nil) (.node (o_105 P) .nil .nil)))) (.node (o_47 P) (.node (o_51 P) (.node (mk18 a c) (.node (o_79 P) .nil .nil) (.node (o_95 P) .nil .nil)) (.node (o_67 P) (.node (o_87 P) .nil .nil) (.node (o_103 P) .nil .nil))) (.node (o_55 P) (.node (o_63 P) (.node (o_83 P) .nil .nil) (.node (o_99 P) .nil .nil)) (.node (o_71 P) (.node (o_91 P) .nil .nil) (.node (o_107 P) .nil .nil)))))
noncomputable def tree_113 (a c : Str) (P : Params) : BT := .node (o_41 P) (.node (o_42 P) (.node (o_110 P) (.node (o_48 P) (.node (o_56 P) (.node (o_72 P) (.node (o_111 P) .nil .nil) .nil) (.node (o_92 P) .nil .nil)) (.node (o_64 P) (.node (o_84 P) .nil .nil) (.node (o_100 P) .nil .nil))) (.node (o_52 P) (.node (o_60 P) (.node (o_80 P) .nil .nil) (.node (o_96 P) .nil .nil)) (.node (o_68 P) (.node (o_88 P) .nil .nil) (.node (o_104 P) .nil .nil)))) (.node (o_46 P) (.node (o_50 P) (.node (o_58 P) (.node (o_78 P) (.node (o_113 P) .nil .nil) .nil) (.node (o_94 P) .nil .nil)) (.node (o_66 P) (.node (o_86 P) .nil .nil) (.node (o_102 P) .nil .nil))) (.node (o_54 P) (.node (o_62 P) (.node (o_82 P) .nil .nil) (.node (o_98 P) .nil .nil)) (.node (o_76 P) (.node (o_90 P) .nil .nil) (.node (o_106 P) .nil .nil))))) (.node (o_43 P) (.node (o_45 P) (.node (o_49 P) (.node (o_57 P) (.node (o_77 P) (.node (o_112 P) .nil .nil) .nil) (.node (o_93 P) .nil .nil)) (.node (o_65 P) (.node (o_85 P) .nil .nil) (.node (o_101 P) .nil .nil))) (.node (o_53 P) (.node (o_61 P) (.node (o_81 P) .nil .nil) (.node (o_97 P) .nil .nil)) (.node (o_69 P) (.node (o_89 P) .nil .nil) (.node (o_105 P) .nil .nil)))) (.node (o_47 P) (.node (o_51 P) (.node (mk18 a c) (.node (o_79 P) .nil .nil) (.node (o_95 P) .nil .nil)) (.node (o_67 P) (.node (o_87 P) .nil .nil) (.node (o_103 P) .nil .nil))) (.node (o_55 P) (.node (o_63 P) (.node (o_83 P) .nil .nil) (.node (o_99 P) .nil .nil)) (.node (o_71 P) (.node (o_91 P) .nil .nil) (.node (o_107 P) .nil .nil)))))
noncomputable def tree_156 (a c : Str) (P : Params) : BT := .node (o_41 P) (.node (o_42 P) (.node (o_117 P) (.node (o_48 P) (.node (o_56 P) (.node (o_72 P) (.node (o_111 P) .nil .nil) (.node (o_148 P) .nil .nil)) (.node (o_92 P) (.node (o_132 P) .nil .nil) .nil)) (.node (o_64 P) (.node (o_84 P) (.node (o_124 P) .nil .nil) (.node (o_156 P) .nil .nil)) (.node (o_100 P) (.node (o_140 P) .nil .nil) .nil))) (.node (o_52 P) (.node (o_60 P) (.node (o_80 P) (.node (o_120 P) .nil .nil) (.node (o_152 P) .nil .nil)) (.node (o_96 P) (.node (o_136 P) .nil .nil) .nil)) (.node (o_68 P) (.node (o_88 P) (.node (o_128 P) .nil .nil) .nil) (.node (o_104 P) (.node (o_144 P) .nil .nil) .nil)))) (.node (o_46 P) (.node (o_50 P) (.node (o_58 P) (.node (o_78 P) (.node (o_113 P) .nil .nil) (.node (o_150 P) .nil .nil)) (.node (o_94 P) (.node (o_134 P) .nil .nil) .nil)) (.node (o_66 P) (.node (o_86 P) (.node (o_126 P) .nil .nil) .nil) (.node (o_102 P) (.node (o_142 P) .nil .nil) .nil))) (.node (o_54 P) (.node (o_62 P) (.node (o_82 P) (.node (o_122 P) .nil .nil) (.node (o_154 P) .nil .nil)) (.node (o_98 P) (.node (o_138 P) .nil .nil) .nil)) (.node (o_118 P) (.node (o_90 P) (.node (o_130 P) .nil .nil) .nil) (.node (o_106 P) (.node (o_146 P) .nil .nil) .nil))))) (.node (o_43 P) (.node (o_45 P) (.node (o_49 P) (.node (o_57 P) (.node (o_77 P) (.node (o_112 P) .nil .nil) (.node (o_149 P) .nil .nil)) (.node (o_93 P) (.node (o_133 P) .nil .nil) .nil)) (.node (o_65 P) (.node (o_85 P) (.node (o_125 P) .nil .nil) .nil) (.node (o_101 P) (.node (o_141 P) .nil .nil) .nil))) (.node (o_53 P) (.node (o_61 P) (.node (o_81 P) (.node (o_121 P) .nil .nil) (.node (o_153 P) .nil .nil)) (.node (o_97 P) (.node (o_137 P) .nil .nil) .nil)) (.node (o_69 P) (.node (o_89 P) (.node (o_129 P) .nil .nil) .nil) (.node (o_105 P) (.node (o_145 P) .nil .nil) .nil)))) (.node (o_47 P) (.node (o_51 P) (.node (mk18 a c) (.node (o_79 P) (.node (o_119 P) .nil .nil) (.node (o_151 P) .nil .nil)) (.node (o_95 P) (.node (o_135 P) .nil .nil) .nil)) (.node (o_67 P) (.node (o_87 P) (.node (o_127 P) .nil .nil) .nil) (.node (o_103 P) (.node (o_143 P) .nil .nil) .nil))) (.node (o_55 P) (.node (o_63 P) (.node (o_83 P) (.node (o_123 P) .nil .nil) (.node (o_155 P) .nil .nil)) (.node (o_99 P) (.node (o_139 P) .nil .nil) .nil)) (.node (o_71 P) (.node (o_91 P) (.node (o_131 P) .nil .nil) .nil) (.node (o_107 P) (.node (o_147 P) .nil .nil) .nil)))))
noncomputable def heap_157 (a c : Str) (P : Params) : Heap := { objs := { toList := [o_41 P, o_42 P, o_43 P, o_117 P, o_45 P, o_46 P, o_47 P, o_48 P, o_49 P, o_50 P, o_51 P, o_52 P, o_53 P, o_54 P, o_55 P, o_56 P, o_57 P, o_58 P, mk18 a c, o_60 P, o_61 P, o_62 P, o_63 P, o_64 P, o_65 P, o_66 P, o_67 P, o_68 P, o_69 P, o_118 P, o_71 P, o_72 P, o_77 P, o_78 P, o_79 P, o_80 P, o_81 P, o_82 P, o_83 P, o_84 P, o_85 P, o_86 P, o_87 P, o_88 P, o_89 P, o_90 P, o_91 P, o_92 P, o_93 P, o_94 P, o_95 P, o_96 P, o_97 P, o_98 P, o_99 P, o_100 P, o_101 P, o_102 P, o_103 P, o_104 P, o_105 P, o_106 P, o_107 P, o_111 P, o_112 P, o_113 P, o_119 P, o_120 P, o_121 P, o_122 P, o_123 P, o_124 P, o_125 P, o_126 P, o_127 P, o_128 P, o_129 P, o_130 P, o_131 P, o_132 P, o_133 P, o_134 P, o_135 P, o_136 P, o_137 P, o_138 P, o_139 P, o_140 P, o_141 P, o_142 P, o_143 P, o_144 P, o_145 P, o_146 P, o_147 P, o_148 P, o_149 P, o_150 P, o_151 P, o_152 P, o_153 P, o_154 P, o_155 P, o_156 P] } }
noncomputable abbrev pwt : Program := PySem.Challenge.pw_rs0097_01
noncomputable def envE : Env := { scope := pwt.main.scope, locals := mainNs, globals := mainNs, cells := [], code := .ref 30, frame := some 31 }
noncomputable def bE : List Stmt := behindTheImports pwt
noncomputable def cE : Code := .body bE envE
noncomputable def p0 : Pos := { line := 0, col := 0, endLine := 0, endCol := 0 }
noncomputable def p1 : Pos := { line := 53, col := 0, endLine := 53, endCol := 4 }
noncomputable def p2 : Pos := { line := 90, col := 0, endLine := 90, endCol := 9 }
noncomputable def p3 : Pos := { line := 91, col := 0, endLine := 91, endCol := 17 }
noncomputable def p4 : Pos := { line := 116, col := 0, endLine := 172, endCol := 15 }
noncomputable def sts1 : List Stmt := [topSt 1, topSt 2, topSt 3, topSt 4, topSt 5, topSt 6, topSt 7, topSt 8, topSt 9, topSt 10, topSt 11, topSt 12, topSt 13, topSt 14, topSt 15, topSt 16, topSt 17, topSt 18, topSt 19, topSt 20, topSt 21, topSt 22]
noncomputable def sts2 : List Stmt := [topSt 23, topSt 24, topSt 25, topSt 26, topSt 27, topSt 28, topSt 29, topSt 30, topSt 31, topSt 32, topSt 33, topSt 34, topSt 35, topSt 36, topSt 37, topSt 38, topSt 39, topSt 40, topSt 41, topSt 42, topSt 43, topSt 44, topSt 45, topSt 46, topSt 47, topSt 48, topSt 49, topSt 50, topSt 51, topSt 52, topSt 53, topSt 54, topSt 55, topSt 56, topSt 57, topSt 58, topSt 59]
noncomputable def sts3 : List Stmt := [topSt 60]
noncomputable def sts4 : List Stmt := [topSt 61, topSt 62, topSt 63, topSt 64, topSt 65, topSt 66, topSt 67]
noncomputable abbrev stT (t : Params → BT) (n k : Nat) (w : World) (os : OsState) : SharedT := ⟨t w.params, n, {}, #[], {}, k, os⟩
end
theorem bE_eq : bE = sts1 ++ (sts2 ++ (sts3 ++ (sts4 ++ []))) := by kernel_rfl
theorem hd_seen (w : World) : (fencedOpening treeTable pwt w 3892).map (fun s => ((List.range 18).map (fun i => s.heap.objs[i]?), (List.range 9).map (fun i => s.heap.objs[19 + i]?), s.heap.objs.size, s.heap.life, s.gens, s.drawn, s.toks)) = some ((low18 w.params).map some, (high9 w.params).map some, 28, {}, #[], {}, 276) := by kernel_rfl
noncomputable def strAt (o : Option Obj) (i : Nat) : Str := match o with
  | some ⟨_, _, .seq vs _, _⟩ => match vs[i]? with
    | some (.str x _) => x
    | _ => ⟨#[]⟩
  | _ => ⟨#[]⟩
theorem hd_18 (w : World) : (fencedOpening treeTable pwt w 3892).map (fun s => s.heap.objs[18]?) = (fencedOpening treeTable pwt w 3892).map (fun s => some (mk18 (strAt s.heap.objs[18]? 1) (strAt s.heap.objs[18]? 6))) := by kernel_rfl
theorem map_some_get {α : Type} {g : Nat → Option α} {l : List α} {n : Nat} (hn : l.length = n) (h : (List.range n).map g = l.map some) {i : Nat} (hi : i < n) : g i = l[i]? := by
  have := congrArg (fun x => x[i]?) h
  simp only [List.getElem?_map, List.getElem?_range hi, Option.map_some] at this
  have hli : i < l.length := by omega
  rw [List.getElem?_eq_getElem hli] at this ⊢
  simpa using this
theorem heap_of {h : Heap} {l1 l2 : List Obj} {x : Obj} (n1 : l1.length = 18) (n2 : l2.length = 9) (hs : h.objs.size = 28) (hl : h.life = {}) (h1 : (List.range 18).map (fun i => h.objs[i]?) = l1.map some) (hx : h.objs[18]? = some x) (h2 : (List.range 9).map (fun i => h.objs[19 + i]?) = l2.map some) : h = ⟨(l1 ++ x :: l2).toArray, {}⟩ := by
  obtain ⟨objs, life⟩ := h
  dsimp only at hs hl h1 hx h2
  subst hl
  have e : objs = (l1 ++ x :: l2).toArray := by
    apply Array.ext'
    show objs.toList = l1 ++ x :: l2
    apply List.ext_getElem?
    intro i
    rw [Array.getElem?_toList]
    rcases Nat.lt_or_ge i 18 with hi | hi
    · rw [List.getElem?_append_left (by omega)]
      exact map_some_get n1 h1 hi
    · rw [List.getElem?_append_right (by omega), n1]
      obtain ⟨j, rfl⟩ : ∃ j, i = 18 + j := ⟨i - 18, by omega⟩
      rw [show 18 + j - 18 = j by omega]
      cases j with
      | zero => exact hx
      | succ j =>
        rw [List.getElem?_cons_succ]
        rcases Nat.lt_or_ge j 9 with hj | hj
        · have := map_some_get (g := fun i => objs[19 + i]?) n2 h2 hj
          rw [show 18 + (j + 1) = 19 + j by omega]
          exact this
        · rw [Array.getElem?_eq_none (by omega), List.getElem?_eq_none (by omega)]
  rw [e]
theorem hd_open (w : World) : ∃ a c os, fencedOpening treeTable pwt w 3892 = some ⟨heap_68 a c w.params, #[], {}, 276, os⟩ := by
  obtain ⟨⟨h, g, d, k, os⟩, e, e'⟩ := Option.map_eq_some_iff.mp (hd_seen w)
  have h18 := hd_18 w
  rw [e] at h18
  simp only [Option.map_some, Option.some.injEq, Prod.mk.injEq] at e' h18
  obtain ⟨h1, h2, h3, h4, h5, h6, h7⟩ := e'
  have eh := heap_of (l1 := low18 w.params) (l2 := high9 w.params) rfl rfl h3 h4 h1 h18 h2
  exact ⟨_, _, os, by rw [e, eh, h5, h6, h7]; rfl⟩
theorem hd_size (a c : Str) (w : World) : ((heap_68 a c w.params).isNs mainGlobals && (#[] : Array GenState).size == 0, (heap_68 a c w.params).objs.size, (heap_68 a c w.params).nsMap mainGlobals "__annotations__") = (true, 28, some (.ref 6)) := by kernel_rfl
theorem hd_pre (a c : Str) (w : World) (os : OsState) : topGo treeTable pwt w 28 (some (.ref 6)) 12 ⟨heap_68 a c w.params, #[], {}, 276, os⟩ (topStub pwt) = some (⟨heap_72 a c w.params, #[], {}, 282, os⟩, ⟨denote treeTable (.body bE envE), cE, p0, [topFrame p0]⟩) := by kernel_rfl
theorem hd_block (a c : Str) (w : World) (os : OsState) : segRun treeTable pwt w 28 (some (.ref 6)) 1 1 ⟨heap_72 a c w.params, #[], {}, 282, os⟩ (blockOf bE envE cE p0 [topFrame p0]) = some (.next, (stT (tree_73 a c) 32 282 w os).abs, cE, p0) := by kernel_rfl
theorem hd_g1 (a c : Str) (w : World) (os : OsState) : segRunT treeTable pwt w 28 (some (.ref 6)) 1 393 (stT (tree_73 a c) 32 282 w os) (piecesOf sts1 envE cE p0 [topFrame p0]) = some (.next, stT (tree_107 a c) 63 403 w os, cE, p1) := by kernel_rfl
theorem hd_g2 (a c : Str) (w : World) (os : OsState) : segRunT treeTable pwt w 28 (some (.ref 6)) 1 334 (stT (tree_107 a c) 63 403 w os) (piecesOf sts2 envE cE p1 [topFrame p0]) = some (.next, stT (tree_108 a c) 63 477 w os, cE, p2) := by kernel_rfl
theorem hd_g3f (a c : Str) (w : World) (os : OsState) : segRunT treeTable pwt (w.withFollow "special-get-raises" false) 28 (some (.ref 6)) 1 979 (stT (tree_108 a c) 63 477 (w.withFollow "special-get-raises" false) os) (piecesOf sts3 envE cE p2 [topFrame p0]) = some (.next, stT (tree_113 a c) 66 574 (w.withFollow "special-get-raises" false) os, cE, p3) := by kernel_rfl
theorem hd_g3t (a c : Str) (w : World) (os : OsState) : segRunT treeTable pwt (w.withFollow "special-get-raises" true) 28 (some (.ref 6)) 1 979 (stT (tree_108 a c) 63 477 (w.withFollow "special-get-raises" true) os) (piecesOf sts3 envE cE p2 [topFrame p0]) = some (.next, stT (tree_113 a c) 66 574 (w.withFollow "special-get-raises" true) os, cE, p3) := by kernel_rfl
theorem hd_g3 (a c : Str) (w : World) : ∀ os : OsState, segRunT treeTable pwt w 28 (some (.ref 6)) 1 979 (stT (tree_108 a c) 63 477 w os) (piecesOf sts3 envE cE p2 [topFrame p0]) = some (.next, stT (tree_113 a c) 66 574 w os, cE, p3) :=
  byRow2 "special-get-raises" (P := fun w => ∀ os : OsState, segRunT treeTable pwt w 28 (some (.ref 6)) 1 979 (stT (tree_108 a c) 63 477 w os) (piecesOf sts3 envE cE p2 [topFrame p0]) = some (.next, stT (tree_113 a c) 66 574 w os, cE, p3)) (hd_g3f a c) (hd_g3t a c) w
theorem hd_g4 (a c : Str) (w : World) (os : OsState) : segRunT treeTable pwt w 28 (some (.ref 6)) 1 181 (stT (tree_113 a c) 66 574 w os) (piecesOf sts4 envE cE p3 [topFrame p0]) = some (.next, stT (tree_156 a c) 104 619 w os, cE, p4) := by kernel_rfl
theorem hd_fin (a c : Str) (w : World) (os : OsState) : topRun treeTable pwt w 28 (some (.ref 6)) 2 (stT (tree_156 a c) 104 619 w os).abs ⟨doneF .next, cE, p4, [topFrame p0]⟩ = some ⟨heap_157 a c w.params, #[], {}, 619, os⟩ := by kernel_rfl
theorem hd_run (a c : Str) (w : World) (os : OsState) : topRun treeTable pwt w 28 (some (.ref 6)) (12 + (1 + (393 + (334 + (979 + (181 + 2)))))) ⟨heap_68 a c w.params, #[], {}, 276, os⟩ (topStub pwt) = some ⟨heap_157 a c w.params, #[], {}, 619, os⟩ := by
  refine go_top (hd_pre a c w os) (piece_block (hd_block a c w os) ?_)
  rw [bE_eq]
  exact piece_app (segRun_of (hd_g1 a c w os)) (piece_app (segRun_of (hd_g2 a c w os)) (piece_app (segRun_of (hd_g3 a c w os)) (piece_app (segRun_of (hd_g4 a c w os)) (piece_nil (hd_fin a c w os)))))
theorem hd_looks (a c : Str) (w : World) : (fun os => ((staticsOk (importedModules pwt.main.body) (heap_68 a c w.params) (heap_157 a c w.params) && namesBound pwt (heap_157 a c w.params) && gensDone ⟨heap_157 a c w.params, #[], {}, 619, os⟩ && laidKept (heap_68 a c w.params) (heap_157 a c w.params)),
    openSeen vw loose (importedModules pwt.main.body) (fun s => xlAt vw [] s && recOk [] s) true ⟨heap_157 a c w.params, #[], {}, 619, os⟩, (kHook KF KA KA_eq).obs ⟨heap_157 a c w.params, #[], {}, 619, os⟩)) = fun _ => (true, openGood vw loose, (kHook KF KA KA_eq).val w) := by kernel_rfl
theorem left : LeftO pwt vw loose (fun s => xlAt vw [] s && recOk [] s) (kHook KF KA KA_eq).obs (kHook KF KA KA_eq).val 3892 := fun w => by
  obtain ⟨a, c, os, ho⟩ := hd_open w
  have hr := topRun_mono (3892 - (12 + (1 + (393 + (334 + (979 + (181 + 2))))))) _ _ _ _ (hd_run a c w os)
  have hz := hd_size a c w
  have hl := congrFun (hd_looks a c w) os
  simp only [Prod.mk.injEq] at hz hl
  obtain ⟨z1, z2, z3⟩ := hz
  obtain ⟨l1, l2, l3⟩ := hl
  have ht : topFrom treeTable pwt w 3892 ⟨heap_68 a c w.params, #[], {}, 276, os⟩ = some ⟨heap_157 a c w.params, #[], {}, 619, os⟩ := by
    unfold topFrom
    dsimp only
    rw [z1, z2, z3]
    show Option.bind (topRun treeTable pwt w 28 (some (.ref 6)) 3892 _ _) _ = _
    rw [show topRun treeTable pwt w 28 (some (.ref 6)) 3892 ⟨heap_68 a c w.params, #[], {}, 276, os⟩ (topStub pwt) = some ⟨heap_157 a c w.params, #[], {}, 619, os⟩ from hr]
    show (match staticsOk (importedModules pwt.main.body) (heap_68 a c w.params) (heap_157 a c w.params) && namesBound pwt (heap_157 a c w.params) && gensDone ⟨heap_157 a c w.params, #[], {}, 619, os⟩ && laidKept (heap_68 a c w.params) (heap_157 a c w.params) with | true => _ | false => _) = _
    rw [l1]
  show Option.map _ ((fencedOpening treeTable pwt w 3892).bind (topFrom treeTable pwt w 3892)) = _
  rw [ho, Option.bind_some, ht, Option.map_some]
  exact congrArg some (Prod.ext l2 l3)
end Mine
end

-- Head2
section
set_option maxRecDepth 100000
set_option maxHeartbeats 4000000
namespace Mine
open PySem PySem.Calls PySem.W PyProof.Rows
theorem said_row : PySem.Challenge.rw_rs0097_01.row.wellSaid = true := by kernel_rfl
theorem said : PySem.Challenge.rw_rs0097_01.wellSaid = true := by
  unfold OpenLaw.wellSaid
  rw [said_row, Bool.true_and]
  kernel_rfl
theorem wit : PySem.Challenge.rw_rs0097_01.row.toRowW.promised := ⟨[.list []], by decide +kernel, by decide +kernel⟩
noncomputable def posOf : Stmt → Pos
  | .FunctionDef _ _ _ _ _ _ _ _ _ p => p
  | _ => default
noncomputable def lawD : DefRec := { name := "law", params := paramsOf (topSt 67), body := bodyOf (topSt 67), scope := scopeOf (topSt 67), pos := posOf (topSt 67) }
theorem law_def : defOf vw PySem.Challenge.rw_rs0097_01.row.name = some (lawD, []) := by kernel_rfl
theorem law_text : PySem.Challenge.rw_rs0097_01.row.prog.theDef PySem.Challenge.rw_rs0097_01.row.name = some (lawD.params, lawD.body, lawD.scope) := by kernel_rfl
theorem law_kw : kwWritten? lawD.params.kwonlyargs lawD.params.kw_defaults = some [] := by kernel_rfl
theorem law_ok : (chainsOk vw && opensWell PySem.Challenge.rw_rs0097_01.row.prog && (frees PySem.Challenge.rw_rs0097_01.row.toRowW && PySem.Challenge.rw_rs0097_01.row.within.isEmpty)) = true := by kernel_rfl
theorem law_bare : PySem.Challenge.rw_rs0097_01.row.prog.bare := ⟨rfl, rfl, rfl, rfl, rfl, by decide +kernel⟩
theorem head (call : WalkO vw loose (XL vw []) (kHook KF KA KA_eq).says PySem.Challenge.rw_rs0097_01.row.toRowW lawD [] fun f vs => PySem.call f vs) : PySem.Challenge.rw_rs0097_01.Holds :=
  holds_law said fun said => holds_open (r := PySem.Challenge.rw_rs0097_01.row) (q := vw) (loose := loose) (Xt := fun s => xlAt vw [] s && recOk [] s) (XP := XL vw []) (N := 3892) left (kHook KF KA KA_eq).of (kHook KF KA KA_eq).keeps (fun s e => xl_of s (Bool.and_eq_true_iff.mp e).1) XL.keeps
    law_def law_text law_kw (fun s e => recFacts_of (Bool.and_eq_true_iff.mp e).2) rfl said law_ok law_bare wit call
end Mine
end

-- ReP
section
set_option maxHeartbeats 4000000
namespace Mine
open PySem PySem.Sre

theorem o16 : ops[16]? = some Op.LITERAL := rfl
theorem o15 : ops[15]? = some Op.JUMP := rfl
theorem o7 : ops[7]? = some Op.BRANCH := rfl
theorem o5 : ops[5]? = some Op.ASSERT_NOT := rfl
theorem o1 : ops[1]? = some Op.SUCCESS := rfl
theorem o6 : ops[6]? = some Op.AT := rfl

theorem accepts_lit {code : Array Nat} {i c : Nat} {seen : Seen} (h : code.getD i 0 = 16) : accepts code i c seen = .ok (c == code.getD (i + 1) 0, seen) := by
  unfold accepts; rw [h]; rfl

theorem exec_lit_no {m : M} (h : m.code.getD m.pc 0 = 16) (hp : m.lim ≤ m.pos ∨ m.text.getD m.pos 0 ≠ m.code.getD (m.pc + 1) 0) :
    ∃ seen, m.exec = { m with seen, answer := some false } := by
  have h0 : m.word 0 = 16 := h
  unfold M.exec
  rw [h0, o16]
  dsimp only
  by_cases hl : m.pos ≥ m.lim
  · rw [if_pos hl]; exact ⟨_, rfl⟩
  · rw [if_neg hl, accepts_lit h]
    have hc : (m.text.getD m.pos 0 == m.code.getD (m.pc + 1) 0) = false := by
      rcases hp with hp | hp
      · omega
      · simpa using hp
    rw [hc]; exact ⟨_, rfl⟩

theorem exec_lit_ok {m : M} (h : m.code.getD m.pc 0 = 16) (hl : m.pos < m.lim) (hc : m.text.getD m.pos 0 = m.code.getD (m.pc + 1) 0) :
    ∃ seen, m.exec = { m with seen, pc := m.pc + 2, pos := m.pos + 1 } := by
  have h0 : m.word 0 = 16 := h
  unfold M.exec
  rw [h0, o16]
  dsimp only
  rw [if_neg (by omega), accepts_lit h]
  have hc : (m.text.getD m.pos 0 == m.code.getD (m.pc + 1) 0) = true := by simpa using hc
  rw [hc]
  refine ⟨m.seen.add 16, ?_⟩
  dsimp only
  have e : itemWidth m.code m.pc = 2 := by unfold itemWidth; rw [h]; rfl
  rw [e]

theorem exec_jump {m : M} (h : m.code.getD m.pc 0 = 15) : ∃ seen, m.exec = { m with seen, pc := m.pc + 1 + m.code.getD (m.pc + 1) 0 } := by
  have h0 : m.word 0 = 15 := h
  unfold M.exec
  rw [h0, o15]
  exact ⟨_, rfl⟩

theorem exec_success {m : M} (h : m.code.getD m.pc 0 = 1) (hw : m.wholeText = false) (ha : m.mustAdvance = false) : ∃ seen, m.exec = { m with seen, handed := m.pos, answer := some true } := by
  have h0 : m.word 0 = 1 := h
  unfold M.exec
  rw [h0, o1]
  dsimp only
  rw [hw, ha]
  simp only [Bool.false_and, Bool.or_self, Bool.and_false, Bool.false_eq_true, if_false]
  exact ⟨_, rfl⟩

theorem exec_branch {m : M} (h : m.code.getD m.pc 0 = 7) : ∃ seen, m.exec = { m with seen }.alternative (m.pc + 1) ({ m with seen }.keep m.inner.isSome) := by
  have h0 : m.word 0 = 7 := h
  unfold M.exec
  rw [h0, o7]
  exact ⟨_, rfl⟩

theorem exec_not {m : M} (h : m.code.getD m.pc 0 = 5) (h2 : m.code.getD (m.pc + 2) 0 = 0) : ∃ seen, m.exec = { m with seen }.attempt { { m with seen }.frame .lookNot with kept := { m with seen }.keep m.inner.isSome } (m.pc + 3) m.pos false := by
  have h0 : m.word 0 = 5 := h
  unfold M.exec
  rw [h0, o5]
  dsimp only
  have e : ∀ seen, M.word { m with seen } 2 = 0 := fun _ => h2
  simp only [e, Nat.not_lt_zero, if_false, Bool.true_and, Nat.sub_zero, if_true]
  exact ⟨_, rfl⟩

theorem exec_at {m : M} (h : m.code.getD m.pc 0 = 6) (h1 : m.code.getD (m.pc + 1) 0 = 1) :
    ∃ seen, m.exec = if (m.pos == 0 || m.text.getD (m.pos - 1) 0 == 10) then { m with seen, pc := m.pc + 2 } else { m with seen, answer := some false } := by
  have h0 : m.word 0 = 6 := h
  unfold M.exec
  rw [h0, o6]
  dsimp only
  have e : ∀ seen, M.word { m with seen } 1 = 1 := fun _ => h1
  simp only [e]
  unfold M.isAt
  dsimp only
  exact ⟨_, rfl⟩


noncomputable def code1 : Array Nat := #[14, 4, 0, 1, 1, 6, 1, 16, 46, 1]
noncomputable def code2 : Array Nat := #[14, 9, 4, 1, 2, 16, 10, 16, 13, 0, 7, 7, 16, 13, 16, 10, 15, 18, 5, 16, 10, 15, 13, 11, 16, 13, 5, 5, 0, 16, 10, 1, 15, 2, 0, 1]

theorem rf {m : M} {n : Nat} (h : m.outcome = none) : m.runFor (n + 1) = m.step.runFor n := by
  rw [M.runFor, h]; rfl
theorem rf_done {m : M} : ∀ {n : Nat}, m.outcome.isSome = true → m.runFor n = m
  | 0, _ => rfl
  | n + 1, h => by rw [M.runFor, if_pos h]
theorem step_exec {m : M} (h : m.outcome = none) (ha : m.answer = none) (hp : m.pc < m.code.size) : m.step = m.exec := by
  unfold M.step; rw [h, ha]; simp only [Option.isSome_none, Bool.false_eq_true, if_false]; rw [if_pos hp]

noncomputable def S2 (text : Array Nat) (start pc pos handed : Nat) (out : Bool) (frames : List Sre.Frame) (weight : Nat) (answer : Option Bool) (seen : Seen) : M :=
  { code := code2, text, lim := text.size, start, lastStart := text.size, pc, pos, handed, outermost := out, marks := #[], frames, weight, answer, seen }

noncomputable def fS (s : Nat) (out : Bool) : Sre.Frame := { wait := .nextStart, pc := 10, pos := s, outermost := out }
noncomputable def fB (pc s : Nat) (out : Bool) : Sre.Frame := { wait := .nextBranch, pc, pos := s, outermost := out }
noncomputable def fN (pc s : Nat) (out : Bool) : Sre.Frame := { wait := .lookNot, pc, pos := s, outermost := out }

structure Found (m : M) (s e : Nat) : Prop where
  o : ∃ x, m.outcome = some x ∧ (match x with | .matched => True | _ => False)
  s : m.start = s
  h : m.handed = e

theorem fin2 {text : Array Nat} {s pos : Nat} {out : Bool} {k : Nat} {seen : Seen} :
    Found ((S2 text s 35 pos s out [fB k s out, fS s out] 2 none seen).runFor 4) s pos := by
  rw [rf rfl, step_exec rfl rfl (by show 35 < code2.size; decide)]
  obtain ⟨seen', e⟩ := exec_success (m := S2 text s 35 pos s out [fB k s out, fS s out] 2 none seen) rfl rfl rfl
  rw [e]
  exact ⟨⟨.matched, rfl, trivial⟩, rfl, rfl⟩

theorem start2 {text : Array Nat} {s : Nat} {out : Bool} {seen : Seen} :
    ∃ seen', (S2 text s 10 s s out [fS s out] 1 none seen).step = S2 text s 12 s s out [fB 11 s out, fS s out] 2 none seen' := by
  rw [step_exec rfl rfl (by show 10 < code2.size; decide)]
  obtain ⟨seen', e⟩ := exec_branch (m := S2 text s 10 s s out [fS s out] 1 none seen) rfl
  exact ⟨seen', e.trans rfl⟩

theorem run2A {text : Array Nat} {s : Nat} {out : Bool} {seen : Seen} (hs : s < text.size) (hc : text.getD s 0 = 10) :
    Found ((S2 text s 10 s s out [fS s out] 1 none seen).runFor 9) s (s + 1) := by
  rw [rf rfl]
  obtain ⟨s1, e1⟩ := @start2 text s out seen
  rw [e1, rf rfl, step_exec rfl rfl (by show 12 < code2.size; decide)]
  obtain ⟨s2, e2⟩ := exec_lit_no (m := S2 text s 12 s s out [fB 11 s out, fS s out] 2 none s1) rfl (.inr (by show text.getD s 0 ≠ 13; omega))
  rw [e2, rf rfl]
  have e3 : M.step { S2 text s 12 s s out [fB 11 s out, fS s out] 2 none s1 with seen := s2, answer := some false } = S2 text s 19 s s out [fB 18 s out, fS s out] 2 none s2 := rfl
  rw [e3, rf rfl, step_exec rfl rfl (by show 19 < code2.size; decide)]
  obtain ⟨s4, e4⟩ := exec_lit_ok (m := S2 text s 19 s s out [fB 18 s out, fS s out] 2 none s2) rfl hs hc
  rw [e4, rf rfl, step_exec rfl rfl (by show 21 < code2.size; decide)]
  obtain ⟨s5, e5⟩ := exec_jump (m := S2 text s 21 (s + 1) s out [fB 18 s out, fS s out] 2 none s4) rfl
  show Found (M.runFor 4 (M.exec (S2 text s 21 (s + 1) s out [fB 18 s out, fS s out] 2 none s4))) s (s + 1)
  rw [e5]
  exact fin2 (k := 18) (seen := s5)

theorem run2B {text : Array Nat} {s : Nat} {out : Bool} {seen : Seen} (hs : s + 1 < text.size) (hc : text.getD s 0 = 13) (hd : text.getD (s + 1) 0 = 10) :
    Found ((S2 text s 10 s s out [fS s out] 1 none seen).runFor 8) s (s + 2) := by
  rw [rf rfl]
  obtain ⟨s1, e1⟩ := @start2 text s out seen
  rw [e1, rf rfl, step_exec rfl rfl (by show 12 < code2.size; decide)]
  obtain ⟨s2, e2⟩ := exec_lit_ok (m := S2 text s 12 s s out [fB 11 s out, fS s out] 2 none s1) rfl (by show s < text.size; omega) hc
  rw [e2, rf rfl, step_exec rfl rfl (by show 14 < code2.size; decide)]
  obtain ⟨s3, e3⟩ := exec_lit_ok (m := S2 text s 14 (s + 1) s out [fB 11 s out, fS s out] 2 none s2) rfl hs hd
  show Found (M.runFor 5 (M.exec (S2 text s 14 (s + 1) s out [fB 11 s out, fS s out] 2 none s2))) s (s + 2)
  rw [e3, rf rfl, step_exec rfl rfl (by show 16 < code2.size; decide)]
  obtain ⟨s5, e5⟩ := exec_jump (m := S2 text s 16 (s + 2) s out [fB 11 s out, fS s out] 2 none s3) rfl
  show Found (M.runFor 4 (M.exec (S2 text s 16 (s + 2) s out [fB 11 s out, fS s out] 2 none s3))) s (s + 2)
  rw [e5]
  exact fin2 (k := 11) (seen := s5)

theorem run2C {text : Array Nat} {s : Nat} {out : Bool} {seen : Seen} (hs : s < text.size) (hc : text.getD s 0 = 13) (hd : text.size ≤ s + 1 ∨ text.getD (s + 1) 0 ≠ 10) :
    Found ((S2 text s 10 s s out [fS s out] 1 none seen).runFor 15) s (s + 1) := by
  rw [rf rfl]
  obtain ⟨s1, e1⟩ := @start2 text s out seen
  rw [e1, rf rfl, step_exec rfl rfl (by show 12 < code2.size; decide)]
  obtain ⟨s2, e2⟩ := exec_lit_ok (m := S2 text s 12 s s out [fB 11 s out, fS s out] 2 none s1) rfl hs hc
  rw [e2, rf rfl, step_exec rfl rfl (by show 14 < code2.size; decide)]
  obtain ⟨s3, e3⟩ := exec_lit_no (m := S2 text s 14 (s + 1) s out [fB 11 s out, fS s out] 2 none s2) rfl hd
  show Found (M.runFor 12 (M.exec (S2 text s 14 (s + 1) s out [fB 11 s out, fS s out] 2 none s2))) s (s + 1)
  rw [e3, rf rfl]
  have e4 : M.step { S2 text s 14 (s + 1) s out [fB 11 s out, fS s out] 2 none s2 with seen := s3, answer := some false } = S2 text s 19 s s out [fB 18 s out, fS s out] 2 none s3 := rfl
  rw [e4, rf rfl, step_exec rfl rfl (by show 19 < code2.size; decide)]
  obtain ⟨s5, e5⟩ := exec_lit_no (m := S2 text s 19 s s out [fB 18 s out, fS s out] 2 none s3) rfl (.inr (by show text.getD s 0 ≠ 10; omega))
  rw [e5, rf rfl]
  have e6 : M.step { S2 text s 19 s s out [fB 18 s out, fS s out] 2 none s3 with seen := s5, answer := some false } = S2 text s 24 s s out [fB 23 s out, fS s out] 2 none s5 := rfl
  rw [e6, rf rfl, step_exec rfl rfl (by show 24 < code2.size; decide)]
  obtain ⟨s7, e7⟩ := exec_lit_ok (m := S2 text s 24 s s out [fB 23 s out, fS s out] 2 none s5) rfl hs hc
  rw [e7, rf rfl, step_exec rfl rfl (by show 26 < code2.size; decide)]
  obtain ⟨s8, e8⟩ := exec_not (m := S2 text s 26 (s + 1) s out [fB 23 s out, fS s out] 2 none s7) rfl rfl
  show Found (M.runFor 7 (M.exec (S2 text s 26 (s + 1) s out [fB 23 s out, fS s out] 2 none s7))) s (s + 1)
  rw [e8]
  show Found (M.runFor 7 (S2 text s 29 (s + 1) (s + 1) false [fN 26 (s + 1) out, fB 23 s out, fS s out] 3 none s8)) s (s + 1)
  rw [rf rfl, step_exec rfl rfl (by show 29 < code2.size; decide)]
  obtain ⟨s9, e9⟩ := exec_lit_no (m := S2 text s 29 (s + 1) (s + 1) false [fN 26 (s + 1) out, fB 23 s out, fS s out] 3 none s8) rfl hd
  rw [e9, rf rfl]
  have e10 : M.step { S2 text s 29 (s + 1) (s + 1) false [fN 26 (s + 1) out, fB 23 s out, fS s out] 3 none s8 with seen := s9, answer := some false } = S2 text s 32 (s + 1) (s + 1) out [fB 23 s out, fS s out] 2 none s9 := rfl
  rw [e10, rf rfl, step_exec rfl rfl (by show 32 < code2.size; decide)]
  obtain ⟨s11, e11⟩ := exec_jump (m := S2 text s 32 (s + 1) (s + 1) out [fB 23 s out, fS s out] 2 none s9) rfl
  rw [e11]
  show Found (M.runFor 4 (S2 text s 35 (s + 1) (s + 1) out [fB 23 s out, fS s out] 2 none s11)) s (s + 1)
  rw [rf rfl, step_exec rfl rfl (by show 35 < code2.size; decide)]
  obtain ⟨s12, e12⟩ := exec_success (m := S2 text s 35 (s + 1) (s + 1) out [fB 23 s out, fS s out] 2 none s11) rfl rfl rfl
  rw [e12]
  exact ⟨⟨.matched, rfl, trivial⟩, rfl, rfl⟩

end Mine
end

-- ReQ
section
set_option maxHeartbeats 4000000
namespace Mine
open PySem PySem.Sre

theorem rf_add {m : M} : ∀ {a b : Nat}, m.runFor (a + b) = (m.runFor a).runFor b
  | 0, b => by rw [Nat.zero_add]; rfl
  | a + 1, b => by
    by_cases h : m.outcome.isSome = true
    · rw [rf_done h, rf_done h, rf_done h]
    · have h' : m.outcome = none := by simpa using h
      rw [show a + 1 + b = (a + b) + 1 by omega, rf h', rf h', rf_add]

theorem Found.more {m : M} {a s e : Nat} (h : Found (m.runFor a) s e) (b : Nat) (hb : a ≤ b) : Found (m.runFor b) s e := by
  obtain ⟨c, rfl⟩ := Nat.le.dest hb
  rw [rf_add, rf_done (by obtain ⟨x, hx, _⟩ := h.o; rw [hx]; rfl)]
  exact h

noncomputable def Failed (m : M) : Prop := ∃ x, m.outcome = some x ∧ (match x with | .failed => True | _ => False)
theorem Failed.more {m : M} {a : Nat} (h : Failed (m.runFor a)) (b : Nat) (hb : a ≤ b) : Failed (m.runFor b) := by
  obtain ⟨c, rfl⟩ := Nat.le.dest hb
  rw [rf_add, rf_done (by obtain ⟨x, hx, _⟩ := h; rw [hx]; rfl)]
  exact h

theorem inSet2 (c : Nat) (seen : Seen) : ∃ seen', inSet code2 c code2.size 5 true seen = .ok ((c == 10 || c == 13), seen') := by
  have e : code2.size = 36 := rfl
  rw [e]
  unfold inSet
  have o16 : ops[16]? = some Op.LITERAL := rfl
  have o0 : ops[0]? = some Op.FAILURE := rfl
  have w5 : code2.getD (5 + 0) 0 = 16 := rfl
  have w6 : code2.getD (5 + 1) 0 = 10 := rfl
  simp only [w5, w6, o16]
  by_cases h : c = 10
  · subst h; exact ⟨_, by simp; rfl⟩
  · have hb : (c == 10) = false := by simpa using h
    simp only [hb, Bool.false_eq_true, if_false, Bool.false_or]
    unfold inSet
    have w7 : code2.getD (5 + 2 + 0) 0 = 16 := rfl
    have w8 : code2.getD (5 + 2 + 1) 0 = 13 := rfl
    simp only [w7, w8, o16]
    by_cases h' : c = 13
    · subst h'; exact ⟨_, by simp; rfl⟩
    · have hb' : (c == 13) = false := by simpa using h'
      simp only [hb', Bool.false_eq_true, if_false]
      unfold inSet
      have w9 : code2.getD (5 + 2 + 2 + 0) 0 = 0 := rfl
      simp only [w9, o0]
      exact ⟨_, rfl⟩

noncomputable def nl (c : Nat) : Bool := c == 10 || c == 13

theorem admitted2 {m : M} (hcode : m.code = code2) : ∀ (fuel s : Nat) (seen : Seen), m.lim + 1 ≤ fuel + s →
    (∃ seen', M.admitted m fuel s seen = .ok (none, seen') ∧ ∀ i, s ≤ i → i < m.lim → nl (m.text.getD i 0) = false) ∨
    (∃ s' seen', M.admitted m fuel s seen = .ok (some s', seen') ∧ s ≤ s' ∧ s' < m.lim ∧ nl (m.text.getD s' 0) = true ∧ ∀ i, s ≤ i → i < s' → nl (m.text.getD i 0) = false)
  | 0, s, seen, h => .inl ⟨seen, rfl, fun i h1 h2 => by omega⟩
  | fuel + 1, s, seen, h => by
    unfold M.admitted
    by_cases hs : s ≥ m.lim
    · rw [if_pos hs]; exact .inl ⟨seen, rfl, fun i h1 h2 => by omega⟩
    · rw [if_neg hs, hcode]
      obtain ⟨seen', e⟩ := inSet2 (m.text.getD s 0) seen
      rw [e]
      cases hn : nl (m.text.getD s 0) with
      | true =>
        have hn' : (m.text.getD s 0 == 10 || m.text.getD s 0 == 13) = true := hn
        rw [hn']
        exact .inr ⟨s, seen', rfl, Nat.le_refl _, by omega, hn, fun i h1 h2 => by omega⟩
      | false =>
        have hn' : (m.text.getD s 0 == 10 || m.text.getD s 0 == 13) = false := hn
        rw [hn']
        dsimp only
        rcases admitted2 hcode fuel (s + 1) seen' (by omega) with ⟨s2, e2, h2⟩ | ⟨s', s2, e2, h2, h3, h4, h5⟩
        · refine .inl ⟨s2, e2, fun i a b => ?_⟩
          rcases Nat.lt_or_ge s i with q | q
          · exact h2 i q b
          · have : i = s := by omega
            rw [this]; exact hn
        · refine .inr ⟨s', s2, e2, by omega, h3, h4, fun i a b => ?_⟩
          rcases Nat.lt_or_ge s i with q | q
          · exact h5 i q b
          · have : i = s := by omega
            rw [this]; exact hn

noncomputable def end2 (text : Array Nat) (s : Nat) : Nat := if text.getD s 0 = 13 ∧ s + 1 < text.size ∧ text.getD (s + 1) 0 = 10 then s + 2 else s + 1

noncomputable def m02 (text : Array Nat) (p : Nat) : M := { code := code2, text, lim := text.size, start := p, lastStart := text.size, pc := 10, pos := p, handed := p, marks := #[], seen := ({} : Seen).add 14 }
theorem fs2 (text : Array Nat) (p : Nat) : forSearch code2 text 0 p text.size false =
    if (decide (p > text.size) || decide (text.size - p < 1)) = true then { m02 text p with lastStart := 0 }.say false else (m02 text p).attemptFrom p true := rfl
theorem af2 (text : Array Nat) (p : Nat) : (m02 text p).attemptFrom p true = match M.admitted (m02 text p) (text.size + 1 - p) p (({} : Seen).add 14) with
      | .ok (some s, seen) => { m02 text p with mustAdvance := false, seen }.attemptAt s true
      | .ok (none, seen) => { m02 text p with seen }.say false
      | .error why => (m02 text p).stick why := rfl

theorem search2 (text : Array Nat) (p : Nat) (hp : p ≤ text.size) :
    (Failed ((forSearch code2 text 0 p text.size false).runFor 16) ∧ ∀ i, p ≤ i → i < text.size → nl (text.getD i 0) = false) ∨
    (∃ s, Found ((forSearch code2 text 0 p text.size false).runFor 16) s (end2 text s) ∧ p ≤ s ∧ s < text.size ∧ nl (text.getD s 0) = true ∧ ∀ i, p ≤ i → i < s → nl (text.getD i 0) = false) := by
  rw [fs2]
  by_cases hl : p > text.size ∨ text.size - p < 1
  · rw [if_pos (by simpa using hl)]
    exact .inl ⟨⟨.failed, rfl, trivial⟩, fun i h1 h2 => by omega⟩
  · rw [if_neg (by simpa using hl), af2]
    rcases admitted2 (m := m02 text p) rfl (text.size + 1 - p) p (({} : Seen).add 14) (by show text.size + 1 ≤ _; omega) with ⟨s2, e2, h2⟩ | ⟨s', s2, e2, h2, h3, h4, h5⟩
    · rw [e2]
      exact .inl ⟨⟨.failed, rfl, trivial⟩, h2⟩
    · rw [e2]
      refine .inr ⟨s', ?_, h2, h3, h4, h5⟩
      have h3 : s' < text.size := h3
      have h4 : nl (text.getD s' 0) = true := h4
      show Found (M.runFor 16 (S2 text s' 10 s' s' true [fS s' true] 1 none s2)) s' _
      unfold end2
      by_cases hA : text.getD s' 0 = 10
      · rw [if_neg (by omega)]
        exact (run2A h3 hA).more 16 (by decide)
      · have hB : text.getD s' 0 = 13 := by
          unfold nl at h4
          simp only [Bool.or_eq_true, beq_iff_eq] at h4
          omega
        by_cases hC : s' + 1 < text.size ∧ text.getD (s' + 1) 0 = 10
        · rw [if_pos ⟨hB, hC⟩]
          exact (run2B hC.1 hB hC.2).more 16 (by decide)
        · rw [if_neg (fun q => hC q.2)]
          refine (run2C h3 hB ?_).more 16 (by decide)
          by_cases hD : s' + 1 < text.size
          · exact .inr fun q => hC ⟨hD, q⟩
          · exact .inl (by omega)

/-! pattern 1 -/
noncomputable def S1 (text : Array Nat) (start pc pos handed : Nat) (out : Bool) (frames : List Sre.Frame) (weight : Nat) (answer : Option Bool) (seen : Seen) : M :=
  { code := code1, text, lim := text.size, start, lastStart := text.size, pc, pos, handed, outermost := out, marks := #[], frames, weight, answer, seen }
noncomputable def fT (s : Nat) (out : Bool) : Sre.Frame := { wait := .nextStart, pc := 5, pos := s, outermost := out }

noncomputable def bol (text : Array Nat) (s : Nat) : Bool := s == 0 || text.getD (s - 1) 0 == 10
noncomputable def hit (text : Array Nat) (s : Nat) : Bool := bol text s && text.getD s 0 == 46

theorem again1 {text : Array Nat} {s pc pos handed : Nat} {out : Bool} {seen : Seen} (h : s < text.size) :
    (S1 text s pc pos handed out [fT s out] 1 (some false) seen).step = S1 text (s + 1) 5 (s + 1) (s + 1) false [fT (s + 1) false] 1 none seen := by
  show (if s < text.size then M.attemptFrom _ _ _ else M.say _ _) = _
  rw [if_pos h]
  rfl
theorem over1 {text : Array Nat} {s pc pos handed : Nat} {out : Bool} {seen : Seen} (h : ¬ s < text.size) :
    Failed ((S1 text s pc pos handed out [fT s out] 1 (some false) seen).runFor 2) := by
  rw [rf rfl]
  have e : (S1 text s pc pos handed out [fT s out] 1 (some false) seen).step = S1 text s 5 s handed out [] 0 (some false) seen := by
    show (if s < text.size then M.attemptFrom _ _ _ else M.say _ _) = _
    rw [if_neg h]
    rfl
  rw [e]
  exact ⟨.failed, rfl, trivial⟩

theorem run1 {text : Array Nat} : ∀ (d s : Nat) (out : Bool) (seen : Seen), s + d = text.size →
    (Failed ((S1 text s 5 s s out [fT s out] 1 none seen).runFor (3 * d + 5)) ∧ ∀ i, s ≤ i → i < text.size → hit text i = false) ∨
    (∃ s', Found ((S1 text s 5 s s out [fT s out] 1 none seen).runFor (3 * d + 5)) s' (s' + 1) ∧ s ≤ s' ∧ s' < text.size ∧ hit text s' = true ∧ ∀ i, s ≤ i → i < s' → hit text i = false) := by
  intro d
  induction d with
  | zero =>
    intro s out seen hsz
    refine .inl ⟨?_, fun i a b => by omega⟩
    rw [rf rfl, step_exec rfl rfl (by show 5 < code1.size; decide)]
    obtain ⟨s1, e1⟩ := exec_at (m := S1 text s 5 s s out [fT s out] 1 none seen) rfl rfl
    rw [e1]
    split
    · rw [rf rfl, step_exec rfl rfl (by show 7 < code1.size; decide)]
      obtain ⟨s2, e2⟩ := exec_lit_no (m := S1 text s 7 s s out [fT s out] 1 none s1) rfl (.inl (by show text.size ≤ s; omega))
      show Failed (M.runFor 3 (M.exec (S1 text s 7 s s out [fT s out] 1 none s1)))
      rw [e2]
      exact (over1 (text := text) (s := s) (pc := 7) (pos := s) (handed := s) (out := out) (seen := s2) (by omega)).more 3 (by decide)
    · exact (over1 (text := text) (s := s) (pc := 5) (pos := s) (handed := s) (out := out) (seen := s1) (by omega)).more 4 (by decide)
  | succ d ih =>
    intro s out seen hsz
    have hs : s < text.size := by omega
    have next : ∀ (seen' : Seen) (k : Nat), 1 ≤ k → k ≤ 3 → hit text s = false → (S1 text s 5 s s out [fT s out] 1 none seen).runFor k = S1 text (s + 1) 5 (s + 1) (s + 1) false [fT (s + 1) false] 1 none seen' →
        (Failed ((S1 text s 5 s s out [fT s out] 1 none seen).runFor (3 * (d + 1) + 5)) ∧ ∀ i, s ≤ i → i < text.size → hit text i = false) ∨
        (∃ s', Found ((S1 text s 5 s s out [fT s out] 1 none seen).runFor (3 * (d + 1) + 5)) s' (s' + 1) ∧ s ≤ s' ∧ s' < text.size ∧ hit text s' = true ∧ ∀ i, s ≤ i → i < s' → hit text i = false) := by
      intro seen' k h1 h3 hno e
      rcases ih (s + 1) false seen' (by omega) with ⟨a, b⟩ | ⟨s', a, b, c, d', e'⟩
      · refine .inl ⟨?_, fun i q1 q2 => ?_⟩
        · rw [← e, ← rf_add] at a
          exact a.more _ (by omega)
        · rcases Nat.lt_or_ge s i with q | q
          · exact b i q q2
          · have : i = s := by omega
            rw [this]; exact hno
      · refine .inr ⟨s', ?_, by omega, c, d', fun i q1 q2 => ?_⟩
        · rw [← e, ← rf_add] at a
          exact a.more _ (by omega)
        · rcases Nat.lt_or_ge s i with q | q
          · exact e' i q q2
          · have : i = s := by omega
            rw [this]; exact hno
    obtain ⟨s1, e1⟩ := exec_at (m := S1 text s 5 s s out [fT s out] 1 none seen) rfl rfl
    have st : (S1 text s 5 s s out [fT s out] 1 none seen).step = _ := (step_exec rfl rfl (by show 5 < code1.size; decide)).trans e1
    cases hb : bol text s with
    | false =>
      have hb' : ¬ ((S1 text s 5 s s out [fT s out] 1 none seen).pos == 0 || (S1 text s 5 s s out [fT s out] 1 none seen).text.getD ((S1 text s 5 s s out [fT s out] 1 none seen).pos - 1) 0 == 10) = true := by
        show ¬ (bol text s = true); rw [hb]; decide
      rw [if_neg hb'] at st
      refine next s1 2 (by decide) (by decide) (by unfold hit; rw [hb]; rfl) ?_
      rw [rf rfl, st, rf rfl]
      show M.runFor 0 (M.step (S1 text s 5 s s out [fT s out] 1 (some false) s1)) = _
      rw [again1 hs]; rfl
    | true =>
      have hb' : ((S1 text s 5 s s out [fT s out] 1 none seen).pos == 0 || (S1 text s 5 s s out [fT s out] 1 none seen).text.getD ((S1 text s 5 s s out [fT s out] 1 none seen).pos - 1) 0 == 10) = true := hb
      rw [if_pos hb'] at st
      by_cases hc : text.getD s 0 = 46
      · refine .inr ⟨s, ?_, Nat.le_refl _, hs, by unfold hit; rw [hb, hc]; rfl, fun i a b => by omega⟩
        refine Found.more (a := 5) ?_ _ (by omega)
        rw [rf rfl, st, rf rfl]
        show Found (M.runFor 3 (M.step (S1 text s 7 s s out [fT s out] 1 none s1))) _ _
        rw [step_exec rfl rfl (by show 7 < code1.size; decide)]
        obtain ⟨s2, e2⟩ := exec_lit_ok (m := S1 text s 7 s s out [fT s out] 1 none s1) rfl hs hc
        rw [e2, rf rfl, step_exec rfl rfl (by show 9 < code1.size; decide)]
        obtain ⟨s3, e3⟩ := exec_success (m := S1 text s 9 (s + 1) s out [fT s out] 1 none s2) rfl rfl rfl
        show Found (M.runFor 2 (M.exec (S1 text s 9 (s + 1) s out [fT s out] 1 none s2))) _ _
        rw [e3]
        exact ⟨⟨.matched, rfl, trivial⟩, rfl, rfl⟩
      · obtain ⟨s2, e2⟩ := exec_lit_no (m := S1 text s 7 s s out [fT s out] 1 none s1) rfl (.inr hc)
        refine next s2 3 (by decide) (by decide) (by unfold hit; rw [hb]; simpa using hc) ?_
        rw [rf rfl, st, rf rfl]
        show M.runFor 1 (M.step (S1 text s 7 s s out [fT s out] 1 none s1)) = _
        rw [step_exec rfl rfl (by show 7 < code1.size; decide), e2, rf rfl]
        show M.runFor 0 (M.step (S1 text s 7 s s out [fT s out] 1 (some false) s2)) = _
        rw [again1 hs]; rfl

noncomputable def m01 (text : Array Nat) (p : Nat) : M := { code := code1, text, lim := text.size, start := p, lastStart := text.size, pc := 5, pos := p, handed := p, marks := #[], seen := ({} : Seen).add 14 }
theorem fs1 (text : Array Nat) (p : Nat) : forSearch code1 text 0 p text.size false =
    if (decide (p > text.size) || decide (text.size - p < 1)) = true then { m01 text p with lastStart := 0 }.say false else (m01 text p).attemptFrom p true := rfl
theorem af1 (text : Array Nat) (p : Nat) : (m01 text p).attemptFrom p true = S1 text p 5 p p true [fT p true] 1 none (({} : Seen).add 14) := rfl

theorem search1 (text : Array Nat) (p : Nat) (hp : p ≤ text.size) :
    (Failed ((forSearch code1 text 0 p text.size false).runFor (3 * text.size + 5)) ∧ ∀ i, p ≤ i → i < text.size → hit text i = false) ∨
    (∃ s, Found ((forSearch code1 text 0 p text.size false).runFor (3 * text.size + 5)) s (s + 1) ∧ p ≤ s ∧ s < text.size ∧ hit text s = true ∧ ∀ i, p ≤ i → i < s → hit text i = false) := by
  rw [fs1]
  by_cases hl : p > text.size ∨ text.size - p < 1
  · rw [if_pos (by simpa using hl)]
    exact .inl ⟨Failed.more (a := 1) ⟨.failed, rfl, trivial⟩ _ (by omega), fun i h1 h2 => by omega⟩
  · rw [if_neg (by simpa using hl), af1]
    rcases run1 (text := text) (text.size - p) p true (({} : Seen).add 14) (by omega) with ⟨a, b⟩ | ⟨s', a, b⟩
    · exact .inl ⟨a.more _ (by omega), b⟩
    · exact .inr ⟨s', a.more _ (by omega), b⟩

end Mine
end

-- ReW
section
set_option maxHeartbeats 4000000
namespace Mine
open PySem PySem.Calls PySem.W PyProof.Rows PySem.Builtin

theorem slot_sub : Slot "re.Pattern" "sub" "re.Pattern.sub" :=
  .of (owner := "re.Pattern") (n := "sub") (by rw [typeLookup_type, builtinLookup_eq_fast]; kernel_rfl) (by decide +kernel) (by decide +kernel) (by decide +kernel)
    (by first | exact .inl (by decide +kernel) | exact .inr (by decide +kernel)) (by rw [isSubtype_type]; kernel_rfl)
theorem entry_sub : entryFor table "re.Pattern.sub" = some Builtin.«re.Pattern.sub» := entryFor_of_tree (by kernel_rfl)
theorem entry_loop : entryFor table "re.Pattern.sub.loop" = some Builtin.«re.Pattern.sub.loop» := entryFor_of_tree (by kernel_rfl)
theorem args_sub (a b c : Value) : argsOk "re.Pattern.sub" ⟨[a, b, c], []⟩ := by unfold argsOk; kernel_rfl
theorem pa_pattern : PlainAttrs "re.Pattern" := ⟨⟨"object.__getattribute__", by rw [typeLookup_type, builtinLookup_eq_fast]; kernel_rfl, by decide +kernel⟩, by rw [typeLookup_type, builtinLookup_eq_fast]; kernel_rfl⟩
theorem type_sub : typeOf (.builtin "re.Pattern.sub") = pure (.type "method_descriptor") := by show builtinType _ = _; rw [builtinType_eq_fast]; kernel_rfl
theorem str_no_call : typeLookup (.type "str") "__call__" = pure none := by rw [typeLookup_type, builtinLookup_eq_fast]; kernel_rfl

section
variable {prog : Program} {w : World} {A : Around} {E : Value → Shared → Prop} {s : Shared}

theorem wpAny_drive {Q : Sre.M → Shared → Prop} : ∀ (n turns : Nat) (m : Sre.M), n ≤ turns → ((m.runFor (4 * n)).outcome).isSome = true → Q (m.runFor (4 * n)) s →
    wpAny (model prog w) A (Re.reDrive (turns + 1) m) Q E s
  | 0, turns, m, _, h, hq => by
    unfold Re.reDrive
    have e : m.runFor Re.reTurnSteps = m := rf_done h
    rw [e]
    have h' : m.outcome.isSome = true := h
    show wpAny _ _ (if m.outcome.isSome = true then pure m else _) _ _ _
    rw [if_pos h']
    exact wpAny_pure hq
  | n + 1, 0, m, hn, h, hq => by omega
  | n + 1, turns + 1, m, hn, h, hq => by
    have e : m.runFor (4 * (n + 1)) = (m.runFor 4).runFor (4 * n) := by rw [← rf_add]; congr 1; omega
    rw [e] at h hq
    unfold Re.reDrive
    show wpAny _ A (if (m.runFor 4).outcome.isSome = true then pure (m.runFor 4) else (do rule "sre.turn"; Re.reDrive (turns + 1) (m.runFor 4))) Q E s
    by_cases h4 : (m.runFor 4).outcome.isSome = true
    · rw [if_pos h4]; rw [rf_done h4] at hq; exact wpAny_pure hq
    · rw [if_neg h4]
      exact wpAny_bind (wpAny_rule (wpAny_drive n turns _ (by omega) h hq))

theorem wpAny_tags {m : Sre.M} {Q : PUnit → Shared → Prop} (h : Q ⟨⟩ s) :
    wpAny (model prog w) A (forIn (List.range Sre.names.size) PUnit.unit fun i _ => if m.seen.has i = true then (do rule (Sre.names.getD i ""); pure (ForInStep.yield PUnit.unit)) else pure (ForInStep.yield PUnit.unit)) Q E s := by
  refine wpAny_forIn_list (I := fun _ _ s' => s' = s) _ _ ?_ (fun b s' e => by subst e; exact h) _ _ rfl
  intro x rest b s' e
  subst e
  cases hx : m.seen.has x with
  | true => exact wpAny_bind (wpAny_rule (wpAny_pure (by exact rfl)))
  | false => exact wpAny_pure (by exact rfl)

theorem wpAny_runToEnd_found {Q : Option Sre.M → Shared → Prop} {m : Sre.M} {n b e : Nat} (hn : n ≤ 2 ^ 64 - 1) (h : Found (m.runFor (4 * n)) b e) (hq : ∀ m' : Sre.M, m'.start = b → m'.handed = e → Q (some m') s) :
    wpAny (model prog w) A (Re.reRunToEnd m) Q E s := by
  unfold Re.reRunToEnd
  have e64 : (2 ^ 64 : Nat) = (2 ^ 64 - 1) + 1 := by decide
  rw [e64]
  obtain ⟨x, hx, hx'⟩ := h.o
  refine wpAny_bind (wpAny_drive n _ m hn (by rw [hx]; rfl) (wpAny_bind (wpAny_tags ?_)))
  rw [hx]
  cases x with
  | matched => exact wpAny_pure (hq _ h.s h.h)
  | failed => exact hx'.elim
  | stuck _ => exact hx'.elim
theorem wpAny_runToEnd_failed {Q : Option Sre.M → Shared → Prop} {m : Sre.M} {n : Nat} (hn : n ≤ 2 ^ 64 - 1) (h : Failed (m.runFor (4 * n))) (hq : Q none s) :
    wpAny (model prog w) A (Re.reRunToEnd m) Q E s := by
  unfold Re.reRunToEnd
  have e64 : (2 ^ 64 : Nat) = (2 ^ 64 - 1) + 1 := by decide
  rw [e64]
  obtain ⟨x, hx, hx'⟩ := h
  refine wpAny_bind (wpAny_drive n _ m hn (by rw [hx]; rfl) (wpAny_bind (wpAny_tags ?_)))
  rw [hx]
  cases x with
  | matched => exact hx'.elim
  | failed => exact wpAny_pure hq
  | stuck _ => exact hx'.elim

/-- what the heap says of a compiled pattern over strs without groups -/
structure PatAt (h : Heap) (pat cd : Addr) (code : Array Nat) : Prop where
  o : ∃ o vs, h.get? pat = some o ∧ o.cls = .type "re.Pattern" ∧ o.dict = none ∧ o.data = .fields vs ∧ vs.getD 2 .none = .int 0 0 ∧ vs.getD 5 .none = .ref cd ∧ vs.getD 6 .none = .int 0 0
  c : ∃ o items n, h.get? cd = some o ∧ o.data = .seq items n ∧ (items.map Re.reRawOf).map (·.toNat) = code
theorem PatAt.keeps {h h' : Heap} {pat cd : Addr} {code : Array Nat} (P : PatAt h pat cd code) (k : ∀ b o, h.get? b = some o → h'.get? b = some o) : PatAt h' pat cd code := by
  obtain ⟨⟨o, vs, a, r⟩, ⟨o', items, n, b, r'⟩⟩ := P
  exact ⟨⟨o, vs, k _ _ a, r⟩, ⟨o', items, n, k _ _ b, r'⟩⟩

theorem wpAny_wholeTarget {Q : Re.ReTarget → Shared → Prop} {pat cd : Addr} {code : Array Nat} {x : Str} {t : Tok} (P : PatAt s.heap pat cd code)
    (h : Q { pattern := .ref pat, string := .str x t, code, text := x.cps, kind := 0, groups := 0, pos := 0, lim := x.cps.size } s) :
    wpAny (model prog w) A (Re.reWholeTarget (.ref pat) (.str x t)) Q E s := by
  obtain ⟨⟨o, vs, h1, _, _, h2, h3, h4, h5⟩, ⟨o', items, n, g1, g2, g3⟩⟩ := P
  unfold Re.reWholeTarget
  refine wpAny_bind (wpAny_fieldsOf h1 h2 ?_)
  refine wpAny_bind (m := Re.reTextOf (.str x t)) ?_
  refine wpAny_bind (m := asStr? (.str x t)) (wpAny_pure (wpAny_pure ?_))
  rw [h5]
  dsimp only [Re.reRawNat]
  simp only [Int.toNat_zero, beq_self_eq_true, Bool.true_and]
  refine wpAny_bind (m := Re.reNoCollectionInside (.str x t) 0) (wpAny_pure ?_)
  rw [h4]
  refine wpAny_bind (m := Re.reRawItems (.ref cd)) ?_
  unfold Re.reRawItems
  refine wpAny_bind (wpAny_seqItems g1 g2 (wpAny_pure (wpAny_pure ?_)))
  rw [h3]
  simp only [Option.getD_some, g3]
  exact h
end
end Mine
end

-- ReX
section
set_option maxHeartbeats 4000000
namespace Mine
open PySem PySem.Calls PySem.W PyProof.Rows PySem.Builtin

structure SubSpec (code : Array Nat) (repl : List Nat) (text : Array Nat) (F : Nat → List Nat) : Prop where
  step : ∀ p, p ≤ text.size →
    (Failed ((Sre.forSearch code text 0 p text.size false).runFor (4 * (text.size + 5))) ∧ F p = text.toList.drop p) ∨
    (∃ b e, Found ((Sre.forSearch code text 0 p text.size false).runFor (4 * (text.size + 5))) b e ∧ p ≤ b ∧ b < e ∧ e ≤ text.size ∧ F p = (text.toList.drop p).take (b - p) ++ repl ++ F e)

noncomputable def flat (l : List Str) : List Nat := (l.map (·.cps.toList)).flatten
theorem flat_snoc (l : List Str) (x : Str) : flat (l ++ [x]) = flat l ++ x.cps.toList := by simp [flat]
theorem flat_len (l : List Str) : (l.map (·.length)).sum = (flat l).length := by
  induction l with
  | nil => rfl
  | cons x l ih => simp only [List.map_cons, List.sum_cons, flat, List.flatten_cons, List.length_append]; rw [ih]; rfl
theorem join_flat (e : Str) (he : e.cps = #[]) (l : List Str) : Str.join e l = ⟨(flat l).toArray⟩ := by
  induction l with
  | nil => rfl
  | cons x l ih =>
    cases l with
    | nil => show x = _; simp [flat]
    | cons y r =>
      rw [show Str.join e (x :: y :: r) = x ++ e ++ Str.join e (y :: r) from rfl, ih]
      show Str.mk ((x.cps ++ e.cps) ++ _) = _
      rw [he]
      congr 1
      apply Array.ext'
      simp [flat]
theorem strs_snoc {vs : List Value} {ys : List Str} (h : StrsAre vs ys) (y : Str) (t : Tok) : StrsAre (vs ++ [.str y t]) (ys ++ [y]) :=
  h.append' (.cons y t .nil)

section
variable {prog : Program} {w : World} {A : Around} {s : Shared} {R : Result → Shared → Prop}

noncomputable abbrev lst (vs : List Value) (k : Nat) : Obj := { cls := .type "list", data := .seq vs.toArray k }

theorem wpAny_pushK {M : Model} {E : Value → Shared → Prop} {l : Addr} {vs : List Value} {k : Nat} {v : Value} {Q : Unit → Shared → Prop} (hl : s.heap.get? l = some (lst vs k)) (hz : vs.length ≤ sizeLine)
    (h : ∀ h' k', h'.get? l = some (lst (vs ++ [v]) k') → (∀ b o, b ≠ l → s.heap.get? b = some o → h'.get? b = some o) → Q () { s with heap := h' }) :
    wpAny M A (updateSeq l (·.push v)) Q E s := by
  refine wpAny_updateSeq hl rfl (h _ (k + 1) ?_ fun b o hb e => ?_) (by simpa using hz) (by simp only [Array.size_push, List.size_toArray]; omega)
  · have := Heap.get?_update_self (Obj.mapSeq (·.push v)) hl rfl
    rw [this]
    simp [Obj.mapSeq, lst]
  · rw [Heap.get?_update_other _ _ (fun e => hb e.symm)]; exact e

theorem sub_loop {pat cd l : Addr} {code : Array Nat} {x y : Str} {t u : Tok} {F : Nat → List Nat} (hF : SubSpec code y.cps.toList x.cps F) (hbig : x.cps.size ≤ 1048576) (hout : (F 0).length ≤ 16777216) (hl1 : l ≠ pat) (hl2 : l ≠ cd) :
    ∀ (d p : Nat) (vs : List Value) (ys : List Str) (k : Nat) (n : Int) (s : Shared), x.cps.size - p = d → p ≤ x.cps.size → PatAt s.heap pat cd code → s.heap.get? l = some (lst vs k) → StrsAre vs ys → ys.length ≤ 2 * p → flat ys ++ F p = F 0 →
      (∀ h' tk t', (∀ b o, b ≠ l → s.heap.get? b = some o → h'.get? b = some o) → R (.ok (.ret (.str ⟨(F 0).toArray⟩ t'))) { s with heap := h', toks := tk }) →
      codeAny (model prog w) A (.builtin "re.Pattern.sub.loop" ⟨[.ref pat, .str x t, .str y u, .int 0 0, .int 0 0, .int n 0, .int p 0, .int p 0, .bool false, .ref l, .bool false], []⟩) R s := by
  intro d
  induction d using Nat.strongRecOn with
  | ind d ih =>
    intro p vs ys k n s hd hp P hl hv hy hf hR
    have hP : ∀ h', (∀ b o, b ≠ l → s.heap.get? b = some o → h'.get? b = some o) → PatAt h' pat cd code := fun h' kp => by
      obtain ⟨⟨o, vs, a, r⟩, ⟨o', items, n, b, r'⟩⟩ := P
      exact ⟨⟨o, vs, kp _ _ (Ne.symm hl1) a, r⟩, ⟨o', items, n, kp _ _ (Ne.symm hl2) b, r'⟩⟩
    have hvl : vs.length ≤ 2 * p := by rw [hv.length]; exact hy
    have hsl : sizeLine = 16777216 := rfl
    refine codeAny_builtin entry_loop ?_
    rw [Around.under_plainId (by decide +kernel)]
    unfold Builtin.«re.Pattern.sub.loop»
    dsimp only
    refine wpAny_bind (wpAny_wholeTarget P ?_)
    rw [if_pos (by rfl)]
    refine wpAny_bind (m := Re.reLiteralCannotBeTurned (.str y u)) (wpAny_pure ?_)
    rw [if_neg (by simp)]
    unfold Re.reNextFound
    dsimp only
    rw [Int.toNat_natCast]
    rcases hF.step p hp with ⟨hfail, hFp⟩ | ⟨b, e, hfound, hb1, hb2, hb3, hFp⟩
    · refine wpAny_bind (wpAny_runToEnd_failed (n := x.cps.size + 5) (by omega) hfail ?_)
      dsimp only
      rw [hFp] at hf
      have fin : ∀ (h₁ : Heap) (k₁ : Nat) (vs₁ : List Value) (ys₁ : List Str) (tk : Nat), (∀ b o, b ≠ l → s.heap.get? b = some o → h₁.get? b = some o) → h₁.get? l = some (lst vs₁ k₁) → StrsAre vs₁ ys₁ → flat ys₁ = F 0 →
          wpAny (model prog w) A.in1 (do
            let joiner ← Re.reSlice x.cps 0 0 0
            let text ← if ((← seqItems? (.ref l)).getD #[]).isEmpty then pure joiner else call (.builtin (if (0 == 0) = true then "str.join" else "bytes.join")) [joiner, .ref l]
            if false = true then ret (← holding [text] do newTuple [text, ← mkInt n]) else ret text)
          (fun fin s' => match fin with | .done f => R (.ok f) s' | .again c' => c'.quiet = true ∧ codeAny (model prog w) A c' R s') (fun e s' => R (.error e) s') { s with heap := h₁, toks := tk } := by
        intro h₁ k₁ vs₁ ys₁ tk kp hl₁ hv₁ hfl
        unfold Re.reSlice
        rw [if_pos (by rfl)]
        refine wpAny_bind (wpAny_mkStr ?_ (by show (x.cps.extract 0 0).size ≤ _; simp))
        refine wpAny_bind (m := seqItems? (.ref l)) (wpAny_seqItems hl₁ rfl ?_)
        dsimp only [Option.getD_some]
        cases vs₁ with
        | nil =>
          have : ys₁ = [] := by cases hv₁; rfl
          subst this
          rw [if_pos (by rfl)]
          refine wpAny_bind (wpAny_pure ?_)
          have e0 : (⟨x.cps.extract 0 0⟩ : Str) = ⟨(F 0).toArray⟩ := by rw [← hfl]; simp [flat]
          rw [e0]
          exact wpAny_pure (hR _ _ _ kp)
        | cons v vr =>
          rw [if_neg (by simp)]
          refine wpAny_bind (join_list (D := l) (items := (v :: vr).toArray) (ys := ys₁) ⟨_, hl₁, rfl, _, rfl⟩ hv₁ ?_ ?_)
          · rw [flat_len, hfl]
            show _ + _ * (x.cps.extract 0 0).size ≤ _
            simp; exact hout
          · intro t' k'
            have e0 : Txt.join (⟨x.cps.extract 0 0⟩ : Str) ys₁ = ⟨(F 0).toArray⟩ := by
              show Str.glued _ _ = _
              rw [StrLaws.glued_eq_join, join_flat _ (by simp), hfl]
            rw [e0]
            exact wpAny_pure (hR _ _ _ kp)
      by_cases hlt : p < x.cps.size
      · rw [if_pos hlt]
        refine wpAny_bind (m := Re.reSlice x.cps 0 p x.cps.size) ?_
        unfold Re.reSlice
        rw [if_pos (by rfl)]
        refine wpAny_mkStr ?_ (by show (x.cps.extract p x.cps.size).size ≤ _; simp; omega)
        refine wpAny_bind (wpAny_pushK hl (by omega) fun h' k' hl' kp => ?_)
        refine fin h' k' _ _ _ kp hl' (strs_snoc hv _ _) ?_
        rw [flat_snoc, ← hf]
        simp
        rw [List.take_of_length_le (by simp)]
      · rw [if_neg hlt]
        refine fin s.heap k vs ys s.toks (fun _ _ _ e => e) hl hv ?_
        rw [← hf, List.drop_eq_nil_of_le (by simp; omega)]; simp
    · refine wpAny_bind (wpAny_runToEnd_found (n := x.cps.size + 5) (by omega) hfound fun m' hm1 hm2 => ?_)
      dsimp only
      rw [hm1, hm2]
      have go : ∀ (h₁ : Heap) (k₁ : Nat) (vs₁ : List Value) (ys₁ : List Str) (tk : Nat), (∀ b o, b ≠ l → s.heap.get? b = some o → h₁.get? b = some o) → h₁.get? l = some (lst vs₁ k₁) → StrsAre vs₁ ys₁ → ys₁.length ≤ 2 * p + 1 → flat ys₁ ++ y.cps.toList ++ F e = F 0 →
          wpAny (model prog w) A.in1 (do
            let item ← pure (Value.str y u)
            if (item != Value.none) = true then do
              updateSeq l (·.push item)
              again (.builtin "re.Pattern.sub.loop" ⟨[.ref pat, .str x t, .str y u, rawInt 0, rawInt 0, rawInt (n + 1), rawInt e, rawInt e, .bool (e == b), .ref l, .bool false], []⟩)
            else again (.builtin "re.Pattern.sub.loop" ⟨[.ref pat, .str x t, .str y u, rawInt 0, rawInt 0, rawInt (n + 1), rawInt e, rawInt e, .bool (e == b), .ref l, .bool false], []⟩))
          (fun fin s' => match fin with | .done f => R (.ok f) s' | .again c' => c'.quiet = true ∧ codeAny (model prog w) A c' R s') (fun e s' => R (.error e) s') { s with heap := h₁, toks := tk } := by
        intro h₁ k₁ vs₁ ys₁ tk kp hl₁ hv₁ hy₁ hf₁
        refine wpAny_bind (wpAny_pure ?_)
        rw [if_pos (by rfl)]
        have hv₁l : vs₁.length ≤ 2 * p + 1 := by rw [hv₁.length]; exact hy₁
        refine wpAny_bind (wpAny_pushK (s := { s with heap := h₁, toks := tk }) hl₁ (by omega) fun h' k' hl' kp' => ?_)
        refine wpAny_pure ⟨plainId_quiet (by decide +kernel) _, ?_⟩
        have ne : (e == b) = false := by simp; omega
        rw [ne]
        refine ih (x.cps.size - e) (by omega) e _ (ys₁ ++ [y]) k' (n + 1) _ rfl hb3 ?_ hl' (strs_snoc hv₁ _ _) (by simp; omega) ?_ ?_
        · obtain ⟨⟨o, vs, a, r⟩, ⟨o', items, n, c, r'⟩⟩ := hP h₁ kp
          exact ⟨⟨o, vs, kp' _ _ (Ne.symm hl1) a, r⟩, ⟨o', items, n, kp' _ _ (Ne.symm hl2) c, r'⟩⟩
        · rw [flat_snoc]; exact hf₁
        · intro h'' tk'' t' kp''
          exact hR h'' tk'' t' fun b o hb eo => kp'' b o hb (kp' b o hb (kp b o hb eo))
      rw [hFp] at hf
      by_cases hlt : p < b
      · rw [if_pos hlt]
        refine wpAny_bind (m := Re.reSlice x.cps 0 p b) ?_
        unfold Re.reSlice
        rw [if_pos (by rfl)]
        refine wpAny_mkStr ?_ (by show (x.cps.extract p b).size ≤ _; simp; omega)
        refine wpAny_bind (wpAny_pushK hl (by omega) fun h' k' hl' kp => ?_)
        rw [if_pos (by rfl)]
        refine go h' k' _ _ _ kp hl' (strs_snoc hv _ _) (by simp; omega) ?_
        rw [flat_snoc, ← hf]
        simp [List.extract_eq_take_drop]
      · rw [if_neg hlt, if_pos (by rfl)]
        refine go s.heap k vs ys s.toks (fun _ _ _ e => e) hl hv (by omega) ?_
        have : b - p = 0 := by omega
        rw [this] at hf
        simpa using hf

theorem named_eq (a b : Value) : Re.reNamed "re.Pattern.sub" "sub" ["repl", "string", "count"] 2 [a, b] [] = pure [some a, some b, none] := rfl

theorem sub_call {E : Value → Shared → Prop} {Q : Value → Shared → Prop} {pat cd : Addr} {code : Array Nat} {x y : Str} {t u : Tok} {F : Nat → List Nat} (hF : SubSpec code y.cps.toList x.cps F) (hbig : x.cps.size ≤ 1048576) (hout : (F 0).length ≤ 16777216)
    (P : PatAt s.heap pat cd code) (hb : y.cps.contains 92 = false)
    (h : ∀ h' tk t', (∀ b o, s.heap.get? b = some o → h'.get? b = some o) → Q (.str ⟨(F 0).toArray⟩ t') { s with heap := h', toks := tk }) :
    wpAny (model prog w) A (call (.builtin "re.Pattern.sub") [.ref pat, .str y u, .str x t]) Q E s := by
  have hT : s.TypeIs (.ref pat) "re.Pattern" := by
    obtain ⟨⟨o, vs, h1, h2, _⟩, _⟩ := P
    exact ⟨o, h1, h2⟩
  refine wpAny_call (codeAny_call_builtin slot_sub.plain entry_sub (slot_sub.check _ _ _ _ _ _ _ _ hT (args_sub _ _ _) ?_))
  unfold Builtin.«re.Pattern.sub» Re.reSubstitute
  dsimp only
  rw [named_eq]
  refine wpAny_bind (wpAny_pure ?_)
  dsimp only
  refine wpAny_bind (wpAny_pure ?_)
  refine wpAny_bind (wpAny_specialOf (typeIs_str _ _ _) str_no_call ?_)
  dsimp only [Option.isSome_none]
  rw [if_neg (by decide)]
  refine wpAny_bind (m := asStr? (.str y u)) (wpAny_pure ?_)
  dsimp only
  rw [hb]
  refine wpAny_bind (wpAny_pure ?_)
  rw [if_neg (by decide), if_pos (by decide)]
  refine wpAny_bind (wpAny_pure ?_)
  dsimp only
  refine wpAny_bind (wpAny_holding (wpAny_wholeTarget P ?_))
  rw [if_neg (by decide)]
  refine wpAny_bind (wpAny_newList ?_ (by simp))
  refine wpAny_pure ⟨plainId_quiet (by decide +kernel) _, ?_⟩
  have hl1 : s.heap.objs.size ≠ pat := by
    obtain ⟨⟨o, vs, h1, _⟩, _⟩ := P
    exact Nat.ne_of_gt (Heap.lt_size h1)
  have hl2 : s.heap.objs.size ≠ cd := by
    obtain ⟨_, ⟨o, vs, n, h1, _⟩⟩ := P
    exact Nat.ne_of_gt (Heap.lt_size h1)
  have := sub_loop (prog := prog) (w := w) (A := A) (t := t) (u := u) (R := fun r s' => match r with | .ok (.ret v) => Q v s' | .ok _ => False | .error e => E e s') hF hbig hout hl1 hl2 (x.cps.size - 0) 0 [] [] 0 0
    { s with heap := s.heap.push { cls := .type "list", data := .seq #[] } } rfl (Nat.zero_le _) (P.keeps fun b o e => Heap.get?_push_of_some _ e) (Heap.get?_push_size _ rfl) .nil (Nat.zero_le _) rfl
    (fun h' tk t' kp => h h' tk t' fun b o e => kp b o (Nat.ne_of_lt (Heap.lt_size e)) (Heap.get?_push_of_some _ e))
  exact this
end
end Mine
end

-- Txt1
section
set_option maxHeartbeats 4000000
namespace Mine
open PySem PySem.Calls PySem.W PyProof.Rows PySem.Builtin

noncomputable def crlfS : Bool → List Nat → List Nat
  | _, [] => []
  | skip, c :: r => if c = 10 then (if skip then crlfS false r else 13 :: 10 :: crlfS false r) else if c = 13 then 13 :: 10 :: crlfS true r else c :: crlfS false r
noncomputable def dotsS : Bool → List Nat → List Nat
  | _, [] => []
  | b, c :: r => if b = true ∧ c = 46 then 46 :: 46 :: dotsS false r else c :: dotsS (c == 10) r

theorem drop_cons {text : Array Nat} {p : Nat} (h : p < text.size) : text.toList.drop p = text.getD p 0 :: text.toList.drop (p + 1) := by
  rw [List.drop_eq_getElem_cons (by simpa using h)]
  simp [Array.getD, h]

theorem runTo {text : Array Nat} {F : Nat → List Nat} {b : Nat} (hb : b ≤ text.size) : ∀ (d p : Nat), p + d = b → (∀ q, p ≤ q → q < b → F q = text.getD q 0 :: F (q + 1)) → F p = (text.toList.drop p).take (b - p) ++ F b
  | 0, p, h, _ => by
    have : p = b := by omega
    subst this; simp
  | d + 1, p, h, hs => by
    rw [hs p (Nat.le_refl _) (by omega), runTo hb d (p + 1) (by omega) fun q h1 h2 => hs q (by omega) h2, drop_cons (by omega : p < text.size)]
    rw [show b - p = (b - (p + 1)) + 1 by omega]
    rfl

theorem crlf_skip (l : List Nat) (h : ∀ c, l.head? = some c → c ≠ 10) : crlfS true l = crlfS false l := by
  cases l with
  | nil => rfl
  | cons c r => have := h c rfl; simp only [crlfS, this, if_false]

theorem spec2 (text : Array Nat) : SubSpec code2 [13, 10] text (fun p => crlfS false (text.toList.drop p)) := by
  refine ⟨fun p hp => ?_⟩
  have plain : ∀ q, q < text.size → nl (text.getD q 0) = false → crlfS false (text.toList.drop q) = text.getD q 0 :: crlfS false (text.toList.drop (q + 1)) := by
    intro q hq hn
    rw [drop_cons hq]
    unfold nl at hn
    simp only [Bool.or_eq_false_iff, beq_eq_false_iff_ne, ne_eq] at hn
    simp only [crlfS, hn.1, hn.2, if_false]
  rcases search2 text p hp with ⟨hf, hn⟩ | ⟨b, hf, h1, h2, h3, h4⟩
  · refine .inl ⟨hf.more _ (by omega), ?_⟩
    have := runTo (F := fun p => crlfS false (text.toList.drop p)) (Nat.le_refl text.size) (text.size - p) p (by omega) fun q a b => plain q b (hn q a b)
    rw [this]
    have e : text.toList.drop text.size = [] := by simp
    rw [e]
    simp [crlfS, List.take_of_length_le]
  · refine .inr ⟨b, end2 text b, hf.more _ (by omega), h1, ?_, ?_, ?_⟩
    · unfold end2; by_cases h : text.getD b 0 = 13 ∧ b + 1 < text.size ∧ text.getD (b + 1) 0 = 10
      · rw [if_pos h]; omega
      · rw [if_neg h]; omega
    · unfold end2; by_cases h : text.getD b 0 = 13 ∧ b + 1 < text.size ∧ text.getD (b + 1) 0 = 10
      · rw [if_pos h]; omega
      · rw [if_neg h]; omega
    · have := runTo (F := fun p => crlfS false (text.toList.drop p)) (Nat.le_of_lt h2) (b - p) p (by omega) fun q a b' => plain q (by omega) (h4 q a b')
      rw [this, List.append_assoc]
      congr 1
      show crlfS false (text.toList.drop b) = [13, 10] ++ crlfS false (text.toList.drop (end2 text b))
      rw [drop_cons h2]
      unfold end2
      by_cases hA : text.getD b 0 = 10
      · rw [if_neg (by omega)]
        simp only [crlfS, hA, if_true, Bool.false_eq_true, if_false]; rfl
      · have hB : text.getD b 0 = 13 := by
          unfold nl at h3
          simp only [Bool.or_eq_true, beq_iff_eq] at h3
          omega
        have e1 : ∀ r, crlfS false (text.getD b 0 :: r) = 13 :: 10 :: crlfS true r := fun r => by
          simp only [crlfS, hB]; rfl
        rw [e1]
        by_cases hC : b + 1 < text.size ∧ text.getD (b + 1) 0 = 10
        · rw [if_pos ⟨hB, hC⟩, drop_cons hC.1]
          simp only [crlfS, hC.2, if_true]; rfl
        · rw [if_neg (fun q => hC q.2), crlf_skip]
          · rfl
          · intro c hc
            by_cases hD : b + 1 < text.size
            · rw [drop_cons hD] at hc
              cases hc
              exact fun q => hC ⟨hD, q⟩
            · rw [List.drop_eq_nil_of_le (by simp; omega)] at hc
              cases hc

theorem spec1 (text : Array Nat) : SubSpec code1 [46, 46] text (fun p => dotsS (bol text p) (text.toList.drop p)) := by
  refine ⟨fun p hp => ?_⟩
  have plain : ∀ q, q < text.size → hit text q = false → dotsS (bol text q) (text.toList.drop q) = text.getD q 0 :: dotsS (bol text (q + 1)) (text.toList.drop (q + 1)) := by
    intro q hq hn
    rw [drop_cons hq]
    have : ¬ (bol text q = true ∧ text.getD q 0 = 46) := by
      intro ⟨h1, h2⟩
      unfold hit at hn
      rw [h1, h2] at hn
      cases hn
    simp only [dotsS, if_neg this]
    rfl
  rcases search1 text p hp with ⟨hf, hn⟩ | ⟨b, hf, h1, h2, h3, h4⟩
  · refine .inl ⟨hf.more _ (by omega), ?_⟩
    have := runTo (F := fun p => dotsS (bol text p) (text.toList.drop p)) (Nat.le_refl text.size) (text.size - p) p (by omega) fun q a b => plain q b (hn q a b)
    rw [this]
    have e : text.toList.drop text.size = [] := by simp
    rw [e]
    simp [dotsS, List.take_of_length_le]
  · refine .inr ⟨b, b + 1, hf.more _ (by omega), h1, by omega, by omega, ?_⟩
    have := runTo (F := fun p => dotsS (bol text p) (text.toList.drop p)) (Nat.le_of_lt h2) (b - p) p (by omega) fun q a b' => plain q (by omega) (h4 q a b')
    rw [this, List.append_assoc]
    congr 1
    show dotsS (bol text b) (text.toList.drop b) = [46, 46] ++ dotsS (bol text (b + 1)) (text.toList.drop (b + 1))
    rw [drop_cons h2]
    unfold hit at h3
    simp only [Bool.and_eq_true, beq_iff_eq] at h3
    simp only [dotsS, if_pos h3]
    have : bol text (b + 1) = false := by
      show (b + 1 == 0 || text.getD b 0 == 10) = false
      rw [h3.2]; rfl
    rw [this]; rfl

theorem crlf_len : ∀ (b : Bool) (l : List Nat), (crlfS b l).length ≤ 2 * l.length
  | _, [] => by simp [crlfS]
  | b, c :: r => by
    unfold crlfS
    have h1 := crlf_len false r
    have h2 := crlf_len true r
    split
    · split <;> simp <;> omega
    · split <;> simp <;> omega
theorem dots_len : ∀ (b : Bool) (l : List Nat), (dotsS b l).length ≤ 2 * l.length
  | _, [] => by simp [dotsS]
  | b, c :: r => by
    unfold dotsS
    have h1 := dots_len false r
    have h2 := dots_len (c == 10) r
    split <;> simp <;> omega

/-- what quotedata hands back -/
noncomputable def quoteP (l : List Nat) : List Nat := dotsS true (crlfS false l)
theorem quote_len (l : List Nat) : (quoteP l).length ≤ 4 * l.length := by
  have h1 := dots_len true (crlfS false l)
  have h2 := crlf_len false l
  unfold quoteP; omega
end Mine
end

-- Base
section
set_option maxHeartbeats 4000000
namespace Mine
open PySem PySem.Calls PySem.W PyProof.Rows PySem.Builtin

/-- what the top of the text left, at a heap -/
structure Gr (w : World) (mg mb : Str → Option Value) (h : Heap) : Prop where
  K : (KF w.params).In h
  g : h.Ns mainGlobals mg
  b : h.Ns builtinsNs mb
  lim : h.NoLimit
  bi : ∀ x : Str, x ≠ "__name__" → mb x = bootBuiltins x

theorem Gr.keeps {w : World} {mg mb : Str → Option Value} {h h' : Heap} (G : Gr w mg mb h) (k : ∀ b o, h.get? b = some o → h'.get? b = some o) : Gr w mg mb h' :=
  ⟨G.K.keeps k, G.g.keeps k, G.b.keeps k, G.lim.keeps k, G.bi⟩
theorem Gr.glob {w : World} {mg mb : Str → Option Value} {h : Heap} (G : Gr w mg mb h) {n : Str} {v : Value} (e : nsIn (KF w.params) mainGlobals n = some (some v)) : mg n = some v := mg_of G.K G.g e
theorem Gr.built {w : World} {mg mb : Str → Option Value} {h : Heap} (G : Gr w mg mb h) {n : Str} {v : Value} (e : nsIn (KF w.params) mainGlobals n = some none) (hv : bootBuiltins n = some v) (hn : n ≠ "__name__") : mg n = none ∧ mb n = some v :=
  ⟨mg_none_of G.K G.g e, (G.bi n hn).trans hv⟩

/-- a def of the text at its place -/
structure FnAt (h : Heap) (a : Addr) (name : Str) (st : Stmt) (cd : Value) : Prop where
  o : ∃ o pm doc, h.get? a = some o ∧ o.data = .func (docDef name (paramsOf st) (bodyOf st) (scopeOf st) pm cd doc)
  c : h.CodeRec cd name

theorem Gr.pat1 {w : World} {mg mb : Str → Option Value} {h : Heap} (G : Gr w mg mb h) : PatAt h 36 35 code1 :=
  ⟨⟨_, _, G.K 36 _ rfl, rfl, rfl, rfl, rfl, rfl, rfl⟩, ⟨_, _, _, G.K 35 _ rfl, rfl, by decide +kernel⟩⟩
theorem Gr.pat2 {w : World} {mg mb : Str → Option Value} {h : Heap} (G : Gr w mg mb h) : PatAt h 41 40 code2 :=
  ⟨⟨_, _, G.K 41 _ rfl, rfl, rfl, rfl, rfl, rfl, rfl⟩, ⟨_, _, _, G.K 40 _ rfl, rfl, by decide +kernel⟩⟩
theorem Gr.f48 {w : World} {mg mb : Str → Option Value} {h : Heap} (G : Gr w mg mb h) : FnAt h 48 "quotedata" (topSt 5) (.ref 47) :=
  ⟨⟨_, _, _, G.K 48 _ rfl, rfl⟩, ⟨47, _, _, _, rfl, G.K 47 _ rfl, rfl, rfl⟩⟩
theorem Gr.f55 {w : World} {mg mb : Str → Option Value} {h : Heap} (G : Gr w mg mb h) : FnAt h 55 "_iter_escaped_chars" (topSt 7) (.ref 54) :=
  ⟨⟨_, _, _, G.K 55 _ rfl, rfl⟩, ⟨54, _, _, _, rfl, G.K 54 _ rfl, rfl, rfl⟩⟩
theorem Gr.f62 {w : World} {mg mb : Str → Option Value} {h : Heap} (G : Gr w mg mb h) : FnAt h 62 "_strip_quoted_realnames" (topSt 8) (.ref 61) :=
  ⟨⟨_, _, _, G.K 62 _ rfl, rfl⟩, ⟨61, _, _, _, rfl, G.K 61 _ rfl, rfl, rfl⟩⟩
theorem Gr.f72 {w : World} {mg mb : Str → Option Value} {h : Heap} (G : Gr w mg mb h) : FnAt h 72 "ISTERMINAL" (topSt 61) (.ref 71) :=
  ⟨⟨_, _, _, G.K 72 _ rfl, rfl⟩, ⟨71, _, _, _, rfl, G.K 71 _ rfl, rfl, rfl⟩⟩
theorem Gr.f79 {w : World} {mg mb : Str → Option Value} {h : Heap} (G : Gr w mg mb h) : FnAt h 79 "ISEOF" (topSt 62) (.ref 78) :=
  ⟨⟨_, _, _, G.K 79 _ rfl, rfl⟩, ⟨78, _, _, _, rfl, G.K 78 _ rfl, rfl, rfl⟩⟩
theorem Gr.f86 {w : World} {mg mb : Str → Option Value} {h : Heap} (G : Gr w mg mb h) : FnAt h 86 "_law_read" (topSt 64) (.ref 85) :=
  ⟨⟨_, _, _, G.K 86 _ rfl, rfl⟩, ⟨85, _, _, _, rfl, G.K 85 _ rfl, rfl, rfl⟩⟩
theorem Gr.f91 {w : World} {mg mb : Str → Option Value} {h : Heap} (G : Gr w mg mb h) : FnAt h 91 "_law_signs" (topSt 65) (.ref 90) :=
  ⟨⟨_, _, _, G.K 91 _ rfl, rfl⟩, ⟨90, _, _, _, rfl, G.K 90 _ rfl, rfl, rfl⟩⟩
theorem Gr.f98 {w : World} {mg mb : Str → Option Value} {h : Heap} (G : Gr w mg mb h) : FnAt h 98 "_law_worth" (topSt 66) (.ref 97) :=
  ⟨⟨_, _, _, G.K 98 _ rfl, rfl⟩, ⟨97, _, _, _, rfl, G.K 97 _ rfl, rfl, rfl⟩⟩
end Mine
end

-- Rules
section
set_option maxHeartbeats 4000000
namespace Mine
open PySem PySem.Calls PySem.W PyProof.Rows PySem.Builtin

section
variable {M : Model} {A : Around} {E : Value → Shared → Prop} {s : Shared} {env : Env}

theorem spl_cons {e : Expr} {rest : List Expr} {pos : Pos} {Q : List Value → Shared → Prop}
    (h : wpAny M A (eval e env) (fun v s₁ => wpAny M A (spliced (backTo pos (starEach rest env))) (fun vs s₂ => Q (v :: vs) s₂) E s₁) E s)
    (he : starEach (e :: rest) env = (false, eval e env) :: starEach rest env := by rfl) : wpAny M A (spliced (backTo pos (starEach (e :: rest) env))) Q E s := by
  rw [he]; exact spliced_cons h
theorem spl_nil {pos : Pos} {Q : List Value → Shared → Prop} (h : Q [] s) : wpAny M A (spliced (backTo pos (starEach [] env))) Q E s := wpAny_pure h

theorem cwb {id : String} {first : List Value} {e : Expr} {rest : List Expr} {pos : Pos} {Q : Value → Shared → Prop}
    (h : wpAny M A (spliced (backTo pos (starEach (e :: rest) env))) (fun vs s₁ => wpAny M A (call (.builtin id) (first ++ vs)) Q E s₁) E s)
    (he : starEach (e :: rest) env = (false, eval e env) :: starEach rest env := by rfl) (hplain : (backTo pos (starEach rest env)).any (·.1) = false := by rfl) :
    wpAny M A (callWith pos (.builtin id) first (backTo pos (starEach (e :: rest) env)) []) Q E s := by
  rw [he] at h ⊢
  exact callWith_builtin (by show (false || (backTo pos (starEach rest env)).any (·.1)) = false; rw [hplain]; rfl) (evalArgs_plain h)

/-- a call of a def of the text -/
theorem cwf {a : Addr} {first : List Value} {e : Expr} {rest : List Expr} {pos : Pos} {Q : Value → Shared → Prop} {P : Heap → Prop} (hP : ∀ h, P h → ∃ o fd, h.get? a = some o ∧ o.data = .func fd)
    (h : wpAny M A (spliced (backTo pos (starEach (e :: rest) env))) (fun vs s₁ => P s₁.heap ∧ wpAny M A (call (.ref a) (first ++ vs)) Q E s₁) E s)
    (he : starEach (e :: rest) env = (false, eval e env) :: starEach rest env := by rfl) (hplain : (backTo pos (starEach rest env)).any (·.1) = false := by rfl) :
    wpAny M A (callWith pos (.ref a) first (backTo pos (starEach (e :: rest) env)) []) Q E s := by
  rw [he] at h ⊢
  refine callWith_of (P := P) (by show ((false || (backTo pos (starEach rest env)).any (·.1)) || false) = false; rw [hplain]; rfl) (fun h p => ?_) (evalArgs_plain h)
  obtain ⟨o, fd, ho, hd⟩ := hP h p
  refine ⟨.frame, .inl rfl, ?_⟩
  refine (Looks.ld (part := none) ho).andThen ?_
  rw [hd]; exact .now
end
end Mine
end

-- Quote
section
set_option maxHeartbeats 4000000
namespace Mine
open PySem PySem.Calls PySem.W PyProof.Rows PySem.Builtin

section
variable {prog : Program} {w : World} {A : Around} {E : Value → Shared → Prop} {s : Shared} {mg mb : Str → Option Value}

theorem quote_call {Q : Value → Shared → Prop} {x : Str} {t : Tok} (G : Gr w mg mb s.heap) (hroom : A.depth < recursionLimit) (hx : x.cps.size ≤ 262144)
    (h : ∀ h' tk t', (∀ b o, s.heap.get? b = some o → h'.get? b = some o) → Q (.str ⟨(quoteP x.cps.toList).toArray⟩ t') { s with heap := h', toks := tk }) :
    wpAny (model prog w) A (call (.ref 48) [.str x t]) Q E s := by
  obtain ⟨⟨o, pm, doc, ho, hd⟩, hc⟩ := G.f48
  refine wpAny_call (call_plain_ret (binds := [("data", .str x t)]) hroom ho hd G.lim hc rfl (locs rfl) ?_ rfl rfl rfl (by decide +kernel))
  intro h₁ F
  refine wpAny_execs_cons (wpAny_Return_some ?_)
  refine wpAny_Call_method (T := "re.Pattern") (id := "re.Pattern.sub") rfl rfl rfl pa_pattern slot_sub type_sub ?_
  refine ld_global_at F G.g (G.glob (v := .ref 36) rfl) ?_
  have G₁ := G.keeps F.keep
  have hp1 := G₁.pat1
  refine ⟨?_, ?_, ?_⟩
  · obtain ⟨⟨o, vs, h1, h2, _⟩, _⟩ := hp1
    exact ⟨o, h1, h2⟩
  · rintro a ⟨rfl⟩
    obtain ⟨⟨o, vs, h1, h2, h3, _⟩, _⟩ := hp1
    exact ⟨o, h1, h3⟩
  · refine cwb (spl_cons (Constant_str (spl_cons ?_)))
    refine wpAny_Call_method (T := "re.Pattern") (id := "re.Pattern.sub") rfl rfl rfl pa_pattern slot_sub type_sub ?_
    refine ld_global_at F G.g (G.glob (v := .ref 41) rfl) ?_
    have hp2 := G₁.pat2
    refine ⟨?_, ?_, ?_⟩
    · obtain ⟨⟨o, vs, h1, h2, _⟩, _⟩ := hp2
      exact ⟨o, h1, h2⟩
    · rintro a ⟨rfl⟩
      obtain ⟨⟨o, vs, h1, h2, h3, _⟩, _⟩ := hp2
      exact ⟨o, h1, h3⟩
    · refine cwb (spl_cons (ld_global_at F G.g (G.glob (v := .str "\r\n" 342) rfl) (spl_cons (ld F rfl (spl_nil ?_)))))
      refine sub_call (pat := 41) (cd := 40) (y := "\r\n") (F := fun p => crlfS false (x.cps.toList.drop p)) (spec2 x.cps) (by omega) ?_ hp2 (by decide +kernel) ?_
      · have := crlf_len false x.cps.toList
        simp at this ⊢; omega
      · intro h₂ tk t' kp
        refine spl_nil ?_
        refine sub_call (pat := 36) (cd := 35) (y := "..") (x := ⟨(crlfS false (x.cps.toList.drop 0)).toArray⟩) (F := fun p => dotsS (bol (crlfS false (x.cps.toList.drop 0)).toArray p) ((crlfS false (x.cps.toList.drop 0)).drop p)) (spec1 _) ?_ ?_ (hp1.keeps kp) (by decide +kernel) ?_
        · have := crlf_len false x.cps.toList
          simp at this ⊢; omega
        · have := quote_len x.cps.toList
          simp [quoteP] at this ⊢
          show (dotsS (0 == 0 || _) _).length ≤ _
          simp; omega
        · intro h₃ tk' t'' kp'
          refine h h₃ tk' t'' fun b o e => kp' _ _ (kp _ _ (F.keep _ _ e))
end
end Mine
end

-- GenR
section
set_option maxHeartbeats 4000000
namespace Mine
open PySem PySem.Calls PySem.W PyProof.Rows PySem.Builtin

section
variable {M : Model} {A : Around} {R : GenEnd} {Y : Protocol} {n : Nat} {s₀ : Shared} {c : Code} {fs : List Frame} {s : Shared} {env : Env}
  {K : Flow → Sem Fin} {H : Value → Sem Fin} {gd : Bool → Bool} {lv : List Value → List Value}

/-- a bind's first part by the plain logic -/
theorem seg_bindw {α β : Type} {m : Sem α} {f : α → Sem β} {K : β → Sem Fin}
    (h : wpAny M (A.over c fs) m (fun a s' => Seg M A R Y n s₀ c ((f a).wrap K H gd lv) fs s') (fun x s' => Seg M A R Y n s₀ c (H x) fs s') s) :
    Seg M A R Y n s₀ c ((m >>= f).wrap K H gd lv) fs s := by
  rw [Sem.bind_eq_wrap', Sem.wrap_wrap]
  exact seg_wrap h

theorem seg_plain {st : Stmt} {rest : List Stmt} {Eany : Value → Shared → Prop} (hE : ∀ e s', Eany e s' → False)
    (h : wpAny M (A.over c fs) (exec st env) (fun f s' => f = .next ∧ Seg M A R Y n s₀ c ((execs rest env).wrap K H gd lv) fs s') Eany s) :
    Seg M A R Y n s₀ c ((execs (st :: rest) env).wrap K H gd lv) fs s := by
  refine seg_execs_cons (seg_wrap (wpAny_mono h (fun f s' h' => ?_) fun e s' he => (hE e s' he).elim))
  obtain ⟨rfl, h''⟩ := h'
  exact h''

theorem seg_If {test : Expr} {body orelse : List Stmt} {pos : Pos} {Eany : Value → Shared → Prop} (hE : ∀ e s', Eany e s' → False)
    (h : wpAny M (A.over c fs) (isTrue test env (eval test env)) (fun b s' => if b then Seg M A R Y n s₀ c ((execs body env).wrap K H gd lv) fs s' else Seg M A R Y n s₀ c ((execs orelse env).wrap K H gd lv) fs s') Eany s) :
    Seg M A R Y n s₀ c ((exec (.If test body orelse pos) env).wrap K H gd lv) fs s := by
  rw [exec_If]
  refine seg_bindw (wpAny_standAt (seg_bindw (wpAny_mono h (fun b s' h' => ?_) fun e s' he => (hE e s' he).elim)))
  cases b <;> exact h'

theorem seg_For {target iter : Expr} {body orelse : List Stmt} {pos : Pos} {Eany : Value → Shared → Prop} (hE : ∀ e s', Eany e s' → False)
    (h : wpAny M (A.over c fs) (eval iter env) (fun x s₁ => wpAny M (A.over c fs) (pyIter x) (fun it s₂ => ∀ p, Seg M A R Y n s₀ (.forLoop target it body orelse env) (M.den (.forLoop target it body orelse env))
      (.ret (fun r => ((match r with | .ok f => (.pure f : Sem Flow) | .error e => .raise e).onRaise fun (x : Value) => do
        if (← field x 1) == Value.none then unsupported "frame.own-activation:exception-without-traceback"
        setFlight x env.frame).wrap K H gd lv) none (gd false) (lv []) c p [] :: fs) s₂) Eany s₁) Eany s)
    (hs : ∀ x, foldedSetIterable iter env x = pure x := by intro _; rfl) :
    Seg M A R Y n s₀ c ((exec (.For target iter body orelse pos) env).wrap K H gd lv) fs s := by
  rw [exec_For]
  refine seg_bindw (wpAny_standAt (seg_bindw (wpAny_mono h (fun x s₁ h₁ => ?_) fun e s' he => (hE e s' he).elim)))
  rw [hs x]
  refine seg_bindw (wpAny_pure (seg_bindw (wpAny_standAt (seg_bindw (wpAny_holding (wpAny_mono h₁ (fun it s₂ h₂ => ?_) fun e s' he => (hE e s' he).elim))))))
  exact seg_call h₂
end

section
variable {prog : Program} {w : World} {A : Around} {R : GenEnd} {Y : Protocol} {n : Nat} {s₀ : Shared} {fs : List Frame} {s : Shared} {env : Env}

noncomputable def turnK (target : Expr) (it : Value) (body : List Stmt) (env : Env) (f : Flow) : Sem Fin := match f with
  | .next | .cont => .pure (.again (.forLoop target it body [] env))
  | .brk => .pure (.done .next)
  | .ret v => .pure (.done (.ret v))

theorem seg_forLoop {target : Expr} {it : Value} {body : List Stmt} {Eany : Value → Shared → Prop} (hE : ∀ e s', Eany e s' → False)
    (h : wpAny (model prog w) (A.over (.forLoop target it body [] env) fs) (pyNext it) (fun r s₁ => match r with
      | none => Seg (model prog w) A R Y n s₀ (.block [] env) (leafOf (.ok .next)) fs s₁
      | some v => wpAny (model prog w) (A.over (.forLoop target it body [] env) fs) (letOwnedTupleGo target it v) (fun _ s₁' =>
          wpAny (model prog w) (A.over (.forLoop target it body [] env) fs) (assign target env v) (fun _ s₂ =>
            ∀ H, Seg (model prog w) A R Y n s₀ (.forLoop target it body [] env) ((execs body env).wrap (turnK target it body env) H id id) fs s₂) Eany s₁') Eany s₁) Eany s) :
    Seg (model prog w) A R Y n s₀ (.forLoop target it body [] env) ((model prog w).den (.forLoop target it body [] env)) fs s := by
  show Seg _ A R Y n s₀ _ ((forTurn target it body [] env).onRaise (fun x => do noteFrame x env; theTreesLotGoes x)) fs s
  unfold forTurn
  rw [Sem.onRaise_eq_wrap]
  refine seg_bindw (wpAny_standAt (seg_bindw (wpAny_onRaise (wpAny_mono h (fun r s₁ h₁ => ?_) fun e s' he => (hE e s' he).elim))))
  cases r with
  | none => exact seg_again rfl h₁
  | some v =>
    refine seg_bindw (wpAny_mono h₁ (fun _ s₁' h₂ => ?_) fun e s' he => (hE e s' he).elim)
    refine seg_bindw (wpAny_mono h₂ (fun _ s₂ h₃ => ?_) fun e s' he => (hE e s' he).elim)
    rw [Sem.bind_eq_wrap', Sem.wrap_wrap]
    refine (Sem.wrap_congr _ _ _ (fun f => ?_) (fun _ => rfl)).symm ▸ h₃ _
    cases f <;> rfl
end
end Mine
end

-- Gen1
section
set_option maxHeartbeats 4000000
namespace Mine
open PySem PySem.Calls PySem.W PyProof.Rows PySem.Builtin

section
variable {prog : Program} {w : World} {A : Around} {E : Value → Shared → Prop} {s : Shared} {x y : Str} {t u : Tok}
theorem add_strK {Q : Value → Shared → Prop} (hz : x.length + y.length ≤ sizeLine) (h : ∀ t' k, Q (.str (x ++ y) t') { s with toks := k }) : wpAny (model prog w) A (binaryOp .Add (.str x t) (.str y u)) Q E s := add_str h hz
theorem iadd_strK {Q : Value → Shared → Prop} (hz : x.length + y.length ≤ sizeLine) (h : ∀ t' k, Q (.str (x ++ y) t') { s with toks := k }) : wpAny (model prog w) A (inplaceOp .Add (.str x t) (.str y u)) Q E s := iadd_str h hz
end

/-- the yields of _iter_escaped_chars -/
noncomputable def evs : Nat → Bool → List Nat → List (Nat × List Nat)
  | i, esc, [] => if esc then [(i - 1, [92])] else []
  | i, esc, c :: r => if esc then (i, [92, c]) :: evs (i + 1) false r else if c = 92 then evs (i + 1) true r else (i, [c]) :: evs (i + 1) false r

noncomputable abbrev genEnv (L : Nat) : Env := envOf "_iter_escaped_chars" (scopeOf (topSt 7)) L 55 (.ref 54)
noncomputable def genFor : Stmt := (bodyOf (topSt 7)).getD 2 (.Pass default)
noncomputable def forTarget : Stmt → Expr
  | .For t _ _ _ _ => t
  | _ => .Constant .none 0 default
noncomputable abbrev genLoop (L e : Nat) : Code := .forLoop (forTarget genFor) (.ref e) (bodyOf genFor) [] (genEnv L)

noncomputable def NI (L : Nat) (i : Nat) (esc : Bool) (h : Heap) : Prop := ∃ m, h.Ns L m ∧ m "escape" = some (.bool esc) ∧ ∃ tp, m "pos" = some (.int ((i - 1 : Nat) : Int) tp)
structure GI (x : Str) (t : Tok) (L e it : Nat) (i : Nat) (esc : Bool) (h : Heap) : Prop where
  ns : NI L i esc h
  en : ∃ old, IsEnum h e it i old
  st : h.IsStrIter it (strIterType x) x t i

theorem GI.keeps {x : Str} {t : Tok} {L e it : Nat} {i : Nat} {esc : Bool} {h h' : Heap} (I : GI x t L e it i esc h) (k : ∀ b, b = L ∨ b = e ∨ b = it → ∀ o, h.get? b = some o → h'.get? b = some o) : GI x t L e it i esc h' := by
  obtain ⟨⟨m, hm, r⟩, ⟨old, he⟩, hs⟩ := I
  refine ⟨⟨m, hm.at fun o e => k L (.inl rfl) o e, r⟩, ⟨old, k e (.inr (.inl rfl)) _ he⟩, ?_⟩
  obtain ⟨o, ho, r⟩ := hs
  exact ⟨o, k it (.inr (.inr rfl)) _ ho, r⟩

/-- the run has let all below Z be, but the generator's frame L -/
noncomputable def Rel (L Z : Nat) (s₀ s : Shared) : Prop := ∃ h tk, s = { s₀ with heap := h, toks := tk } ∧ ∀ b o, b < Z → b ≠ L → s₀.heap.get? b = some o → h.get? b = some o
theorem Rel.refl {L Z : Nat} {s : Shared} : Rel L Z s s := ⟨s.heap, s.toks, rfl, fun _ _ _ _ e => e⟩
theorem Rel.step {L Z : Nat} {s₀ s : Shared} (R : Rel L Z s₀ s) {h : Heap} {tk : Nat} (k : ∀ b o, b < Z → b ≠ L → s.heap.get? b = some o → h.get? b = some o) : Rel L Z s₀ { s with heap := h, toks := tk } := by
  obtain ⟨h₁, tk₁, rfl, k₁⟩ := R
  exact ⟨h, tk, rfl, fun b o hb hL e => k b o hb hL (k₁ b o hb hL e)⟩

noncomputable def Yp (L Z : Nat) (ev : List (Nat × List Nat)) : Protocol := fun n s₀ v s' kap => ∃ (p : Nat) (cs : List Nat) (T : Addr) (tp ts : Tok), ev[ev.length - 1 - n]? = some (p, cs) ∧ v = .ref T ∧ Rel L Z s₀ s' ∧ s'.heap.IsTuple T #[.int p tp, .str ⟨cs.toArray⟩ ts] ∧
  (∀ s'' : Shared, (∀ b o, (b = L ∨ Z ≤ b) → s'.heap.get? b = some o → s''.heap.get? b = some o) → kap (.send .none) s'')
noncomputable def Rp (L Z : Nat) : GenEnd := fun n s₀ r s₁ => r = .ok (.ret .none) ∧ (n = 0 ∧ Rel L Z s₀ s₁)

theorem drawsStr {prog : Program} {w : World} {A : Around} (hh : A.handled = none) (it : Addr) (x : Str) (t : Tok) :
    Draws prog w A it [it] x.cps.size (fun i v => ∃ c u, x.cps[i]? = some c ∧ v = .str ⟨#[c]⟩ u) (fun i h => h.IsStrIter it (strIterType x) x t i) := by
  unfold strIterType
  split
  · exact .strAscii hh it x t
  · exact .strWide hh it x t
end Mine
end

-- Gen2
section
set_option maxHeartbeats 4000000
namespace Mine
open PySem PySem.Calls PySem.W PyProof.Rows PySem.Builtin

theorem ev_at {α : Type} {ev pre rest : List α} {q : α} (h : ev = pre ++ q :: rest) : ev[ev.length - 1 - rest.length]? = some q := by
  subst h
  rw [show (pre ++ q :: rest).length - 1 - rest.length = pre.length by simp only [List.length_append, List.length_cons]; omega]
  simp


section
variable {prog : Program} {w : World} {A : Around} {Z : Nat} {L e it : Nat} {x : Str} {t : Tok} {ev : List (Nat × List Nat)} {fs : List Frame}

theorem gen_loop (hZ : Z ≤ it) (hL : L < it) (hi : it < e) (hf1 : splitAtGen fs = none) (hf2 : fs.any Frame.guarded = false) (hh : (A.over (genLoop L e) fs).handled = none)
    (hend : ∀ s₀ s esc, NI L x.cps.size esc s.heap → Rel L Z s₀ s → (∃ pre, ev = pre ++ evs x.cps.size esc []) → Seg (model prog w) A (Rp L Z) (Yp L Z ev) (evs x.cps.size esc []).length s₀ (.block [] (genEnv L)) (leafOf (.ok .next)) fs s) :
    ∀ (d i : Nat) (esc : Bool) (s₀ s : Shared), i + d = x.cps.size → GI x t L e it i esc s.heap → Rel L Z s₀ s → (∃ pre, ev = pre ++ evs i esc (x.cps.toList.drop i)) →
      Seg (model prog w) A (Rp L Z) (Yp L Z ev) (evs i esc (x.cps.toList.drop i)).length s₀ (genLoop L e) ((model prog w).den (genLoop L e)) fs s := by
  intro d
  have W := WalksT.enumerateD (drawsStr (prog := prog) (w := w) (A := (A.over (genLoop L e) fs).in1) hh it x t) e (by show e ≠ it; omega) (by show e ∉ [it]; rw [List.mem_singleton]; omega) (List.mem_singleton_self it)
  have hE : ∀ (e : Value) (s' : Shared), (fun _ _ => False : Value → Shared → Prop) e s' → False := fun _ _ h => h
  have nw : ∀ b : Nat, b < it → b ∉ [e, it] := fun b hb hm => by
    rcases List.mem_cons.mp hm with h | h
    · omega
    · have := List.mem_singleton.mp h; omega
  induction d with
  | zero =>
    intro i esc s₀ s hi' I hR hev
    have hi' : i = x.cps.size := by omega
    subst hi'
    have hd : x.cps.toList.drop x.cps.size = [] := by simp
    rw [hd] at hev ⊢
    refine seg_forLoop hE ?_
    refine W.done s _ _ ⟨I.en, I.st⟩ fun h' tk kp => ?_
    refine hend s₀ _ esc ?_ (hR.step fun b o hb _ eo => kp b o (nw b (by omega)) eo) hev
    obtain ⟨m, hm, r⟩ := I.ns
    exact ⟨m, hm.at fun o e => kp L o (nw L hL) e, r⟩
  | succ d ih =>
    intro i esc s₀ s hi' I hR hev
    have hlt : i < x.cps.size := by omega
    refine seg_forLoop hE ?_
    refine W.item i s _ _ hlt ⟨I.en, I.st⟩ fun T vals h₁ tk₁ hPt hT hTup hMid kp₁ => ?_
    obtain ⟨tp, v, ⟨c, u, hc, rfl⟩, rfl⟩ := hPt
    refine W.go _ _ _ i T _ _ _ hMid fun h₂ hSt₂ kp₂ => ?_
    have hT₂ : h₂.IsTuple T #[.int i tp, .str ⟨#[c]⟩ u] := by
      obtain ⟨o, ho, r⟩ := hTup
      exact ⟨o, kp₂ T o (W.apart i T h₁ hMid) ho, r⟩
    refine wpAny_assign_Tuple hh hT₂ rfl rfl fun h₃ hx₃ => ?_
    obtain ⟨m, hm, hesc, _⟩ := I.ns
    have hm₂ : h₂.Ns L m := hm.at fun o e => kp₂ L o (nw L hL) (kp₁ L o (nw L hL) e)
    have hm₃ : h₃.Ns L m := hm₂.at fun o eo => hx₃ L o (Nat.ne_of_lt (Heap.lt_size eo)) eo
    show wpAny _ _ (do holding [Value.str ⟨#[c]⟩ u] (assign (.Name "pos" _) (genEnv L) (.int i tp)); do holding [] (assign (.Name "ch" _) (genEnv L) (Value.str ⟨#[c]⟩ u)); pure ()) _ _ _
    refine wpAny_bind (wpAny_holding (wpAny_assign_Name (wpAny_storeName_local rfl hm₃ (fun h₄ hm₄ hs₄ => ?_) rfl)))
    refine wpAny_bind (wpAny_holding (wpAny_assign_Name (wpAny_storeName_local rfl hm₄ (fun h₅ hm₅ hs₅ => wpAny_pure ?_) rfl)))
    have k25 : ∀ b o, b ≠ L → h₂.get? b = some o → h₅.get? b = some o := fun b o hb eo =>
      (hs₅.2 b hb).trans ((hs₄.2 b hb).trans (hx₃ b o (Nat.ne_of_lt (Heap.lt_size eo)) eo))
    have hR₅ : Rel L Z s₀ { s with heap := h₅, toks := tk₁ + 1 + 1 } := hR.step fun b o hb hbL eo => k25 b o hbL (kp₂ b o (nw b (by omega)) (kp₁ b o (nw b (by omega)) eo))
    have I₅ : ∀ esc', NI L (i + 1) esc' h₅ → GI x t L e it (i + 1) esc' h₅ := fun esc' hn => by
      obtain ⟨⟨old, he⟩, ⟨oi, hoi, r⟩⟩ := hSt₂
      exact ⟨hn, ⟨old, k25 e _ (by show e ≠ L; omega) he⟩, ⟨oi, k25 it _ (by show it ≠ L; omega) hoi, r⟩⟩
    have hd : x.cps.toList.drop i = c :: x.cps.toList.drop (i + 1) := by
      have := drop_cons (text := x.cps) hlt
      rw [this]
      congr 1
      rw [Array.getD_eq_getD_getElem?, hc]; rfl
    rw [hd] at hev ⊢
    have lpos : ∀ {Q : Value → Shared → Prop} {E : Value → Shared → Prop} {A' : Around} {tk : Nat} {pos : Pos}, Q (.int i tp) { s with heap := h₅, toks := tk } → wpAny (model prog w) A' (eval (.Name "pos" pos) (genEnv L)) Q E { s with heap := h₅, toks := tk } := fun hq =>
      wpAny_Name (wpAny_loadName_local rfl rfl hm₅ ((if_neg (by decide +kernel)).trans (if_pos rfl)) hq)
    have lch : ∀ {Q : Value → Shared → Prop} {E : Value → Shared → Prop} {A' : Around} {tk : Nat} {pos : Pos}, Q (.str ⟨#[c]⟩ u) { s with heap := h₅, toks := tk } → wpAny (model prog w) A' (eval (.Name "ch" pos) (genEnv L)) Q E { s with heap := h₅, toks := tk } := fun hq =>
      wpAny_Name (wpAny_loadName_local rfl rfl hm₅ (if_pos rfl) hq)
    intro H
    refine seg_execs_cons (seg_If hE (isTrue_plain (wpAny_Name (wpAny_loadName_local rfl rfl hm₅ ((if_neg (by decide +kernel)).trans ((if_neg (by decide +kernel)).trans hesc)) (wpAny_truthy_bool ?_)))))
    have hb : Str.ofString "\\" = ⟨#[92]⟩ := by decide +kernel
    have next : ∀ (esc' : Bool) (s₁ s₂ : Shared), Rel L Z s₁ s₂ → GI x t L e it (i + 1) esc' s₂.heap → (∃ pre, ev = pre ++ evs (i + 1) esc' (x.cps.toList.drop (i + 1))) →
        Seg (model prog w) A (Rp L Z) (Yp L Z ev) (evs (i + 1) esc' (x.cps.toList.drop (i + 1))).length s₁ (genLoop L e) ((execs [] (genEnv L)).wrap (turnK (forTarget genFor) (.ref e) (bodyOf genFor) (genEnv L)) H id id) fs s₂ := fun esc' s₁ s₂ hr hg hv =>
      seg_execs_nil (seg_again rfl (ih (i + 1) esc' s₁ s₂ (by omega) hg hr hv))
    cases esc with
    | true =>
      rw [if_pos rfl]
      obtain ⟨pre, hev⟩ := hev
      have e1 : evs i true (c :: x.cps.toList.drop (i + 1)) = (i, [92, c]) :: evs (i + 1) false (x.cps.toList.drop (i + 1)) := by simp only [evs, if_true]
      rw [e1] at hev ⊢
      refine seg_execs_cons (seg_Expr_Yield hf1 rfl hf2 ?_)
      refine Tuple_ (spl_cons (lpos (spl_cons (wpAny_BinOp (Constant_str (lch (add_strK (by rw [hb]; show 1 + 1 ≤ sizeLine; decide) fun t' k => spl_nil ?_)))))))
      refine wpAny_newObj_type ?_ (by show 2 ≤ sizeLine; decide)
      intro kap hk
      refine ⟨i, [92, c], _, tp, t', ev_at hev, rfl, ?_, ?_, fun s'' kp => hk .none s'' ?_⟩
      · exact hR.step fun b o hb hbL eo => Heap.get?_push_of_some _ (k25 b o hbL (kp₂ b o (nw b (by omega)) (kp₁ b o (nw b (by omega)) eo)))
      · rw [hb]; exact ⟨_, Heap.get?_push_size _ rfl, rfl, _, rfl⟩
      · have hm₆ : s''.heap.Ns L _ := hm₅.at fun o eo => kp L o (.inl rfl) (Heap.get?_push_of_some _ eo)
        refine seg_plain hE (wpAny_Assign_Name (wpAny_Constant_bool (wpAny_storeName_local rfl hm₆ (fun h₇ hm₇ hs₇ => ⟨rfl, ?_⟩) rfl)))
        have k7 : ∀ b o, Z ≤ b → b ≠ L → h₅.get? b = some o → h₇.get? b = some o := fun b o h1 h2 eo => (hs₇.2 b h2).trans (kp b o (.inr h1) (Heap.get?_push_of_some _ eo))
        refine next false s'' _ (Rel.refl.step fun b o _ hb eo => (hs₇.2 b hb).trans eo) ?_ ⟨pre ++ [(i, [92, c])], by rw [hev]; simp⟩
        have I₆ := I₅ true ⟨_, hm₅, (if_neg (by decide +kernel)).trans ((if_neg (by decide +kernel)).trans hesc), ⟨tp, (if_neg (by decide +kernel)).trans (if_pos rfl)⟩⟩
        refine ⟨⟨_, hm₇, if_pos rfl, ⟨tp, (if_neg (by decide +kernel)).trans ((if_neg (by decide +kernel)).trans (if_pos rfl))⟩⟩, ?_, ?_⟩
        · obtain ⟨old, he⟩ := I₆.en; exact ⟨old, k7 e _ (by omega) (by show e ≠ L; omega) he⟩
        · obtain ⟨o, ho, r⟩ := I₆.st; exact ⟨o, k7 it _ (by omega) (by show it ≠ L; omega) ho, r⟩
    | false =>
      rw [if_neg (by decide)]
      refine seg_execs_cons (seg_If hE (wpAny_isTrue_Compare1 (lch (Constant_str (eq_str (wpAny_truthy_bool ?_))))))
      rw [hb]
      have I₆ := I₅ false ⟨_, hm₅, (if_neg (by decide +kernel)).trans ((if_neg (by decide +kernel)).trans hesc), ⟨tp, (if_neg (by decide +kernel)).trans (if_pos rfl)⟩⟩
      by_cases h92 : c = 92
      · subst h92
        rw [if_pos (by rfl)]
        have e1 : evs i false (92 :: x.cps.toList.drop (i + 1)) = evs (i + 1) true (x.cps.toList.drop (i + 1)) := by simp [evs]
        rw [e1] at hev ⊢
        refine seg_plain hE (wpAny_Assign_Name (wpAny_Constant_bool (wpAny_storeName_local rfl hm₅ (fun h₇ hm₇ hs₇ => ⟨rfl, ?_⟩) rfl)))
        refine seg_execs_nil ?_
        refine next true s₀ _ (hR₅.step fun b o _ hb eo => (hs₇.2 b hb).trans eo) ?_ hev
        have k7 : ∀ b o, b ≠ L → h₅.get? b = some o → h₇.get? b = some o := fun b o h2 eo => (hs₇.2 b h2).trans eo
        refine ⟨⟨_, hm₇, if_pos rfl, ⟨tp, (if_neg (by decide +kernel)).trans ((if_neg (by decide +kernel)).trans (if_pos rfl))⟩⟩, ?_, ?_⟩
        · obtain ⟨old, he⟩ := I₆.en; exact ⟨old, k7 e _ (by show e ≠ L; omega) he⟩
        · obtain ⟨o, ho, r⟩ := I₆.st; exact ⟨o, k7 it _ (by show it ≠ L; omega) ho, r⟩
      · rw [if_neg (by simpa using h92)]
        obtain ⟨pre, hev⟩ := hev
        have e1 : evs i false (c :: x.cps.toList.drop (i + 1)) = (i, [c]) :: evs (i + 1) false (x.cps.toList.drop (i + 1)) := by simp [evs, h92]
        rw [e1] at hev ⊢
        refine seg_execs_cons (seg_Expr_Yield hf1 rfl hf2 ?_)
        refine Tuple_ (spl_cons (lpos (spl_cons (lch (spl_nil ?_)))))
        refine wpAny_newObj_type ?_ (by show 2 ≤ sizeLine; decide)
        intro kap hk
        refine ⟨i, [c], _, tp, u, ev_at hev, rfl, ?_, ?_, fun s'' kp => hk .none s'' ?_⟩
        · exact hR.step fun b o hb hbL eo => Heap.get?_push_of_some _ (k25 b o hbL (kp₂ b o (nw b (by omega)) (kp₁ b o (nw b (by omega)) eo)))
        · exact ⟨_, Heap.get?_push_size _ rfl, rfl, _, rfl⟩
        · refine seg_execs_nil (seg_execs_nil ?_)
          refine next false s'' _ Rel.refl ?_ ⟨pre ++ [(i, [c])], by rw [hev]; simp⟩
          refine I₆.keeps fun b hb o eo => kp b o ?_ (Heap.get?_push_of_some _ eo)
          rcases hb with h | h | h
          · exact .inl h
          · exact .inr (by omega)
          · exact .inr (by omega)
end
end Mine
end

-- Gen3
section
set_option maxHeartbeats 4000000
namespace Mine
open PySem PySem.Calls PySem.W PyProof.Rows PySem.Builtin

section
variable {prog : Program} {w : World} {A : Around} {Z : Nat} {L : Nat} {x : Str} {t : Tok} {mg mb : Str → Option Value}

theorem gen_fresh {s : Shared} {h₀ : Heap} {m : Str → Option Value} (hZ : Z ≤ s.heap.objs.size) (hA : A.handled = none) (G : Gr w mg mb h₀) (k0 : ∀ b o, h₀.get? b = some o → s.heap.get? b = some o) (hL0 : h₀.objs.size ≤ L) (hm : s.heap.Ns L m) (hx : m "addr" = some (.str x t)) :
    Seg (model prog w) A (Rp L Z) (Yp L Z (evs 0 false x.cps.toList)) (evs 0 false x.cps.toList).length s (.func (bodyOf (topSt 7)) (genEnv L)) ((model prog w).den (.func (bodyOf (topSt 7)) (genEnv L))) [] s := by
  have hE : ∀ (e : Value) (s' : Shared), (fun _ _ => False : Value → Shared → Prop) e s' → False := fun _ _ h => h
  have hLs : L < s.heap.objs.size := hm.lt
  have hbs : Str.ofString "\\" = ⟨#[92]⟩ := by decide +kernel
  refine seg_func ?_
  refine seg_plain hE (wpAny_Assign_Name (wpAny_Constant_int (wpAny_storeName_local rfl hm (fun h₁ hm₁ hs₁ => ⟨rfl, ?_⟩) rfl)))
  refine seg_plain hE (wpAny_Assign_Name (wpAny_Constant_bool (wpAny_storeName_local rfl hm₁ (fun h₂ hm₂ hs₂ => ⟨rfl, ?_⟩) rfl)))
  have k02 : ∀ b o, b ≠ L → s.heap.get? b = some o → h₂.get? b = some o := fun b o hb eo => (hs₂.2 b hb).trans ((hs₁.2 b hb).trans eo)
  have kG : ∀ b o, h₀.get? b = some o → h₂.get? b = some o := fun b o eo => k02 b o (Nat.ne_of_lt (Nat.lt_of_lt_of_le (Heap.lt_size eo) hL0)) (k0 b o eo)
  have hz : h₂.objs.size = s.heap.objs.size := hs₂.1.trans hs₁.1
  have hbi := G.built (n := "enumerate") rfl boot_enumerate (by decide +kernel)
  refine seg_execs_cons (seg_For hE ?_)
  refine wpAny_Call_NameR (Calls.Name_function_global rfl rfl (Calls.loadGlobal_builtin (G.g.keeps kG) hbi.1 (G.b.keeps kG) hbi.2 ?_))
  refine PyProof.Rows.callWith_type1 (spl_cons (wpAny_Name (wpAny_loadName_local rfl rfl hm₂ ((if_neg (by decide +kernel)).trans ((if_neg (by decide +kernel)).trans hx)) (spl_nil ?_))))
  refine call_enumerate_str fun h₃ he hit hsz kp => ?_
  refine wpAny_pyIter_enum he fun p => ?_
  have hL2 : L < h₂.objs.size := by rw [hz]; exact hLs
  have hm₃ := hm₂.at fun o eo => kp L o eo
  have fin : ∀ (s₀ s₁ : Shared) (H : Value → Sem Fin), Rel L Z s₀ s₁ → Seg (model prog w) A (Rp L Z) (Yp L Z (evs 0 false x.cps.toList)) 0 s₀ (.func (bodyOf (topSt 7)) (genEnv L))
      ((execs [] (genEnv L)).wrap (fun f => .pure (.done (.ret (match f with | .ret v => v | _ => .none)))) H id id) [] s₁ := fun s₀ s₁ H hr => seg_execs_nil (seg_end (.ok (.ret .none)) ⟨rfl, rfl, hr⟩)
  refine gen_loop (prog := prog) (w := w) (A := A) (Z := Z) (L := L) (e := h₂.objs.size + 1) (it := h₂.objs.size) (x := x) (t := t) (ev := evs 0 false x.cps.toList)
    (by rw [hz]; exact hZ) hL2 (Nat.lt_succ_self _) ?f1 ?f2 ?f3 ?_ x.cps.size 0 false s _ (by omega) ?_ ?_ ⟨[], rfl⟩
  case f1 => rfl
  case f2 => rfl
  case f3 => exact hA
  · intro s₀ s₁ esc hN hR hev
    refine seg_leaf (.ok .next) ?_
    obtain ⟨m₄, hm₄, hesc, tp, hpos⟩ := hN
    refine seg_execs_cons (seg_If hE (isTrue_plain (wpAny_Name (wpAny_loadName_local rfl rfl hm₄ hesc (wpAny_truthy_bool ?_)))))
    cases esc with
    | false =>
      rw [if_neg (by decide)]
      exact seg_execs_nil (fin s₀ s₁ _ hR)
    | true =>
      rw [if_pos rfl]
      obtain ⟨pre, hev⟩ := hev
      refine seg_execs_cons (seg_Expr_Yield (n := 0) rfl rfl rfl ?_)
      refine Tuple_ (spl_cons (wpAny_Name (wpAny_loadName_local rfl rfl hm₄ hpos (spl_cons (Constant_str (spl_nil ?_))))))
      refine wpAny_newObj_type ?_ (by show 2 ≤ sizeLine; decide)
      intro kap hk
      refine ⟨x.cps.size - 1, [92], _, tp, s₁.toks, ev_at (rest := []) hev, rfl, hR.step fun b o _ _ eo => Heap.get?_push_of_some _ eo, ?_, fun s'' kp => hk .none s'' ?_⟩
      · rw [hbs]; exact ⟨_, Heap.get?_push_size _ rfl, rfl, _, rfl⟩
      · exact seg_execs_nil (fin s'' s'' _ Rel.refl)
  · refine ⟨⟨_, hm₃, if_pos rfl, s.toks, (if_neg (by decide +kernel)).trans (if_pos rfl)⟩, ⟨.none, he⟩, hit⟩
  · exact Rel.refl.step fun b o _ hb eo => kp b o (k02 b o hb eo)
end
end Mine
end

-- Slices
section
set_option maxHeartbeats 4000000
namespace Mine
open PySem PySem.Calls PySem.W PyProof.Rows PySem.Builtin

theorem range_pick {α : Type} (l : List α) (a b : Nat) (hb : b ≤ l.length) : (sliceRange (a : Int) (b : Int) 1).filterMap (l[·]?) = (l.drop a).take (b - a) := by
  unfold sliceRange
  have hc : (if (1 : Int) > 0 then (if (a : Int) < b then ((b : Int) - a + 1 - 1) / 1 else 0) else (if (a : Int) > b then ((a : Int) - b - 1 - 1) / (-1) else 0)).toNat = b - a := by
    rw [if_pos (by decide)]
    split
    · rw [Int.ediv_one]; omega
    · simp; omega
  dsimp only
  rw [hc]
  rw [List.filterMap_map]
  apply List.ext_getElem?
  intro i
  have key : ∀ n, n ≤ b - a → List.filterMap ((fun x => l[x]?) ∘ fun (k : Nat) => ((a : Int) + 1 * (k : Int)).toNat) (List.range n) = (l.drop a).take n := by
    intro n
    induction n with
    | zero => intro _; simp
    | succ n ih =>
      intro hn
      rw [List.range_succ, List.filterMap_append, ih (by omega), List.take_add_one]
      congr 1
      have e : ((a : Int) + 1 * (n : Int)).toNat = a + n := by omega
      simp only [List.filterMap_cons, List.filterMap_nil, Function.comp, e]
      rw [List.getElem?_drop]
      rw [List.getElem?_eq_getElem (by omega)]
      rfl
  rw [key _ (Nat.le_refl _)]

noncomputable abbrev part (l : Option (Nat × Tok)) : Option (Int × Tok) := l.map fun p => ((p.1 : Int), p.2)
noncomputable def loOf (l : Option (Nat × Tok)) : Nat := (l.map (·.1)).getD 0
noncomputable def hiOf (u : Option (Nat × Tok)) (n : Nat) : Nat := (u.map (·.1)).getD n

theorem picked_eq (x : Str) (l u : Option (Nat × Tok)) : slicePicked x (part l) (part u) none = sliceRange ((min (loOf l) x.cps.size : Nat) : Int) ((min (hiOf u x.cps.size) x.cps.size : Nat) : Int) 1 := by
  have hi : ∀ (u : Option (Nat × Tok)), (match Option.map (·.1) (part u) with
      | none => (x.cps.size : Int)
      | some i => max 0 (min (if i < 0 then i + x.cps.size else i) (x.cps.size : Int))) = ((min (hiOf u x.cps.size) x.cps.size : Nat) : Int) := by
    intro u
    cases u with
    | none => simp [hiOf]
    | some q => simp only [part, Option.map_some, hiOf, Option.getD_some]; rw [if_neg (by omega)]; simp only [Int.max_def, Int.min_def, Nat.min_def]; (repeat' split) <;> omega
  have lo : ∀ (u : Option (Nat × Tok)), (match Option.map (·.1) (part u) with
      | none => (0 : Int)
      | some i => max 0 (min (if i < 0 then i + x.cps.size else i) (x.cps.size : Int))) = ((min (loOf u) x.cps.size : Nat) : Int) := by
    intro u
    cases u with
    | none => simp [loOf]
    | some q => simp only [part, Option.map_some, loOf, Option.getD_some]; rw [if_neg (by omega)]; simp only [Int.max_def, Int.min_def, Nat.min_def]; (repeat' split) <;> omega
  show Str.strSliceIndices _ _ 1 x.cps.size = _
  unfold Str.strSliceIndices
  have e : sliceRange (match Option.map (·.1) (part l) with
      | none => (0 : Int)
      | some i => max 0 (min (if i < 0 then i + x.cps.size else i) (x.cps.size : Int))) (match Option.map (·.1) (part u) with
      | none => (x.cps.size : Int)
      | some i => max 0 (min (if i < 0 then i + x.cps.size else i) (x.cps.size : Int))) 1 = sliceRange ((min (loOf l) x.cps.size : Nat) : Int) ((min (hiOf u x.cps.size) x.cps.size : Nat) : Int) 1 := by
    rw [hi u, lo l]
  refine Eq.trans ?_ e
  cases l <;> cases u <;> rfl
theorem range_len (a b : Nat) : (sliceRange (a : Int) (b : Int) 1).length = b - a := by
  unfold sliceRange
  simp only [List.length_map, List.length_range]
  rw [if_pos (by decide)]
  split
  · rw [Int.ediv_one]; omega
  · simp; omega
theorem picked (x : Str) (l u : Option (Nat × Tok)) : (slicePicked x (part l) (part u) none).filterMap (x.cps[·]?) = (x.cps.toList.drop (loOf l)).take (hiOf u x.cps.size - loOf l) := by
  have hx : (fun (i : Nat) => x.cps[i]?) = fun i => x.cps.toList[i]? := by funext i; simp
  rw [picked_eq, hx, range_pick _ _ _ (by simp; omega)]
  apply List.ext_getElem?
  intro i
  simp only [List.getElem?_take, List.getElem?_drop]
  by_cases h : loOf l ≤ x.cps.size
  · rw [Nat.min_eq_left h]
    by_cases h1 : i < min (hiOf u x.cps.size) x.cps.size - loOf l
    · rw [if_pos h1, if_pos (by omega)]
    · rw [if_neg h1]
      by_cases h2 : i < hiOf u x.cps.size - loOf l
      · rw [if_pos h2, List.getElem?_eq_none (by simp; omega)]
      · rw [if_neg h2]
  · rw [if_neg (by omega)]
    by_cases h2 : i < hiOf u x.cps.size - loOf l
    · rw [if_pos h2, List.getElem?_eq_none (by simp; omega)]
    · rw [if_neg h2]

/-- the text of x from lo on, below hi -/
noncomputable def cut (x : Str) (l u : Option (Nat × Tok)) : Str := ⟨((x.cps.toList.drop (loOf l)).take (hiOf u x.cps.size - loOf l)).toArray⟩

theorem sm_post {x : Str} {t : Tok} {Q : Value → Shared → Prop} {s : Shared} (l u : Option (Nat × Tok)) (hsz : x.length ≤ sizeLine) (h : ∀ t' k, Q (.str (cut x l u) t') { s with toks := k }) :
    (sliceMade x t (part l) (part u) none).post Q s := by
  have hp := picked x l u
  unfold sliceMade
  split
  · rename_i hc
    have hlen : (slicePicked x (part l) (part u) none).length = x.length := by simpa using hc
    have hcut : cut x l u = x := by
      unfold cut
      rw [← hp]
      rw [hp]
      rw [picked_eq, range_len] at hlen
      have hlen : min (hiOf u x.cps.size) x.cps.size - min (loOf l) x.cps.size = x.cps.size := hlen
      have h0 : x.cps.size = 0 ∨ (loOf l = 0 ∧ x.cps.size ≤ hiOf u x.cps.size) := by omega
      rcases h0 with h0 | ⟨h1, h2⟩
      · have : x.cps = #[] := Array.eq_empty_of_size_eq_zero h0
        cases x with
        | mk cps => subst this; simp
      · rw [h1, List.drop_zero, List.take_of_length_le (by simp; omega)]
    rw [← hcut]
    show Q (.str _ t) s
    rw [hcut]
    have := h t s.toks
    rw [hcut] at this
    exact this
  · rw [hp]
    exact ⟨Nat.le_trans (by show (List.toArray _).size ≤ x.cps.size; simp; omega) hsz, h _ _⟩
end Mine
namespace Mine
open PySem PySem.Calls PySem.W PyProof.Rows PySem.Builtin
section
variable {prog : Program} {w : World} {A : Around} {E : Value → Shared → Prop} {s : Shared} {env : Env} {Q : Value → Shared → Prop} {x : Str} {t : Tok}

theorem sub_slice {value : Expr} {lower upper : Option Expr} {p pos : Pos}
    (h : wpAny (model prog w) A (eval value env) (fun o s₁ => wpAny (model prog w) A (evalPart lower env) (fun vl s₂ => wpAny (model prog w) A (evalPart upper env) (fun vu s₃ =>
      ∃ x t l u, o = .str x t ∧ vl = partValue (part l) ∧ vu = partValue (part u) ∧ x.length ≤ sizeLine ∧
        ∀ h' t' k, (∀ b o, s₃.heap.get? b = some o → h'.get? b = some o) → Q (.str (cut x l u) t') { s₃ with heap := h', toks := k }) E s₂) E s₁) E s)
    (ht : ∀ o r, letTemporaryGo value o r = pure () := by intro _ _; rfl) :
    wpAny (model prog w) A (eval (.Subscript value (.Slice lower upper none p) pos) env) Q E s := by
  refine wpAny_Subscript_str_slice (wpAny_mono h (fun o s₁ h₁ => wpAny_mono h₁ (fun vl s₂ h₂ => wpAny_mono h₂ (fun vu s₃ h₃ => ?_) fun _ _ e => e) fun _ _ e => e) fun _ _ e => e) ht
  obtain ⟨x, t, l, u, rfl, rfl, rfl, hz, hq⟩ := h₃
  exact ⟨x, t, part l, part u, rfl, rfl, rfl, sm_post l u hz fun t' k => hq _ t' k fun b o e => Heap.get?_push_of_some _ e⟩
theorem ep_none {Q : Value → Shared → Prop} (h : Q .none s) : wpAny (model prog w) A (evalPart none env) Q E s := wpAny_pure h
theorem ep_some {e : Expr} {Q : Value → Shared → Prop} (h : wpAny (model prog w) A (eval e env) Q E s) : wpAny (model prog w) A (evalPart (some e) env) Q E s := h
end
end Mine
end

-- Strip1
section
set_option maxHeartbeats 4000000
namespace Mine
open PySem PySem.Calls PySem.W PyProof.Rows PySem.Builtin

noncomputable abbrev SSt := Nat × Option Nat × List (List Nat)
noncomputable def sStep (l : List Nat) (st : SSt) (ev : Nat × List Nat) : SSt :=
  if ev.2 = [34] then match st.2.1 with
    | none => (st.1, some ev.1, st.2.2)
    | some o => (ev.1 + 1, none, if st.1 = o then st.2.2 else st.2.2 ++ [(l.drop st.1).take (o - st.1)])
  else st
noncomputable def stripSt (l : List Nat) : SSt := (evs 0 false l).foldl (sStep l) (0, none, [])
noncomputable def stripF (l : List Nat) : List Nat := (stripSt l).2.2.flatten ++ (if (stripSt l).1 < l.length then l.drop (stripSt l).1 else [])

theorem evs_no (l : List Nat) (h : 34 ∉ l) : ∀ i esc, ∀ e ∈ evs i esc l, e.2 ≠ [34] := by
  induction l with
  | nil =>
    intro i esc e he
    cases esc with
    | true => simp [evs] at he; subst he; simp
    | false => simp [evs] at he
  | cons c r ih =>
    intro i esc e he
    have hc : c ≠ 34 := fun q => h (by simp [q])
    have hr : 34 ∉ r := fun q => h (by simp [q])
    unfold evs at he
    split at he
    · rcases List.mem_cons.mp he with rfl | he
      · simp
      · exact ih hr _ _ e he
    · split at he
      · exact ih hr _ _ e he
      · rcases List.mem_cons.mp he with rfl | he
        · simpa using hc
        · exact ih hr _ _ e he
theorem fold_no (l : List Nat) : ∀ (ev : List (Nat × List Nat)) (st : SSt), (∀ e ∈ ev, e.2 ≠ [34]) → ev.foldl (sStep l) st = st
  | [], _, _ => rfl
  | e :: r, st, h => by
    rw [List.foldl_cons, show sStep l st e = st from if_neg (h e (by simp))]
    exact fold_no l r st fun e he => h e (by simp [he])
theorem strip_no (l : List Nat) (h : 34 ∉ l) : stripF l = l := by
  unfold stripF stripSt
  rw [fold_no l _ _ (evs_no l h 0 false)]
  cases l <;> simp

noncomputable abbrev stripEnv (L : Nat) : Env := envOf "_strip_quoted_realnames" (scopeOf (topSt 8)) L 62 (.ref 61)
noncomputable def stripFor : Stmt := (bodyOf (topSt 8)).getD 4 (.Pass default)

noncomputable def opVal (o : Option Nat) (u : Tok) : Value := match o with
  | none => .none
  | some k => .int k u

structure SI (x : Str) (t : Tok) (L D : Nat) (st : SSt) (h : Heap) : Prop where
  ns : ∃ m u1 u2, h.Ns L m ∧ m "addr" = some (.str x t) ∧ m "start" = some (.int st.1 u1) ∧ m "open_pos" = some (opVal st.2.1 u2) ∧ m "result" = some (.ref D)
  ls : ∃ vs, PlainL h D vs.toArray ∧ StrsAre vs (st.2.2.map fun l => ⟨l.toArray⟩)

section
variable {prog : Program} {w : World} {A : Around} {E : Value → Shared → Prop} {s : Shared}
theorem letGo_gen {a T : Addr} {g : Nat} {elts : List Expr} {k : Nat} {pos : Pos} {Q : Unit → Shared → Prop} (hg : s.heap.IsGen a g) (h : Q () s) :
    wpAny (model prog w) A (letOwnedTupleGo (.Tuple elts k pos) (.ref a) (.ref T)) Q E s := by
  obtain ⟨o, nm, qn, ho, hc, hd, _⟩ := hg
  unfold letOwnedTupleGo
  refine wpAny_bind (wpAny_load ho ?_)
  rw [hc, hd]
  dsimp only
  rw [if_neg (by simp)]
  exact wpAny_pure h
end
end Mine
end

-- Strip2
section
set_option maxHeartbeats 4000000
namespace Mine
open PySem PySem.Calls PySem.W PyProof.Rows PySem.Builtin

section
variable {prog : Program} {w : World} {A : Around} {E : Value → Shared → Prop} {s : Shared} {x : Str} {t : Tok} {L D : Nat} {st : SSt} {p : Nat} {cs : List Nat} {T : Addr} {tp ts : Tok}

theorem strip_turn {Q : Flow → Shared → Prop} (hh : A.handled = none) (hLD : L ≠ D) (I : SI x t L D st s.heap) (hT : s.heap.IsTuple T #[.int p tp, .str ⟨cs.toArray⟩ ts]) (hz : st.2.2.length ≤ 1048576) (hx : x.length ≤ sizeLine)
    (h : ∀ h' tk, SI x t L D (sStep x.cps.toList st (p, cs)) h' → (∀ b o, b ≠ L → b ≠ D → s.heap.get? b = some o → h'.get? b = some o) → Q .next { s with heap := h', toks := tk }) :
    wpAny (model prog w) A (assign (forTarget stripFor) (stripEnv L) (.ref T)) (fun _ s₂ => wpAny (model prog w) A (execs (bodyOf stripFor) (stripEnv L)) Q E s₂) E s := by
  obtain ⟨⟨m, u1, u2, hm, ha, hst, hop, hre⟩, ⟨vs, hl, hv⟩⟩ := I
  have hq : Str.ofString "\"" = ⟨#[34]⟩ := by decide +kernel
  have hsl : sizeLine = 16777216 := rfl
  refine wpAny_assign_Tuple hh hT rfl rfl fun h₁ hx₁ => ?_
  have hm₁ : h₁.Ns L m := hm.at fun o eo => hx₁ L o (Nat.ne_of_lt (Heap.lt_size eo)) eo
  show wpAny _ _ (do holding [Value.str ⟨cs.toArray⟩ ts] (assign (.Name "pos" _) (stripEnv L) (.int p tp)); do holding [] (assign (.Name "ch" _) (stripEnv L) (Value.str ⟨cs.toArray⟩ ts)); pure ()) _ _ _
  refine wpAny_bind (wpAny_holding (wpAny_assign_Name (wpAny_storeName_local rfl hm₁ (fun h₂ hm₂ hs₂ => ?_) rfl)))
  refine wpAny_bind (wpAny_holding (wpAny_assign_Name (wpAny_storeName_local rfl hm₂ (fun h₃ hm₃ hs₃ => wpAny_pure ?_) rfl)))
  have k03 : ∀ b o, b ≠ L → s.heap.get? b = some o → h₃.get? b = some o := fun b o hb eo => (hs₃.2 b hb).trans ((hs₂.2 b hb).trans (hx₁ b o (Nat.ne_of_lt (Heap.lt_size eo)) eo))
  have hl₃ : PlainL h₃ D vs.toArray := by
    obtain ⟨o, n, ho, r⟩ := hl
    exact ⟨o, n, k03 D o (Ne.symm hLD) ho, r⟩
  have ld : ∀ {nm : Str} {v : Value} {Q : Value → Shared → Prop} {E : Value → Shared → Prop} {A' : Around} {tk : Nat} {ps : Pos}, (if nm = Str.ofString "ch" then some (Value.str ⟨cs.toArray⟩ ts) else if nm = Str.ofString "pos" then some (Value.int p tp) else m nm) = some v → (nm == ("__debug__" : Str)) = false → (stripEnv L).kindOf nm = some .local →
      Q v { s with heap := h₃, toks := tk } → wpAny (model prog w) A' (eval (.Name nm ps) (stripEnv L)) Q E { s with heap := h₃, toks := tk } := fun he hd hk hq =>
    wpAny_Name (wpAny_loadName_local rfl hk hm₃ he hq) hd
  refine wpAny_execs_cons (wpAny_If (wpAny_isTrue_Compare1 (ld (if_pos rfl) (by decide +kernel) rfl (Constant_str (eq_str (wpAny_truthy_bool ?_))))))
  rw [hq]
  by_cases hc : cs = [34]
  · subst hc
    rw [if_pos (by rfl)]
    have eop : (if Str.ofString "open_pos" = Str.ofString "ch" then some (Value.str ⟨[34].toArray⟩ ts) else if Str.ofString "open_pos" = Str.ofString "pos" then some (Value.int p tp) else m "open_pos") = some (opVal st.2.1 u2) := (if_neg (by decide +kernel)).trans ((if_neg (by decide +kernel)).trans hop)
    refine wpAny_execs_cons (wpAny_If (wpAny_isTrue_Compare1 (ld eop (by decide +kernel) rfl (wpAny_Constant_none ?_))))
    rcases st with ⟨a, _ | o, res⟩
    · -- closed so far: the place is kept
      refine wpAny_is_self rfl (wpAny_truthy_bool ?_)
      rw [if_pos rfl]
      refine wpAny_execs_cons (wpAny_Assign_Name (ld ((if_neg (by decide +kernel)).trans (if_pos rfl)) (by decide +kernel) rfl (wpAny_storeName_local rfl hm₃ (fun h₄ hm₄ hs₄ => wpAny_execs_nil (wpAny_execs_nil (wpAny_execs_nil ?_))) rfl)))
      refine h h₄ _ ⟨⟨_, u1, tp, hm₄, ?_, ?_, if_pos rfl, ?_⟩, ⟨vs, ?_, hv⟩⟩ fun b o hb _ eo => (hs₄.2 b hb).trans (k03 b o hb eo)
      · exact (if_neg (by decide +kernel)).trans ((if_neg (by decide +kernel)).trans ((if_neg (by decide +kernel)).trans ha))
      · exact (if_neg (by decide +kernel)).trans ((if_neg (by decide +kernel)).trans ((if_neg (by decide +kernel)).trans hst))
      · exact (if_neg (by decide +kernel)).trans ((if_neg (by decide +kernel)).trans ((if_neg (by decide +kernel)).trans hre))
      · obtain ⟨o, n, ho, r⟩ := hl₃
        exact ⟨o, n, (hs₄.2 D (Ne.symm hLD)).trans ho, r⟩
    · -- open: cut
      refine wpAny_is_other rfl (fun e => nomatch e) (wpAny_truthy_bool ?_)
      rw [if_neg (by decide)]
      refine wpAny_execs_cons (wpAny_mono (Q := fun f s' => f = .next ∧ ∃ h₄ tk vs', s' = { s with heap := h₄, toks := tk } ∧ (∀ b o, b ≠ D → h₃.get? b = some o → h₄.get? b = some o) ∧ PlainL h₄ D vs'.toArray ∧
          StrsAre vs' ((if a = o then res else res ++ [(x.cps.toList.drop a).take (o - a)]).map fun l => ⟨l.toArray⟩)) (E' := E) ?_ ?_ (fun _ _ e => e))
      · refine wpAny_If (wpAny_isTrue_Compare1 (ld ((if_neg (by decide +kernel)).trans ((if_neg (by decide +kernel)).trans hst)) (by decide +kernel) rfl (ld eop (by decide +kernel) rfl (ne_int (wpAny_truthy_bool ?_)))))
        by_cases hao : a = o
        · subst hao
          rw [if_neg (by simp)]
          exact wpAny_execs_nil ⟨rfl, h₃, _, vs, rfl, fun _ _ _ e => e, hl₃, by rw [if_pos rfl]; exact hv⟩
        · rw [if_pos (by simpa using fun q : (a : Int) = o => hao (by omega))]
          refine wpAny_execs_cons (wpAny_Expr_any (wpAny_Call_append rfl rfl rfl rfl (ld ((if_neg (by decide +kernel)).trans ((if_neg (by decide +kernel)).trans hre)) (by decide +kernel) rfl ⟨D, vs.toArray, rfl, hl₃, ?_⟩)))
          refine sub_slice (ld ((if_neg (by decide +kernel)).trans ((if_neg (by decide +kernel)).trans ha)) (by decide +kernel) rfl (ep_some (ld ((if_neg (by decide +kernel)).trans ((if_neg (by decide +kernel)).trans hst)) (by decide +kernel) rfl (ep_some (ld eop (by decide +kernel) rfl ?_)))))
          refine ⟨x, t, some (a, u1), some (o, u2), rfl, rfl, rfl, hx, fun h₄ t' k kp => ?_⟩
          refine list_append_plainL (hl₃.keeps kp) (fun h₅ hl₅ hs₅ => wpAny_execs_nil ⟨rfl, h₅, k, vs ++ [.str (cut x (some (a, u1)) (some (o, u2))) t'], rfl, fun b o hb e => (hs₅.2 b hb).trans (kp b o e), by simpa using hl₅, ?_⟩) ?_
          · rw [if_neg hao, List.map_append]
            exact hv.append' (.cons _ _ .nil)
          · have := hv.length
            simp only [List.size_toArray, List.length_map] at this ⊢
            simp only at hz
            omega
      · rintro f s' ⟨rfl, h₄, tk, vs', rfl, kp, hl₄, hv₄⟩
        have hm₄ := hm₃.at fun o eo => kp L o hLD eo
        refine wpAny_execs_cons (wpAny_Assign_Name (wpAny_BinOp (wpAny_Name (wpAny_loadName_local rfl rfl hm₄ ((if_neg (by decide +kernel)).trans (if_pos rfl)) (wpAny_Constant_int (add_int (wpAny_storeName_local rfl hm₄ (fun h₅ hm₅ hs₅ => ?_) rfl)))))))
        refine wpAny_execs_cons (wpAny_Assign_Name (wpAny_Constant_none (wpAny_storeName_local rfl hm₅ (fun h₆ hm₆ hs₆ => wpAny_execs_nil (wpAny_execs_nil (wpAny_execs_nil ?_))) rfl)))
        have k46 : ∀ b o, b ≠ L → h₄.get? b = some o → h₆.get? b = some o := fun b o hb eo => (hs₆.2 b hb).trans ((hs₅.2 b hb).trans eo)
        refine h h₆ _ ⟨⟨_, tk + 1, 0, hm₆, ?_, ?_, if_pos rfl, ?_⟩, ⟨vs', ?_, hv₄⟩⟩ fun b o hb hb' eo => k46 b o hb (kp b o hb' (k03 b o hb eo))
        · exact (if_neg (by decide +kernel)).trans ((if_neg (by decide +kernel)).trans ((if_neg (by decide +kernel)).trans ((if_neg (by decide +kernel)).trans ha)))
        · exact (if_neg (by decide +kernel)).trans (if_pos rfl)
        · exact (if_neg (by decide +kernel)).trans ((if_neg (by decide +kernel)).trans ((if_neg (by decide +kernel)).trans ((if_neg (by decide +kernel)).trans hre)))
        · obtain ⟨o, n, ho, r⟩ := hl₄
          exact ⟨o, n, k46 D o (Ne.symm hLD) ho, r⟩
  · rw [if_neg (by simpa using hc)]
    refine wpAny_execs_nil (wpAny_execs_nil ?_)
    have e : sStep x.cps.toList st (p, cs) = st := if_neg hc
    rw [e] at h
    refine h h₃ _ ⟨⟨_, u1, u2, hm₃, ?_, ?_, ?_, ?_⟩, ⟨vs, hl₃, hv⟩⟩ fun b o hb _ eo => k03 b o hb eo
    · exact (if_neg (by decide +kernel)).trans ((if_neg (by decide +kernel)).trans ha)
    · exact (if_neg (by decide +kernel)).trans ((if_neg (by decide +kernel)).trans hst)
    · exact (if_neg (by decide +kernel)).trans ((if_neg (by decide +kernel)).trans hop)
    · exact (if_neg (by decide +kernel)).trans ((if_neg (by decide +kernel)).trans hre)
end
end Mine
end

-- Strip3
section
set_option maxHeartbeats 4000000
namespace Mine
open PySem PySem.Calls PySem.W PyProof.Rows PySem.Builtin

theorem push_set (g : Array GenState) (a b : GenState) : (g.push a).setIfInBounds g.size b = g.push b := by
  apply Array.ext'
  simp
theorem push_get (g : Array GenState) (a : GenState) : (g.push a)[g.size]? = some a := by simp

theorem take_snoc {α : Type} {l : List α} {j : Nat} {q : α} (h : l[j]? = some q) : l.take (j + 1) = l.take j ++ [q] := by
  rw [List.take_add_one, h]; rfl

theorem sStep_len (l : List Nat) (st : SSt) (e : Nat × List Nat) : (sStep l st e).2.2.length ≤ st.2.2.length + 1 := by
  unfold sStep
  split
  · split
    · simp
    · split <;> simp
  · simp
theorem fold_len (l : List Nat) : ∀ (ev : List (Nat × List Nat)) (st : SSt), (ev.foldl (sStep l) st).2.2.length ≤ st.2.2.length + ev.length
  | [], st => by simp
  | e :: r, st => by
    rw [List.foldl_cons]
    have h1 := fold_len l r (sStep l st e)
    have h2 := sStep_len l st e
    simp only [List.length_cons]; omega
theorem evs_len : ∀ (l : List Nat) (i : Nat) (esc : Bool), (evs i esc l).length ≤ l.length + 1
  | [], i, esc => by cases esc <;> simp [evs]
  | c :: r, i, esc => by
    have h1 := evs_len r (i + 1) false
    have h2 := evs_len r (i + 1) true
    unfold evs
    split
    · simp; omega
    · split <;> simp <;> omega

section
variable {prog : Program} {w : World} {A : Around} {E : Value → Shared → Prop} {s : Shared} {mg mb : Str → Option Value} {x : Str} {t : Tok}

/-- the loop over the generator -/
theorem strip_loop {R : Result → Shared → Prop} {L D a Lg Z : Nat} {h₁ : Heap} {tk₁ : Nat} (G : Gr w mg mb s.heap) (hA : A.handled = none) (hroom : A.depth < recursionLimit) (hx : x.cps.size ≤ 1048570)
    (hLD : L ≠ D) (hLg : L ≠ Lg) (hDg : D ≠ Lg) (hag : a ≠ Lg) (haL : a ≠ L) (haD : a ≠ D) (hLZ : L < Z) (hDZ : D < Z) (haZ : a < Z) (hgZ : s.heap.objs.size ≤ Lg) (hsL : s.heap.objs.size ≤ L) (hsD : s.heap.objs.size ≤ D)
    (kp : ∀ b o, s.heap.get? b = some o → h₁.get? b = some o) (hZ : Z ≤ h₁.objs.size) (hgen : h₁.IsGen a s.gens.size) (hng : ∃ m, h₁.Ns Lg m ∧ m "addr" = some (.str x t)) (hI : SI x t L D (0, none, []) h₁)
    (hR : ∀ h' tk, (∀ b o, s.heap.get? b = some o → h'.get? b = some o) → SI x t L D (stripSt x.cps.toList) h' → R (.ok .next) { s with heap := h', toks := tk, gens := s.gens.push .finished }) :
    codeAny (model prog w) A (.forLoop (forTarget stripFor) (.ref a) (bodyOf stripFor) [] (stripEnv L)) R { s with heap := h₁, toks := tk₁, gens := s.gens.push (.fresh (.func (bodyOf (topSt 7)) (genEnv Lg))) } := by
  generalize hev : evs 0 false x.cps.toList = ev
  have hN : ev.length ≤ 1048571 := by rw [← hev]; have := evs_len x.cps.toList 0 false; simp at this; omega
  refine codeAny_forLoop_any (fun n s' => ∃ j h tk gs, n = ev.length - j + 1 ∧ j ≤ ev.length ∧ s' = { s with heap := h, toks := tk, gens := s.gens.push gs } ∧ (∀ b o, s.heap.get? b = some o → h.get? b = some o) ∧ h.IsGen a s.gens.size ∧
    SI x t L D ((ev.take j).foldl (sStep x.cps.toList) (0, none, [])) h ∧ gs.Goes (model prog w) A.in1 (Rp Lg Z) (Yp Lg Z ev) (ev.length - j) (.send .none) { s with heap := h, toks := tk, gens := s.gens.push .running }) ?_ (ev.length - 0 + 1)
    ⟨0, h₁, tk₁, _, rfl, Nat.zero_le _, rfl, kp, hgen, hI, rfl, ?_⟩
  · rintro n s' ⟨j, h, tk, gs, rfl, hj, rfl, kp, hgen, hI, hgo⟩
    have e1 : ∀ st, Shared.setGen { s with heap := h, toks := tk, gens := s.gens.push gs } s.gens.size st = { s with heap := h, toks := tk, gens := s.gens.push st } := fun st => by
      unfold Shared.setGen; simp only [push_set]
    refine wpAny_pyNext_gen (P := fun n s₀ s₁ => n = 0 ∧ Rel Lg Z s₀ s₁) (Y := Yp Lg Z ev) (n := ev.length - j) (g := s.gens.size) hA (G.lim.keeps kp) hroom hgen (push_get _ _) (by rw [e1]; exact hgo) ?_ ?_
    · rw [e1]
      rintro v s₁ gs' ⟨p, cs, T, tp, ts, hpe, rfl, ⟨h₂, tk₂, rfl, kr⟩, hTup, hk⟩
      cases hn : ev.length - j with
      | zero =>
        rw [hn] at hk
        exact (hk _ fun _ _ _ e => e).elim
      | succ k =>
        rw [hn] at hk hpe
        have hpj : ev[j]? = some (p, cs) := by
          rw [show ev.length - 1 - (k + 1 - 1) = j by omega] at hpe
          exact hpe
        have e2 : Shared.setGen { s with heap := h₂, toks := tk₂, gens := s.gens.push .running } s.gens.size gs' = { s with heap := h₂, toks := tk₂, gens := s.gens.push gs' } := by
          unfold Shared.setGen; simp only [push_set]
        show wpAny _ _ _ _ _ (Shared.setGen { s with heap := h₂, toks := tk₂, gens := s.gens.push .running } s.gens.size gs')
        rw [e2]
        have kr' : ∀ b o, b < Z → b ≠ Lg → h.get? b = some o → h₂.get? b = some o := kr
        have hgen₂ : h₂.IsGen a s.gens.size := by
          obtain ⟨o, nm, qn, ho, r⟩ := hgen
          exact ⟨o, nm, qn, kr' a o haZ hag ho, r⟩
        have hI₂ : SI x t L D ((ev.take j).foldl (sStep x.cps.toList) (0, none, [])) h₂ := by
          obtain ⟨⟨m, u1, u2, hm, r⟩, ⟨vs, ⟨o, nn, ho, ro⟩, hv⟩⟩ := hI
          exact ⟨⟨m, u1, u2, hm.at fun o eo => kr' L o hLZ hLg eo, r⟩, ⟨vs, ⟨o, nn, kr' D o hDZ hDg ho, ro⟩, hv⟩⟩
        refine letGo_gen hgen₂ ?_
        have hlen := fold_len x.cps.toList (ev.take j) (0, none, [])
        refine strip_turn (s := { s with heap := h₂, toks := tk₂, gens := s.gens.push gs' }) hA hLD hI₂ hTup (by simp at hlen; omega) (by show x.cps.size ≤ 16777216; omega) ?_
        intro h₃ tk₃ hI₃ k₃
        refine ⟨ev.length - (j + 1) + 1, by omega, j + 1, h₃, tk₃, gs', rfl, by omega, rfl, ?_, ?_, ?_, ?_⟩
        · intro b o eo
          have hb := ltN (Heap.lt_size eo)
          exact k₃ b o (by show b ≠ L; exact neN (by omega)) (by show b ≠ D; exact neN (by omega)) (kr' b o (ltN (by omega)) (neN (by omega)) (kp b o eo))
        · obtain ⟨o, nm, qn, ho, r⟩ := hgen₂
          exact ⟨o, nm, qn, k₃ a o haL haD ho, r⟩
        · rw [take_snoc hpj, List.foldl_append]; exact hI₃
        · rw [show ev.length - (j + 1) = k by omega]
          refine hk _ fun b o hb eo => k₃ b o ?_ ?_ eo
          · rcases hb with rfl | hb
            · exact Ne.symm hLg
            · show b ≠ L; omega
          · rcases hb with rfl | hb
            · exact Ne.symm hDg
            · show b ≠ D; omega
    · rw [e1]
      rintro s₁ ⟨hn, ⟨h₂, tk₂, rfl, kr⟩⟩ h' k'
      have e2 : Shared.setGen { s with heap := h₂, toks := tk₂, gens := s.gens.push .running } s.gens.size .finished = { s with heap := h₂, toks := tk₂, gens := s.gens.push .finished } := by
        unfold Shared.setGen; simp only [push_set]
      refine wpAny_execs_nil ?_
      show R (.ok .next) { Shared.setGen { s with heap := h₂, toks := tk₂, gens := s.gens.push .running } s.gens.size .finished with heap := h' }
      rw [e2]
      have kr' : ∀ b o, b < Z → b ≠ Lg → h.get? b = some o → h'.get? b = some o := fun b o h1 h2 eo => k' b o (kr b o h1 h2 eo)
      refine hR h' tk₂ ?_ ?_
      · intro b o eo
        have hb := ltN (Heap.lt_size eo)
        exact kr' b o (ltN (by omega)) (neN (by omega)) (kp b o eo)
      · have hj' : ev.take j = ev := List.take_of_length_le (by omega)
        rw [hj'] at hI
        unfold stripSt
        rw [hev]
        obtain ⟨⟨m, u1, u2, hm, r⟩, ⟨vs, ⟨o, nn, ho, ro⟩, hv⟩⟩ := hI
        exact ⟨⟨m, u1, u2, hm.at fun o eo => kr' L o hLZ hLg eo, r⟩, ⟨vs, ⟨o, nn, kr' D o hDZ hDg ho, ro⟩, hv⟩⟩
  · obtain ⟨m, hm, ha⟩ := hng
    rw [← hev]
    exact gen_fresh (s := { s with heap := h₁, toks := tk₁, gens := s.gens.push .running }) hZ hA G kp hgZ hm ha
end
end Mine
end

-- Strip4
section
set_option maxRecDepth 100000
set_option maxHeartbeats 4000000
namespace Mine
open PySem PySem.Calls PySem.W PyProof.Rows PySem.Builtin

section
variable {prog : Program} {w : World} {A : Around} {E : Value → Shared → Prop} {s : Shared} {mg mb : Str → Option Value} {x : Str} {t : Tok}

theorem strip_tail {Q : Value → Shared → Prop} {L D : Nat} {h₇ : Heap} {tk₇ : Nat} {gs : Array GenState} {m₇ : Str → Option Value} {u1 : Tok} {vs : List Value} (G : Gr w mg mb s.heap) (hLD : L ≠ D) (k07 : ∀ b o, s.heap.get? b = some o → h₇.get? b = some o) (hsD : s.heap.objs.size ≤ D)
    (hm₇ : h₇.Ns L m₇) (ha : m₇ "addr" = some (.str x t)) (hst : m₇ "start" = some (.int (stripSt x.cps.toList).1 u1)) (hre : m₇ "result" = some (.ref D)) (hl : PlainL h₇ D vs.toArray) (hv : StrsAre vs ((stripSt x.cps.toList).2.2.map fun l => ⟨l.toArray⟩)) (hx : x.cps.size ≤ 1048570) (hout : (stripF x.cps.toList).length ≤ 1048570)
    (h : ∀ h' tk t', (∀ b o, s.heap.get? b = some o → h'.get? b = some o) → Q (.str ⟨(stripF x.cps.toList).toArray⟩ t') { s with heap := h', toks := tk, gens := gs }) :
    wpAny (model prog w) A (execs ((bodyOf (topSt 8)).drop 5) (stripEnv L)) (fun f s' => match (Except.ok (Flow.ret (match f with | .ret v => v | _ => .none)) : Result) with | .ok (.ret v) => Q v s' | .ok _ => False | .error e => E e s') (fun _ _ => False) { s with heap := h₇, toks := tk₇, gens := gs } := by
  have G₇ := G.keeps k07
  have hbi := G₇.built (n := "len") rfl boot_len (by decide +kernel)
  have hxl : x.length = x.cps.toList.length := by simp [Str.length]
  have hsl : sizeLine = 16777216 := rfl
  refine wpAny_execs_cons (wpAny_mono (Q := fun f s' => f = .next ∧ ∃ (h₈ : Heap) (tk : Nat) (vs' : List Value) (res : List (List Nat)), s' = { s with heap := h₈, toks := tk, gens := gs } ∧ (∀ b o, b ≠ D → h₇.get? b = some o → h₈.get? b = some o) ∧ PlainL h₈ D vs'.toArray ∧
      StrsAre vs' (res.map fun l => ⟨l.toArray⟩) ∧ res.flatten = stripF x.cps.toList) (E := fun _ _ => False) ?_ ?_ (fun _ _ e => e))
  · refine wpAny_If (wpAny_isTrue_Compare1 (wpAny_Name (wpAny_loadName_local rfl rfl hm₇ hst ?_)))
    refine wpAny_Call_NameR (Calls.Name_function_global rfl rfl (Calls.loadGlobal_builtin G₇.g hbi.1 G₇.b hbi.2 ?_))
    refine cwb (spl_cons (wpAny_Name (wpAny_loadName_local rfl rfl hm₇ ha (spl_nil ?_))))
    refine P.len_str (by rw [hxl]; simp; omega) (lt_int (wpAny_truthy_bool ?_))
    by_cases hlt : (stripSt x.cps.toList).1 < x.cps.toList.length
    · rw [if_pos (by rw [hxl]; simpa using hlt)]
      refine wpAny_execs_cons (wpAny_Expr_any (wpAny_Call_append rfl rfl rfl rfl (wpAny_Name (wpAny_loadName_local rfl rfl hm₇ hre ⟨D, vs.toArray, rfl, hl, ?_⟩))))
      refine sub_slice (wpAny_Name (wpAny_loadName_local rfl rfl hm₇ ha (ep_some (wpAny_Name (wpAny_loadName_local rfl rfl hm₇ hst (ep_none ?_))))))
      refine ⟨x, t, some (_, u1), none, rfl, rfl, rfl, by rw [hxl]; simp; omega, fun h₄ t' k kp => ?_⟩
      refine list_append_plainL (hl.keeps kp) (fun h₅ hl₅ hs₅ => wpAny_execs_nil ⟨rfl, h₅, k, vs ++ [.str (cut x (some ((stripSt x.cps.toList).1, u1)) none) t'], (stripSt x.cps.toList).2.2 ++ [x.cps.toList.drop (stripSt x.cps.toList).1], rfl, fun b o hb e => (hs₅.2 b hb).trans (kp b o e), by simpa using hl₅, ?_, ?_⟩) ?_
      · rw [List.map_append]
        refine hv.append' ?_
        have : cut x (some ((stripSt x.cps.toList).1, u1)) none = ⟨(x.cps.toList.drop (stripSt x.cps.toList).1).toArray⟩ := by
          unfold cut loOf hiOf
          simp only [Option.map_some, Option.getD_some, Option.map_none, Option.getD_none]
          rw [List.take_of_length_le (by simp)]
        rw [this]
        exact .cons _ _ .nil
      · unfold stripF; rw [if_pos hlt]; simp
      · have h1 := hv.length
        have h2 := fold_len x.cps.toList (evs 0 false x.cps.toList) (0, none, [])
        have h3 := evs_len x.cps.toList 0 false
        have h4 : (stripSt x.cps.toList).2.2.length ≤ x.cps.toList.length + 1 := by
          unfold stripSt; simp only [List.length_nil] at h2; omega
        simp only [List.size_toArray, List.length_map] at h1 ⊢
        simp at h4
        omega
    · rw [if_neg (by rw [hxl]; simpa using hlt)]
      exact wpAny_execs_nil ⟨rfl, h₇, _, vs, _, rfl, fun _ _ _ e => e, hl, hv, by unfold stripF; rw [if_neg hlt]; simp⟩
  · rintro f s' ⟨rfl, h₈, tk, vs', res, rfl, k78, hl₈, hv₈, hfl⟩
    have hm₈ := hm₇.at fun o eo => k78 L o hLD eo
    refine wpAny_execs_cons (wpAny_Return_some ?_)
    refine wpAny_Call_method (T := "str") (id := "str.join") rfl rfl rfl F.plainAttrs_str F.slot_str_join F.type_str_join ?_
    refine Constant_str ⟨typeIs_str _ _ _, (fun a e => nomatch e), ?_⟩
    refine cwb (spl_cons (wpAny_Name (wpAny_loadName_local rfl rfl hm₈ hre (spl_nil ?_))))
    have hfl' : flat (res.map fun l => (⟨l.toArray⟩ : Str)) = stripF x.cps.toList := by
      rw [← hfl]; unfold flat; simp [Function.comp_def]
    refine join_list (items := vs'.toArray) (ys := res.map fun l => ⟨l.toArray⟩) hl₈.isList hv₈ ?_ ?_
    · rw [flat_len, hfl']
      show _ + _ * 0 ≤ _
      omega
    · intro t' k
      have e0 : Txt.join (Str.ofString "") (res.map fun l => (⟨l.toArray⟩ : Str)) = ⟨(stripF x.cps.toList).toArray⟩ := by
        show Str.glued _ _ = _
        rw [StrLaws.glued_eq_join, join_flat _ (by decide +kernel), hfl']
      rw [e0]
      refine h h₈ k t' fun b o eo => k78 b o (neN (by have := ltN (Heap.lt_size eo); omega)) (k07 b o eo)

theorem strip_call {Q : Value → Shared → Prop} (G : Gr w mg mb s.heap) (hroom : A.depth + 1 < recursionLimit) (hA : A.handled = none) (hx : x.cps.size ≤ 1048570) (hout : (stripF x.cps.toList).length ≤ 1048570)
    (h : ∀ h' tk t' gs, (∀ b o, s.heap.get? b = some o → h'.get? b = some o) → (gs = s.gens ∨ gs = s.gens.push .finished) → Q (.str ⟨(stripF x.cps.toList).toArray⟩ t') { s with heap := h', toks := tk, gens := gs }) :
    wpAny (model prog w) A (call (.ref 62) [.str x t]) Q E s := by
  obtain ⟨⟨o, pm, doc, ho, hd⟩, hc⟩ := G.f62
  have hq : Str.ofString "\"" = ⟨#[34]⟩ := by decide +kernel
  refine wpAny_call (call_plain_ret (binds := [("addr", .str x t)]) (by omega) ho hd G.lim hc rfl (locs rfl) ?_ rfl rfl rfl (by decide +kernel))
  intro h₁ Fr₁
  have hm := Fr₁.ns
  have hsl : sizeLine = 16777216 := rfl
  refine wpAny_execs_cons (wpAny_If (wpAny_isTrue_Compare1 (Constant_str (wpAny_Name (wpAny_loadName_local rfl rfl hm rfl (P.notIn_str (wpAny_truthy_bool ?_)))))))
  rw [hq, StrLaws.found_one]
  by_cases hin : 34 ∈ x.cps.toList
  · rw [if_neg (by simp [hin])]
    refine wpAny_execs_nil ?_
    -- start, open_pos, result
    refine wpAny_execs_cons (wpAny_Assign_Name (wpAny_Constant_int (wpAny_storeName_local rfl hm (fun h₂ hm₂ hs₂ => ?_) rfl)))
    refine wpAny_execs_cons (wpAny_Assign_Name (wpAny_Constant_none (wpAny_storeName_local rfl hm₂ (fun h₃ hm₃ hs₃ => ?_) rfl)))
    refine wpAny_execs_cons (wpAny_Assign_Name (List_ (spl_nil (wpAny_newList ?_ (by simp)))))
    have hm₄ := hm₃.push { cls := .type "list", data := .seq #[] }
    refine wpAny_storeName_local rfl hm₄ (fun h₅ hm₅ hs₅ => ?_) rfl
    generalize hLe : s.heap.objs.size = L at *
    have hLs : @LT.lt Nat _ L h₁.objs.size := hm.lt
    have z2 : h₂.objs.size = h₁.objs.size := hs₂.1
    have z3 : h₃.objs.size = h₂.objs.size := hs₃.1
    have z5 : h₅.objs.size = h₃.objs.size + 1 := hs₅.1.trans (Heap.size_push ..)
    generalize hDe : h₃.objs.size = D at *
    have hLD : L ≠ D := neN (by omega)
    have k05 : ∀ b o, s.heap.get? b = some o → h₅.get? b = some o := fun b o eo => by
      have hb := ltN (Heap.lt_size eo)
      have hbL : b ≠ L := neN (by omega)
      exact (hs₅.2 b hbL).trans (Heap.get?_push_of_some _ ((hs₃.2 b hbL).trans ((hs₂.2 b hbL).trans (Fr₁.keep b o eo))))
    have hl₅ : PlainL h₅ D #[] := by
      refine ⟨{ cls := .type "list", data := .seq #[] }, 0, (hs₅.2 D (Ne.symm hLD)).trans ?_, rfl, rfl, rfl⟩
      rw [← hDe]; exact Heap.get?_push_size _ rfl
    have G₅ := G.keeps k05
    refine wpAny_execs_cons (wpAny_For (wpAny_Call_NameR (Calls.Name_function_global rfl rfl (Calls.loadGlobal_global G₅.g (G₅.glob (v := .ref 55) rfl) ?_))))
    refine cwf (P := fun h => Gr w mg mb h) (fun h g => by obtain ⟨⟨o, pm, doc, ho, hd⟩, _⟩ := g.f55; exact ⟨o, _, ho, hd⟩) (spl_cons (wpAny_Name (wpAny_loadName_local rfl rfl hm₅ rfl (spl_nil ⟨G₅, ?_⟩))))
    obtain ⟨⟨og, pmg, docg, hog, hdg⟩, hcg⟩ := G₅.f55
    refine wpAny_call (codeAny_call_generator (by show A.depth + 1 < recursionLimit; exact hroom) hog hdg rfl rfl rfl hcg ?_)
    refine wpAny_of_eq (a := [(Str.ofString "addr", Value.str x t)]) rfl ?_
    refine wpAny_newFunctionEnv ?hce (locs rfl) ?_ rfl
    case hce => show ∀ x ∈ (scopeOf (topSt 7)).names, x.2 ≠ .cell; decide +kernel
    intro h₆ hns hsb
    refine ⟨G₅.lim.fresh _ hsb, ?_⟩
    have z6 : h₆.objs.size = h₅.objs.size + 1 := hsb.1.trans (Heap.size_push ..)
    have k56 : ∀ b o, h₅.get? b = some o → h₆.get? b = some o := fun b o eo => (hsb.2 b (Nat.ne_of_lt (Heap.lt_size eo))).trans (Heap.get?_push_of_some _ eo)
    have hgen : ∀ tk, Heap.IsGen (h₆.push { cls := .type "generator", data := .fields #[.int s.gens.size 0, .str "_iter_escaped_chars" tk, .str "_iter_escaped_chars" (tk + 1)] }) h₆.objs.size s.gens.size := fun tk =>
      ⟨_, _, _, Heap.get?_push_size _ rfl, rfl, rfl, rfl⟩
    refine wpAny_pyIter_gen (g := s.gens.size) (hgen _) ?_
    refine strip_loop (s := s) (L := L) (D := D) (a := h₆.objs.size) (Lg := h₅.objs.size) (Z := h₆.objs.size + 1) G hA (by show A.depth + 1 < recursionLimit; exact hroom) hx hLD (neN (by omega)) (neN (by omega)) (neN (by omega)) (neN (by omega)) (neN (by omega)) (ltN (by omega)) (ltN (by omega)) (ltN (by omega)) (by rw [hLe]; omega) (by omega) (by omega)
      (fun b o eo => Heap.get?_push_of_some _ (k56 b o (k05 b o eo))) (by rw [Heap.size_push]; exact Nat.le_refl _) (hgen _) ⟨_, hns.push _, rfl⟩ ?_ ?_
    · refine ⟨⟨_, s.toks + 1 + 1, 0, (hm₅.at fun o eo => k56 L o eo).push _, rfl, ?_, ?_, if_pos rfl⟩, ⟨[], ?_, .nil⟩⟩
      · exact (if_neg (by decide +kernel)).trans ((if_neg (by decide +kernel)).trans (if_pos rfl))
      · exact (if_neg (by decide +kernel)).trans (if_pos rfl)
      · obtain ⟨o, n, ho, r⟩ := hl₅
        exact ⟨o, n, Heap.get?_push_of_some _ (k56 D o ho), r⟩
    · intro h₇ tk₇ k07 I₇
      obtain ⟨⟨m₇, u1, u2, hm₇, ha, hst, hop, hre⟩, ⟨vs, hl, hv⟩⟩ := I₇
      exact strip_tail (E := E) G hLD k07 (by rw [hLe]; omega) hm₇ ha hst hre hl hv hx hout fun h₈ tk t' k => h h₈ tk t' _ k (.inr rfl)
  · rw [if_pos (by simp [hin])]
    refine wpAny_execs_cons (wpAny_Return_some (wpAny_Name (wpAny_loadName_local rfl rfl hm rfl ?_)))
    have := h h₁ (s.toks + 1 + 1) t s.gens Fr₁.keep (.inl rfl)
    rw [strip_no _ hin] at this
    exact this
end
end Mine
end

-- Split
section
set_option maxHeartbeats 4000000
namespace Mine
open PySem PySem.Calls PySem.W PyProof.Rows PySem.Builtin PySem.StrLaws

noncomputable def splitL : List Nat → List (List Nat)
  | [] => [[]]
  | [c] => [[c]]
  | c :: d :: r => if c = 13 ∧ d = 10 then [] :: splitL r else match splitL (d :: r) with
    | p :: ps => (c :: p) :: ps
    | [] => [[c]]

noncomputable def crAt (l : List Nat) (k : Nat) : Prop := l[k]? = some 13 ∧ l[k + 1]? = some 10

theorem splitL_ne : ∀ l : List Nat, ∃ p ps, splitL l = p :: ps
  | [] => ⟨[], [], rfl⟩
  | [c] => ⟨[c], [], rfl⟩
  | c :: d :: r => by
    unfold splitL
    split
    · exact ⟨_, _, rfl⟩
    · obtain ⟨p, ps, e⟩ := splitL_ne (d :: r)
      rw [e]; exact ⟨_, _, rfl⟩

theorem splitL_step {l : List Nat} {a c : Nat} (hc : l[a]? = some c) (hn : ¬ crAt l a) : ∃ p ps, splitL (l.drop (a + 1)) = p :: ps ∧ splitL (l.drop a) = (c :: p) :: ps := by
  have hlt : a < l.length := (List.getElem?_eq_some_iff.mp hc).1
  have hd : l.drop a = c :: l.drop (a + 1) := by
    rw [List.drop_eq_getElem_cons hlt]
    congr 1
    rw [List.getElem?_eq_getElem hlt] at hc
    exact Option.some.inj hc
  rw [hd]
  cases hr : l.drop (a + 1) with
  | nil => exact ⟨[], [], rfl, rfl⟩
  | cons d r =>
    have hdd : l[a + 1]? = some d := by
      have := congrArg List.head? hr
      simpa [List.head?_drop] using this
    have : ¬ (c = 13 ∧ d = 10) := fun ⟨h1, h2⟩ => hn ⟨by rw [hc, h1], by rw [hdd, h2]⟩
    obtain ⟨p, ps, e⟩ := splitL_ne (d :: r)
    refine ⟨p, ps, e, ?_⟩
    show (if c = 13 ∧ d = 10 then _ else _) = _
    rw [if_neg this, e]

theorem splitL_to {l : List Nat} {c : Nat} (hc : crAt l c) : ∀ (d a : Nat), a + d = c → (∀ k, a ≤ k → k < c → ¬ crAt l k) → splitL (l.drop a) = ((l.drop a).take (c - a)) :: splitL (l.drop (c + 2))
  | 0, a, h, _ => by
    have : a = c := by omega
    subst this
    obtain ⟨h1, h2⟩ := hc
    have hlt := (List.getElem?_eq_some_iff.mp h2).1
    have e : l.drop a = 13 :: 10 :: l.drop (a + 2) := by
      rw [List.drop_eq_getElem_cons (by omega : a < l.length), List.drop_eq_getElem_cons hlt]
      rw [List.getElem?_eq_getElem (by omega)] at h1
      rw [List.getElem?_eq_getElem hlt] at h2
      rw [Option.some.inj h1, Option.some.inj h2]
    rw [e, Nat.sub_self]
    rfl
  | d + 1, a, h, hn => by
    have hlt : a < l.length := by have := (List.getElem?_eq_some_iff.mp hc.2).1; omega
    have hca : l[a]? = some l[a] := List.getElem?_eq_getElem hlt
    obtain ⟨p, ps, e1, e2⟩ := splitL_step hca (hn a (Nat.le_refl _) (by omega))
    have ih := splitL_to hc d (a + 1) (by omega) fun k h1 h2 => hn k (by omega) h2
    rw [e1] at ih
    obtain ⟨e3, e4⟩ := List.cons.inj ih
    rw [e2, e4, e3, List.drop_eq_getElem_cons hlt]
    rw [show c - a = (c - (a + 1)) + 1 by omega]
    rfl

theorem splitL_end {l : List Nat} : ∀ (d a : Nat), a + d = l.length → (∀ k, a ≤ k → ¬ crAt l k) → splitL (l.drop a) = [l.drop a]
  | 0, a, h, _ => by rw [List.drop_eq_nil_of_le (by omega)]; rfl
  | d + 1, a, h, hn => by
    have hlt : a < l.length := by omega
    have hca : l[a]? = some l[a] := List.getElem?_eq_getElem hlt
    obtain ⟨p, ps, e1, e2⟩ := splitL_step hca (hn a (Nat.le_refl _))
    have ih := splitL_end d (a + 1) (by omega) fun k h1 => hn k (by omega)
    rw [e1] at ih
    obtain ⟨e3, e4⟩ := List.cons.inj ih
    rw [e2, e4, e3, List.drop_eq_getElem_cons hlt]

noncomputable abbrev crlfStr : Str := ⟨#[13, 10]⟩
theorem at_iff (x : Str) (k : Nat) : At x crlfStr x.length k ↔ crAt x.cps.toList k := by
  unfold At crAt
  rw [subAt_eq]
  show k + 2 ≤ x.cps.size ∧ ((x.cps.toList.drop k).take 2 == [13, 10]) = true ↔ _
  rw [beq_iff_eq]
  constructor
  · rintro ⟨h1, h2⟩
    have a0 : ((x.cps.toList.drop k).take 2)[0]? = some 13 := by rw [h2]; rfl
    have a1 : ((x.cps.toList.drop k).take 2)[1]? = some 10 := by rw [h2]; rfl
    rw [List.getElem?_take, if_pos (by decide), List.getElem?_drop] at a0 a1
    exact ⟨a0, a1⟩
  · rintro ⟨h1, h2⟩
    have hlt := (List.getElem?_eq_some_iff.mp h2).1
    have hlt' : k + 1 < x.cps.size := by simpa using hlt
    refine ⟨by omega, ?_⟩
    rw [List.drop_eq_getElem_cons (by omega : k < x.cps.toList.length), List.drop_eq_getElem_cons hlt]
    rw [List.getElem?_eq_getElem (by omega)] at h1
    rw [List.getElem?_eq_getElem hlt] at h2
    rw [Option.some.inj h1, Option.some.inj h2]
    rfl

theorem parts_eq (x : Str) : ∀ (cuts : List Nat) (a f : Nat), a ≤ x.cps.size → ChainG x crlfStr x.length a cuts f → (∀ k, f ≤ k → ¬ At x crlfStr x.length k) →
    partsFrom x 2 a cuts = (splitL (x.cps.toList.drop a)).map fun l => ⟨l.toArray⟩
  | [], a, f, ha, hc, hn => by
    have : f = a := hc
    subst this
    rw [splitL_end (x.cps.toList.length - f) f (by simp; omega) fun k hk q => hn k hk ((at_iff x k).mpr q)]
    show [Str.strSub x f x.length] = _
    simp only [List.map_cons, List.map_nil]
    congr 1
    apply PySem.Str.ext'
    apply Array.ext'
    rw [strSub_toList]
    simp only
    rw [List.take_of_length_le (by simp [Str.length])]
  | c :: r, a, f, ha, hc, hn => by
    obtain ⟨h1, h2, h3, h4⟩ := hc
    have hcr := (at_iff x c).mp h2
    have hlt := (List.getElem?_eq_some_iff.mp hcr.2).1
    rw [splitL_to hcr (c - a) a (by omega) fun k q1 q2 q => h3 k q1 q2 ((at_iff x k).mpr q)]
    show Str.strSub x a c :: partsFrom x 2 (c + 2) r = _
    rw [parts_eq x r (c + 2) f (by simp at hlt; omega) h4 hn]
    simp only [List.map_cons]
    congr 1
    apply PySem.Str.ext'
    apply Array.ext'
    rw [strSub_toList]

theorem split_eq (x : Str) : Txt.split x crlfStr = (splitL x.cps.toList).map fun l => ⟨l.toArray⟩ := by
  obtain ⟨f, hc, hn⟩ := occ_tight x crlfStr (by decide)
  have key := parts_eq x _ 0 f (Nat.zero_le _) hc hn
  rw [List.drop_zero] at key
  unfold Txt.split
  have kind1 : Str.strKind crlfStr = 1 := by decide +kernel
  have kpos : 1 ≤ Str.strKind x := by unfold Str.strKind; split <;> (try split) <;> decide
  have one : (Str.occurrences x crlfStr 0 x.length (x.length + 1)) = [] → [x] = (splitL x.cps.toList).map fun l => (⟨l.toArray⟩ : Str) := fun e => by
    rw [e] at key
    rw [← key]
    show [x] = [Str.strSub x 0 x.length]
    rw [sub_whole]
  by_cases hlen : x.length < crlfStr.length
  · rw [if_pos (by simp [hlen])]
    refine one ?_
    cases ho : Str.occurrences x crlfStr 0 x.length (x.length + 1) with
    | nil => rfl
    | cons c r =>
      rw [ho] at hc
      have := hc.2.1.1
      omega
  · rw [if_neg (by rw [kind1]; simp [hlen]; omega)]
    by_cases he : (Str.occurrences x crlfStr 0 x.length (x.length + 1)).isEmpty = true
    · rw [if_pos he]
      exact one (List.isEmpty_iff.mp he)
    · rw [if_neg he, partsBetween_eq]
      exact key

noncomputable def readP (l : List Nat) : List (List Nat) := (splitL (stripF (quoteP l))).dropLast
end Mine
end

-- Read1
section
set_option maxRecDepth 100000
set_option maxHeartbeats 4000000
namespace Mine
open PySem PySem.Calls PySem.W PyProof.Rows PySem.Builtin

section
variable {prog : Program} {w : World} {A : Around} {E : Value → Shared → Prop} {s : Shared} {env : Env}

/-- the tail of a subscript, whatever the base is -/
theorem tailG {value slice : Expr} {o i : Value} {T id : String} {ops : List Value} {Q : Value → Shared → Prop} (hT : s.TypeIs o T)
    (hl : typeLookup (.type T) "__getitem__" = pure (some (.builtin id))) (h : wpAny (model prog w) A (getItem o i) Q E s)
    (hs : subscripted slice false o i = operate ops (getItem o i)) :
    wpAny (model prog w) A (subscriptTail value slice o i) Q E s := by
  unfold subscriptTail
  refine wpAny_bind ?_
  rw [getitemInPython_of_ne hT.not_modules]
  refine wpAny_bind (wpAny_specialOf hT hl ?_)
  have fin : wpAny (model prog w) A (subscripted slice false o i) (fun r s₃ => wpAny (model prog w) A (letTemporaryGo value o r >>= fun _ => pure r) Q E s₃) E s := by
    rw [hs]
    exact wpAny_operating (wpAny_mono h (fun r s₃ h₃ => wpAny_bind (wpAny_letTemporaryGo (wpAny_pure h₃))) fun _ _ x => x)
  first
    | exact wpAny_pure (wpAny_bind fin)
    | exact wpAny_bind (wpAny_pure (wpAny_bind fin))
    | exact wpAny_bind fin

theorem list_slice {value : Expr} {lower upper : Option Expr} {p pos : Pos} {Q : Value → Shared → Prop}
    (h : wpAny (model prog w) A (eval value env) (fun o s₁ => wpAny (model prog w) A (evalPart lower env) (fun vl s₂ => wpAny (model prog w) A (evalPart upper env) (fun vu s₃ =>
      ∃ l items lo hi, o = .ref l ∧ s₃.heap.IsList l items ∧ items.size ≤ sizeLine ∧ IsPart vl lo ∧ IsPart vu hi ∧
        Q (.ref (s₃.heap.objs.size + 1)) { s₃ with heap := (s₃.heap.push { cls := .type "slice", data := .fields #[vl, vu, .none] }).push { cls := .type "list", data := .seq (slicePick items lo hi none) } }) E s₂) E s₁) E s) :
    wpAny (model prog w) A (eval (.Subscript value (.Slice lower upper none p) pos) env) Q E s := by
  refine Subscript_ (wpAny_mono h (fun o s₁ h₁ => wpAny_Slice (wpAny_mono h₁ (fun vl s₂ h₂ => wpAny_mono h₂ (fun vu s₃ h₃ => ?_) fun _ _ e => e) fun _ _ e => e)) fun _ _ e => e)
  obtain ⟨l, items, lo, hi, rfl, hl, hsz, pl, pu, hQ⟩ := h₃
  rw [evalPart_none]
  refine wpAny_pure (tailG (hl.push _).typeIs list_getitem_lookup (wpAny_getItem_list_slice (hl.push _) (Heap.IsSliceOf.new ..) pl pu .none (by simp) ?_ hsz) rfl)
  rw [Heap.size_push]
  exact hQ
end
end Mine
end

-- StripP
section
set_option maxHeartbeats 4000000
namespace Mine

noncomputable def strT : Bool → Option (List Nat) → List Nat → List Nat
  | _, q, [] => q.getD []
  | esc, none, c :: r => if esc then c :: strT false none r else if c = 92 then c :: strT true none r else if c = 34 then strT false (some [34]) r else c :: strT false none r
  | esc, some p, c :: r => if esc then strT false (some (p ++ [c])) r else if c = 92 then strT true (some (p ++ [c])) r else if c = 34 then strT false none r else strT false (some (p ++ [c])) r

noncomputable def sl (l : List Nat) (a b : Nat) : List Nat := (l.drop a).take (b - a)
theorem sl_snoc {l : List Nat} {a i c : Nat} (ha : a ≤ i) (hc : l[i]? = some c) : sl l a (i + 1) = sl l a i ++ [c] := by
  unfold sl
  rw [show i + 1 - a = (i - a) + 1 by omega, List.take_add_one, List.getElem?_drop, show a + (i - a) = i by omega, hc]
  rfl
theorem sl_self (l : List Nat) (a : Nat) : sl l a a = [] := by simp [sl]
theorem sl_all {l : List Nat} {a n : Nat} (h : l.length ≤ n) : sl l a n = l.drop a := by
  unfold sl; exact List.take_of_length_le (by simp; omega)
theorem sl_app {l : List Nat} {a o i : Nat} (h1 : a ≤ o) (h2 : o ≤ i) : sl l a o ++ sl l o i = sl l a i := by
  unfold sl
  rw [show i - a = (o - a) + (i - o) by omega, List.take_add, List.drop_drop, show a + (o - a) = o by omega]

noncomputable def finS (l : List Nat) (st : SSt) : List Nat := st.2.2.flatten ++ (if st.1 < l.length then l.drop st.1 else [])
theorem finS_eq (l : List Nat) (st : SSt) : finS l st = st.2.2.flatten ++ l.drop st.1 := by
  unfold finS
  split
  · rfl
  · rw [List.drop_eq_nil_of_le (by omega)]

theorem strip_run (l : List Nat) : ∀ (d i : Nat) (esc : Bool) (st : SSt), i + d = l.length → st.1 ≤ st.2.1.getD i → st.2.1.getD i ≤ i →
    finS l ((evs i esc (l.drop i)).foldl (sStep l) st) = st.2.2.flatten ++ sl l st.1 (st.2.1.getD i) ++ strT esc (st.2.1.map fun o => sl l o i) (l.drop i) := by
  intro d
  induction d with
  | zero =>
    rintro i esc ⟨a, op, res⟩ hi h1 h2
    rw [List.drop_eq_nil_of_le (by omega)]
    have hf : (evs i esc []).foldl (sStep l) (a, op, res) = (a, op, res) := by
      cases esc <;> simp [evs, sStep]
    rw [hf, finS_eq]
    dsimp only at *
    cases op with
    | none =>
      simp only [Option.getD_none, Option.map_none, strT]
      rw [sl_all (by omega)]; simp
    | some o =>
      simp only [Option.getD_some, Option.map_some, strT] at *
      rw [List.append_assoc, sl_app h1 h2, sl_all (by omega)]
  | succ d ih =>
    rintro i esc ⟨a, op, res⟩ hi h1 h2
    replace h1 : a ≤ op.getD i := h1
    replace h2 : op.getD i ≤ i := h2
    have hlt : i < l.length := by omega
    have hc : l[i]? = some l[i] := List.getElem?_eq_getElem hlt
    rw [List.drop_eq_getElem_cons hlt]
    generalize l[i] = c at *
    -- a sign that changes nothing but grows the open part
    have plain : ∀ esc', strT esc (op.map fun o => sl l o i) (c :: l.drop (i + 1)) = (match op with | none => [c] | some _ => []) ++ strT esc' (op.map fun o => sl l o (i + 1)) (l.drop (i + 1)) →
        finS l ((evs (i + 1) esc' (l.drop (i + 1))).foldl (sStep l) (a, op, res)) = res.flatten ++ sl l a (op.getD i) ++ strT esc (op.map fun o => sl l o i) (c :: l.drop (i + 1)) := by
      intro esc' he
      rw [ih (i + 1) esc' (a, op, res) (by omega) (by show a ≤ op.getD (i + 1); cases op with | none => exact Nat.le_succ_of_le h1 | some o => exact h1) (by show op.getD (i + 1) ≤ i + 1; cases op with | none => exact Nat.le_refl _ | some o => exact Nat.le_succ_of_le h2), he]
      dsimp only at *
      cases op with
      | none => simp only [Option.getD_none] at *; rw [sl_snoc (by omega) hc]; simp
      | some o => simp
    cases esc with
    | true =>
      have e : evs i true (c :: l.drop (i + 1)) = (i, [92, c]) :: evs (i + 1) false (l.drop (i + 1)) := by simp [evs]
      rw [e, List.foldl_cons, show sStep l (a, op, res) (i, [92, c]) = (a, op, res) from if_neg (by simp)]
      refine plain false ?_
      cases op with
      | none => simp [strT]
      | some o => simp only [Option.getD_some] at h2; simp [strT, sl_snoc h2 hc]
    | false =>
      by_cases h92 : c = 92
      · subst h92
        have e : evs i false (92 :: l.drop (i + 1)) = evs (i + 1) true (l.drop (i + 1)) := by simp [evs]
        rw [e]
        refine plain true ?_
        cases op with
        | none => simp [strT]
        | some o => simp only [Option.getD_some] at h2; simp [strT, sl_snoc h2 hc]
      · have e : evs i false (c :: l.drop (i + 1)) = (i, [c]) :: evs (i + 1) false (l.drop (i + 1)) := by simp [evs, h92]
        rw [e, List.foldl_cons]
        by_cases h34 : c = 34
        · subst h34
          cases op with
          | none =>
            have e2 : sStep l (a, none, res) (i, [34]) = (a, some i, res) := by simp [sStep]
            rw [e2, ih (i + 1) false (a, some i, res) (by omega) (by simpa using h1) (by simp)]
            simp only [Option.getD_some, Option.getD_none, Option.map_some, Option.map_none]
            rw [sl_snoc (Nat.le_refl i) hc, sl_self]
            simp [strT]
          | some o =>
            simp only [Option.getD_some] at h1 h2
            have e2 : sStep l (a, some o, res) (i, [34]) = (i + 1, none, if a = o then res else res ++ [sl l a o]) := by simp [sStep, sl]
            rw [e2, ih (i + 1) false _ (by omega) (by simp) (by simp)]
            simp only [Option.getD_some, Option.getD_none, Option.map_some, Option.map_none, sl_self]
            have e3 : (if a = o then res else res ++ [sl l a o]).flatten = res.flatten ++ sl l a o := by
              split
              · rename_i q; subst q; simp [sl_self]
              · simp
            rw [e3]
            simp [strT]
        · rw [show sStep l (a, op, res) (i, [c]) = (a, op, res) from if_neg (by simpa using h34)]
          refine plain false ?_
          cases op with
          | none => simp [strT, h92, h34]
          | some o => simp only [Option.getD_some] at h2; simp [strT, h92, h34, sl_snoc h2 hc]

theorem strip_eq (l : List Nat) : stripF l = strT false none l := by
  have := strip_run l l.length 0 false (0, none, []) (by omega) (by simp) (by simp)
  simp only [List.drop_zero, Option.getD_none, Option.map_none, sl_self, List.flatten_nil, List.nil_append] at this
  exact this

theorem strT_len : ∀ (l : List Nat) (esc : Bool) (q : Option (List Nat)), (strT esc q l).length ≤ l.length + (q.getD []).length
  | [], esc, q => by simp [strT]
  | c :: r, esc, none => by
    have h1 := strT_len r false none
    have h2 := strT_len r true none
    have h3 := strT_len r false (some [34])
    unfold strT
    simp at *
    repeat' split
    all_goals (try simp at *); omega
  | c :: r, esc, some p => by
    have h1 := strT_len r false none
    have h2 := strT_len r true (some (p ++ [c]))
    have h3 := strT_len r false (some (p ++ [c]))
    unfold strT
    simp at *
    repeat' split
    all_goals (try simp at *); omega
theorem strip_len (l : List Nat) : (stripF l).length ≤ l.length := by
  rw [strip_eq]; have := strT_len l false none; simpa using this
end Mine
end

-- Read2
section
set_option maxRecDepth 100000
set_option maxHeartbeats 4000000
namespace Mine
open PySem PySem.Calls PySem.W PyProof.Rows PySem.Builtin

section
variable {prog : Program} {w : World} {A : Around} {E : Value → Shared → Prop} {s : Shared} {mg mb : Str → Option Value} {x : Str} {t : Tok}

theorem read_call {Q : Value → Shared → Prop} (G : Gr w mg mb s.heap) (hroom : A.depth + 2 < recursionLimit) (hA : A.handled = none) (hx : x.cps.size ≤ 60000)
    (h : ∀ h' tk D vs gs, (∀ b o, s.heap.get? b = some o → h'.get? b = some o) → (gs = s.gens ∨ gs = s.gens.push .finished) → s.heap.objs.size ≤ D → PlainL h' D vs.toArray → StrsAre vs ((readP x.cps.toList).map fun l => ⟨l.toArray⟩) →
      Q (.ref D) { s with heap := h', toks := tk, gens := gs }) :
    wpAny (model prog w) A (call (.ref 86) [.str x t]) Q E s := by
  obtain ⟨⟨o, pm, doc, ho, hd⟩, hc⟩ := G.f86
  have hcr : Str.ofString "\r\n" = crlfStr := by decide +kernel
  have hsl : sizeLine = 16777216 := rfl
  refine wpAny_call (call_plain_ret (binds := [("typed", .str x t)]) (by omega) ho hd G.lim hc rfl (locs rfl) ?_ rfl rfl rfl (by decide +kernel))
  intro h₁ Fr₁
  have G₁ := G.keeps Fr₁.keep
  have hql := quote_len x.cps.toList
  have hsl2 := strip_len (quoteP x.cps.toList)
  have hxl : x.cps.toList.length = x.cps.size := by simp
  refine wpAny_execs_cons (wpAny_Return_some ?_)
  refine list_slice ?_
  refine wpAny_Call_method (T := "str") (id := "str.split") rfl rfl rfl F.plainAttrs_str F.slot_str_split F.type_str_split ?_
  refine wpAny_Call_NameR (Calls.Name_function_global rfl rfl (Calls.loadGlobal_global G₁.g (G₁.glob (v := .ref 62) rfl) ?_))
  refine cwf (P := fun h => Gr w mg mb h) (fun h g => by obtain ⟨⟨o, pm, doc, ho, hd⟩, _⟩ := g.f62; exact ⟨o, _, ho, hd⟩) (spl_cons ?_)
  refine wpAny_Call_NameR (Calls.Name_function_global rfl rfl (Calls.loadGlobal_global G₁.g (G₁.glob (v := .ref 48) rfl) ?_))
  refine cwf (P := fun h => Gr w mg mb h) (fun h g => by obtain ⟨⟨o, pm, doc, ho, hd⟩, _⟩ := g.f48; exact ⟨o, _, ho, hd⟩) (spl_cons (wpAny_Name (wpAny_loadName_local rfl rfl Fr₁.ns rfl (spl_nil ⟨G₁, ?_⟩))))
  refine quote_call G₁ (by show A.depth + 1 < recursionLimit; omega) (by omega) fun h₂ tk₂ t₂ k₂ => spl_nil ⟨G₁.keeps k₂, ?_⟩
  refine strip_call (G₁.keeps k₂) (by show A.depth + 1 + 1 < recursionLimit; omega) hA (by show (quoteP x.cps.toList).length ≤ _; omega) (by show (stripF (quoteP x.cps.toList)).length ≤ _; omega) fun h₃ tk₃ t₃ gs k₃ hgs => ?_
  refine ⟨typeIs_str _ _ _, (fun a e => nomatch e), cwb (spl_cons (Constant_str (spl_nil ?_)))⟩
  rw [hcr]
  generalize hz : (⟨(stripF (quoteP x.cps.toList)).toArray⟩ : Str) = z
  have hzl : z.length = (stripF (quoteP x.cps.toList)).length := by rw [← hz]; simp [Str.length]
  have hzc : z.cps.toList = stripF (quoteP x.cps.toList) := by rw [← hz]
  have k03 : ∀ b o, s.heap.get? b = some o → h₃.get? b = some o := fun b o e => k₃ b o (k₂ b o (Fr₁.keep b o e))
  have hocc : ∀ cuts : List Nat, ∀ a, (StrLaws.partsFrom z 2 a cuts).length = cuts.length + 1 := fun cuts => by
    induction cuts with
    | nil => intro a; rfl
    | cons c r ih => intro a; show (_ :: StrLaws.partsFrom z 2 (c + 2) r).length = _; simp [ih]
  refine SCG.split1 (Fm := fun s' => ∃ h' tk, s' = { s with heap := h', toks := tk, gens := gs } ∧ (∀ b o, s.heap.get? b = some o → h'.get? b = some o) ∧ s.heap.objs.size ≤ h'.objs.size) ?_ ⟨h₃, _, rfl, k03, ?_⟩ (by rfl) ?_ (by omega) ?_
  · rintro s' ob k ⟨h', tk, rfl, kp, hs⟩
    exact ⟨_, k, rfl, fun b o e => Heap.get?_push_of_some _ (kp b o e), by rw [Heap.size_push]; exact Nat.le_succ_of_le hs⟩
  · obtain ⟨oL, _, _, hoL, _⟩ := Fr₁.ns
    exact Nat.le_of_lt (Heap.lt_size (k₃ _ _ (k₂ _ _ hoL)))
  · rintro D l s' hl ⟨h₄, tk₄, rfl, k₄, hs₄⟩ hD
    rw [split_eq, hzc] at hl
    have hlen : l.length = (splitL (stripF (quoteP x.cps.toList))).length := by
      have := congrArg List.length hl; simpa using this
    have hle : l.length ≤ z.length + 2 := by
      have := split_le z crlfStr
      rw [split_eq, hzc] at this
      rw [hlen]; simpa using this
    have hpos : 1 ≤ l.length := by
      obtain ⟨p, ps, e⟩ := splitL_ne (stripF (quoteP x.cps.toList))
      rw [hlen, e]; simp
    refine ep_none (ep_some (wpAny_UnaryOp (wpAny_Constant_int (neg_int ?_))))
    refine ⟨D, _, none, some (-1), rfl, hD, by simp [strValues]; omega, .none, .int _ (tk₄ + 1), ?_⟩
    show Q (.ref (h₄.objs.size + 1)) { s with heap := (h₄.push { cls := .type "slice", data := .fields #[.none, .int (-1) (tk₄ + 1), .none] }).push { cls := .type "list", data := .seq (slicePick (strValues l).toArray none (some (-1)) none) }, toks := tk₄ + 1 + 1, gens := gs }
    have hb : sliceBounds none (some (-1)) none (strValues l).toArray.size = (((0 : Nat) : Int), ((l.length - 1 : Nat) : Int), 1) := by
      have hs : (strValues l).toArray.size = l.length := by simp [strValues]
      rw [hs]
      unfold sliceBounds
      simp only [Option.getD_none]
      refine Prod.ext (by rfl) (Prod.ext ?_ rfl)
      show (if (1 : Int) > 0 then max 0 (min (if (-1 : Int) < 0 then -1 + (l.length : Int) else -1) (l.length : Int)) else max (-1) (min (if (-1 : Int) < 0 then -1 + (l.length : Int) else -1) ((l.length : Int) - 1))) = _
      rw [if_pos (by decide), if_pos (by decide)]
      simp only [Int.max_def, Int.min_def]
      (repeat' split) <;> omega
    rw [kmk_pick_nat _ hb]
    refine h _ _ _ (((strValues l).drop 0).take (l.length - 1 - 0)) gs ?_ hgs (Nat.le_succ_of_le hs₄) ⟨{ cls := .type "list", data := .seq (((strValues l).toArray.toList.drop 0).take (l.length - 1 - 0)).toArray }, 0, ?_, rfl, rfl, rfl⟩ ?_
    · exact fun b o e => Heap.get?_push_of_some _ (Heap.get?_push_of_some _ (k₄ b o e))
    · have := Heap.get?_push_size (h₄.push { cls := .type "slice", data := .fields #[.none, .int (-1) (tk₄ + 1), .none] }) (o := { cls := .type "list", data := .seq (((strValues l).toArray.toList.drop 0).take (l.length - 1 - 0)).toArray }) rfl
      rw [Heap.size_push] at this
      exact this
    · have hS : StrsAre (strValues l) ((splitL (stripF (quoteP x.cps.toList))).map fun l => ⟨l.toArray⟩) := by
        rw [← hl]
        clear hl hlen hle hpos hb hD
        induction l with
        | nil => exact .nil
        | cons p r ih => exact .cons _ _ ih
      have := hS.take' (l.length - 1)
      unfold readP
      rw [List.dropLast_eq_take, List.map_take, ← hlen]
      simpa using this
  · rw [StrLaws.partsBetween_eq, show crlfStr.length = 2 from rfl, hocc]
    have := StrLaws.occ_length_le z crlfStr 0 z.length (z.length + 1)
    omega
end
end Mine
end

-- Loops
section
set_option maxRecDepth 100000
set_option maxHeartbeats 4000000
namespace Mine
open PySem PySem.Calls PySem.W PyProof.Rows PySem.Builtin

section
variable {prog : Program} {w : World} {A : Around} {E : Value → Shared → Prop} {s : Shared} {env : Env}

/-- a for over anything that walks, one name, whose turns end plainly -/
theorem for_walk {R : Result → Shared → Prop} {nm : Str} {pn : Pos} {body : List Stmt} {I : Addr} {fp wr : List Addr} {n : Nat} {P : Nat → Value → Prop} {St : Nat → Heap → Prop} (W : Walks prog w A I fp wr n P St)
    (Inv : Nat → Shared → Prop) (h0 : Inv 0 s) (hst : St 0 s.heap)
    (turn : ∀ i v s₁ h' tk, i < n → P i v → Inv i s₁ → (∀ b o, b ∉ wr → s₁.heap.get? b = some o → h'.get? b = some o) →
      wpAny (model prog w) A (storeName env nm v) (fun _ s₂ => wpAny (model prog w) A (execs body env) (fun f s₃ => f = .next ∧ Inv (i + 1) s₃ ∧ ∀ b ∈ fp, ∀ o, h'.get? b = some o → s₃.heap.get? b = some o) (fun _ _ => False) s₂) (fun _ _ => False) { s₁ with heap := h', toks := tk })
    (done : ∀ s₁ h' tk, Inv n s₁ → (∀ b o, b ∉ wr → s₁.heap.get? b = some o → h'.get? b = some o) → R (.ok .next) { s₁ with heap := h', toks := tk }) :
    codeAny (model prog w) A (.forLoop (.Name nm pn) (.ref I) body [] env) R s := by
  refine codeAny_forLoop_any (fun k s' => ∃ i, i ≤ n ∧ k = n - i ∧ Inv i s' ∧ St i s'.heap) ?_ (n - 0) ⟨0, Nat.zero_le _, rfl, h0, hst⟩
  rintro k s' ⟨i, hi, rfl, hI, hS⟩
  rcases Nat.lt_or_ge i n with hlt | hge
  · refine W.item i s' _ _ hlt hS fun v h' tk hP hS' kp => ?_
    refine wpAny_of_eq (a := ()) rfl ?_
    refine wpAny_assign_Name ?_
    refine wpAny_mono (turn i v s' h' tk hlt hP hI kp) (fun _ s₂ h₂ => wpAny_mono h₂ (fun f s₃ h₃ => ?_) fun _ _ e => e.elim) fun _ _ e => e.elim
    obtain ⟨rfl, hI', hk⟩ := h₃
    exact ⟨n - (i + 1), by omega, i + 1, by omega, rfl, hI', W.frame _ _ _ hS' hk⟩
  · have : i = n := by omega
    subst this
    refine W.done s' _ _ hS fun h' tk kp => ?_
    exact wpAny_execs_nil (done s' h' tk hI kp)

theorem list_sliceK {value : Expr} {lower upper : Option Expr} {p pos : Pos} {Q : Value → Shared → Prop}
    (h : wpAny (model prog w) A (eval value env) (fun o s₁ => wpAny (model prog w) A (evalPart lower env) (fun vl s₂ => wpAny (model prog w) A (evalPart upper env) (fun vu s₃ =>
      ∃ l items lo hi, o = .ref l ∧ s₃.heap.IsList l items ∧ items.size ≤ sizeLine ∧ IsPart vl lo ∧ IsPart vu hi ∧
        ∀ h' (D : Nat), s₃.heap.objs.size ≤ D → (∀ b o, s₃.heap.get? b = some o → h'.get? b = some o) → PlainL h' D (slicePick items lo hi none) → Q (.ref D) { s₃ with heap := h' }) E s₂) E s₁) E s) :
    wpAny (model prog w) A (eval (.Subscript value (.Slice lower upper none p) pos) env) Q E s := by
  refine list_slice (wpAny_mono h (fun o s₁ h₁ => wpAny_mono h₁ (fun vl s₂ h₂ => wpAny_mono h₂ (fun vu s₃ h₃ => ?_) fun _ _ e => e) fun _ _ e => e) fun _ _ e => e)
  obtain ⟨l, items, lo, hi, rfl, hl, hsz, pl, pu, hQ⟩ := h₃
  refine ⟨l, items, lo, hi, rfl, hl, hsz, pl, pu, hQ _ _ (Nat.le_succ _) (fun b o e => Heap.get?_push_of_some _ (Heap.get?_push_of_some _ e)) ?_⟩
  have := Heap.get?_push_size (s₃.heap.push { cls := .type "slice", data := .fields #[vl, vu, .none] }) (o := { cls := .type "list", data := .seq (slicePick items lo hi none) }) rfl
  rw [Heap.size_push] at this
  exact ⟨_, 0, this, rfl, rfl, rfl⟩

/-- range(n) made and walked -/
theorem range_iter {v : Tok} {m : Nat} {Q : Value → Shared → Prop} (hm : m ≤ 1000000) (h : ∀ h' tk I, s.heap.objs.size < I → (∀ b o, s.heap.get? b = some o → h'.get? b = some o) → IsRangeIter h' I (0 + ((0 : Nat) : Int) * 1) ((m : Int) - ((0 : Nat) : Int)) 1 → Q (.ref I) { s with heap := h', toks := tk }) :
    wpAny (model prog w) A (call (.type "range") [.int m v]) (fun x s₁ => wpAny (model prog w) A (pyIter x) Q E s₁) E s := by
  refine call_range_1 ?_
  refine wpAny_pyIter_range (a := 0) (b := m) (c := 1) (t := s.toks) (u := v) (v := s.toks + 1) (Heap.get?_push_size _ rfl) (small_one (by decide) (by decide) (by omega) (by omega)) ?_
  rw [rangeSize_nat]
  refine h _ _ _ ?_ ?_ ?_
  · rw [Heap.size_push]; exact Nat.lt_succ_self _
  · exact fun b o e => Heap.get?_push_of_some _ (Heap.get?_push_of_some _ e)
  · have e : (((m : Int) - 0).toNat : Int) = (m : Int) - ((0 : Nat) : Int) := by omega
    rw [e]
    exact Heap.get?_push_size _ rfl
end

section
variable {prog : Program} {w : World} {A : Around} {E : Value → Shared → Prop} {s : Shared} {mg mb : Str → Option Value}

theorem ister_call {Q : Value → Shared → Prop} {a : Int} {t : Tok} (G : Gr w mg mb s.heap) (hroom : A.depth < recursionLimit)
    (h : ∀ h' tk, (∀ b o, s.heap.get? b = some o → h'.get? b = some o) → Q (.bool (decide (a < 256))) { s with heap := h', toks := tk }) :
    wpAny (model prog w) A (call (.ref 72) [.int a t]) Q E s := by
  obtain ⟨⟨o, pm, doc, ho, hd⟩, hc⟩ := G.f72
  refine wpAny_call (call_plain_ret (binds := [("x", .int a t)]) hroom ho hd G.lim hc rfl (locs rfl) ?_ rfl rfl rfl (by decide +kernel))
  intro h₁ F₁
  have G₁ := G.keeps F₁.keep
  refine wpAny_execs_cons (wpAny_Return_some (wpAny_Compare1 (wpAny_Name (wpAny_loadName_local rfl rfl F₁.ns rfl ?_))))
  refine Calls.Name_function_global rfl rfl (Calls.loadGlobal_global G₁.g (G₁.glob (v := .int 256 475) rfl) ?_)
  exact lt_int (h h₁ _ F₁.keep)
theorem iseof_call {Q : Value → Shared → Prop} {a : Int} {t : Tok} (G : Gr w mg mb s.heap) (hroom : A.depth < recursionLimit)
    (h : ∀ h' tk, (∀ b o, s.heap.get? b = some o → h'.get? b = some o) → Q (.bool (a == 0)) { s with heap := h', toks := tk }) :
    wpAny (model prog w) A (call (.ref 79) [.int a t]) Q E s := by
  obtain ⟨⟨o, pm, doc, ho, hd⟩, hc⟩ := G.f79
  refine wpAny_call (call_plain_ret (binds := [("x", .int a t)]) hroom ho hd G.lim hc rfl (locs rfl) ?_ rfl rfl rfl (by decide +kernel))
  intro h₁ F₁
  have G₁ := G.keeps F₁.keep
  refine wpAny_execs_cons (wpAny_Return_some (wpAny_Compare1 (wpAny_Name (wpAny_loadName_local rfl rfl F₁.ns rfl ?_))))
  refine Calls.Name_function_global rfl rfl (Calls.loadGlobal_global G₁.g (G₁.glob (v := .int 0 377) rfl) ?_)
  exact eq_int (h h₁ _ F₁.keep)
end
end Mine
end

-- Worth
section
set_option maxRecDepth 100000
set_option maxHeartbeats 4000000
namespace Mine
open PySem PySem.Calls PySem.W PyProof.Rows PySem.Builtin

section
variable {prog : Program} {w : World} {A : Around} {E : Value → Shared → Prop} {s : Shared} {mg mb : Str → Option Value}

theorem mul_listK {l : Addr} {vs : List Value} {x : Int} {u : Tok} {Q : Value → Shared → Prop} (hl : s.heap.IsList l vs.toArray) (h0 : 0 ≤ x) (hx : x ≤ 1000) (hv : vs.length ≤ 1000)
    (h : ∀ h', (∀ b o, s.heap.get? b = some o → h'.get? b = some o) → PlainL h' s.heap.objs.size (List.replicate x.toNat vs).flatten.toArray → Q (.ref s.heap.objs.size) { s with heap := h' }) :
    wpAny (model prog w) A (binaryOp .Mult (.ref l) (.int x u)) Q E s := by
  obtain ⟨⟨cls, d, data, sl⟩, ho, hcl, k, hd⟩ := id hl
  simp only at hcl hd
  subst hcl hd
  have hsz : vs.length * x.toNat ≤ 2 ^ 24 := by
    have h1 : x.toNat ≤ 1000 := by omega
    calc vs.length * x.toNat ≤ 1000 * 1000 := Nat.mul_le_mul hv h1
      _ ≤ 2 ^ 24 := by decide
  have hsz' : vs.toArray.size * x.toNat ≤ 2 ^ 24 := by simpa using hsz
  refine wpAny_binaryOp_repeat_ref (T := "list") (U := "int") (by decide) ⟨_, ho, rfl⟩ (fun s' => typeIs_int s' x u) noFill_list_mul F.fills_int_mul F.slot_int_rmul repeat_list F.slot_int_index.lookup
    (call_meets F.slot_int_rmul (typeIs_int s x u) F.entry_int_rmul (F.args_int_rmul_2 _ _) (lm_int_rmul_list_any x u l vs.toArray k d sl)
      ⟨ho, rfl, ⟨_, ho, rfl⟩, call_meets F.slot_list_mul ⟨_, ho, rfl⟩ F.entry_list_mul (F.args_list_mul_2 _ _)
        (lm_list_mul_any l vs.toArray k d sl x u (by simp [Builtin.List.listFitsIndex]; omega) (by omega) (by simp [Builtin.List.listTooLong, sizeLine]; omega))
        ⟨ho, ?_⟩⟩)
  refine h _ (fun b o e => Heap.get?_push_of_some _ e) ⟨_, 0, Heap.get?_push_size _ rfl, rfl, rfl, ?_⟩
  rw [listMul_foldl_if]

noncomputable def wStep (ns : List Int) (st : Int × Int) (k : Nat) : Int × Int :=
  let wt := if ns.take (k + 1) = (List.replicate (k + 1) (ns.take 1)).flatten then st.2 else st.2.fdiv 2
  (st.1 + ns.getD k 0 * wt, wt)
noncomputable def worthP (ns : List Int) : Int := ((List.range ns.length).foldl (wStep ns) (0, 4)).1
noncomputable def wAt (ns : List Int) (i : Nat) : Int × Int := (List.range i).foldl (wStep ns) (0, 4)
theorem wAt_succ (ns : List Int) (i : Nat) : wAt ns (i + 1) = wStep ns (wAt ns i) i := by
  unfold wAt; rw [List.range_succ, List.foldl_append]; rfl
theorem intsGet {vs : List Value} {ns : List Int} (h : IntsAre vs ns) : ∀ {k : Nat}, k < ns.length → ∃ t, vs.toArray[k]? = some (.int (ns.getD k 0) t) := by
  induction h with
  | nil => intro k hk; exact absurd hk (by simp)
  | cons n t _ ih =>
    intro k hk
    cases k with
    | zero => exact ⟨t, by simp⟩
    | succ k =>
      obtain ⟨t, e⟩ := ih (k := k) (by simpa using hk)
      exact ⟨t, by simpa using e⟩

theorem wAt_range (ns : List Int) : ∀ i, 0 ≤ (wAt ns i).2 ∧ (wAt ns i).2 ≤ 4
  | 0 => by show (0 : Int) ≤ 4 ∧ (4 : Int) ≤ 4; decide
  | i + 1 => by
    have := wAt_range ns i
    rw [wAt_succ]
    unfold wStep
    dsimp only
    split
    · exact this
    · have h2 : (wAt ns i).2.fdiv 2 = (wAt ns i).2 / 2 := Int.fdiv_eq_ediv_of_nonneg _ (by decide)
      rw [h2]; omega

theorem intsRep {vs : List Value} {ns : List Int} (h : IntsAre vs ns) : ∀ k, IntsAre (List.replicate k vs).flatten (List.replicate k ns).flatten
  | 0 => .nil
  | k + 1 => by rw [List.replicate_succ, List.replicate_succ, List.flatten_cons, List.flatten_cons]; exact h.append (intsRep h k)

noncomputable abbrev worthEnv (L : Nat) : Env := envOf "_law_worth" (scopeOf (topSt 66)) L 98 (.ref 97)
noncomputable def worthFor : Stmt := (bodyOf (topSt 66)).getD 2 (.Pass default)

theorem worth_call {Q : Value → Shared → Prop} {l : Nat} {vs : List Value} {ns : List Int} (G : Gr w mg mb s.heap) (hroom : A.depth < recursionLimit) (hA : A.handled = none) (hu : A.units + 100 < cLine)
    (hl : s.heap.IsList l vs.toArray) (hi : IntsAre vs ns) (hn : ns.length ≤ 100) (hb : ∀ n ∈ ns, -1000 ≤ n ∧ n ≤ 1000)
    (h' : ∀ h' tk t', (∀ b o, s.heap.get? b = some o → h'.get? b = some o) → Q (.int (worthP ns) t') { s with heap := h', toks := tk }) :
    wpAny (model prog w) A (call (.ref 98) [.ref l]) Q E s := by
  obtain ⟨⟨o, pm, doc, ho, hd⟩, hc⟩ := G.f98
  refine wpAny_call (call_plain_ret (binds := [("signs", .ref l)]) hroom ho hd G.lim hc rfl (locs rfl) ?_ rfl rfl rfl (by decide +kernel))
  intro h₁ F₁
  generalize hLe : s.heap.objs.size = L at *
  have hm := F₁.ns
  have hvl : vs.length = ns.length := hi.length
  have hsl : sizeLine = 16777216 := rfl
  refine wpAny_execs_cons (wpAny_Assign_Name (wpAny_Constant_int (wpAny_storeName_local rfl hm (fun h₂ hm₂ hs₂ => ?_) rfl)))
  refine wpAny_execs_cons (wpAny_Assign_Name (wpAny_Constant_int (wpAny_storeName_local rfl hm₂ (fun h₃ hm₃ hs₃ => ?_) rfl)))
  have k03 : ∀ b o, s.heap.get? b = some o → h₃.get? b = some o := fun b o e => by
    have hb := ltN (Heap.lt_size e)
    have hbL : b ≠ L := neN (by omega)
    exact (hs₃.2 b hbL).trans ((hs₂.2 b hbL).trans (F₁.keep b o e))
  have G₃ := G.keeps k03
  have hlen := G₃.built (n := "len") rfl boot_len (by decide +kernel)
  have hran := G₃.built (n := "range") rfl boot_range (by decide +kernel)
  have hl₃ : h₃.IsList l vs.toArray := by obtain ⟨o, ho, r⟩ := hl; exact ⟨o, k03 l o ho, r⟩
  refine wpAny_execs_cons (wpAny_For (wpAny_Call_NameR (Calls.Name_function_global rfl rfl (Calls.loadGlobal_builtin G₃.g hran.1 G₃.b hran.2 ?_))))
  refine PyProof.Rows.callWith_type1 (spl_cons (wpAny_Call_NameR (Calls.Name_function_global rfl rfl (Calls.loadGlobal_builtin G₃.g hlen.1 G₃.b hlen.2 ?_))))
  refine cwb (spl_cons (wpAny_Name (wpAny_loadName_local rfl rfl hm₃ rfl (spl_nil ?_))))
  refine call_len_list hl₃ (by simp; omega) (spl_nil ?_)
  refine range_iter (by simp; omega) fun h₄ tk₄ I hI k₄ hit => ?_
  have hsz3 : @LT.lt Nat _ L h₃.objs.size := hm₃.lt
  replace hI : @LT.lt Nat _ h₃.objs.size I := hI
  have hIL : I ≠ L := neN (by omega)
  have W := Walks.range (prog := prog) (w := w) (A := A.deeper (worthEnv L)) hA I 0 1 vs.toArray.size
  refine for_walk W (fun i s' => ∃ h tk m u1 u2, s' = { s with heap := h, toks := tk } ∧ (∀ b o, s.heap.get? b = some o → h.get? b = some o) ∧ h.Ns L m ∧ m "signs" = some (.ref l) ∧ m "worth" = some (.int (wAt ns i).1 u1) ∧ m "weight" = some (.int (wAt ns i).2 u2))
    ⟨h₄, _, _, s.toks + 1, s.toks + 1 + 1 + 1, rfl, fun b o e => k₄ b o (k03 b o e), hm₃.at fun o e => k₄ L o e, rfl, ?_, ?_⟩ hit ?_ ?_
  · exact (if_neg (by decide +kernel)).trans (if_pos rfl)
  · exact if_pos rfl
  · rintro i v s₁ h₅ tk₅ hlt ⟨tv, rfl⟩ ⟨h, tk, m, u1, u2, rfl, kp, hm, hsg, hwo, hwe⟩ k₅
    have hlt : i < ns.length := by simpa [hvl] using hlt
    have hm₅ : h₅.Ns L m := hm.at fun o e => k₅ L o (by simpa using Ne.symm hIL) e
    have kp₅ : ∀ b o, s.heap.get? b = some o → h₅.get? b = some o := fun b o e => k₅ b o (by
      have hb := ltN (Heap.lt_size e)
      simp only [List.mem_singleton]
      exact neN (by omega)) (kp b o e)
    refine wpAny_storeName_local rfl hm₅ (fun h₆ hm₆ hs₆ => ?_) rfl
    have hl₆ : h₆.IsList l vs.toArray := by
      obtain ⟨o, ho, r⟩ := hl
      have hb := ltN (Heap.lt_size ho)
      exact ⟨o, (hs₆.2 l (show l ≠ L from neN (by omega))).trans (kp₅ l o ho), r⟩
    have ei : (0 : Int) + (i : Int) * 1 = (i : Int) := by omega
    rw [ei] at hm₆
    -- the test
    refine wpAny_execs_cons (wpAny_mono (Q := fun f s' => f = .next ∧ ∃ h₇ tk m₇ u, s' = { s with heap := h₇, toks := tk } ∧ (∀ b o, b ≠ L → h₆.get? b = some o → h₇.get? b = some o) ∧ h₇.Ns L m₇ ∧ m₇ "signs" = some (.ref l) ∧ m₇ "k" = some (.int i tv) ∧ m₇ "worth" = some (.int (wAt ns i).1 u1) ∧ m₇ "weight" = some (.int (wAt ns (i + 1)).2 u)) (E := fun _ _ => False) ?_ ?_ (fun _ _ e => e))
    · refine wpAny_If (wpAny_isTrue_Compare1 ?_)
      refine list_sliceK (wpAny_Name (wpAny_loadName_local rfl rfl hm₆ ((if_neg (by decide +kernel)).trans hsg) (ep_none (ep_some (wpAny_BinOp (wpAny_Name (wpAny_loadName_local rfl rfl hm₆ (if_pos rfl) (wpAny_Constant_int (add_int ?_)))))))))
      refine ⟨l, _, none, some ((i : Int) + 1), rfl, hl₆, by simp; omega, .none, .int _ _, fun h₇ D₁ _ k₇ hD₁ => ?_⟩
      have hm₇ := hm₆.at fun o e => k₇ L o e
      have hl₇ : h₇.IsList l vs.toArray := by obtain ⟨o, ho, r⟩ := hl₆; exact ⟨o, k₇ l o ho, r⟩
      -- right side: signs[:1] * (k + 1)
      refine wpAny_BinOp ?_
      refine list_sliceK (wpAny_Name (wpAny_loadName_local rfl rfl hm₇ ((if_neg (by decide +kernel)).trans hsg) (ep_none (ep_some (wpAny_Constant_int ?_)))))
      refine ⟨l, _, none, some 1, rfl, hl₇, by simp; omega, .none, .int _ _, fun h₈ D₂ _ k₈ hD₂ => ?_⟩
      have hm₈ := hm₇.at fun o e => k₈ L o e
      refine wpAny_BinOp (wpAny_Name (wpAny_loadName_local rfl rfl hm₈ (if_pos rfl) (wpAny_Constant_int (add_int ?_))))
      have hi1 := kmk_upto hi (y := (i : Int) + 1) (by omega)
      have hi2 := kmk_upto hi (y := (1 : Int)) (by omega)
      have e1 : ((i : Int) + 1).toNat = i + 1 := by omega
      rw [e1] at hi1
      have hl2 : (slicePick vs.toArray none (some 1) none).toList.length ≤ 1000 := by
        rw [hi2.length]; simp; omega
      refine mul_listK (vs := (slicePick vs.toArray none (some 1) none).toList) (by simpa using hD₂.isList) (by omega) (by omega) hl2 fun h₉ k₉ hD₃ => ?_
      rw [e1] at hD₃
      refine ke_ne_ints (xs := (slicePick vs.toArray none (some ((i : Int) + 1)) none).toList) (ys := (List.replicate (i + 1) (slicePick vs.toArray none (some 1) none).toList).flatten) (ns := ns.take (i + 1)) (ms := (List.replicate (i + 1) (ns.take 1)).flatten) ?_ hD₃.isList hi1 (intsRep hi2 (i + 1)) (by show A.units + 3 + 64 < cLine; omega) (wpAny_truthy_bool ?_)
      · have := (hD₁.keeps fun b o e => k₉ b o (k₈ b o e)).isList
        simpa using this
      have hm₉ := hm₈.at fun o e => k₉ L o e
      have k69 : ∀ b o, h₆.get? b = some o → h₉.get? b = some o := fun b o e => k₉ b o (k₈ b o (k₇ b o e))
      have eW : (wAt ns (i + 1)).2 = if ns.take (i + 1) = (List.replicate (i + 1) (ns.take 1)).flatten then (wAt ns i).2 else (wAt ns i).2.fdiv 2 := by rw [wAt_succ]; rfl
      by_cases hc : ns.take (i + 1) = (List.replicate (i + 1) (ns.take 1)).flatten
      · rw [if_neg (by simpa using hc)]
        rw [if_pos hc] at eW
        refine wpAny_execs_nil ⟨rfl, h₉, _, _, u2, rfl, fun b o _ e => k69 b o e, hm₉, (if_neg (by decide +kernel)).trans hsg, if_pos rfl, (if_neg (by decide +kernel)).trans hwo, ?_⟩
        rw [eW]; exact (if_neg (by decide +kernel)).trans hwe
      · rw [if_pos (by simpa using hc)]
        rw [if_neg hc] at eW
        have hwr := wAt_range ns i
        refine wpAny_execs_cons (wpAny_AugAssign_Name (wpAny_loadName_local rfl rfl hm₉ ((if_neg (by decide +kernel)).trans hwe) (wpAny_Constant_int (ifloordiv_int (by decide) ?_ (.inl (PyProof.noPylong_small (by omega)))))))
        refine wpAny_storeName_local rfl hm₉ (fun hA hmA hsA => wpAny_execs_nil ?_) rfl
        refine ⟨rfl, hA, _, _, ?uu, rfl, fun b o hb e => (hsA.2 b hb).trans (k69 b o e), hmA, (if_neg (by decide +kernel)).trans ((if_neg (by decide +kernel)).trans hsg), (if_neg (by decide +kernel)).trans (if_pos rfl), (if_neg (by decide +kernel)).trans ((if_neg (by decide +kernel)).trans hwo), ?ww⟩
        case ww => rw [eW]; exact if_pos rfl
    · rintro f s₂ ⟨rfl, h₇, tk₇, m₇, u, rfl, k₇, hm₇, hsg₇, hk₇, hwo₇, hwe₇⟩
      obtain ⟨ti, hget⟩ := intsGet hi hlt
      have hl₇ : h₇.IsList l vs.toArray := by
        obtain ⟨o, ho, r⟩ := hl₆
        obtain ⟨o', ho', _⟩ := hl
        have hb := ltN (Heap.lt_size ho')
        exact ⟨o, k₇ l o (show l ≠ L from neN (by omega)) ho, r⟩
      have hwr := wAt_range ns (i + 1)
      refine wpAny_execs_cons (wpAny_AugAssign_Name (wpAny_loadName_local rfl rfl hm₇ hwo₇ (wpAny_BinOp ?_)))
      refine Subscript_ (wpAny_Name (wpAny_loadName_local rfl rfl hm₇ hsg₇ (wpAny_Name (wpAny_loadName_local rfl rfl hm₇ hk₇ ?_))))
      refine tailG hl₇.typeIs list_getitem_lookup (wpAny_getItem_list hl₇ (by omega) (by omega) (by simpa using hget) ?_) rfl
      refine wpAny_Name (wpAny_loadName_local rfl rfl hm₇ hwe₇ (mul_int (iadd_int ?_) (.of_right (intBits_le_64 (by omega) (by omega)))))
      refine wpAny_storeName_local rfl hm₇ (fun h₈ hm₈ hs₈ => wpAny_execs_nil ?_) rfl
      refine ⟨rfl, ⟨h₈, _, _, ?vv, u, rfl, ?_, hm₈, (if_neg (by decide +kernel)).trans hsg₇, ?xx, (if_neg (by decide +kernel)).trans hwe₇⟩, ?_⟩
      case xx => rw [wAt_succ]; exact if_pos rfl
      · intro b o e
        have hb := ltN (Heap.lt_size e)
        have hbL : b ≠ L := neN (by omega)
        exact (hs₈.2 b hbL).trans (k₇ b o hbL ((hs₆.2 b hbL).trans (kp₅ b o e)))
      · intro b hb o e
        simp only [List.mem_singleton] at hb
        subst hb
        exact (hs₈.2 b hIL).trans (k₇ b o hIL ((hs₆.2 b hIL).trans e))
  · rintro s₁ h₅ tk₅ ⟨h, tk, m, u1, u2, rfl, kp, hm, hsg, hwo, hwe⟩ k₅
    have hm₅ : h₅.Ns L m := hm.at fun o e => k₅ L o (by simpa using Ne.symm hIL) e
    have kp₅ : ∀ b o, s.heap.get? b = some o → h₅.get? b = some o := fun b o e => k₅ b o (by
      have hb := ltN (Heap.lt_size e)
      simp only [List.mem_singleton]
      exact neN (by omega)) (kp b o e)
    refine wpAny_execs_cons (wpAny_Return_some (wpAny_Name (wpAny_loadName_local rfl rfl hm₅ hwo ?_)))
    have e : (wAt ns vs.toArray.size).1 = worthP ns := by unfold worthP wAt; simp [hvl]
    rw [e]
    exact h' h₅ tk₅ u1 kp₅
end
end Mine
end

-- Lists
section
set_option maxRecDepth 100000
set_option maxHeartbeats 4000000
namespace Mine
open PySem PySem.Calls PySem.W PyProof.Rows PySem.Builtin

theorem seq_list_iadd : seqSlot? (.type "list") (dunderI "add") = pure (some (.builtin "list.__iadd__")) := PySem.seqSlot_of F.slot_list_iadd.lookup (by decide +kernel)

section
variable {prog : Program} {w : World} {A : Around} {E : Value → Shared → Prop} {s : Shared}

theorem add_listK {l b : Addr} {vs ws : List Value} {Q : Value → Shared → Prop} (hl : s.heap.IsList l vs.toArray) (hb : s.heap.IsList b ws.toArray) (hsz : vs.length + ws.length ≤ 100000)
    (h : ∀ h' (D : Nat), s.heap.objs.size ≤ D → (∀ b o, s.heap.get? b = some o → h'.get? b = some o) → PlainL h' D (vs ++ ws).toArray → Q (.ref D) { s with heap := h' }) :
    wpAny (model prog w) A (binaryOp .Add (.ref l) (.ref b)) Q E s := by
  have hsl : sizeLine = 16777216 := rfl
  obtain ⟨⟨cls, dd, data, sl⟩, ho, hc, n, hd⟩ := id hl
  obtain ⟨⟨cls2, dd2, data2, sl2⟩, ho2, hc2, n2, hd2⟩ := id hb
  simp only at hc hd hc2 hd2
  subst hc hd hc2 hd2
  have e : vs.toArray ++ ws.toArray = (vs ++ ws).toArray := by simp
  refine concat_meets ⟨_, ho, rfl⟩ ⟨_, ho2, rfl⟩ noFill_list_add seq_list_add PySem.F.slot_list_add PySem.F.entry_list_add (PySem.F.args_list_add_2 _ _) (list_addW l b vs.toArray ws.toArray n n2 dd dd2 sl sl2 (by simp; omega)) ⟨ho, ho2, ?_⟩
  rw [e]
  exact h _ _ (Nat.le_refl _) (fun b o e => Heap.get?_push_of_some _ e) ⟨_, 0, Heap.get?_push_size _ rfl, rfl, rfl, rfl⟩

theorem iadd_listK {l b : Addr} {vs ws : List Value} {n : Nat} {Q : Value → Shared → Prop} (hl : IsL s.heap l vs.toArray n) (hb : ∃ n2, IsL s.heap b ws.toArray n2) (hsz : vs.length + ws.length ≤ 100000)
    (h : ∀ h', Heap.SameBut l s.heap h' → (∃ n, IsL h' l (vs ++ ws).toArray n) → Q (.ref l) { s with heap := h' }) :
    wpAny (model prog w) A (inplaceOp .Add (.ref l) (.ref b)) Q E s := by
  have hsl : sizeLine = 16777216 := rfl
  obtain ⟨n2, hb⟩ := hb
  have ha : s.TypeIs (.ref l) "list" := ⟨_, hl, rfl⟩
  have hbt : s.TypeIs (.ref b) "list" := ⟨_, hb, rfl⟩
  unfold inplaceOp
  refine wpAny_holding ?_
  have hfi : fillsInplaceSlot (.type "list") "add" (Operator.Add == .Add) = pure false := by
    unfold fillsInplaceSlot
    show (typeLookup (.type "list") (dunderI "add") >>= fun fi => pure (fi.isSome && !isSeqSlot fi)) = pure false
    rw [F.slot_list_iadd.lookup]; rfl
  refine wpAny_bind (wpAny_typeOf ha (wpAny_bind (wpAny_of_eq hfi ?_)))
  show wpAny _ A (if false = true then _ else _) Q E s
  rw [if_neg Bool.false_ne_true]
  refine wpAny_bind (wpAny_binaryOp1_none (nm := "add") ha hbt noFill_list_add ?_)
  refine wpAny_bind (wpAny_of_eq seq_list_iadd ?_)
  refine wpAny_bind (wpAny_rule ?_)
  refine call_meets F.slot_list_iadd ha F.entry_list_iadd (F.args_list_iadd_2 _ _) (AutoSeq1.list___iadd___list_list_0 l vs.toArray n b ws.toArray n2 ?_ (by simp; omega) (by simp; omega)) ⟨hl, hb, ?_⟩
  · simp [Builtin.List.listTooLong]; omega
  · refine h _ (Heap.SameBut.update ..) ?_
    have := Heap.get?_update_self (Obj.mapSeq fun x => x ++ ws.toArray) hl rfl
    exact ⟨_, by rw [IsL, this]; simp only [Obj.mapSeq, List.append_toArray]; rfl⟩

theorem strs_canLay : ∀ ns : List Str, (∀ x ∈ ns, PyData.strOk x = true) → PyData.canLayAll0 (ns.map PyData.str) = true
  | [], _ => rfl
  | _ :: r, h => by simp [PyData.canLayAll0, PyData.canLay0, strs_canLay r fun x m => h x (List.mem_cons_of_mem _ m), h _ List.mem_cons_self]
theorem strs_depth : ∀ ns : List Str, PyData.depthAll (ns.map PyData.str) = 0
  | [] => rfl
  | _ :: r => by simp [PyData.depthAll, PyData.depth, strs_depth r]
theorem strs_shaped (ns : List Str) (h : ∀ x ∈ ns, PyData.strOk x = true) : SeqAt.shaped (.list (ns.map PyData.str)) = true := by
  simp [SeqAt.shaped, PyData.canLay0, PyData.depth, strs_canLay ns h, strs_depth]
theorem strs_sameAll : ∀ ns ms : List Str, PySem.Spec.sameAll (ns.map PyData.str) (ms.map PyData.str) = decide (ns = ms)
  | [], [] => by simp [PySem.Spec.sameAll]
  | [], _ :: _ => by simp [PySem.Spec.sameAll]
  | _ :: _, [] => by simp [PySem.Spec.sameAll]
  | a :: r, b :: t => by
    simp only [List.map_cons, PySem.Spec.sameAll, PySem.Spec.same, strs_sameAll r t]
    by_cases h : a = b <;> by_cases h' : r = t <;> simp [h, h']
theorem strs_same (ns ms : List Str) : PySem.Spec.same (.list (ns.map PyData.str)) (.list (ms.map PyData.str)) = decide (ns = ms) := by
  simp only [PySem.Spec.same]; exact strs_sameAll ns ms
theorem strs_carried : ∀ {vs : List Value} {ns : List Str}, StrsAre vs ns → CarriedAll vs (ns.map PyData.str)
  | _, _, .nil => .nil
  | _, _, .cons _ t r => .cons (.str _ t) (strs_carried r)
theorem ne_strsK {a b : Addr} {xs ys : List Value} {ns ms : List Str} {Q : Value → Shared → Prop} (ha : s.heap.IsList a xs.toArray) (hb : s.heap.IsList b ys.toArray) (hi : StrsAre xs ns) (hj : StrsAre ys ms) (on : ∀ x ∈ ns, PyData.strOk x = true) (om : ∀ x ∈ ms, PyData.strOk x = true) (hu : A.units + 64 < cLine) (h : Q (.bool (!decide (ns = ms))) s) :
    wpAny (model prog w) A (compareOp .NotEq (.ref a) (.ref b)) Q E s :=
  ne_dataH_same (reads_newData ha (strs_carried hi)) (reads_newData hb (strs_carried hj)) (strs_shaped _ on) (strs_shaped _ om) hu (SeqAt.noMix_of_shape (.list .str) rfl _ _ (list_map_has fun _ => rfl) (list_map_has fun _ => rfl)) (by rw [strs_same]; exact h)
end
end Mine
end

-- Signs1
section
set_option maxRecDepth 100000
set_option maxHeartbeats 4000000
namespace Mine
open PySem PySem.Calls PySem.W PyProof.Rows PySem.Builtin

noncomputable def isTok (l : List Nat) : Bool := l == [46] || l == [46, 46, 46] || l == [47] || l == [47, 47]
noncomputable def tokN (l : List Nat) : Int := if l = [46] then 23 else if l = [46, 46, 46] then 52 else if l = [47] then 17 else 47
noncomputable def tokM (l : List Nat) : List Int := if l = [46] then [1] else if l = [46, 46, 46] then [1, 1, 1] else if l = [47] then [-1] else [-1, -1]
noncomputable def DS (l : List Nat) : Prop := ∀ c ∈ l, c = 46 ∨ c = 47

theorem ds_cases (P : List Nat → Prop) (h0 : P [])
    (h1 : P [46]) (h2 : P [47]) (h3 : P [46, 46]) (h4 : P [46, 47]) (h5 : P [47, 46]) (h6 : P [47, 47])
    (a1 : P [46, 46, 46]) (a2 : P [46, 46, 47]) (a3 : P [46, 47, 46]) (a4 : P [46, 47, 47]) (a5 : P [47, 46, 46]) (a6 : P [47, 46, 47]) (a7 : P [47, 47, 46]) (a8 : P [47, 47, 47]) :
    ∀ l, DS l → l.length ≤ 3 → P l
  | [], _, _ => h0
  | [a], h, _ => by
    have ha := h a (by simp)
    rcases ha with rfl | rfl <;> assumption
  | [a, b], h, _ => by
    have ha := h a (by simp)
    have hb := h b (by simp)
    rcases ha with rfl | rfl <;> rcases hb with rfl | rfl <;> assumption
  | [a, b, c], h, _ => by
    have ha := h a (by simp)
    have hb := h b (by simp)
    have hc := h c (by simp)
    rcases ha with rfl | rfl <;> rcases hb with rfl | rfl <;> rcases hc with rfl | rfl <;> assumption
  | _ :: _ :: _ :: _ :: _, _, hl => by simp at hl

theorem tab_at (P : Params) : ∀ l, DS l → l.length ≤ 3 → ∃ r, nsIn (KF P) 63 ⟨l.toArray⟩ = some r ∧ r.isSome = isTok l ∧ (isTok l = true → ∃ t, r = some (.int (tokN l) t)) := by
  refine ds_cases _ ?_ ?_ ?_ ?_ ?_ ?_ ?_ ?_ ?_ ?_ ?_ ?_ ?_ ?_ ?_
  all_goals first
    | exact ⟨none, rfl, rfl, fun h => absurd h (by decide)⟩
    | exact ⟨some _, rfl, rfl, fun _ => ⟨_, rfl⟩⟩

theorem Gr.exact {prog : Program} {w : World} {mg mb : Str → Option Value} {h : Heap} (G : Gr w mg mb h) :
    ∃ f, h.MapOf (strKind prog w) 63 f ∧ ∀ l, DS l → l.length ≤ 3 → (f ⟨l.toArray⟩).isSome = isTok l ∧ (isTok l = true → ∃ t, f ⟨l.toArray⟩ = some (.int (tokN l) t)) := by
  have key : ∃ es n, (KF w.params).lookup 63 = some ⟨.type "dict", none, .dict es n, #[]⟩ ∧ KeysLit w.params es.toList := by
    refine ⟨_, _, rfl, ?_⟩
    repeat (first | exact trivial | refine ⟨⟨_, _, rfl, rfl⟩, ?_⟩)
  obtain ⟨es, n, hl, hk⟩ := key
  refine ⟨_, mapOf_K (prog := prog) G.K hl hk, fun l hd h3 => ?_⟩
  obtain ⟨r, e, e1, e2⟩ := tab_at w.params l hd h3
  rw [find_K hl e]
  exact ⟨e1, e2⟩
end Mine
end

-- Signs2
section
set_option maxRecDepth 100000
set_option maxHeartbeats 4000000
namespace Mine
open PySem PySem.Calls PySem.W PyProof.Rows PySem.Builtin

noncomputable def bodyW : Stmt → List Stmt
  | .While _ b _ _ => b
  | _ => []
noncomputable def sgWhile : Stmt := (bodyOf (topSt 65)).getD 3 (.Pass default)
noncomputable def addR : Stmt → Expr
  | .Assign _ (.Call _ [.BinOp _ _ r _] _ _) _ => r
  | _ => .Name "" default
noncomputable def sgComp : Expr := addR ((bodyW sgWhile).getD 0 (.Pass default))
noncomputable def sgEnv (L : Nat) : Env := callEnvC (docDef "_law_signs" (paramsOf (topSt 65)) (bodyOf (topSt 65)) (scopeOf (topSt 65)) .none (.ref 90) .none) L 91

section
variable {prog : Program} {w : World} {A : Around} {E : Value → Shared → Prop} {s : Shared} {mg mb : Str → Option Value}

noncomputable def moreOk (x : Str) (k : Nat) : Value → Bool
  | .int n _ => isTok ((x.cps.toList.drop k).take n.toNat)
  | _ => false

theorem sizes_comp {Q : Value → Shared → Prop} {L : Nat} {x : Str} {t u : Tok} {k : Nat} (G : Gr w mg mb s.heap) (hA : A.handled = none)
    (hr : s.heap.IsCell (L + 1) (some (.str x t))) (hk : s.heap.IsCell (L + 2) (some (.int k u))) (hx : DS x.cps.toList) (hs : x.cps.size ≤ 1000)
    (h : ∀ h' tk D vs, (∀ b o, s.heap.get? b = some o → h'.get? b = some o) → PlainL h' D vs.toArray →
      IntsAre vs ((if isTok ((x.cps.toList.drop k).take 2) then [2] else []) ++ (if isTok ((x.cps.toList.drop k).take 3) then [3] else [])) → Q (.ref D) { s with heap := h', toks := tk }) :
    wpAny (model prog w) A (eval sgComp (sgEnv L)) Q E s := by
  have hsl : sizeLine = 16777216 := rfl
  refine wpAny_ListComp_free (moreOk x k) (fun v y => y = v) (cl := [("row", L + 1), ("k", L + 2)]) rfl (by decide +kernel) rfl (by decide +kernel) rfl ?_
  refine wpAny_Tuple (spl_cons (wpAny_Constant_int (spl_cons (wpAny_Constant_int (spl_nil ⟨by show 2 ≤ sizeLine; omega, ?_⟩)))))
  generalize hT : s.heap.push { cls := .type "tuple", data := .seq [Value.int 2 s.toks, Value.int 3 (s.toks + 1)].toArray } = H1
  have kT : ∀ b o, s.heap.get? b = some o → H1.get? b = some o := fun b o e => hT ▸ Heap.get?_push_of_some _ e
  have hTup : H1.IsTuple s.heap.objs.size #[.int 2 s.toks, .int 3 (s.toks + 1)] := ⟨_, hT ▸ Heap.get?_push_size _ rfl, rfl, _, rfl⟩
  have hz1 : H1.objs.size = s.heap.objs.size + 1 := by rw [← hT, Heap.size_push]
  refine wpAny_pyIter_tuple (s := { s with heap := H1, toks := s.toks + 1 + 1 }) hTup ?_
  generalize hI : H1.push { cls := .type "tuple_iterator", data := .fields #[.ref s.heap.objs.size, .int 0 0] } = H2
  have kI : ∀ b o, H1.get? b = some o → H2.get? b = some o := fun b o e => hI ▸ Heap.get?_push_of_some _ e
  have hz2 : H2.objs.size = H1.objs.size + 1 := by rw [← hI, Heap.size_push]
  have hIt : H2.IsTupleIter H1.objs.size s.heap.objs.size 0 := ⟨_, hI ▸ Heap.get?_push_size _ rfl, rfl, rfl⟩
  have hneN : s.heap.objs.size ≠ H1.objs.size := by omega
  have hne : @Ne Addr s.heap.objs.size H1.objs.size := hneN
  have k02 : ∀ b o, s.heap.get? b = some o → H2.get? b = some o := fun b o e => kI b o (kT b o e)
  have G2 := G.keeps k02
  refine ⟨H1.objs.size, [H1.objs.size, s.heap.objs.size], [H1.objs.size], 2, _, _, rfl, Walks.tuple hA H1.objs.size s.heap.objs.size hne #[.int 2 s.toks, .int 3 (s.toks + 1)], by omega, ⟨hIt, hTup.at fun o e => kI _ o e⟩, ?_, ⟨?_, ?_⟩, ?_⟩
  · intro b hb
    rcases List.mem_cons.mp hb with rfl | hb
    · show @LT.lt Nat _ H1.objs.size H2.objs.size
      omega
    · rw [List.mem_singleton.mp hb]
      show @LT.lt Nat _ s.heap.objs.size H2.objs.size
      omega
  · intro C i v s₃ m₃ E' hC hP hm₃ hv hk3 ht3
    have k3 : ∀ b o, s.heap.get? b = some o → s₃.heap.get? b = some o := fun b o e => hk3 b o (by
      have hb := ltN (Heap.lt_size e)
      simp only [List.mem_singleton]
      exact neN (by omega)) (k02 b o e)
    have G3 := G.keeps k3
    refine wpAny_tests_one ?_
    obtain ⟨n, tn, rfl, hn3⟩ : ∃ (n : Nat) (tn : Tok), v = .int n tn ∧ n ≤ 3 := by
      rcases i with _ | _ | i
      · exact ⟨2, s.toks, (Option.some.inj hP).symm, by decide⟩
      · exact ⟨3, s.toks + 1, (Option.some.inj hP).symm, by decide⟩
      · cases hP
    refine wpAny_isTrue_Compare1 ?_
    refine sub_slice (wpAny_Name (wpAny_loadName_cell rfl rfl rfl (hr.keeps k3) (ep_some (wpAny_Name (wpAny_loadName_cell rfl rfl rfl (hk.keeps k3) ?_)))))
    refine ep_some (wpAny_BinOp (wpAny_Name (wpAny_loadName_cell rfl rfl rfl (hk.keeps k3) (wpAny_Name (wpAny_loadName_local rfl rfl hm₃ hv (add_int ?_))))))
    refine ⟨x, t, some (k, u), some (k + n, s₃.toks), rfl, rfl, rfl, ?_, fun h₄ t' k' kp => ?_⟩
    · show x.cps.size ≤ sizeLine
      omega
    have hcut : cut x (some (k, u)) (some (k + n, s₃.toks)) = ⟨((x.cps.toList.drop k).take n).toArray⟩ := by
      unfold cut
      show (⟨(List.take (k + n - k) (List.drop k x.cps.toList)).toArray⟩ : Str) = _
      rw [Nat.add_sub_cancel_left]
    rw [hcut]
    have hds : DS ((x.cps.toList.drop k).take n) := fun c hc => hx c (List.mem_of_mem_drop (List.mem_of_mem_take hc))
    have hlen : ((x.cps.toList.drop k).take n).length ≤ 3 := by rw [List.length_take]; omega
    have G4 := G3.keeps kp
    obtain ⟨f, hf, hf'⟩ := G4.exact (prog := prog)
    refine Calls.Name_function_global rfl rfl (Calls.loadGlobal_global G4.g (G4.glob (v := .ref 63) rfl) ?_)
    refine wpAny_in_of (strKind_is prog w _ t') (by decide +kernel) hf ?_
    rw [(hf' _ hds hlen).1]
    exact wpAny_truthy_bool ⟨rfl, _, _, rfl, kp⟩
  · intro C i v s₃ m₃ E' hC hP hp hm₃ hv hk3 ht3
    exact wpAny_Name (wpAny_loadName_local rfl rfl hm₃ hv ⟨rfl, _, _, rfl, fun b o e => e⟩)
  · intro D h' tk ys vs hD hL hPl hlen hP hF hk'
    have hvs : vs = [.int 2 s.toks, .int 3 (s.toks + 1)] := by
      match vs, hlen, hP with
      | [a, b], _, hP =>
        have h0 := hP 0 a rfl
        have h1 := hP 1 b rfl
        simp at h0 h1
        rw [h0, h1]
    subst hvs
    have hys : ys.toList = List.filter (moreOk x k) [.int 2 s.toks, .int 3 (s.toks + 1)] := by
      generalize List.filter (moreOk x k) [.int 2 s.toks, .int 3 (s.toks + 1)] = l at hF
      generalize ys.toList = r at hF
      clear hPl hL
      induction hF with
      | nil => rfl
      | cons e _ ih => rw [e, ih]
    obtain ⟨nn, hPl⟩ := hPl
    refine h h' tk D ys.toList (fun b o e => hk' b o (by
      have hb := ltN (Heap.lt_size e)
      simp only [List.mem_singleton]
      exact neN (by omega)) (k02 b o e)) ⟨_, nn, hPl, rfl, rfl, by simp⟩ ?_
    · rw [hys]
      have e2 : moreOk x k (.int 2 s.toks) = isTok ((x.cps.toList.drop k).take 2) := rfl
      have e3 : moreOk x k (.int 3 (s.toks + 1)) = isTok ((x.cps.toList.drop k).take 3) := rfl
      rw [List.filter_cons, List.filter_cons, e2, e3]
      cases isTok ((x.cps.toList.drop k).take 2) <;> cases isTok ((x.cps.toList.drop k).take 3)
      · exact .nil
      · exact .cons _ _ .nil
      · exact .cons _ _ .nil
      · exact .cons _ _ (.cons _ _ .nil)
end
end Mine
end

-- Signs3
section
set_option maxRecDepth 100000
set_option maxHeartbeats 4000000
namespace Mine
open PySem PySem.Calls PySem.W PyProof.Rows PySem.Builtin

noncomputable def sizeP (l : List Nat) (k : Nat) : Nat := if isTok ((l.drop k).take 3) then 3 else if isTok ((l.drop k).take 2) then 2 else 1

theorem size_tok {l : List Nat} {k : Nat} (hd : DS l) (hk : k < l.length) : isTok ((l.drop k).take (sizeP l k)) = true := by
  unfold sizeP
  split
  · assumption
  · split
    · assumption
    · have : l.drop k = l[k] :: l.drop (k + 1) := List.drop_eq_getElem_cons hk
      rw [this]
      rcases hd l[k] (List.getElem_mem hk) with e | e <;> rw [e] <;> rfl
theorem size_le (l : List Nat) (k : Nat) : 1 ≤ sizeP l k ∧ sizeP l k ≤ 3 := by
  unfold sizeP; split
  · omega
  · split <;> omega

noncomputable def Mt (prog : Program) (w : World) (L M S : Nat) (h : Heap) : Prop :=
  ∃ a1 a2 a3 a4 : Nat, h.DictOf (intKind prog w) M [(23, .ref a1), (52, .ref a2), (17, .ref a3), (47, .ref a4)] ∧
    (∃ t n, IsL h a1 #[.int 1 t] n) ∧ (∃ t u v n, IsL h a2 #[.int 1 t, .int 1 u, .int 1 v] n) ∧ (∃ t n, IsL h a3 #[.int (-1) t] n) ∧ (∃ t u n, IsL h a4 #[.int (-1) t, .int (-1) u] n) ∧
    L + 2 < M ∧ M < S ∧ (L + 2 < a1 ∧ a1 < S) ∧ (L + 2 < a2 ∧ a2 < S) ∧ (L + 2 < a3 ∧ a3 < S) ∧ L + 2 < a4 ∧ a4 < S

theorem Mt.to {prog : Program} {w : World} {L M S : Nat} {h h' : Heap} (X : Mt prog w L M S h)
    (kp : ∀ (b : Nat) o, b ≠ L → b ≠ L + 2 → b ≠ S → h.get? b = some o → h'.get? b = some o) : Mt prog w L M S h' := by
  obtain ⟨a1, a2, a3, a4, hd, ⟨t1, n1, h1⟩, ⟨t2, u2, v2, n2, h2⟩, ⟨t3, n3, h3⟩, ⟨t4, u4, n4, h4⟩, r1, r2, r3, r4, r5, r6, r7⟩ := X
  exact ⟨a1, a2, a3, a4, hd.at fun o e => kp M o (by omega) (by omega) (by omega) e, ⟨t1, n1, kp a1 _ (by omega) (by omega) (by omega) h1⟩, ⟨t2, u2, v2, n2, kp a2 _ (by omega) (by omega) (by omega) h2⟩,
    ⟨t3, n3, kp a3 _ (by omega) (by omega) (by omega) h3⟩, ⟨t4, u4, n4, kp a4 _ (by omega) (by omega) (by omega) h4⟩, r1, r2, r3, r4, r5, r6, r7⟩

theorem tok_cases {l : List Nat} (h : isTok l = true) : l = [46] ∨ l = [46, 46, 46] ∨ l = [47] ∨ l = [47, 47] := by
  unfold isTok at h
  simp only [Bool.or_eq_true, beq_iff_eq] at h
  rcases h with ((h | h) | h) | h <;> simp [h]

theorem Mt.get {prog : Program} {w : World} {L M S : Nat} {h : Heap} (X : Mt prog w L M S h) {l : List Nat} (hl : isTok l = true) :
    ∃ f, h.MapOf (intKind prog w) M f ∧ ∃ (a : Nat) (ws : List Value), f (tokN l) = some (.ref a) ∧ (∃ n, IsL h a ws.toArray n) ∧ IntsAre ws (tokM l) ∧ a < S := by
  obtain ⟨a1, a2, a3, a4, hd, ⟨t1, n1, h1⟩, ⟨t2, u2, v2, n2, h2⟩, ⟨t3, n3, h3⟩, ⟨t4, u4, n4, h4⟩, r1, r2, r3, r4, r5, r6, r7⟩ := X
  refine ⟨_, hd.mapOf, ?_⟩
  rcases tok_cases hl with rfl | rfl | rfl | rfl
  · exact ⟨a1, [_], rfl, ⟨n1, h1⟩, .cons _ _ .nil, r3.2⟩
  · exact ⟨a2, [_, _, _], rfl, ⟨n2, h2⟩, .cons _ _ (.cons _ _ (.cons _ _ .nil)), r4.2⟩
  · exact ⟨a3, [_], rfl, ⟨n3, h3⟩, .cons _ _ .nil, r5.2⟩
  · exact ⟨a4, [_, _], rfl, ⟨n4, h4⟩, .cons _ _ (.cons _ _ .nil), r7⟩

structure SG (prog : Program) (w : World) (h₀ : Heap) (L M S : Nat) (x : Str) (t : Tok) (k : Nat) (vs : List Value) (h : Heap) : Prop where
  keep : ∀ b o, h₀.get? b = some o → h.get? b = some o
  ns : ∃ m, h.Ns L m ∧ m "meant" = some (.ref M) ∧ m "signs" = some (.ref S)
  row : h.IsCell (L + 1) (some (.str x t))
  kk : ∃ u, h.IsCell (L + 2) (some (.int k u))
  mt : Mt prog w L M S h
  sg : ∃ n, IsL h S vs.toArray n
  old : h₀.objs.size ≤ L

section
variable {prog : Program} {w : World} {A : Around} {E : Value → Shared → Prop} {s : Shared} {mg mb : Str → Option Value}

theorem max_sizes {Q : Value → Shared → Prop} {l : Addr} {vs : List Value} {b2 b3 : Bool} (hA : A.handled = none) (hl : s.heap.IsList l vs.toArray) (hv : IntsAre vs ([1] ++ ((if b2 then [2] else []) ++ (if b3 then [3] else []))))
    (h : ∀ h' tk u, (∀ b o, s.heap.get? b = some o → h'.get? b = some o) → Q (.int (if b3 then 3 else if b2 then 2 else 1) u) { s with heap := h', toks := tk }) :
    wpAny (model prog w) A (call (.builtin "max") [.ref l]) Q E s := by
  cases b2 <;> cases b3
  · cases hv with | cons _ t1 hv => cases hv with | nil =>
    exact max_intList (xs := #[(1, t1)]) hA (by simpa [intItems] using hl) (by simp) fun v h' tk hv k => by
      have : v = .int 1 t1 := by simpa [intItems, argBest, numAt, eq_comm] using hv
      rw [this]; exact h h' tk t1 k
  · cases hv with | cons _ t1 hv => cases hv with | cons _ t2 hv => cases hv with | nil =>
    exact max_intList (xs := #[(1, t1), (3, t2)]) hA (by simpa [intItems] using hl) (by simp) fun v h' tk hv k => by
      have : v = .int 3 t2 := by simpa [intItems, argBest, numAt, eq_comm] using hv
      rw [this]; exact h h' tk t2 k
  · cases hv with | cons _ t1 hv => cases hv with | cons _ t2 hv => cases hv with | nil =>
    exact max_intList (xs := #[(1, t1), (2, t2)]) hA (by simpa [intItems] using hl) (by simp) fun v h' tk hv k => by
      have : v = .int 2 t2 := by simpa [intItems, argBest, numAt, eq_comm] using hv
      rw [this]; exact h h' tk t2 k
  · cases hv with | cons _ t1 hv => cases hv with | cons _ t2 hv => cases hv with | cons _ t3 hv => cases hv with | nil =>
    exact max_intList (xs := #[(1, t1), (2, t2), (3, t3)]) hA (by simpa [intItems] using hl) (by simp) fun v h' tk hv k => by
      have : v = .int 3 t3 := by simpa [intItems, argBest, numAt, eq_comm] using hv
      rw [this]; exact h h' tk t3 k
end
end Mine
end

-- Signs4
section
set_option maxRecDepth 100000
set_option maxHeartbeats 4000000
namespace Mine
open PySem PySem.Calls PySem.W PyProof.Rows PySem.Builtin

section
variable {prog : Program} {w : World} {A : Around} {E : Value → Shared → Prop} {s : Shared} {mg mb : Str → Option Value}

theorem sg_turn {h : Heap} {tk : Nat} {L M S : Nat} {x : Str} {t : Tok} {k : Nat} {vs : List Value} {acc : List Int} (G : Gr w mg mb s.heap) (hA : A.handled = none)
    (X : SG prog w s.heap L M S x t k vs h) (hi : IntsAre vs acc) (hacc : acc.length ≤ 3 * k) (hd : DS x.cps.toList) (hsz : x.cps.size ≤ 1000) (hk : k < x.cps.size) :
    wpAny (model prog w) A (execs (bodyW sgWhile) (sgEnv L)) (fun f s' => f = .next ∧ ∃ h' tk' vs', s' = { s with heap := h', toks := tk' } ∧
      SG prog w s.heap L M S x t (k + sizeP x.cps.toList k) vs' h' ∧ IntsAre vs' (acc ++ tokM ((x.cps.toList.drop k).take (sizeP x.cps.toList k)))) (fun _ _ => False) { s with heap := h, toks := tk } := by
  have hsl : sizeLine = 16777216 := rfl
  have hkl : k < x.cps.toList.length := by simpa using hk
  obtain ⟨m, hm, hme, hsg⟩ := X.ns
  obtain ⟨u, hku⟩ := X.kk
  have G₀ := G.keeps X.keep
  have hmax := G₀.built (n := "max") rfl boot_max (by decide +kernel)
  have hLb : ∀ b o, s.heap.get? b = some o → @LT.lt Nat _ b L := fun b o e => by
    have hb := ltN (Heap.lt_size e)
    have := X.old
    omega
  refine wpAny_execs_cons (wpAny_mono (Q := fun f s' => f = .next ∧ ∃ h' tk' m' uu, s' = { s with heap := h', toks := tk' } ∧ (∀ b o, b ≠ L → h.get? b = some o → h'.get? b = some o) ∧ h'.Ns L m' ∧ m' "meant" = some (.ref M) ∧ m' "signs" = some (.ref S) ∧ m' "size" = some (.int (sizeP x.cps.toList k) uu)) (E := fun _ _ => False) ?_ ?_ (fun _ _ e => e))
  · refine wpAny_Assign_Name ?_
    refine wpAny_Call_NameR (Calls.Name_function_global rfl rfl (Calls.loadGlobal_builtin G₀.g hmax.1 G₀.b hmax.2 ?_))
    refine cwb (spl_cons (wpAny_BinOp (wpAny_List (spl_cons (wpAny_Constant_int (spl_nil ⟨by show 1 ≤ sizeLine; omega, ?_⟩))))))
    generalize hH : h.push { cls := .type "list", data := .seq [Value.int 1 tk].toArray } = H1
    have k1 : ∀ b o, h.get? b = some o → H1.get? b = some o := fun b o e => hH ▸ Heap.get?_push_of_some _ e
    have hl1 : H1.IsList h.objs.size [Value.int 1 tk].toArray := ⟨_, hH ▸ Heap.get?_push_size _ rfl, rfl, _, rfl⟩
    refine sizes_comp (s := { s with heap := H1, toks := tk + 1 }) (G₀.keeps k1) hA (X.row.keeps k1) (hku.keeps k1) hd hsz fun h₂ tk₂ D ws k₂ hD hws => ?_
    have hl2 : h₂.IsList h.objs.size [Value.int 1 tk].toArray := by obtain ⟨o, ho, r⟩ := hl1; exact ⟨o, k₂ _ o ho, r⟩
    have hwl := hws.length
    refine add_listK (s := { s with heap := h₂, toks := tk₂ }) hl2 hD.isList ?_ fun h₃ D₃ _ k₃ hD₃ => spl_nil ?_
    · rw [hwl, List.length_append]
      show 1 + _ ≤ 100000
      have a1 : (if isTok ((x.cps.toList.drop k).take 2) = true then [(2 : Int)] else []).length ≤ 1 := by split <;> simp
      have a2 : (if isTok ((x.cps.toList.drop k).take 3) = true then [(3 : Int)] else []).length ≤ 1 := by split <;> simp
      omega
    refine max_sizes (s := { s with heap := h₃, toks := tk₂ }) hA hD₃.isList (.cons 1 tk hws) fun h₄ tk₄ uu k₄ => ?_
    have k04 : ∀ b o, h.get? b = some o → h₄.get? b = some o := fun b o e => k₄ b o (k₃ b o (k₂ b o (k1 b o e)))
    have hm₄ := hm.at fun o e => k04 L o e
    have esz : (if isTok ((x.cps.toList.drop k).take 3) = true then (3 : Int) else if isTok ((x.cps.toList.drop k).take 2) = true then 2 else 1) = (sizeP x.cps.toList k : Int) := by
      unfold sizeP; split
      · rfl
      · split <;> rfl
    rw [esz]
    refine wpAny_storeName_local rfl hm₄ (fun h₅ hm₅ hs₅ => ?_) rfl
    exact ⟨rfl, h₅, _, _, uu, rfl, fun b o hb e => (hs₅.2 b hb).trans (k04 b o e), hm₅, (if_neg (by decide +kernel)).trans hme, (if_neg (by decide +kernel)).trans hsg, if_pos rfl⟩
  · rintro f s₁ ⟨rfl, h₁, tk₁, m₁, uu, rfl, k₁, hm₁, hme₁, hsg₁, hsi₁⟩
    have hL1 : @Ne Nat (L + 1) L := by omega
    have hL2 : @Ne Nat (L + 2) L := by omega
    have kp₁ : ∀ b o, s.heap.get? b = some o → h₁.get? b = some o := fun b o e => k₁ b o (by have := hLb b o e; exact neN (by omega)) (X.keep b o e)
    have G₁ := G.keeps kp₁
    have row₁ : h₁.IsCell (L + 1) (some (.str x t)) := by obtain ⟨o, ho, r⟩ := X.row; exact ⟨o, k₁ _ o hL1 ho, r⟩
    have kk₁ : h₁.IsCell (L + 2) (some (.int k u)) := by obtain ⟨o, ho, r⟩ := hku; exact ⟨o, k₁ _ o hL2 ho, r⟩
    have mt₁ : Mt prog w L M S h₁ := X.mt.to fun b o hb _ _ e => k₁ b o hb e
    have hSL : L + 2 < S := by
      obtain ⟨a1, a2, a3, a4, _, _, _, _, _, r1, r2, _⟩ := mt₁
      omega
    obtain ⟨n, hS⟩ := X.sg
    have hS₁ : IsL h₁ S vs.toArray n := k₁ S _ (show @Ne Nat S L by omega) hS
    have htok := size_tok hd hkl
    have hle := size_le x.cps.toList k
    have hds : DS ((x.cps.toList.drop k).take (sizeP x.cps.toList k)) := fun c hc => hd c (List.mem_of_mem_drop (List.mem_of_mem_take hc))
    have hlen3 : ((x.cps.toList.drop k).take (sizeP x.cps.toList k)).length ≤ 3 := by rw [List.length_take]; omega
    refine wpAny_execs_cons (wpAny_AugAssign_Name (wpAny_loadName_local rfl rfl hm₁ hsg₁ ?_))
    refine wpAny_Call_method (T := "dict") (id := "dict.get") rfl rfl rfl F.plainAttrs_dict F.slot_dict_get F.type_dict_get ?_
    refine wpAny_Name (wpAny_loadName_local rfl rfl hm₁ hme₁ ⟨?_, ?_, ?_⟩)
    · obtain ⟨f, hf, _⟩ := mt₁.get htok
      exact hf.typeIs
    · obtain ⟨f, hf, _⟩ := mt₁.get htok
      exact hf.noDict
    refine wpAny_dict_get2 (knd := intKind prog w) ?_ ?_
    · obtain ⟨a1, a2, a3, a4, _, _, _, _, _, r1, r2, _⟩ := mt₁
      have h63 : @LT.lt Nat _ 63 L := by
        obtain ⟨f, ⟨o, _, _, ho, _⟩, _⟩ := G.exact (prog := prog)
        exact hLb 63 o ho
      have hs : @Eq Nat sysModules 1 := by rfl
      have hne : @Ne Nat M sysModules := by omega
      exact beq_false_of_ne hne
    refine wpAny_Call_method (T := "dict") (id := "dict.get") rfl rfl rfl F.plainAttrs_dict F.slot_dict_get F.type_dict_get ?_
    refine Calls.Name_function_global rfl rfl (Calls.loadGlobal_global G₁.g (G₁.glob (v := .ref 63) rfl) ⟨?_, ?_, ?_⟩)
    · obtain ⟨f, hf, _⟩ := G₁.exact (prog := prog)
      exact hf.typeIs
    · obtain ⟨f, hf, _⟩ := G₁.exact (prog := prog)
      exact hf.noDict
    refine wpAny_dict_get1 (knd := strKind prog w) (by decide +kernel) ?_
    refine sub_slice (wpAny_Name (wpAny_loadName_cell rfl rfl rfl row₁ (ep_some (wpAny_Name (wpAny_loadName_cell rfl rfl rfl kk₁ ?_)))))
    refine ep_some (wpAny_BinOp (wpAny_Name (wpAny_loadName_cell rfl rfl rfl kk₁ (wpAny_Name (wpAny_loadName_local rfl rfl hm₁ hsi₁ (add_int ?_))))))
    refine ⟨x, t, some (k, u), some (k + sizeP x.cps.toList k, tk₁), rfl, rfl, rfl, ?_, fun h₂ t' k' kp => ?_⟩
    · show x.cps.size ≤ sizeLine
      omega
    have hcut : cut x (some (k, u)) (some (k + sizeP x.cps.toList k, tk₁)) = ⟨((x.cps.toList.drop k).take (sizeP x.cps.toList k)).toArray⟩ := by
      unfold cut
      show (⟨(List.take (k + sizeP x.cps.toList k - k) (List.drop k x.cps.toList)).toArray⟩ : Str) = _
      rw [Nat.add_sub_cancel_left]
    rw [hcut]
    obtain ⟨f, hf, hf'⟩ := (G₁.keeps kp).exact (prog := prog)
    obtain ⟨tt, hft⟩ := (hf' _ hds hlen3).2 htok
    refine ⟨_, f, strKind_is prog w _ t', hf, ?_⟩
    rw [hft]
    refine wpAny_List (spl_cons (wpAny_Constant_int (spl_nil ⟨by show 1 ≤ sizeLine; omega, ?_⟩)))
    generalize hH : h₂.push { cls := .type "list", data := .seq [Value.int 0 (k' + 1)].toArray } = H3
    have k3 : ∀ b o, h₂.get? b = some o → H3.get? b = some o := fun b o e => hH ▸ Heap.get?_push_of_some _ e
    have k13 : ∀ b o, h₁.get? b = some o → H3.get? b = some o := fun b o e => k3 b o (kp b o e)
    have mt₃ : Mt prog w L M S H3 := mt₁.to fun b o _ _ _ e => k13 b o e
    obtain ⟨f₃, hf₃, a, ws, hfa, hIs, hws, haS⟩ := mt₃.get htok
    refine ⟨tokN ((x.cps.toList.drop k).take (sizeP x.cps.toList k)), f₃, intKind_is prog w _ tt, hf₃, ?_⟩
    rw [hfa]
    have hS₃ : IsL H3 S vs.toArray n := k13 S _ hS₁
    have htl : (tokM ((x.cps.toList.drop k).take (sizeP x.cps.toList k))).length ≤ 3 := by
      rcases tok_cases htok with e | e | e | e <;> rw [e] <;> decide
    refine iadd_listK hS₃ hIs (by rw [hi.length, hws.length]; omega) fun h₄ hs₄ hS₄ => ?_
    have hLS : @Ne Nat L S := by omega
    have hm₄ : h₄.Ns L m₁ := hm₁.at fun o e => (hs₄.2 L hLS).trans (k13 L o e)
    refine wpAny_storeName_local rfl hm₄ (fun h₅ hm₅ hs₅ => ?_) rfl
    have row₅ : h₅.IsCell (L + 1) (some (.str x t)) := by
      obtain ⟨o, ho, r⟩ := row₁
      exact ⟨o, (hs₅.2 (L + 1) hL1).trans ((hs₄.2 (L + 1) (show @Ne Nat (L + 1) S by omega)).trans (k13 _ o ho)), r⟩
    have kk₅ : h₅.IsCell (L + 2) (some (.int k u)) := by
      obtain ⟨o, ho, r⟩ := kk₁
      exact ⟨o, (hs₅.2 (L + 2) hL2).trans ((hs₄.2 (L + 2) (show @Ne Nat (L + 2) S by omega)).trans (k13 _ o ho)), r⟩
    obtain ⟨n₄, hS₄⟩ := hS₄
    refine wpAny_execs_cons (wpAny_AugAssign_Name (wpAny_loadName_cell rfl rfl rfl kk₅ (wpAny_Name (wpAny_loadName_local rfl rfl hm₅ ((if_neg (by decide +kernel)).trans hsi₁) (iadd_int ?_)))))
    refine wpAny_storeName_cell rfl rfl rfl kk₅ fun h₆ hc₆ hs₆ => wpAny_execs_nil ?_
    have k16 : ∀ (b : Nat) o, b ≠ L → b ≠ L + 2 → b ≠ S → h₁.get? b = some o → h₆.get? b = some o := fun b o n1 n2 n3 e =>
      (hs₆.2 b n2).trans ((hs₅.2 b n1).trans ((hs₄.2 b n3).trans (k13 b o e)))
    refine ⟨rfl, h₆, _, vs ++ ws, rfl, ⟨fun b o e => ?_, ⟨_, hm₅.sameBut hs₆ (show @Ne Nat L (L + 2) by omega), (if_neg (by decide +kernel)).trans hme₁, if_pos rfl⟩, row₅.sameBut hs₆ (show @Ne Nat (L + 1) (L + 2) by omega), ⟨_, hc₆⟩, mt₁.to k16, ⟨n₄, ?_⟩, X.old⟩, hi.append hws⟩
    · have := hLb b o e
      exact k16 b o (by omega) (by omega) (by omega) (kp₁ b o e)
    · exact (hs₆.2 S (show @Ne Nat S (L + 2) by omega)).trans ((hs₅.2 S (show @Ne Nat S L by omega)).trans hS₄)
end
end Mine
end

-- Signs5
section
set_option maxRecDepth 100000
set_option maxHeartbeats 4000000
namespace Mine
open PySem PySem.Calls PySem.W PyProof.Rows PySem.Builtin

noncomputable def sgGo : Nat → List Nat → Nat → List Int
  | 0, _, _ => []
  | f + 1, l, k => if k < l.length then tokM ((l.drop k).take (sizeP l k)) ++ sgGo f l (k + sizeP l k) else []
noncomputable def signsP (l : List Nat) : List Int := sgGo l.length l 0

theorem call_cells_ret {prog : Program} {w : World} {A : Around} {R : Result → Shared → Prop} {s : Shared} {a : Addr} {o : Obj} {fd : FuncData} {body : List Stmt} {vals : List Value} {binds : List (Str × Value)}
    (hroom : A.depth < recursionLimit) (ho : s.heap.get? a = some o) (hdata : o.data = .func fd) (hlim : s.heap.NoLimit) (hcd : s.heap.CodeRec fd.code fd.qualname)
    (hbody : fd.body = .stmts body) (hbind : bindArgs fd ⟨vals, []⟩ = pure binds) (hclo : fd.closure = [])
    (hkind : ∀ x ∈ binds, fd.scope.names.lookup x.1 = some .local ∨ (fd.scope.names.lookup x.1 = some .cell ∧ ((cellsFrom (s.heap.objs.size + 1) fd.scope.names []).lookup x.1).isSome = true))
    (h : ∀ s₁, InCallC s (callEnvC fd s.heap.objs.size a).locals (bindL (callEnvC fd s.heap.objs.size a).kindOf binds fun _ => none) (callEnvC fd s.heap.objs.size a).cells
        (bindC (callEnvC fd s.heap.objs.size a).kindOf binds fun _ => none) s₁ →
      wpAny (model prog w) (A.deeper (callEnvC fd s.heap.objs.size a)) (execs body (callEnvC fd s.heap.objs.size a)) (fun f s' => R (.ok (.ret (match f with | .ret v => v | _ => .none))) s') (fun _ _ => False) s₁)
    (hco : fd.scope.isCoroutine = false) (hgen : fd.scope.isGenerator = false) (hk : fd.scope.kind = .function) :
    codeAny (model prog w) A (.call (.ref a) ⟨vals, []⟩) R s :=
  codeAny_call_cells hroom ho hdata hlim hcd hbody hbind hclo hkind (fun s₁ x => wpAny_mono (h s₁ x) (fun _ _ y => y) (fun _ _ y => y.elim)) hco hgen hk

section
variable {prog : Program} {w : World} {A : Around} {E : Value → Shared → Prop} {s : Shared} {mg mb : Str → Option Value}

noncomputable def valOf : Stmt → Expr
  | .Assign _ v _ => v
  | _ => .Name "" default
noncomputable def sgDict : Expr := valOf ((bodyOf (topSt 65)).getD 0 (.Pass default))

theorem meant_dict {Q : Value → Shared → Prop} {L : Nat} {e : Expr} {en : Env} (he : e = sgDict) (hen : en = sgEnv L)
    (h : ∀ h' tk (a1 a2 a3 a4 : Nat), (∀ b o, s.heap.get? b = some o → h'.get? b = some o) → h'.DictOf (intKind prog w) s.heap.objs.size [(23, .ref a1), (52, .ref a2), (17, .ref a3), (47, .ref a4)] →
      (∃ t n, IsL h' a1 #[.int 1 t] n) → (∃ t u v n, IsL h' a2 #[.int 1 t, .int 1 u, .int 1 v] n) → (∃ t n, IsL h' a3 #[.int (-1) t] n) → (∃ t u n, IsL h' a4 #[.int (-1) t, .int (-1) u] n) →
      s.heap.objs.size < a1 → s.heap.objs.size < a2 → s.heap.objs.size < a3 → s.heap.objs.size < a4 → Q (.ref s.heap.objs.size) { s with heap := h', toks := tk }) :
    wpAny (model prog w) A (eval e en) Q E s := by
  have hsl : sizeLine = 16777216 := rfl
  subst he hen
  refine wpAny_Dict_walk (knd := intKind prog w) ?_ ?_ ?_ ?_ ?_
  · rfl
  · rfl
  · simp
  · decide
  refine pairTrees_cons_walk (wpAny_Constant_int (wpAny_List (spl_cons (wpAny_Constant_int (spl_nil ⟨by show 1 ≤ sizeLine; omega, ?_⟩)))))
  refine pairTrees_cons_walk (wpAny_Constant_int (wpAny_List ?_))
  refine spl_cons (wpAny_Constant_int (spl_cons (wpAny_Constant_int (spl_cons (wpAny_Constant_int (spl_nil ⟨by show 3 ≤ sizeLine; omega, ?_⟩))))))
  refine pairTrees_cons_walk (wpAny_Constant_int (wpAny_List ?_))
  refine spl_cons (wpAny_UnaryOp (wpAny_Constant_int (neg_int (spl_nil ⟨by show 1 ≤ sizeLine; omega, ?_⟩))))
  refine pairTrees_cons_walk (wpAny_Constant_int (wpAny_List ?_))
  refine spl_cons (wpAny_UnaryOp (wpAny_Constant_int (neg_int (spl_cons (wpAny_UnaryOp (wpAny_Constant_int (neg_int (spl_nil ⟨by show 2 ≤ sizeLine; omega, ?_⟩))))))))
  refine pairTrees_nil_walk ?_
  dsimp only
  generalize hH0 : s.heap.push { cls := .type "dict", data := .dict #[] } = H0
  generalize hH1 : H0.push _ = H1
  generalize hH2 : H1.push _ = H2
  generalize hH3 : H2.push _ = H3
  generalize hH4 : H3.push _ = H4
  have z0 : H0.objs.size = s.heap.objs.size + 1 := by rw [← hH0, Heap.size_push]
  have z1 : H1.objs.size = s.heap.objs.size + 2 := by rw [← hH1, Heap.size_push, z0]
  have z2 : H2.objs.size = s.heap.objs.size + 3 := by rw [← hH2, Heap.size_push, z1]
  have z3 : H3.objs.size = s.heap.objs.size + 4 := by rw [← hH3, Heap.size_push, z2]
  have p01 : ∀ b o, H0.get? b = some o → H1.get? b = some o := fun b o e => hH1 ▸ Heap.get?_push_of_some _ e
  have p12 : ∀ b o, H1.get? b = some o → H2.get? b = some o := fun b o e => hH2 ▸ Heap.get?_push_of_some _ e
  have p23 : ∀ b o, H2.get? b = some o → H3.get? b = some o := fun b o e => hH3 ▸ Heap.get?_push_of_some _ e
  have p34 : ∀ b o, H3.get? b = some o → H4.get? b = some o := fun b o e => hH4 ▸ Heap.get?_push_of_some _ e
  have l1 : H1.get? H0.objs.size = some _ := hH1 ▸ Heap.get?_push_size _ rfl
  have l2 : H2.get? H1.objs.size = some _ := hH2 ▸ Heap.get?_push_size _ rfl
  have l3 : H3.get? H2.objs.size = some _ := hH3 ▸ Heap.get?_push_size _ rfl
  have l4 : H4.get? H3.objs.size = some _ := hH4 ▸ Heap.get?_push_size _ rfl
  refine ⟨[(23, .ref H0.objs.size), (52, .ref H1.objs.size), (17, .ref H2.objs.size), (47, .ref H3.objs.size)], ⟨intKind_is prog w _ _, rfl, intKind_is prog w _ _, rfl, intKind_is prog w _ _, rfl, intKind_is prog w _ _, rfl, trivial⟩, ?_, fun h' hd hs => ?_⟩
  · have hD0 : H0.DictOf (intKind prog w) s.heap.objs.size [] := hH0 ▸ Heap.DictOf.new s.heap
    exact hD0.at fun o e => p34 _ o (p23 _ o (p12 _ o (p01 _ o e)))
  · refine h h' _ H0.objs.size H1.objs.size H2.objs.size H3.objs.size (fun b o e => ?_) hd ?_ ?_ ?_ ?_ (by omega) (by omega) (by omega) (by omega)
    · have hb := ltN (Heap.lt_size e)
      exact (hs.2 b (neN (by omega))).trans (p34 _ o (p23 _ o (p12 _ o (p01 _ o (hH0 ▸ Heap.get?_push_of_some _ e)))))
    · exact ⟨_, _, (hs.2 H0.objs.size (show @Ne Nat H0.objs.size s.heap.objs.size by omega)).trans (p34 _ _ (p23 _ _ (p12 _ _ l1)))⟩
    · exact ⟨_, _, _, _, (hs.2 H1.objs.size (show @Ne Nat H1.objs.size s.heap.objs.size by omega)).trans (p34 _ _ (p23 _ _ l2))⟩
    · exact ⟨_, _, (hs.2 H2.objs.size (show @Ne Nat H2.objs.size s.heap.objs.size by omega)).trans (p34 _ _ l3)⟩
    · exact ⟨_, _, _, (hs.2 H3.objs.size (show @Ne Nat H3.objs.size s.heap.objs.size by omega)).trans l4⟩

end
end Mine
end

-- Signs6
section
set_option maxRecDepth 100000
set_option maxHeartbeats 4000000
namespace Mine
open PySem PySem.Calls PySem.W PyProof.Rows PySem.Builtin

section
variable {prog : Program} {w : World} {A : Around} {E : Value → Shared → Prop} {s : Shared} {mg mb : Str → Option Value}

theorem signs_call {Q : Value → Shared → Prop} {x : Str} {t : Tok} (G : Gr w mg mb s.heap) (hroom : A.depth < recursionLimit) (hA : A.handled = none)
    (hd : DS x.cps.toList) (hsz : x.cps.size ≤ 1000)
    (h' : ∀ h' tk (S : Nat) vs, (∀ b o, s.heap.get? b = some o → h'.get? b = some o) → s.heap.objs.size ≤ S → (∃ n, IsL h' S vs.toArray n) → IntsAre vs (signsP x.cps.toList) → Q (.ref S) { s with heap := h', toks := tk }) :
    wpAny (model prog w) A (call (.ref 91) [.str x t]) Q E s := by
  have hsl : sizeLine = 16777216 := rfl
  obtain ⟨⟨o, pm, doc, ho, hdt⟩, hc⟩ := G.f91
  refine wpAny_call (call_cells_ret (binds := [("row", .str x t)]) hroom ho hdt G.lim hc rfl rfl rfl ?_ ?_ rfl rfl rfl)
  · intro y hy
    rw [List.mem_singleton.mp hy]
    exact .inr ⟨rfl, rfl⟩
  intro s₁ F₁
  generalize hLe : s.heap.objs.size = L at *
  have henv : callEnvC (docDef "_law_signs" (paramsOf (topSt 65)) (bodyOf (topSt 65)) (scopeOf (topSt 65)) pm (.ref 90) doc) L 91 = sgEnv L := rfl
  rw [henv] at F₁ ⊢
  obtain ⟨h₁, tk₁, rfl, k₁⟩ := F₁.done
  have hm₁ : h₁.Ns L _ := F₁.toInCall.ns
  have row₁ : h₁.IsCell (L + 1) (some (.str x t)) := F₁.cell "row" (L + 1) rfl
  have kk₁ : h₁.IsCell (L + 2) none := F₁.cell "k" (L + 2) rfl
  have hL2 : @LT.lt Nat _ (L + 2) h₁.objs.size := kk₁.lt
  -- meant = {...}
  refine wpAny_execs_cons ?_
  refine wpAny_Assign_Name ?_ ?_
  rotate_left
  · rfl
  refine meant_dict (s := { s with heap := h₁, toks := tk₁ }) (L := L) ?_ ?_ ?_
  · rfl
  · rfl
  intro h₂ tk₂ a1 a2 a3 a4 k₂ hD q1 q2 q3 q4 r1 r2 r3 r4
  replace r1 : @LT.lt Nat _ h₁.objs.size a1 := r1
  replace r2 : @LT.lt Nat _ h₁.objs.size a2 := r2
  replace r3 : @LT.lt Nat _ h₁.objs.size a3 := r3
  replace r4 : @LT.lt Nat _ h₁.objs.size a4 := r4
  refine wpAny_storeName_local (s := { s with heap := h₂, toks := tk₂ }) rfl (hm₁.at fun o e => k₂ L o e) (fun h₃ hm₃ hs₃ => ?_) rfl
  dsimp only at hm₃ hs₃
  have lt₃ : ∀ (b : Nat) o, h₂.get? b = some o → @LT.lt Nat _ b h₃.objs.size := fun b o e => by
    by_cases hb : b = L
    · rw [hb]; exact hm₃.lt
    · exact ltN (Heap.lt_size ((hs₃.2 b hb).trans e))
  refine wpAny_execs_cons ?_
  refine wpAny_Assign_Name ?_ ?_
  rotate_left
  · rfl
  refine wpAny_List (spl_nil ?_)
  refine ⟨Nat.zero_le _, ?_⟩
  generalize hH4 : h₃.push { cls := .type "list", data := .seq ([] : List Value).toArray } = H4
  have k₄ : ∀ b o, h₃.get? b = some o → H4.get? b = some o := fun b o e => hH4 ▸ Heap.get?_push_of_some _ e
  have hS₄ : IsL H4 h₃.objs.size ([] : List Value).toArray 0 := hH4 ▸ Heap.get?_push_size _ rfl
  refine wpAny_storeName_local rfl (hm₃.at fun o e => k₄ L o e) (fun h₅ hm₅ hs₅ => ?_) rfl
  dsimp only at hm₅ hs₅ ⊢
  have hLS : @LT.lt Nat _ L h₃.objs.size := hm₃.lt
  have k25 : ∀ (b : Nat) o, b ≠ L → h₂.get? b = some o → h₅.get? b = some o := fun b o hb e => (hs₅.2 b hb).trans (k₄ b o ((hs₃.2 b hb).trans e))
  have hkk : h₂.IsCell (L + 2) none := kk₁.keeps k₂
  have hrow : h₂.IsCell (L + 1) (some (.str x t)) := row₁.keeps k₂
  have kk₅ : h₅.IsCell (L + 2) none := by obtain ⟨o, ho, r⟩ := hkk; exact ⟨o, k25 _ o (by omega) ho, r⟩
  refine wpAny_execs_cons ?_
  refine wpAny_Assign_Name ?_ ?_
  rotate_left
  · rfl
  refine wpAny_Constant_int (wpAny_storeName_cell rfl rfl rfl kk₅ fun h₆ hc₆ hs₆ => ?_)
  dsimp only at hs₆ ⊢
  have k26 : ∀ (b : Nat) o, b ≠ L → b ≠ L + 2 → h₂.get? b = some o → h₆.get? b = some o := fun b o hb hb2 e => (hs₆.2 b hb2).trans (k25 b o hb e)
  have X₀ : SG prog w s.heap L h₁.objs.size h₃.objs.size x t 0 [] h₆ := by
    obtain ⟨t1, n1, q1⟩ := q1
    obtain ⟨t2, u2, v2, n2, q2⟩ := q2
    obtain ⟨t3, n3, q3⟩ := q3
    obtain ⟨t4, u4, n4, q4⟩ := q4
    have b1 := lt₃ a1 _ q1
    have b2 := lt₃ a2 _ q2
    have b3 := lt₃ a3 _ q3
    have b4 := lt₃ a4 _ q4
    refine ⟨fun b o e => ?_, ⟨_, hm₅.sameBut hs₆ (show @Ne Nat L (L + 2) by omega), (if_neg (by decide +kernel)).trans (if_pos rfl), if_pos rfl⟩, ?_, ⟨_, hc₆⟩, ?_, ⟨0, ?_⟩, by omega⟩
    · have hb := ltN (Heap.lt_size e)
      exact k26 b o (by omega) (by omega) (k₂ b o (k₁ b o e))
    · obtain ⟨o, ho, r⟩ := hrow
      exact ⟨o, k26 _ o (by omega) (by omega) ho, r⟩
    · refine ⟨a1, a2, a3, a4, hD.at fun o e => k26 _ o ?_ ?_ e, ⟨t1, n1, k26 _ _ (by omega) (by omega) q1⟩, ⟨t2, u2, v2, n2, k26 _ _ (by omega) (by omega) q2⟩, ⟨t3, n3, k26 _ _ (by omega) (by omega) q3⟩, ⟨t4, u4, n4, k26 _ _ (by omega) (by omega) q4⟩, by omega, ?_, by omega, by omega, by omega, by omega, by omega⟩
      · show @Ne Nat h₁.objs.size L; omega
      · show @Ne Nat h₁.objs.size (L + 2); omega
      · omega
    · exact (hs₆.2 _ (show @Ne Nat h₃.objs.size (L + 2) by have := lt₃ (L + 2) _ hkk.choose_spec.1; omega)).trans ((hs₅.2 _ (show @Ne Nat h₃.objs.size L by omega)).trans hS₄)
  have G₆ := G.keeps X₀.keep
  clear hs₆ hc₆ kk₅ hm₅ hs₅ hS₄ k₄ hm₃ hs₃ lt₃ hH4 k25 k26 hkk hrow hD q1 q2 q3 q4 hm₁ row₁ kk₁ F₁
  revert X₀
  generalize h₁.objs.size = M
  generalize h₃.objs.size = S
  intro X₀
  refine wpAny_execs_cons (wpAny_While ?_)
  refine codeAny_whileLoop (fun n s' => ∃ h tk k vs acc, s' = { s with heap := h, toks := tk } ∧ SG prog w s.heap L M S x t k vs h ∧ IntsAre vs acc ∧ acc.length ≤ 3 * k ∧ x.cps.toList.length ≤ k + n ∧ acc ++ sgGo n x.cps.toList k = signsP x.cps.toList) ?_ x.cps.toList.length ⟨h₆, _, 0, [], [], rfl, X₀, .nil, by simp, by omega, rfl⟩
  rintro n s' ⟨h, tk, k, vs, acc, rfl, X, hi, hacc, hn, he⟩
  obtain ⟨u, hku⟩ := X.kk
  have Gh := G.keeps X.keep
  have hlen := Gh.built (n := "len") rfl boot_len (by decide +kernel)
  have hxl : x.cps.toList.length = x.cps.size := by simp
  refine wpAny_isTrue_Compare1 (wpAny_Name (wpAny_loadName_cell rfl rfl rfl hku ?_))
  refine wpAny_Call_NameR (Calls.Name_function_global rfl rfl (Calls.loadGlobal_builtin Gh.g hlen.1 Gh.b hlen.2 ?_))
  refine cwb (spl_cons (wpAny_Name (wpAny_loadName_cell rfl rfl rfl X.row (spl_nil ?_))))
  refine P.len_str (by show ¬ (x.cps.size : Int) ≥ 2 ^ 63; omega) (lt_int (wpAny_truthy_bool ?_))
  have hlx : (x.length : Int) = (x.cps.size : Int) := rfl
  rw [hlx]
  by_cases hk : k < x.cps.size
  · rw [if_pos (by simp; omega)]
    refine wpAny_mono (sg_turn (s := s) G hA X hi hacc hd hsz hk) ?_ (fun _ _ e => e.elim)
    rintro f s₂ ⟨rfl, h₇, tk₇, vs', rfl, X', hi'⟩
    have hle := size_le x.cps.toList k
    have htl : (tokM ((x.cps.toList.drop k).take (sizeP x.cps.toList k))).length ≤ 3 * sizeP x.cps.toList k := by
      rcases tok_cases (size_tok hd (by omega : k < x.cps.toList.length)) with e | e | e | e <;> rw [e] <;> simp [tokM] <;> omega
    obtain ⟨n', rfl⟩ : ∃ n', n = n' + 1 := ⟨n - 1, by omega⟩
    refine ⟨n', Nat.lt_succ_self _, h₇, tk₇, _, vs', _, rfl, X', hi', by rw [List.length_append]; omega, by omega, ?_⟩
    rw [List.append_assoc, ← he]
    congr 1
    show _ = if k < x.cps.toList.length then _ else _
    rw [if_pos (by omega)]
  · rw [if_neg (by simp; omega)]
    refine wpAny_execs_nil ?_
    obtain ⟨m, hm, _, hsg⟩ := X.ns
    have hend : acc = signsP x.cps.toList := by
      rw [← he]
      cases n with
      | zero => simp [sgGo]
      | succ n => simp only [sgGo]; rw [if_neg (by omega)]; simp
    refine wpAny_execs_cons (wpAny_Return_some (wpAny_Name (wpAny_loadName_local rfl rfl hm hsg ?_)))
    refine h' h _ S vs X.keep ?_ X.sg (hend ▸ hi)
    obtain ⟨a1, a2, a3, a4, _, _, _, _, _, r1, r2, _⟩ := X.mt
    have := X.old
    omega
end
end Mine
end

-- PureA
section
set_option maxHeartbeats 4000000
set_option maxRecDepth 100000
namespace Mine

noncomputable def runC : Bool → List Nat → List Nat × Bool
  | b, [] => ([], b)
  | b, c :: r => if c = 10 then (if b then runC false r else (13 :: 10 :: (runC false r).1, (runC false r).2)) else if c = 13 then (13 :: 10 :: (runC true r).1, (runC true r).2) else (c :: (runC false r).1, (runC false r).2)
theorem crlf_app (v : List Nat) : ∀ (u : List Nat) (b : Bool), crlfS b (u ++ v) = (runC b u).1 ++ crlfS (runC b u).2 v
  | [], b => rfl
  | c :: r, b => by
    simp only [List.cons_append, crlfS, runC]
    split
    · split
      · exact crlf_app v r false
      · rw [crlf_app v r false]; rfl
    · split
      · rw [crlf_app v r true]; rfl
      · rw [crlf_app v r false]; rfl
noncomputable def runD : Bool → List Nat → List Nat × Bool
  | b, [] => ([], b)
  | b, c :: r => if b = true ∧ c = 46 then (46 :: 46 :: (runD false r).1, (runD false r).2) else (c :: (runD (c == 10) r).1, (runD (c == 10) r).2)
theorem dots_app (v : List Nat) : ∀ (u : List Nat) (b : Bool), dotsS b (u ++ v) = (runD b u).1 ++ dotsS (runD b u).2 v
  | [], b => rfl
  | c :: r, b => by
    simp only [List.cons_append, dotsS, runD]
    split
    · rw [dots_app v r false]; rfl
    · rw [dots_app v r (c == 10)]; rfl
noncomputable def runS : Bool → Option (List Nat) → List Nat → List Nat × Bool × Option (List Nat)
  | e, q, [] => ([], e, q)
  | e, none, c :: r => if e then (c :: (runS false none r).1, (runS false none r).2) else if c = 92 then (c :: (runS true none r).1, (runS true none r).2) else if c = 34 then runS false (some [34]) r else (c :: (runS false none r).1, (runS false none r).2)
  | e, some p, c :: r => if e then runS false (some (p ++ [c])) r else if c = 92 then runS true (some (p ++ [c])) r else if c = 34 then runS false none r else runS false (some (p ++ [c])) r
theorem str_app (v : List Nat) : ∀ (u : List Nat) (e : Bool) (q : Option (List Nat)), strT e q (u ++ v) = (runS e q u).1 ++ strT (runS e q u).2.1 (runS e q u).2.2 v
  | [], e, q => by cases q <;> rfl
  | c :: r, e, none => by
    simp only [List.cons_append, strT, runS]
    split
    · rw [str_app v r false none]; rfl
    · split
      · rw [str_app v r true none]; rfl
      · split
        · rw [str_app v r false (some [34])]
        · rw [str_app v r false none]; rfl
  | c :: r, e, some p => by
    simp only [List.cons_append, strT, runS]
    split
    · rw [str_app v r false (some (p ++ [c]))]
    · split
      · rw [str_app v r true (some (p ++ [c]))]
      · split
        · rw [str_app v r false none]
        · rw [str_app v r false (some (p ++ [c]))]
theorem split_app (v : List Nat) : ∀ (w : List Nat), 13 ∉ w → splitL (w ++ 13 :: 10 :: v) = w :: splitL v
  | [], _ => by simp [splitL]
  | [c], h => by
    have hc : c ≠ 13 := fun e => h (by simp [e])
    have := split_app v [] (by simp)
    simp only [List.nil_append] at this
    simp only [List.cons_append, List.nil_append, splitL, hc, false_and, if_false]
    simp
  | c :: d :: r, h => by
    have hc : c ≠ 13 := fun e => h (by simp [e])
    have ih := split_app v (d :: r) (fun e => h (List.mem_cons_of_mem _ e))
    simp only [List.cons_append] at ih ⊢
    rw [splitL]
    simp only [hc, false_and, if_false]
    rw [ih]

noncomputable def rowOkB (r w : List Nat) : Bool :=
  let c := runC false r
  let d := runD true c.1
  let t := runS false none d.1
  (r.head? != some 10) && (r != []) && d.2 && !t.2.1 && (t.2.2 == none) && (t.1 == w ++ [13, 10]) && !(w.contains 13)

theorem read_rows : ∀ (rw : List (List Nat × List Nat)) (b : Bool), (∀ p ∈ rw, rowOkB p.1 p.2 = true) →
    splitL (strT false none (dotsS true (crlfS b (rw.map (·.1)).flatten))) = rw.map (·.2) ++ [[]]
  | [], b, _ => by cases b <;> simp [crlfS, dotsS, strT, splitL]
  | (r, w) :: rest, b, h => by
    have h1 := h (r, w) (by simp)
    simp only [rowOkB, Bool.and_eq_true, bne_iff_ne, ne_eq, Bool.not_eq_true', beq_iff_eq] at h1
    obtain ⟨⟨⟨⟨⟨⟨hh, hne⟩, hd⟩, ht1⟩, ht2⟩, ht3⟩, hw⟩ := h1
    have hw' : 13 ∉ w := by simpa using hw
    have ih := read_rows rest (runC false r).2 fun p hp => h p (List.mem_cons_of_mem _ hp)
    simp only [List.map_cons, List.flatten_cons]
    have e0 : crlfS b (r ++ (rest.map (·.1)).flatten) = crlfS false (r ++ (rest.map (·.1)).flatten) := by
      cases b with
      | false => rfl
      | true =>
        refine crlf_skip _ fun c hc => ?_
        cases r with
        | nil => exact absurd rfl hne
        | cons x r =>
          simp at hc hh
          omega
    rw [e0, crlf_app, dots_app, hd, str_app, ht1, ht2, ht3, List.append_assoc]
    show splitL (w ++ 13 :: 10 :: _) = _
    rw [split_app _ _ hw']
    show w :: splitL (strT false none _) = _
    rw [ih]
    rfl

theorem readP_rows (rw : List (List Nat × List Nat)) (h : ∀ p ∈ rw, rowOkB p.1 p.2 = true) : readP (rw.map (·.1)).flatten = rw.map (·.2) := by
  unfold readP quoteP
  rw [strip_eq, read_rows rw false h]
  simp

noncomputable def wordW (n x : Nat) : List Nat := (List.range n).map fun k => if x / 2 ^ k % 2 = 0 then 46 else 47
noncomputable def hidW (i : Nat) : List Nat := [[34, 34], [34, 47, 46, 34], [34, 92, 34, 34], [34, 10, 46, 34]].getD i []
noncomputable def endW (i : Nat) : List Nat := [[10], [13], [13, 10]].getD i []
noncomputable def placeW (x : Nat) : Nat := x / 8 % 3
noncomputable def rowW (n x : Nat) : List Nat := (wordW n x).take (placeW x) ++ hidW (x / 24 % 4) ++ (wordW n x).drop (placeW x) ++ endW (x / 96)
noncomputable def outW (n x : Nat) : List Nat := if (wordW n x).getD 0 0 = 46 ∧ 0 < placeW x then 46 :: wordW n x else wordW n x

theorem rows_ok : ∀ n ∈ [1, 2, 3], ∀ x ∈ List.range 288, rowOkB (rowW n x) (outW n x) = true := by decide +kernel

theorem first_mail {x0 x1 x2 : Nat} (h0 : x0 < 288) (h1 : x1 < 288) (h2 : x2 < 288) :
    readP ([46, 13] ++ rowW 3 x0 ++ rowW 2 x1 ++ rowW 1 x2) = [[46, 46], outW 3 x0, outW 2 x1, outW 1 x2] := by
  have := readP_rows [([46, 13], [46, 46]), (rowW 3 x0, outW 3 x0), (rowW 2 x1, outW 2 x1), (rowW 1 x2, outW 1 x2)] ?_
  · simpa using this
  · intro p hp
    simp only [List.mem_cons, List.not_mem_nil, or_false] at hp
    rcases hp with rfl | rfl | rfl | rfl
    · decide
    · exact rows_ok 3 (by decide) x0 (List.mem_range.mpr h0)
    · exact rows_ok 2 (by decide) x1 (List.mem_range.mpr h1)
    · exact rows_ok 1 (by decide) x2 (List.mem_range.mpr h2)
end Mine
end

-- PureB
section
set_option maxHeartbeats 4000000
set_option maxRecDepth 1000000
namespace Mine

/-- second mail: text, cuts, stalks, weight -/
structure MSt where
  typed : List Nat
  cuts : List (List Nat)
  stalks : List (List Nat × Nat × Nat)
  weight : Nat

noncomputable def mIn (wd : List Nat) (st : MSt) (c : Nat) : MSt :=
  { st with typed := st.typed ++ (wd.take c ++ [34] ++ wd.drop c ++ [34] ++ endW (st.cuts.length % 3)), cuts := st.cuts ++ [wd.take c] }
noncomputable def mHead (st : MSt) (wd : List Nat) : MSt :=
  { typed := st.typed ++ endW (st.cuts.length % 3), cuts := st.cuts ++ [[]], stalks := st.stalks ++ [(wd, st.weight, st.cuts.length + 1)], weight := st.weight * (wd.length + 1) }
noncomputable def mOut (st : MSt) (wd : List Nat) : MSt := (List.range (wd.length + 1)).foldl (mIn wd) (mHead st wd)
noncomputable def mAll (ws : List (List Nat)) : MSt := ws.foldl mOut ⟨[], [], [], 1⟩

noncomputable def moreP (kept : List Nat) : Nat := if kept.take 1 = [46] then 1 else 0
noncomputable def wantP (kept : List Nat) : List Int := List.replicate (moreP kept) 1 ++ kept.map fun c => if c = 46 then 1 else -1
noncomputable def dsB (l : List Nat) : Bool := l.all fun c => c == 46 || c == 47
noncomputable def zipOk (p : List Nat × List Nat) : Bool := dsB p.1 && dsB p.2 && decide (p.1.length ≤ 100) && decide (signsP p.1 = wantP p.2) && decide ((signsP p.1).length ≤ 100)
noncomputable def worthOf (p : List Nat × List Nat) : Int := worthP (signsP p.1) - 4 * (moreP p.2 : Int)

/-- the game: first, second; one, two, worth -/
structure GIn where
  one : Bool
  two : Bool
  worth : Int
noncomputable def gIn (fs : List Bool × List Bool) (p : Nat) (wd : List Nat) (step c : Nat) (g : GIn) (i : Nat) : GIn :=
  if wd.getD i 0 = 46 then { g with one := g.one || !(fs.2.getD (p - (c - i) * step) false) } else { g with two := g.two || !(fs.1.getD (p - (c - i) * step) false) }
noncomputable def gStalk (fs : List Bool × List Bool) (worths : List Int) (p : Nat) (g : GIn) (k : List Nat × Nat × Nat) : GIn :=
  (List.range (p / k.2.1 % (k.1.length + 1))).foldl (gIn fs p k.1 k.2.1 (p / k.2.1 % (k.1.length + 1))) { g with worth := g.worth + worths.getD (k.2.2 + p / k.2.1 % (k.1.length + 1)) 0 }
noncomputable def gTurn (st : List (List Nat × Nat × Nat)) (worths : List Int) (fs : List Bool × List Bool) (p : Nat) : GIn := st.foldl (gStalk fs worths p) ⟨false, false, 0⟩
noncomputable def gNext (st : List (List Nat × Nat × Nat)) (worths : List Int) (fs : List Bool × List Bool) (p : Nat) : List Bool × List Bool :=
  (fs.1 ++ [(gTurn st worths fs p).one], fs.2 ++ [(gTurn st worths fs p).two])
noncomputable def gOk (g : GIn) : Bool := (decide (256 - g.worth < 256) == g.one) && (decide (256 + g.worth < 256) == g.two) && ((g.worth == 0) == (!g.one && !g.two))

noncomputable def runG (st : List (List Nat × Nat × Nat)) (worths : List Int) : Nat → Nat → List Bool × List Bool → Bool
  | 0, _, _ => true
  | f + 1, p, fs => gOk (gTurn st worths fs p) && runG st worths f (p + 1) (gNext st worths fs p)

noncomputable def allOk (ws : List (List Nat)) : Bool :=
  let m := mAll ws
  let rows := readP m.typed
  let zs := rows.zip m.cuts
  decide (rows.length = m.cuts.length) && zs.all zipOk && runG m.stalks (zs.map worthOf) m.weight 0 ([], [])

noncomputable def outs (n : Nat) : List (List Nat) := ((List.range 288).map (outW n)).eraseDups
theorem outs3 : outs 3 = [[46, 46, 46], [47, 46, 46], [46, 47, 46], [47, 47, 46], [46, 46, 47], [47, 46, 47], [46, 47, 47], [47, 47, 47], [46, 46, 46, 46], [46, 46, 47, 46], [46, 46, 46, 47], [46, 46, 47, 47]] := by decide +kernel
theorem outs2 : outs 2 = [[46, 46], [47, 46], [46, 47], [47, 47], [46, 46, 46], [46, 46, 47]] := by decide +kernel
theorem outs1 : outs 1 = [[46], [47], [46, 46]] := by decide +kernel
end Mine
end

-- PureC
section
set_option maxHeartbeats 4000000
set_option maxRecDepth 1000000
namespace Mine
/-- runG with lists that hold what was found, the last first -/
noncomputable def runF (st : List (List Nat × Nat × Nat)) (worths : List Int) : Nat → Nat → List Bool → List Bool → Bool
  | 0, _, _, _ => true
  | f + 1, p, l1, l2 => match gTurn st worths (l1.reverse, l2.reverse) p with
    | ⟨o, t, x⟩ => gOk ⟨o, t, x⟩ && match o, t with
      | true, true => runF st worths f (p + 1) (true :: l1) (true :: l2)
      | true, false => runF st worths f (p + 1) (true :: l1) (false :: l2)
      | false, true => runF st worths f (p + 1) (false :: l1) (true :: l2)
      | false, false => runF st worths f (p + 1) (false :: l1) (false :: l2)
theorem runF_runG (st : List (List Nat × Nat × Nat)) (worths : List Int) : ∀ (f p : Nat) (l1 l2 : List Bool), runF st worths f p l1 l2 = true → runG st worths f p (l1.reverse, l2.reverse) = true
  | 0, _, _, _, _ => rfl
  | f + 1, p, l1, l2, h => by
    have ih := runF_runG st worths f (p + 1)
    unfold runF at h
    unfold runG
    have e : gNext st worths (l1.reverse, l2.reverse) p = (((gTurn st worths (l1.reverse, l2.reverse) p).one :: l1).reverse, ((gTurn st worths (l1.reverse, l2.reverse) p).two :: l2).reverse) := by simp [gNext]
    rw [e]
    generalize gTurn st worths (l1.reverse, l2.reverse) p = g at h ⊢
    obtain ⟨o, t, x⟩ := g
    cases o <;> cases t <;> simp only [Bool.and_eq_true] at h ⊢ <;> exact ⟨h.1, ih _ _ h.2⟩
noncomputable def allOkF (ws : List (List Nat)) : Bool :=
  let m := mAll ws
  let rows := readP m.typed
  let zs := rows.zip m.cuts
  decide (rows.length = m.cuts.length) && zs.all zipOk && runF m.stalks (zs.map worthOf) m.weight 0 [] []
theorem allOk_of {ws : List (List Nat)} (h : allOkF ws = true) : allOk ws = true := by
  simp only [allOkF, allOk, Bool.and_eq_true] at h ⊢
  exact ⟨h.1, runF_runG _ _ _ _ _ _ h.2⟩
noncomputable def okTwo (a b : List Nat) : Bool := [[46], [47], [46, 46]].all fun c => allOkF [a, b, c]
noncomputable def okAll (a : List Nat) : Bool := [[46, 46], [47, 46], [46, 47], [47, 47], [46, 46, 46], [46, 46, 47]].all fun b => okTwo a b
theorem ok_0_0 : okTwo [46, 46, 46] [46, 46] = true := by decide +kernel
theorem ok_0_1 : okTwo [46, 46, 46] [47, 46] = true := by decide +kernel
theorem ok_0_2 : okTwo [46, 46, 46] [46, 47] = true := by decide +kernel
theorem ok_0_3 : okTwo [46, 46, 46] [47, 47] = true := by decide +kernel
theorem ok_0_4 : okTwo [46, 46, 46] [46, 46, 46] = true := by decide +kernel
theorem ok_0_5 : okTwo [46, 46, 46] [46, 46, 47] = true := by decide +kernel
theorem ok_0 : okAll [46, 46, 46] = true := by simp only [okAll, List.all_cons, List.all_nil, ok_0_0, ok_0_1, ok_0_2, ok_0_3, ok_0_4, ok_0_5, Bool.and_self]
theorem ok_1_0 : okTwo [47, 46, 46] [46, 46] = true := by decide +kernel
theorem ok_1_1 : okTwo [47, 46, 46] [47, 46] = true := by decide +kernel
theorem ok_1_2 : okTwo [47, 46, 46] [46, 47] = true := by decide +kernel
theorem ok_1_3 : okTwo [47, 46, 46] [47, 47] = true := by decide +kernel
theorem ok_1_4 : okTwo [47, 46, 46] [46, 46, 46] = true := by decide +kernel
theorem ok_1_5 : okTwo [47, 46, 46] [46, 46, 47] = true := by decide +kernel
theorem ok_1 : okAll [47, 46, 46] = true := by simp only [okAll, List.all_cons, List.all_nil, ok_1_0, ok_1_1, ok_1_2, ok_1_3, ok_1_4, ok_1_5, Bool.and_self]
theorem ok_2_0 : okTwo [46, 47, 46] [46, 46] = true := by decide +kernel
theorem ok_2_1 : okTwo [46, 47, 46] [47, 46] = true := by decide +kernel
theorem ok_2_2 : okTwo [46, 47, 46] [46, 47] = true := by decide +kernel
theorem ok_2_3 : okTwo [46, 47, 46] [47, 47] = true := by decide +kernel
theorem ok_2_4 : okTwo [46, 47, 46] [46, 46, 46] = true := by decide +kernel
theorem ok_2_5 : okTwo [46, 47, 46] [46, 46, 47] = true := by decide +kernel
theorem ok_2 : okAll [46, 47, 46] = true := by simp only [okAll, List.all_cons, List.all_nil, ok_2_0, ok_2_1, ok_2_2, ok_2_3, ok_2_4, ok_2_5, Bool.and_self]
theorem ok_3_0 : okTwo [47, 47, 46] [46, 46] = true := by decide +kernel
theorem ok_3_1 : okTwo [47, 47, 46] [47, 46] = true := by decide +kernel
theorem ok_3_2 : okTwo [47, 47, 46] [46, 47] = true := by decide +kernel
theorem ok_3_3 : okTwo [47, 47, 46] [47, 47] = true := by decide +kernel
theorem ok_3_4 : okTwo [47, 47, 46] [46, 46, 46] = true := by decide +kernel
theorem ok_3_5 : okTwo [47, 47, 46] [46, 46, 47] = true := by decide +kernel
theorem ok_3 : okAll [47, 47, 46] = true := by simp only [okAll, List.all_cons, List.all_nil, ok_3_0, ok_3_1, ok_3_2, ok_3_3, ok_3_4, ok_3_5, Bool.and_self]
theorem ok_4_0 : okTwo [46, 46, 47] [46, 46] = true := by decide +kernel
theorem ok_4_1 : okTwo [46, 46, 47] [47, 46] = true := by decide +kernel
theorem ok_4_2 : okTwo [46, 46, 47] [46, 47] = true := by decide +kernel
theorem ok_4_3 : okTwo [46, 46, 47] [47, 47] = true := by decide +kernel
theorem ok_4_4 : okTwo [46, 46, 47] [46, 46, 46] = true := by decide +kernel
theorem ok_4_5 : okTwo [46, 46, 47] [46, 46, 47] = true := by decide +kernel
theorem ok_4 : okAll [46, 46, 47] = true := by simp only [okAll, List.all_cons, List.all_nil, ok_4_0, ok_4_1, ok_4_2, ok_4_3, ok_4_4, ok_4_5, Bool.and_self]
theorem ok_5_0 : okTwo [47, 46, 47] [46, 46] = true := by decide +kernel
theorem ok_5_1 : okTwo [47, 46, 47] [47, 46] = true := by decide +kernel
theorem ok_5_2 : okTwo [47, 46, 47] [46, 47] = true := by decide +kernel
theorem ok_5_3 : okTwo [47, 46, 47] [47, 47] = true := by decide +kernel
theorem ok_5_4 : okTwo [47, 46, 47] [46, 46, 46] = true := by decide +kernel
theorem ok_5_5 : okTwo [47, 46, 47] [46, 46, 47] = true := by decide +kernel
theorem ok_5 : okAll [47, 46, 47] = true := by simp only [okAll, List.all_cons, List.all_nil, ok_5_0, ok_5_1, ok_5_2, ok_5_3, ok_5_4, ok_5_5, Bool.and_self]
theorem ok_6_0 : okTwo [46, 47, 47] [46, 46] = true := by decide +kernel
theorem ok_6_1 : okTwo [46, 47, 47] [47, 46] = true := by decide +kernel
theorem ok_6_2 : okTwo [46, 47, 47] [46, 47] = true := by decide +kernel
theorem ok_6_3 : okTwo [46, 47, 47] [47, 47] = true := by decide +kernel
theorem ok_6_4 : okTwo [46, 47, 47] [46, 46, 46] = true := by decide +kernel
theorem ok_6_5 : okTwo [46, 47, 47] [46, 46, 47] = true := by decide +kernel
theorem ok_6 : okAll [46, 47, 47] = true := by simp only [okAll, List.all_cons, List.all_nil, ok_6_0, ok_6_1, ok_6_2, ok_6_3, ok_6_4, ok_6_5, Bool.and_self]
theorem ok_7_0 : okTwo [47, 47, 47] [46, 46] = true := by decide +kernel
theorem ok_7_1 : okTwo [47, 47, 47] [47, 46] = true := by decide +kernel
theorem ok_7_2 : okTwo [47, 47, 47] [46, 47] = true := by decide +kernel
theorem ok_7_3 : okTwo [47, 47, 47] [47, 47] = true := by decide +kernel
theorem ok_7_4 : okTwo [47, 47, 47] [46, 46, 46] = true := by decide +kernel
theorem ok_7_5 : okTwo [47, 47, 47] [46, 46, 47] = true := by decide +kernel
theorem ok_7 : okAll [47, 47, 47] = true := by simp only [okAll, List.all_cons, List.all_nil, ok_7_0, ok_7_1, ok_7_2, ok_7_3, ok_7_4, ok_7_5, Bool.and_self]
theorem ok_8_0 : okTwo [46, 46, 46, 46] [46, 46] = true := by decide +kernel
theorem ok_8_1 : okTwo [46, 46, 46, 46] [47, 46] = true := by decide +kernel
theorem ok_8_2 : okTwo [46, 46, 46, 46] [46, 47] = true := by decide +kernel
theorem ok_8_3 : okTwo [46, 46, 46, 46] [47, 47] = true := by decide +kernel
theorem ok_8_4 : okTwo [46, 46, 46, 46] [46, 46, 46] = true := by decide +kernel
theorem ok_8_5 : okTwo [46, 46, 46, 46] [46, 46, 47] = true := by decide +kernel
theorem ok_8 : okAll [46, 46, 46, 46] = true := by simp only [okAll, List.all_cons, List.all_nil, ok_8_0, ok_8_1, ok_8_2, ok_8_3, ok_8_4, ok_8_5, Bool.and_self]
theorem ok_9_0 : okTwo [46, 46, 47, 46] [46, 46] = true := by decide +kernel
theorem ok_9_1 : okTwo [46, 46, 47, 46] [47, 46] = true := by decide +kernel
theorem ok_9_2 : okTwo [46, 46, 47, 46] [46, 47] = true := by decide +kernel
theorem ok_9_3 : okTwo [46, 46, 47, 46] [47, 47] = true := by decide +kernel
theorem ok_9_4 : okTwo [46, 46, 47, 46] [46, 46, 46] = true := by decide +kernel
theorem ok_9_5 : okTwo [46, 46, 47, 46] [46, 46, 47] = true := by decide +kernel
theorem ok_9 : okAll [46, 46, 47, 46] = true := by simp only [okAll, List.all_cons, List.all_nil, ok_9_0, ok_9_1, ok_9_2, ok_9_3, ok_9_4, ok_9_5, Bool.and_self]
theorem ok_10_0 : okTwo [46, 46, 46, 47] [46, 46] = true := by decide +kernel
theorem ok_10_1 : okTwo [46, 46, 46, 47] [47, 46] = true := by decide +kernel
theorem ok_10_2 : okTwo [46, 46, 46, 47] [46, 47] = true := by decide +kernel
theorem ok_10_3 : okTwo [46, 46, 46, 47] [47, 47] = true := by decide +kernel
theorem ok_10_4 : okTwo [46, 46, 46, 47] [46, 46, 46] = true := by decide +kernel
theorem ok_10_5 : okTwo [46, 46, 46, 47] [46, 46, 47] = true := by decide +kernel
theorem ok_10 : okAll [46, 46, 46, 47] = true := by simp only [okAll, List.all_cons, List.all_nil, ok_10_0, ok_10_1, ok_10_2, ok_10_3, ok_10_4, ok_10_5, Bool.and_self]
theorem ok_11_0 : okTwo [46, 46, 47, 47] [46, 46] = true := by decide +kernel
theorem ok_11_1 : okTwo [46, 46, 47, 47] [47, 46] = true := by decide +kernel
theorem ok_11_2 : okTwo [46, 46, 47, 47] [46, 47] = true := by decide +kernel
theorem ok_11_3 : okTwo [46, 46, 47, 47] [47, 47] = true := by decide +kernel
theorem ok_11_4 : okTwo [46, 46, 47, 47] [46, 46, 46] = true := by decide +kernel
theorem ok_11_5 : okTwo [46, 46, 47, 47] [46, 46, 47] = true := by decide +kernel
theorem ok_11 : okAll [46, 46, 47, 47] = true := by simp only [okAll, List.all_cons, List.all_nil, ok_11_0, ok_11_1, ok_11_2, ok_11_3, ok_11_4, ok_11_5, Bool.and_self]
theorem all216 : ((outs 3).all okAll) = true := by
  rw [outs3]
  simp only [List.all_cons, List.all_nil, ok_0, ok_1, ok_2, ok_3, ok_4, ok_5, ok_6, ok_7, ok_8, ok_9, ok_10, ok_11, Bool.and_self]
theorem outs_mem (n x : Nat) (h : x < 288) : outW n x ∈ outs n := by
  unfold outs
  rw [List.mem_eraseDups]
  exact List.mem_map.mpr ⟨x, List.mem_range.mpr h, rfl⟩
theorem law_pure {x0 x1 x2 : Nat} (h0 : x0 < 288) (h1 : x1 < 288) (h2 : x2 < 288) : allOk [outW 3 x0, outW 2 x1, outW 1 x2] = true := by
  have h := all216
  rw [List.all_eq_true] at h
  have h' := h _ (outs_mem 3 x0 h0)
  unfold okAll at h'
  rw [List.all_eq_true] at h'
  have h'' := h' _ (outs2 ▸ outs_mem 2 x1 h1)
  unfold okTwo at h''
  rw [List.all_eq_true] at h''
  exact allOk_of (h'' _ (outs1 ▸ outs_mem 1 x2 h2))
end Mine
end

-- Law1
section
set_option maxRecDepth 100000
set_option maxHeartbeats 4000000
namespace Mine
open PySem PySem.Calls PySem.W PyProof.Rows PySem.Builtin

theorem Gr.f103 {w : World} {mg mb : Str → Option Value} {h : Heap} (G : Gr w mg mb h) : FnAt h 103 "law" (topSt 67) (.ref 102) :=
  ⟨⟨_, _, _, G.K 103 _ rfl, rfl⟩, ⟨102, _, _, _, rfl, G.K 102 _ rfl, rfl, rfl⟩⟩
noncomputable def lwEnv (L : Nat) : Env := callEnvC (docDef "law" (paramsOf (topSt 67)) (bodyOf (topSt 67)) (scopeOf (topSt 67)) .none (.ref 102) .none) L 103
noncomputable def lwSt (i : Nat) : Stmt := (bodyOf (topSt 67)).getD i (.Pass default)
noncomputable def S (l : List Nat) : Str := ⟨l.toArray⟩

/-- what stands after the first five lines, and at every later place of the first loop -/
structure LA (prog : Program) (w : World) (h₀ : Heap) (L dA hA eA wA : Nat) (dv : List Value) (ds : List Int) (ty : List Nat) (ws : List (List Nat)) (h : Heap) : Prop where
  keep : ∀ b o, h₀.get? b = some o → h.get? b = some o
  old : h₀.objs.size ≤ L
  ns : ∃ m t, h.Ns L m ∧ m "drawn" = some (.ref dA) ∧ m "hidden" = some (.ref hA) ∧ m "ends" = some (.ref eA) ∧ m "words" = some (.ref wA) ∧ m "typed" = some (.str (S ty) t)
  x : ∃ v, h.IsCell (L + 1) v
  d : h.IsList dA dv.toArray ∧ IntsAre dv ds
  hid : ∃ vs, h.IsList hA vs.toArray ∧ StrsAre vs [S [34, 34], S [34, 47, 46, 34], S [34, 92, 34, 34], S [34, 10, 46, 34]]
  ends : ∃ vs, h.IsList eA vs.toArray ∧ StrsAre vs [S [10], S [13], S [13, 10]]
  words : ∃ vs, PlainL h wA vs.toArray ∧ StrsAre vs (ws.map S)
  lt : L + 1 < dA ∧ L + 1 < hA ∧ L + 1 < eA ∧ dA < wA ∧ hA < wA ∧ eA < wA

section
variable {prog : Program} {w : World} {A : Around} {E : Value → Shared → Prop} {s : Shared} {mg mb : Str → Option Value}

theorem law_enter {Q : Value → Shared → Prop} {l : Addr} {vs : List Value} {ns : List Int} (G : Gr w mg mb s.heap) (hroom : A.depth < recursionLimit)
    (hl : s.heap.IsList l vs.toArray) (hi : IntsAre vs ns) (hn : ns.length ≤ 63)
    (h' : ∀ h' tk (L dA hA eA wA : Nat) dv, LA prog w s.heap L dA hA eA wA dv ns [46, 13] [] h' →
      wpAny (model prog w) (A.deeper (lwEnv L)) (execs ((bodyOf (topSt 67)).drop 5) (lwEnv L)) (fun f s' => Q (match f with | .ret v => v | _ => .none) s') (fun _ _ => False) { s with heap := h', toks := tk }) :
    wpAny (model prog w) A (call (.ref 103) [.ref l]) Q E s := by
  have hsl : sizeLine = 16777216 := rfl
  have hvl := hi.length
  obtain ⟨⟨o, pm, doc, ho, hdt⟩, hc⟩ := G.f103
  refine wpAny_call (call_cells_ret (binds := [("script", .ref l)]) hroom ho hdt G.lim hc rfl rfl rfl ?_ ?_ rfl rfl rfl)
  · intro y hy
    rw [List.mem_singleton.mp hy]
    exact .inl rfl
  intro s₁ F₁
  generalize hLe : s.heap.objs.size = L at *
  have henv : callEnvC (docDef "law" (paramsOf (topSt 67)) (bodyOf (topSt 67)) (scopeOf (topSt 67)) pm (.ref 102) doc) L 103 = lwEnv L := rfl
  rw [henv] at F₁ ⊢
  obtain ⟨h₁, tk₁, rfl, k₁⟩ := F₁.done
  have hm₁ : h₁.Ns L _ := F₁.toInCall.ns
  have x₁ : h₁.IsCell (L + 1) none := F₁.cell "x" (L + 1) rfl
  have hl₁ : h₁.IsList l vs.toArray := by obtain ⟨o, ho, r⟩ := hl; exact ⟨o, k₁ l o ho, r⟩
  refine wpAny_execs_cons ?_
  refine wpAny_Assign_Name ?_ ?_
  rotate_left
  · rfl
  refine list_sliceK (wpAny_Name (wpAny_loadName_local rfl rfl hm₁ rfl (ep_none (ep_some (wpAny_Constant_int ?_)))))
  refine ⟨l, _, none, some 63, rfl, hl₁, by simp; omega, .none, .int _ _, ?_⟩
  intro h₂ dA hdA k₂ hD
  have hdA' : @LT.lt Nat _ (L + 1) dA := Nat.lt_of_lt_of_le x₁.lt hdA
  refine wpAny_storeName_local rfl (hm₁.at fun o e => k₂ L o e) (fun h₃ hm₃ hs₃ => ?_) rfl
  dsimp only at hm₃ hs₃ ⊢
  refine wpAny_execs_cons ?_
  refine wpAny_Assign_Name ?_ ?_
  rotate_left
  · rfl
  refine wpAny_List ?_
  refine spl_cons (Constant_str (spl_cons (Constant_str (spl_cons (Constant_str (spl_cons (Constant_str (spl_nil ?_))))))))
  refine ⟨by show 4 ≤ sizeLine; omega, ?_⟩
  dsimp only
  generalize hH4 : h₃.push _ = H4
  have k₄ : ∀ b o, h₃.get? b = some o → H4.get? b = some o := fun b o e => hH4 ▸ Heap.get?_push_of_some _ e
  have hid₄ : ∃ vs, H4.IsList h₃.objs.size vs.toArray ∧ StrsAre vs [S [34, 34], S [34, 47, 46, 34], S [34, 92, 34, 34], S [34, 10, 46, 34]] :=
    ⟨_, ⟨_, hH4 ▸ Heap.get?_push_size _ rfl, rfl, _, rfl⟩, .cons _ _ (.cons _ _ (.cons _ _ (.cons _ _ .nil)))⟩
  have z4 : H4.objs.size = h₃.objs.size + 1 := by rw [← hH4, Heap.size_push]
  have lt3 : @LT.lt Nat _ dA h₃.objs.size := by
    obtain ⟨o, n, ho, _⟩ := hD
    exact ltN (Heap.lt_size ((hs₃.2 dA (show @Ne Nat dA L by omega)).trans ho))
  generalize hhA : h₃.objs.size = hA at *
  refine wpAny_storeName_local rfl (hm₃.at fun o e => k₄ L o e) (fun h₅ hm₅ hs₅ => ?_) rfl
  dsimp only at hm₅ hs₅ ⊢
  refine wpAny_execs_cons ?_
  refine wpAny_Assign_Name ?_ ?_
  rotate_left
  · rfl
  refine wpAny_List ?_
  refine spl_cons (Constant_str (spl_cons (Constant_str (spl_cons (Constant_str (spl_nil ?_))))))
  refine ⟨by show 3 ≤ sizeLine; omega, ?_⟩
  dsimp only
  generalize hH6 : h₅.push _ = H6
  have k₆ : ∀ b o, h₅.get? b = some o → H6.get? b = some o := fun b o e => hH6 ▸ Heap.get?_push_of_some _ e
  have end₆ : ∃ vs, H6.IsList h₅.objs.size vs.toArray ∧ StrsAre vs [S [10], S [13], S [13, 10]] :=
    ⟨_, ⟨_, hH6 ▸ Heap.get?_push_size _ rfl, rfl, _, rfl⟩, .cons _ _ (.cons _ _ (.cons _ _ .nil))⟩
  have lt5 : @LT.lt Nat _ hA h₅.objs.size := by
    obtain ⟨vs, ⟨o, ho, _⟩, _⟩ := hid₄
    exact ltN (Heap.lt_size ((hs₅.2 hA (show @Ne Nat hA L by omega)).trans ho))
  generalize heA : h₅.objs.size = eA at *
  refine wpAny_storeName_local rfl (hm₅.at fun o e => k₆ L o e) (fun h₇ hm₇ hs₇ => ?_) rfl
  dsimp only at hm₇ hs₇ ⊢
  refine wpAny_execs_cons ?_
  refine wpAny_Assign_Name ?_ ?_
  rotate_left
  · rfl
  refine Constant_str (wpAny_storeName_local rfl hm₇ (fun h₈ hm₈ hs₈ => ?_) rfl)
  dsimp only at hm₈ hs₈ ⊢
  refine wpAny_execs_cons ?_
  refine wpAny_Assign_Name ?_ ?_
  rotate_left
  · rfl
  refine wpAny_List (spl_nil ?_)
  refine ⟨Nat.zero_le _, ?_⟩
  dsimp only
  generalize hH9 : h₈.push _ = H9
  have k₉ : ∀ b o, h₈.get? b = some o → H9.get? b = some o := fun b o e => hH9 ▸ Heap.get?_push_of_some _ e
  have w₉ : PlainL H9 h₈.objs.size ([] : List Value).toArray := ⟨_, 0, hH9 ▸ Heap.get?_push_size _ rfl, rfl, rfl, rfl⟩
  have lt8 : @LT.lt Nat _ eA h₈.objs.size := by
    obtain ⟨vs, ⟨o, ho, _⟩, _⟩ := end₆
    exact ltN (Heap.lt_size ((hs₈.2 eA (show @Ne Nat eA L by omega)).trans ((hs₇.2 eA (show @Ne Nat eA L by omega)).trans ho)))
  generalize hwA : h₈.objs.size = wA at *
  refine wpAny_storeName_local rfl (hm₈.at fun o e => k₉ L o e) (fun hB hmB hsB => ?_) rfl
  dsimp only at hmB hsB ⊢
  have k6B : ∀ (b : Nat) o, b ≠ L → H6.get? b = some o → hB.get? b = some o := fun b o hb e => (hsB.2 b hb).trans (k₉ b o ((hs₈.2 b hb).trans ((hs₇.2 b hb).trans e)))
  have k4B : ∀ (b : Nat) o, b ≠ L → H4.get? b = some o → hB.get? b = some o := fun b o hb e => k6B b o hb (k₆ b o ((hs₅.2 b hb).trans e))
  have k2B : ∀ (b : Nat) o, b ≠ L → h₂.get? b = some o → hB.get? b = some o := fun b o hb e => k4B b o hb (k₄ b o ((hs₃.2 b hb).trans e))
  have hi' := kmk_upto hi (y := (63 : Int)) (by omega)
  rw [List.take_of_length_le (show ns.length ≤ (63 : Int).toNat from hn)] at hi'
  refine h' hB _ L dA hA eA wA (slicePick vs.toArray none (some 63) none).toList ⟨fun b o e => ?_, Nat.le_of_eq hLe, ?_, ?_, ⟨?_, hi'⟩, ?_, ?_, ?_, by omega⟩
  · have hb := ltN (Heap.lt_size e)
    exact k2B b o (by omega) (k₂ b o (k₁ b o e))
  · exact ⟨_, _, hmB, (if_neg (by decide +kernel)).trans ((if_neg (by decide +kernel)).trans ((if_neg (by decide +kernel)).trans ((if_neg (by decide +kernel)).trans (if_pos rfl)))), (if_neg (by decide +kernel)).trans ((if_neg (by decide +kernel)).trans ((if_neg (by decide +kernel)).trans (if_pos rfl))), (if_neg (by decide +kernel)).trans ((if_neg (by decide +kernel)).trans (if_pos rfl)), if_pos rfl, (if_neg (by decide +kernel)).trans (if_pos rfl)⟩
  · obtain ⟨o, ho, r⟩ := x₁
    exact ⟨none, o, k2B _ o (by omega) (k₂ _ o ho), r⟩
  · obtain ⟨o, n, ho, hcl, _, hdd⟩ := hD
    exact ⟨o, k2B dA o (by omega) ho, hcl, n, by simpa using hdd⟩
  · obtain ⟨vs, ⟨o, ho, r⟩, hv⟩ := hid₄
    exact ⟨vs, ⟨o, k4B hA o (by omega) ho, r⟩, hv⟩
  · obtain ⟨vs, ⟨o, ho, r⟩, hv⟩ := end₆
    exact ⟨vs, ⟨o, k6B eA o (by omega) ho, r⟩, hv⟩
  · obtain ⟨o, n, ho, r⟩ := w₉
    exact ⟨[], ⟨o, n, (hsB.2 wA (show @Ne Nat wA L by omega)).trans ho, r⟩, .nil⟩
end
end Mine
end

-- Law2
section
set_option maxRecDepth 100000
set_option maxHeartbeats 4000000
namespace Mine
open PySem PySem.Calls PySem.W PyProof.Rows PySem.Builtin

theorem ints_items : ∀ {vs : List Value}, (∀ v ∈ vs, ∃ n t, v = .int n t) → ∃ xs : Array (Int × Tok), vs.toArray = intItems xs
  | [], _ => ⟨#[], by simp [intItems]⟩
  | v :: r, h => by
    obtain ⟨n, t, rfl⟩ := h v (by simp)
    obtain ⟨xs, e⟩ := ints_items (vs := r) fun v hv => h v (List.mem_cons_of_mem _ hv)
    refine ⟨#[(n, t)] ++ xs, ?_⟩
    have e' : r = (intItems xs).toList := by rw [← e]
    apply Array.toList_inj.mp
    simp [intItems, e']
theorem ints_all : ∀ {vs : List Value} {ns : List Int}, IntsAre vs ns → ∀ v ∈ vs, ∃ n t, v = .int n t
  | _, _, .nil, v, h => by simp at h
  | _, _, .cons n t r, v, h => by
    rcases List.mem_cons.mp h with rfl | h
    · exact ⟨n, t, rfl⟩
    · exact ints_all r v h
theorem slice_items {vs : List Value} {ns : List Int} {lo hi st : Option Int} (h : IntsAre vs ns) : ∃ xs, slicePick vs.toArray lo hi st = intItems xs := by
  have : ∀ v ∈ (slicePick vs.toArray lo hi st).toList, ∃ n t, v = .int n t := by
    intro v hv
    unfold slicePick at hv
    simp only [List.mem_filterMap] at hv
    obtain ⟨i, _, e⟩ := hv
    have : v ∈ vs := by
      have := Array.mem_of_getElem? e
      simpa using this
    exact ints_all h v this
  obtain ⟨xs, e⟩ := ints_items this
  exact ⟨xs, by rw [← e]⟩

noncomputable def forBody (i : Nat) (st : Stmt) : Stmt := (bodyOf st).getD i (.Pass default)

section
variable {prog : Program} {w : World} {A : Around} {E : Value → Shared → Prop} {s : Shared} {mg mb : Str → Option Value}

/-- x = ([..][turn] + sum(drawn[turn::3])) % 288 -/
theorem x_stmt {Q : Flow → Shared → Prop} {L dA i : Nat} {m : Str → Option Value} {dv : List Value} {ds : List Int} {tt : Tok} {v0 : Option Value} {st : Stmt} {en : Env} (hst : st = forBody 0 (lwSt 5)) (hen : en = lwEnv L)
    (G : Gr w mg mb s.heap) (hA : A.handled = none) (hm : s.heap.Ns L m) (htu : m "turn" = some (.int i tt)) (hi : i < 3) (hdr : m "drawn" = some (.ref dA)) (hd : s.heap.IsList dA dv.toArray) (hdi : IntsAre dv ds) (hn : ds.length ≤ 63)
    (hx : s.heap.IsCell (L + 1) v0)
    (h : ∀ h' tk (x : Nat) u, x < 288 → (∀ (b : Nat) o, b ≠ L + 1 → s.heap.get? b = some o → h'.get? b = some o) → h'.IsCell (L + 1) (some (.int x u)) → Q .next { s with heap := h', toks := tk }) :
    wpAny (model prog w) A (exec st en) Q E s := by
  have hsl : sizeLine = 16777216 := rfl
  have hvl := hdi.length
  subst hst hen
  refine wpAny_Assign_Name ?_ ?_
  rotate_left
  · rfl
  refine wpAny_BinOp (wpAny_BinOp ?_)
  refine Subscript_ (wpAny_List ?_)
  refine spl_cons (wpAny_Constant_int (spl_cons (wpAny_Constant_int (spl_cons (wpAny_Constant_int (spl_nil ?_))))))
  refine ⟨by show 3 ≤ sizeLine; omega, ?_⟩
  generalize hH1 : s.heap.push _ = H1
  have k₁ : ∀ b o, s.heap.get? b = some o → H1.get? b = some o := fun b o e => hH1 ▸ Heap.get?_push_of_some _ e
  have hl₁ : H1.IsList s.heap.objs.size _ := ⟨_, hH1 ▸ Heap.get?_push_size _ rfl, rfl, _, rfl⟩
  have hm₁ := hm.at fun o e => k₁ L o e
  refine wpAny_Name (wpAny_loadName_local rfl rfl hm₁ htu ?_)
  have hget : ∃ c t, (#[Value.int 142 s.toks, Value.int 273 (s.toks + 1), Value.int 48 (s.toks + 1 + 1)] : Array Value)[((i : Nat) : Int).toNat]? = some (.int c t) := by
    rcases i with _ | _ | _ | i
    · exact ⟨_, _, rfl⟩
    · exact ⟨_, _, rfl⟩
    · exact ⟨_, _, rfl⟩
    · omega
  obtain ⟨c, tc, hget⟩ := hget
  refine tailG (s := { s with heap := H1, toks := s.toks + 1 + 1 + 1 }) hl₁.typeIs list_getitem_lookup (wpAny_getItem_list hl₁ (by omega) (by omega) hget ?_) rfl
  have G₁ := G.keeps k₁
  have hsum := G₁.built (n := "sum") rfl boot_sum (by decide +kernel)
  have hd₁ : H1.IsList dA dv.toArray := by obtain ⟨o, ho, r⟩ := hd; exact ⟨o, k₁ dA o ho, r⟩
  refine wpAny_Call_NameR (Calls.Name_function_global rfl rfl (Calls.loadGlobal_builtin G₁.g hsum.1 G₁.b hsum.2 ?_))
  refine cwb (spl_cons ?_)
  refine wpAny_Subscript_Slice_step list_getitem_lookup ?_
  refine wpAny_Name (wpAny_loadName_local rfl rfl hm₁ hdr ?_)
  refine wpAny_Slice (ep_some (wpAny_Name (wpAny_loadName_local rfl rfl hm₁ htu (ep_none (ep_some (wpAny_Constant_int ?_))))))
  dsimp only
  refine ⟨(hd₁.push _).typeIs, wpAny_getItem_list_slice (hd₁.push _) (Heap.IsSliceOf.new ..) (.int _ _) .none (.int _ _) (by decide) ?_ (by simp; omega)⟩
  obtain ⟨xs, hxs⟩ := slice_items (lo := some (i : Int)) (hi := none) (st := some 3) hdi
  rw [hxs]
  dsimp only
  generalize hH2 : H1.push _ = H2
  have k₂ : ∀ b o, H1.get? b = some o → H2.get? b = some o := fun b o e => hH2 ▸ Heap.get?_push_of_some _ e
  generalize hH3 : H2.push _ = H3
  have k₃ : ∀ b o, H2.get? b = some o → H3.get? b = some o := fun b o e => hH3 ▸ Heap.get?_push_of_some _ e
  have hl₃ : H3.IsList H2.objs.size (intItems xs) := ⟨_, hH3 ▸ Heap.get?_push_size _ rfl, rfl, _, rfl⟩
  refine spl_nil (sum_intListG hA hl₃ fun h₄ tk₄ t₄ k₄ => ?_)
  refine add_int (wpAny_Constant_int (mod_int' (by decide) ?_))
  have k04 : ∀ b o, s.heap.get? b = some o → h₄.get? b = some o := fun b o e => k₄ b o (k₃ b o (k₂ b o (k₁ b o e)))
  generalize hN : (c + preSum (numAt xs) xs.size).fmod 288 = N
  have hN0 : 0 ≤ N ∧ N < 288 := by
    rw [← hN, Int.fmod_eq_emod_of_nonneg _ (by decide)]
    omega
  obtain ⟨x, rfl⟩ := Int.eq_ofNat_of_zero_le hN0.1
  refine wpAny_storeName_cell rfl rfl rfl (hx.keeps k04) fun h₅ hc₅ hs₅ => ?_
  exact h h₅ _ x _ (by omega) (fun b o hb e => (hs₅.2 b hb).trans (k04 b o e)) hc₅
end
end Mine
end

-- Law3
section
set_option maxRecDepth 100000
set_option maxHeartbeats 4000000
namespace Mine
open PySem PySem.Calls PySem.W PyProof.Rows PySem.Builtin

noncomputable def letterW (x k : Nat) : List Nat := [if x / 2 ^ k % 2 = 0 then 46 else 47]

section
variable {prog : Program} {w : World} {A : Around} {E : Value → Shared → Prop} {s : Shared} {mg mb : Str → Option Value}

/-- './'[x // 2 ** k % 2] -/
theorem letter_expr {Q : Value → Shared → Prop} {L C x k : Nat} {ux tk : Tok} {m : Str → Option Value} {e : Expr} {en : Env}
    (he : e = (match (forBody 1 (lwSt 5)) with | .Assign _ (.Call _ [.ListComp e _ _ _] _ _) _ => e | _ => .Name "" default))
    (hk : en.scope.kind = .function) (hlk : en.kindOf "k" = some .local) (hlx : en.kindOf "x" = some .cell ∧ en.cells.lookup ("x" : Str) = some (L + 1)) (hC : en.locals = C)
    (hm : s.heap.Ns C m) (hmk : m "k" = some (.int k tk)) (hx : s.heap.IsCell (L + 1) (some (.int x ux))) (hk3 : k < 3)
    (h : ∀ t' h' tk', (∀ b o, s.heap.get? b = some o → h'.get? b = some o) → Q (.str (S (letterW x k)) t') { s with heap := h', toks := tk' }) :
    wpAny (model prog w) A (eval e en) Q E s := by
  subst he hC
  refine Subscript_ (Constant_str ?_)
  refine wpAny_BinOp (wpAny_BinOp (wpAny_Name (wpAny_loadName_cell hk hlx.1 hlx.2 hx ?_)))
  refine wpAny_BinOp (wpAny_Constant_int (wpAny_Name (wpAny_loadName_local hk hlk hm hmk ?_)))
  refine pow_int_small (by omega) (by omega) (by decide) ?_
  have e2 : ((2 : Int) ^ ((k : Int)).toNat) = ((2 ^ k : Nat) : Int) := by simp
  rw [e2]
  have hp : 0 < 2 ^ k := Nat.pos_of_ne_zero (by simp)
  have hp8 : 2 ^ k ≤ 4 := by
    rcases k with _ | _ | _ | k
    · decide
    · decide
    · decide
    · omega
  refine floordiv_int (by omega) ?_ (.inl (PyProof.noPylong_small (by omega)))
  refine wpAny_Constant_int (mod_int' (by decide) ?_)
  have e3 : ((x : Int).fdiv ((2 ^ k : Nat) : Int)).fmod 2 = ((x / 2 ^ k % 2 : Nat) : Int) := by
    rw [Int.fdiv_eq_ediv_of_nonneg _ (by omega), Int.fmod_eq_emod_of_nonneg _ (by decide)]
    omega
  rw [e3]
  refine tailG (typeIs_str _ _ _) F.slot_str_getitem.lookup (P.getItem_str (c := if x / 2 ^ k % 2 = 0 then 46 else 47) ?_ ?_ (h _ _ _ fun b o e => e)) rfl
  · have : x / 2 ^ k % 2 < 2 := Nat.mod_lt _ (by decide)
    simp; omega
  · rcases Nat.mod_two_eq_zero_or_one (x / 2 ^ k) with e | e <;> rw [e] <;> rfl

theorem walks_lt {A : Around} {I : Addr} {fp wr : List Addr} {n : Nat} {P : Nat → Value → Prop} {St : Nat → Heap → Prop} (W : Walks prog w A I fp wr n P St) : Walks prog w A I fp wr n (fun i v => i < n ∧ P i v) St :=
  { sub := W.sub, frame := W.frame, done := W.done, self := W.self, item := fun i s Q E hi st hQ => W.item i s Q E hi st fun v h' tk hP => hQ v h' tk ⟨hi, hP⟩ }

theorem flat_letters (x : Nat) (l : List Nat) : flat ((l.map (letterW x)).map S) = l.map fun k => if x / 2 ^ k % 2 = 0 then 46 else 47 := by
  induction l with
  | nil => rfl
  | cons a r ih => simp only [List.map_cons] at ih ⊢; unfold flat at ih ⊢; simp [letterW, S, Function.comp_def] at ih ⊢; exact ih

theorem letters_strs {x : Nat} : ∀ {vs ys : List Value} (n0 : Nat), Paired (fun (v y : Value) => ∃ k t t', v = .int ((k : Nat) : Int) t ∧ y = .str (S (letterW x k)) t') vs ys → (∀ (j : Nat) (v : Value), vs[j]? = some v → ∃ t, v = Value.int ((n0 + j : Nat) : Int) t) →
    StrsAre ys (((List.range' n0 vs.length).map (letterW x)).map S)
  | _, _, _, .nil, _ => .nil
  | _, _, n0, .cons (a := a) (l₁ := l₁) ⟨k, t, t', e1, e2⟩ r, h => by
    obtain ⟨u, e3⟩ := h 0 a rfl
    have ek : k = n0 := by rw [e1] at e3; simp at e3; omega
    subst ek
    rw [e2, List.length_cons, List.range'_succ]
    refine .cons _ _ (letters_strs (k + 1) r fun j v hv => ?_)
    obtain ⟨t, e⟩ := h (j + 1) v (by simpa using hv)
    exact ⟨t, by rw [e]; congr 1; omega⟩

noncomputable def isLetter (x : Nat) (v y : Value) : Prop := ∃ k t t', v = .int ((k : Nat) : Int) t ∧ y = .str (S (letterW x k)) t'

theorem word_stmt {Q : Flow → Shared → Prop} {L i x : Nat} {m : Str → Option Value} {tt ux : Tok} {st : Stmt} {en : Env} (hst : st = forBody 1 (lwSt 5)) (hen : en = lwEnv L)
    (G : Gr w mg mb s.heap) (hA : A.handled = none) (hm : s.heap.Ns L m) (htu : m "turn" = some (.int i tt)) (hi : i < 3) (hx : s.heap.IsCell (L + 1) (some (.int x ux)))
    (h : ∀ h' tk m' u, (∀ (b : Nat) o, b ≠ L → s.heap.get? b = some o → h'.get? b = some o) → h'.Ns L m' → m' "word" = some (.str (S (wordW (3 - i) x)) u) → (∀ n, n ≠ ("word" : Str) → m' n = m n) → Q .next { s with heap := h', toks := tk }) :
    wpAny (model prog w) A (exec st en) Q E s := by
  have hsl : sizeLine = 16777216 := rfl
  subst hst hen
  refine wpAny_Assign_Name ?_ ?_
  rotate_left
  · rfl
  refine wpAny_Call_method (T := "str") (id := "str.join") rfl rfl rfl F.plainAttrs_str F.slot_str_join F.type_str_join ?_
  refine Constant_str ⟨typeIs_str _ _ _, (fun a e => nomatch e), ?_⟩
  refine cwb (spl_cons ?_)
  have hran := G.built (n := "range") rfl boot_range (by decide +kernel)
  refine wpAny_ListComp_free (fun _ => true) (isLetter x) (cl := [("x", L + 1)]) rfl (by decide +kernel) rfl (by decide +kernel) rfl ?_
  refine wpAny_Call_NameR (Calls.Name_function_global rfl rfl (Calls.loadGlobal_builtin G.g hran.1 G.b hran.2 ?_))
  refine PyProof.Rows.callWith_type1 (spl_cons (wpAny_BinOp (wpAny_Constant_int (wpAny_Name (wpAny_loadName_local rfl rfl hm htu (sub_int ?_))))))
  have e3 : (3 : Int) - (i : Int) = ((3 - i : Nat) : Int) := by omega
  rw [e3]
  refine spl_nil (range_iter (by omega) fun h₁ tk₁ I hI k₁ hit => ?_)
  have G₁ := G.keeps k₁
  refine ⟨I, [I], [I], 3 - i, _, _, rfl, walks_lt (Walks.range hA I 0 1 (3 - i)), by omega, hit, ?_, ⟨?_, ?_⟩, ?_⟩
  · intro b hb
    rw [List.mem_singleton.mp hb]
    exact Heap.lt_size hit
  · intro C j v s₃ m₃ E' hC hP hm₃ hv hk3 ht3
    exact wpAny_tests_nil ⟨rfl, _, _, rfl, fun b o e => e⟩
  · intro C j v s₃ m₃ E' hC hP hp hm₃ hv hk3 ht3
    obtain ⟨hj, t, rfl⟩ := hP
    have k3 : ∀ b o, s.heap.get? b = some o → s₃.heap.get? b = some o := fun b o e => hk3 b o (by
      have hb := ltN (Heap.lt_size e)
      have hI' : @LT.lt Nat _ s.heap.objs.size I := hI
      simp only [List.mem_singleton]
      exact neN (by omega)) (k₁ b o e)
    have ej : (0 : Int) + (j : Int) * 1 = (j : Int) := by omega
    rw [ej] at hv ⊢
    refine letter_expr (L := L) (x := x) (k := j) (e := _) ?_ ?_ ?_ ⟨?_, ?_⟩ ?_ hm₃ hv (hx.keeps k3) (by omega) fun t' h' tk' kp => ⟨⟨j, _, _, rfl, rfl⟩, _, _, rfl, kp⟩
    all_goals rfl
  · intro D h' tk ys vs hD hL hPl hlen hP hF hk'
    have hfil : vs.filter (fun _ => true) = vs := by simp
    rw [hfil] at hF
    have hstr := letters_strs (x := x) 0 hF fun j v hv => by
      obtain ⟨_, t, e⟩ := hP j v hv
      exact ⟨t, by rw [e]; congr 1; omega⟩
    rw [hlen, ← List.range_eq_range'] at hstr
    have hL' : h'.IsList D ys := hL
    refine spl_nil (join_list (s := { s with heap := h', toks := tk }) hL' hstr ?_ ?_)
    · rw [flat_len, flat_letters]
      show _ + _ * 0 ≤ _
      simp; omega
    · intro t' k
      have e0 : Txt.join (Str.ofString "") (((List.range (3 - i)).map (letterW x)).map S) = S (wordW (3 - i) x) := by
        show Str.glued _ _ = _
        rw [StrLaws.glued_eq_join, join_flat _ (by decide +kernel), flat_letters]
        rfl
      rw [e0]
      have k₂ : ∀ b o, s.heap.get? b = some o → h'.get? b = some o := fun b o e => hk' b o (by
        have hb := ltN (Heap.lt_size e)
        have hI' : @LT.lt Nat _ s.heap.objs.size I := hI
        simp only [List.mem_singleton]
        exact neN (by omega)) (k₁ b o e)
      refine wpAny_storeName_local rfl (hm.at fun o e => k₂ L o e) (fun h₅ hm₅ hs₅ => ?_) rfl
      exact h h₅ _ _ t' (fun b o hb e => (hs₅.2 b hb).trans (k₂ b o e)) hm₅ (if_pos rfl) fun n hn => if_neg hn
end
end Mine
end

-- Law4
section
set_option maxRecDepth 100000
set_option maxHeartbeats 4000000
namespace Mine
open PySem PySem.Calls PySem.W PyProof.Rows PySem.Builtin

theorem strsGet {vs : List Value} {ns : List Str} (h : StrsAre vs ns) : ∀ {k : Nat} {y : Str}, ns[k]? = some y → ∃ t, vs[k]? = some (.str y t) := by
  induction h with
  | nil => intro k y hk; simp at hk
  | cons y t _ ih =>
    intro k z hk
    cases k with
    | zero => simp at hk; subst hk; exact ⟨t, by simp⟩
    | succ k =>
      obtain ⟨t, e⟩ := ih (k := k) (y := z) (by simpa using hk)
      exact ⟨t, by simpa using e⟩
theorem S_app (a b : List Nat) : S a ++ S b = S (a ++ b) := by
  show (⟨a.toArray ++ b.toArray⟩ : Str) = ⟨(a ++ b).toArray⟩
  simp
theorem S_len (a : List Nat) : (S a).length = a.length := by
  show a.toArray.size = _
  simp
theorem cut_take (l : List Nat) (c : Nat) (u : Tok) : cut (S l) none (some (c, u)) = S (l.take c) := by
  unfold cut loOf hiOf S
  simp
theorem cut_drop (l : List Nat) (c : Nat) (u : Tok) : cut (S l) (some (c, u)) none = S (l.drop c) := by
  unfold cut loOf hiOf S
  simp
  exact List.take_of_length_le (by simp)
theorem S_beq (a b : List Nat) : (S a == S b) = decide (a = b) := by
  by_cases h : a = b
  · subst h; simp
  · have : S a ≠ S b := fun e => h (by simpa [S] using e)
    simp [h, beq_eq_false_iff_ne.mpr this]

section
variable {prog : Program} {w : World} {A : Around} {E : Value → Shared → Prop} {s : Shared} {mg mb : Str → Option Value}

theorem getList {l : Addr} {vs : List Value} {i : Nat} {v : Value} {u : Tok} {Q : Value → Shared → Prop} (hl : s.heap.IsList l vs.toArray) (hv : vs[i]? = some v) (hz : vs.length ≤ 100000) (h : Q v s) :
    wpAny (model prog w) A (getItem (.ref l) (.int i u)) Q E s := by
  have hlt : i < vs.length := by
    rcases Nat.lt_or_ge i vs.length with h | h
    · exact h
    · rw [List.getElem?_eq_none h] at hv; cases hv
  refine wpAny_getItem_list hl (by omega) (by simp; omega) ?_ h
  have e : ((i : Nat) : Int).toNat = i := by omega
  rw [e]
  simpa using hv

theorem getStr {l : List Nat} {i c : Nat} {t u : Tok} {Q : Value → Shared → Prop} (hi : l[i]? = some c) (hl : l.length ≤ 1000) (h : ∀ t' tk, Q (.str (S [c]) t') { s with toks := tk }) :
    wpAny (model prog w) A (getItem (.str (S l) t) (.int i u)) Q E s := by
  have hlt : i < l.length := by
    rcases Nat.lt_or_ge i l.length with h | h
    · exact h
    · rw [List.getElem?_eq_none h] at hi; cases hi
  refine P.getItem_str (c := c) ?_ ?_ (h _ _)
  · simp; omega
  · have e : seqIndex? (i : Int) (S l).length = some i := by
      unfold seqIndex?
      rw [S_len]
      simp
      omega
    rw [e]
    simpa [S] using hi

theorem place_stmt {Q : Flow → Shared → Prop} {L x : Nat} {m : Str → Option Value} {ux : Tok} {st : Stmt} {en : Env} (hst : st = forBody 2 (lwSt 5)) (hen : en = lwEnv L)
    (hm : s.heap.Ns L m) (hx : s.heap.IsCell (L + 1) (some (.int x ux)))
    (h : ∀ h' tk m' u, (∀ (b : Nat) o, b ≠ L → s.heap.get? b = some o → h'.get? b = some o) → h'.Ns L m' → m' "place" = some (.int (placeW x) u) → (∀ n, n ≠ ("place" : Str) → m' n = m n) → Q .next { s with heap := h', toks := tk }) :
    wpAny (model prog w) A (exec st en) Q E s := by
  subst hst hen
  refine wpAny_Assign_Name ?_ ?_
  rotate_left
  · rfl
  refine wpAny_BinOp (wpAny_BinOp (wpAny_Name (wpAny_loadName_cell rfl rfl rfl hx (wpAny_Constant_int (floordiv_int (by decide) ?_ (.inl (PyProof.noPylong_small (by omega))))))))
  refine wpAny_Constant_int (mod_int' (by decide) ?_)
  have e : ((x : Int).fdiv 8).fmod 3 = ((placeW x : Nat) : Int) := by
    unfold placeW
    rw [Int.fdiv_eq_ediv_of_nonneg _ (by decide), Int.fmod_eq_emod_of_nonneg _ (by decide)]
    omega
  rw [e]
  refine wpAny_storeName_local rfl hm (fun h₅ hm₅ hs₅ => ?_) rfl
  exact h h₅ _ _ _ (fun b o hb e => hs₅.2 b hb ▸ e) hm₅ (if_pos rfl) fun n hn => if_neg hn

/-- typed += word[:place] + hidden[x // 24 % 4] + word[place:] + ends[x // 96] -/
theorem typed_stmt {Q : Flow → Shared → Prop} {L x n hA eA : Nat} {m : Str → Option Value} {ux up uw ut : Tok} {ty : List Nat} {hv ev : List Value} {st : Stmt} {en : Env} (hst : st = forBody 3 (lwSt 5)) (hen : en = lwEnv L)
    (hm : s.heap.Ns L m) (hx : s.heap.IsCell (L + 1) (some (.int x ux))) (hx2 : x < 288) (hwd : m "word" = some (.str (S (wordW n x)) uw)) (hpl : m "place" = some (.int (placeW x) up)) (hty : m "typed" = some (.str (S ty) ut)) (hn : n ≤ 3) (hty0 : ty.length ≤ 1000)
    (hhi : m "hidden" = some (.ref hA)) (hend' : m "ends" = some (.ref eA))
    (hl : s.heap.IsList hA hv.toArray) (hls : StrsAre hv [S [34, 34], S [34, 47, 46, 34], S [34, 92, 34, 34], S [34, 10, 46, 34]])
    (el : s.heap.IsList eA ev.toArray) (els : StrsAre ev [S [10], S [13], S [13, 10]])
    (h : ∀ h' tk m' u, (∀ (b : Nat) o, b ≠ L → s.heap.get? b = some o → h'.get? b = some o) → h'.Ns L m' → m' "typed" = some (.str (S (ty ++ rowW n x)) u) → (∀ n, n ≠ ("typed" : Str) → m' n = m n) → Q .next { s with heap := h', toks := tk }) :
    wpAny (model prog w) A (exec st en) Q E s := by
  have hsl : sizeLine = 16777216 := rfl
  subst hst hen
  have hwl : (wordW n x).length = n := by simp [wordW]
  refine wpAny_AugAssign_Name (wpAny_loadName_local rfl rfl hm hty ?_)
  refine wpAny_BinOp (wpAny_BinOp (wpAny_BinOp ?_))
  refine sub_slice (wpAny_Name (wpAny_loadName_local rfl rfl hm hwd (ep_none (ep_some (wpAny_Name (wpAny_loadName_local rfl rfl hm hpl ?_))))))
  refine ⟨_, _, none, some (placeW x, up), rfl, rfl, rfl, by rw [S_len, hwl]; omega, ?_⟩
  intro h₁ t₁ k₁ kp₁
  have hm₁ := hm.at fun o e => kp₁ L o e
  have hl₁ : h₁.IsList hA hv.toArray := by obtain ⟨o, ho, r⟩ := hl; exact ⟨o, kp₁ hA o ho, r⟩
  refine Subscript_ (wpAny_Name (wpAny_loadName_local rfl rfl hm₁ hhi ?_))
  refine wpAny_BinOp (wpAny_BinOp (wpAny_Name (wpAny_loadName_cell rfl rfl rfl (hx.keeps kp₁) (wpAny_Constant_int (floordiv_int (by decide) ?_ (.inl (PyProof.noPylong_small (by omega))))))))
  refine wpAny_Constant_int (mod_int' (by decide) ?_)
  have e : ((x : Int).fdiv 24).fmod 4 = ((x / 24 % 4 : Nat) : Int) := by
    rw [Int.fdiv_eq_ediv_of_nonneg _ (by decide), Int.fmod_eq_emod_of_nonneg _ (by decide)]
    omega
  rw [e]
  have hhid : ([S [34, 34], S [34, 47, 46, 34], S [34, 92, 34, 34], S [34, 10, 46, 34]] : List Str)[x / 24 % 4]? = some (S (hidW (x / 24 % 4))) := by
    have : x / 24 % 4 < 4 := Nat.mod_lt _ (by decide)
    generalize x / 24 % 4 = j at this
    rcases j with _ | _ | _ | _ | j
    · rfl
    · rfl
    · rfl
    · rfl
    · omega
  have hhl : (hidW (x / 24 % 4)).length ≤ 4 := by
    have : x / 24 % 4 < 4 := Nat.mod_lt _ (by decide)
    generalize x / 24 % 4 = j at this
    rcases j with _ | _ | _ | _ | j
    · decide
    · decide
    · decide
    · decide
    · omega
  obtain ⟨th, hget⟩ := strsGet hls hhid
  refine tailG hl₁.typeIs list_getitem_lookup (getList hl₁ hget (by rw [hls.length]; decide) ?_) rfl
  refine add_strK (by rw [cut_take, S_len, S_len]; simp; omega) fun t₂ k₂ => ?_
  rw [cut_take, S_app]
  refine sub_slice (wpAny_Name (wpAny_loadName_local rfl rfl hm₁ hwd (ep_some (wpAny_Name (wpAny_loadName_local rfl rfl hm₁ hpl (ep_none ?_))))))
  refine ⟨_, _, some (placeW x, up), none, rfl, rfl, rfl, by rw [S_len, hwl]; omega, ?_⟩
  intro h₃ t₃ k₃ kp₃
  dsimp only at kp₃
  have hm₃ := hm₁.at fun o e => kp₃ L o e
  refine add_strK (by rw [cut_drop, S_len, S_len]; simp; omega) fun t₄ k₄ => ?_
  rw [cut_drop, S_app]
  have el₃ : h₃.IsList eA ev.toArray := by obtain ⟨o, ho, r⟩ := el; exact ⟨o, kp₃ eA o (kp₁ eA o ho), r⟩
  refine Subscript_ (wpAny_Name (wpAny_loadName_local rfl rfl hm₃ hend' ?_))
  refine wpAny_BinOp (wpAny_Name (wpAny_loadName_cell rfl rfl rfl ((hx.keeps kp₁).keeps kp₃) (wpAny_Constant_int (floordiv_int (by decide) ?_ (.inl (PyProof.noPylong_small (by omega)))))))
  have e : (x : Int).fdiv 96 = ((x / 96 : Nat) : Int) := by
    rw [Int.fdiv_eq_ediv_of_nonneg _ (by decide)]
    omega
  rw [e]
  have hx96 : x / 96 < 3 := by omega
  have hend : ([S [10], S [13], S [13, 10]] : List Str)[x / 96]? = some (S (endW (x / 96))) ∧ (endW (x / 96)).length ≤ 2 := by
    generalize x / 96 = j at hx96
    rcases j with _ | _ | _ | j
    · exact ⟨rfl, by decide⟩
    · exact ⟨rfl, by decide⟩
    · exact ⟨rfl, by decide⟩
    · omega
  obtain ⟨te, hget⟩ := strsGet els hend.1
  refine tailG el₃.typeIs list_getitem_lookup (getList el₃ hget (by rw [els.length]; decide) ?_) rfl
  have h2 := hend.2
  refine add_strK (by rw [S_len, S_len]; simp; omega) fun t₅ k₅ => ?_
  rw [S_app]
  refine iadd_strK (by rw [S_len, S_len]; simp; omega) fun t₆ k₆ => ?_
  rw [S_app]
  refine wpAny_storeName_local rfl hm₃ (fun h₅ hm₅ hs₅ => ?_) rfl
  exact h h₅ _ _ _ (fun b o hb e => (hs₅.2 b hb).trans (kp₃ b o (kp₁ b o e))) hm₅ (if_pos rfl) fun n hn => if_neg hn

/-- words.append('.' + word if word[0] == '.' and place > 0 else word) -/
theorem append_stmt {Q : Flow → Shared → Prop} {L x n wA : Nat} {m : Str → Option Value} {up uw : Tok} {ws : List (List Nat)} {wv : List Value} {st : Stmt} {en : Env} (hst : st = forBody 4 (lwSt 5)) (hen : en = lwEnv L)
    (hm : s.heap.Ns L m) (hwd : m "word" = some (.str (S (wordW n x)) uw)) (hpl : m "place" = some (.int (placeW x) up)) (hn : n ≤ 3) (hn0 : 0 < n)
    (hwo : m "words" = some (.ref wA)) (hl : PlainL s.heap wA wv.toArray) (hls : StrsAre wv (ws.map S)) (hwl : ws.length ≤ 1000)
    (h : ∀ h' tk wv', Heap.SameBut wA s.heap h' → PlainL h' wA wv'.toArray → StrsAre wv' ((ws ++ [outW n x]).map S) → Q .next { s with heap := h', toks := tk }) :
    wpAny (model prog w) A (exec st en) Q E s := by
  have hsl : sizeLine = 16777216 := rfl
  subst hst hen
  have hwl : (wordW n x).length = n := by simp [wordW]
  refine wpAny_Expr_any (wpAny_Call_append rfl rfl rfl rfl ?_)
  refine wpAny_Name (wpAny_loadName_local rfl rfl hm hwo ⟨wA, wv.toArray, rfl, hl, ?_⟩)
  have fin : ∀ (y : List Nat) (t : Tok) (tk : Tok), y = outW n x → wpAny (model prog w) A (call (.builtin "list.append") [.ref wA, .str (S y) t]) (fun _ => Q .next) E { s with toks := tk } := by
    intro y t tk hy
    subst hy
    refine list_append_plainL hl (fun h₅ hl₅ hs₅ => h h₅ _ (wv ++ [.str (S (outW n x)) t]) hs₅ (by simpa using hl₅) ?_) ?_
    · rw [List.map_append]
      exact hls.append' (.cons _ _ .nil)
    · have := hls.length
      simp at this ⊢; omega
  refine wpAny_IfExp (isTrue_and (wpAny_isTrue_Compare1 ?_))
  have h0 : ∃ c, (wordW n x)[0]? = some c ∧ (wordW n x).getD 0 0 = c := by
    refine ⟨(wordW n x).getD 0 0, ?_, rfl⟩
    have hz : 0 < (wordW n x).length := by omega
    simp [List.getElem?_eq_getElem hz]
  obtain ⟨c, hc, hc'⟩ := h0
  refine Subscript_ (wpAny_Name (wpAny_loadName_local rfl rfl hm hwd (wpAny_Constant_int ?_)))
  refine tailG (typeIs_str _ _ _) F.slot_str_getitem.lookup (getStr (i := 0) hc (by omega) fun t₁ k₁ => ?_) rfl
  refine Constant_str (eq_str (wpAny_truthy_bool ?_))
  have e1 : (S [c] == Str.ofString ".") = decide (c = 46) := by
    rw [show Str.ofString "." = S [46] from by decide +kernel, S_beq]
    simp
  rw [e1]
  by_cases h46 : c = 46
  · rw [decide_eq_true h46, if_pos rfl]
    refine isTrue_and (wpAny_isTrue_Compare1 (wpAny_Name (wpAny_loadName_local rfl rfl hm hpl (wpAny_Constant_int (gt_int (wpAny_truthy_bool ?_))))))
    by_cases hp : 0 < placeW x
    · rw [decide_eq_true (show (0 : Int) < (placeW x : Int) by omega), if_pos rfl]
      refine isTrue_and_nil ?_
      rw [if_pos rfl]
      refine wpAny_BinOp (Constant_str (wpAny_Name (wpAny_loadName_local rfl rfl hm hwd ?_)))
      have e2 : Str.ofString "." = S [46] := by decide +kernel
      rw [e2]
      refine add_strK (by rw [S_len, S_len, hwl]; simp; omega) fun t₂ k₂ => ?_
      rw [S_app]
      refine fin _ _ _ ?_
      unfold outW
      rw [if_pos ⟨by omega, hp⟩]
      rfl
    · rw [decide_eq_false (show ¬ (0 : Int) < (placeW x : Int) by omega), if_neg (by simp)]
      show if false = true then _ else _
      rw [if_neg (by simp)]
      refine wpAny_Name (wpAny_loadName_local rfl rfl hm hwd (fin _ _ _ ?_))
      unfold outW
      rw [if_neg (by omega)]
  · rw [decide_eq_false h46, if_neg (by simp)]
    show if false = true then _ else _
    rw [if_neg (by simp)]
    refine wpAny_Name (wpAny_loadName_local rfl rfl hm hwd (fin _ _ _ ?_))
    unfold outW
    rw [if_neg (by omega)]
end
end Mine
end

-- Law5
section
set_option maxRecDepth 100000
set_option maxHeartbeats 4000000
namespace Mine
open PySem PySem.Calls PySem.W PyProof.Rows PySem.Builtin

noncomputable def iterOf : Stmt → Expr
  | .For _ it _ _ _ => it
  | _ => .Name "" default
noncomputable def testOf : Stmt → Expr
  | .If t _ _ _ => t
  | .While t _ _ _ => t
  | _ => .Name "" default
noncomputable def elseOf : Stmt → List Stmt
  | .If _ _ e _ => e
  | _ => []

noncomputable def rowsL : Nat → List Nat → List Nat
  | _, [] => []
  | n, x :: r => rowW n x ++ rowsL (n - 1) r
noncomputable def outsL : Nat → List Nat → List (List Nat)
  | _, [] => []
  | n, x :: r => outW n x :: outsL (n - 1) r
theorem rowsL_app (x : Nat) : ∀ (n : Nat) (xs : List Nat), rowsL n (xs ++ [x]) = rowsL n xs ++ rowW (n - xs.length) x
  | n, [] => by simp [rowsL]
  | n, y :: r => by
    have e : n - 1 - r.length = n - (r.length + 1) := by omega
    simp only [List.cons_append, rowsL, rowsL_app x (n - 1) r, List.append_assoc, List.length_cons, e]
theorem outsL_app (x : Nat) : ∀ (n : Nat) (xs : List Nat), outsL n (xs ++ [x]) = outsL n xs ++ [outW (n - xs.length) x]
  | n, [] => by simp [outsL]
  | n, y :: r => by
    have e : n - 1 - r.length = n - (r.length + 1) := by omega
    simp only [List.cons_append, outsL, outsL_app x (n - 1) r, List.length_cons, e]
theorem outsL_len : ∀ (n : Nat) (xs : List Nat), (outsL n xs).length = xs.length
  | n, [] => rfl
  | n, y :: r => by simp [outsL, outsL_len (n - 1) r]
theorem wordW_len (n x : Nat) : (wordW n x).length = n := by simp [wordW]
theorem endW_len (j : Nat) : (endW j).length ≤ 2 := by
  rcases j with _ | _ | _ | j <;> simp [endW]
theorem rowW_len (n x : Nat) : (rowW n x).length ≤ n + 6 := by
  have hh : ∀ j, (hidW j).length ≤ 4 := by
    intro j
    rcases j with _ | _ | _ | _ | j <;> simp [hidW]
  have h1 := hh (x / 24 % 4)
  have h2 := endW_len (x / 96)
  simp only [rowW, List.length_append, List.length_take, List.length_drop, wordW_len]
  omega
theorem rowsL_len : ∀ (n : Nat) (xs : List Nat), (rowsL n xs).length ≤ xs.length * (n + 6)
  | n, [] => by simp [rowsL]
  | n, x :: r => by
    have h1 := rowsL_len (n - 1) r
    have h2 := rowW_len n x
    simp only [rowsL, List.length_append, List.length_cons, Nat.add_mul, Nat.one_mul]
    have : r.length * (n - 1 + 6) ≤ r.length * (n + 6) := Nat.mul_le_mul_left _ (by omega)
    omega

section
variable {prog : Program} {w : World} {A : Around} {E : Value → Shared → Prop} {s : Shared} {mg mb : Str → Option Value}

theorem first_turn {Q : Flow → Shared → Prop} {h₀ : Heap} {L dA hA eA wA i : Nat} {m : Str → Option Value} {dv : List Value} {ds : List Int} {tt ut : Tok} {ty : List Nat} {ws : List (List Nat)} {bs : List Stmt} {en : Env} (hbs : bs = bodyOf (lwSt 5)) (hen : en = lwEnv L)
    (G : Gr w mg mb h₀) (hAn : A.handled = none) (la : LA prog w h₀ L dA hA eA wA dv ds ty ws s.heap) (hi : i < 3) (hn : ds.length ≤ 63) (hty0 : ty.length ≤ 900) (hws0 : ws.length ≤ 900)
    (hm : s.heap.Ns L m) (htu : m "turn" = some (.int i tt)) (hdr : m "drawn" = some (.ref dA)) (hhi : m "hidden" = some (.ref hA)) (hend : m "ends" = some (.ref eA)) (hwo : m "words" = some (.ref wA)) (hty : m "typed" = some (.str (S ty) ut))
    (h : ∀ h' tk x, x < 288 → LA prog w h₀ L dA hA eA wA dv ds (ty ++ rowW (3 - i) x) (ws ++ [outW (3 - i) x]) h' → (∀ (b : Nat) o, b ≠ L → b ≠ L + 1 → b ≠ wA → s.heap.get? b = some o → h'.get? b = some o) → Q .next { s with heap := h', toks := tk }) :
    wpAny (model prog w) A (execs bs en) Q E s := by
  subst hbs hen
  obtain ⟨v0, hx0⟩ := la.x
  obtain ⟨hv, hl, hls⟩ := la.hid
  obtain ⟨ev, el, els⟩ := la.ends
  obtain ⟨wv, wl, wls⟩ := la.words
  obtain ⟨lt1, lt2, lt3, lt4, lt5, lt6⟩ := la.lt
  refine wpAny_execs_cons ?_
  refine x_stmt rfl rfl (G.keeps la.keep) hAn hm htu hi hdr la.d.1 la.d.2 hn hx0 ?_
  intro h₁ k₁ x ux hx kp₁ hx₁
  have hm₁ : h₁.Ns L m := hm.at fun o e => kp₁ L o (by omega) e
  have kL : ∀ b o, h₀.get? b = some o → @LT.lt Nat _ b L := fun b o e => Nat.lt_of_lt_of_le (ltN (Heap.lt_size e)) la.old
  have G₁ : Gr w mg mb h₁ := G.keeps fun b o e => kp₁ b o (by have := kL b o e; omega) (la.keep b o e)
  refine wpAny_execs_cons ?_
  refine word_stmt (s := { s with heap := h₁, toks := k₁ }) rfl rfl G₁ hAn hm₁ htu hi hx₁ ?_
  intro h₂ k₂ m₂ u₂ kp₂ hm₂ hwd₂ ho₂
  have hx₂ : h₂.IsCell (L + 1) (some (.int x ux)) := by obtain ⟨o, ho, r⟩ := hx₁; exact ⟨o, kp₂ (L + 1) o (by omega) ho, r⟩
  refine wpAny_execs_cons ?_
  refine place_stmt (s := { s with heap := h₂, toks := k₂ }) rfl rfl hm₂ hx₂ ?_
  intro h₃ k₃ m₃ u₃ kp₃ hm₃ hpl₃ ho₃
  dsimp only at kp₂ kp₃
  have hx₃ : h₃.IsCell (L + 1) (some (.int x ux)) := by obtain ⟨o, ho, r⟩ := hx₂; exact ⟨o, kp₃ (L + 1) o (by omega) ho, r⟩
  have k13 : ∀ (b : Nat) o, b ≠ L → b ≠ L + 1 → s.heap.get? b = some o → h₃.get? b = some o := fun b o hb hb' e => kp₃ b o hb (kp₂ b o hb (kp₁ b o hb' e))
  have hl₃ : h₃.IsList hA hv.toArray := by obtain ⟨o, ho, r⟩ := hl; exact ⟨o, k13 hA o (by omega) (by omega) ho, r⟩
  have el₃ : h₃.IsList eA ev.toArray := by obtain ⟨o, ho, r⟩ := el; exact ⟨o, k13 eA o (by omega) (by omega) ho, r⟩
  refine wpAny_execs_cons ?_
  refine typed_stmt (s := { s with heap := h₃, toks := k₃ }) rfl rfl hm₃ hx₃ hx ((ho₃ _ (by decide +kernel)).trans hwd₂) hpl₃ ((ho₃ _ (by decide +kernel)).trans ((ho₂ _ (by decide +kernel)).trans hty)) (by omega) (by omega)
    ((ho₃ _ (by decide +kernel)).trans ((ho₂ _ (by decide +kernel)).trans hhi)) ((ho₃ _ (by decide +kernel)).trans ((ho₂ _ (by decide +kernel)).trans hend)) hl₃ hls el₃ els ?_
  intro h₄ k₄ m₄ u₄ kp₄ hm₄ hty₄ ho₄
  dsimp only at kp₄
  have k14 : ∀ (b : Nat) o, b ≠ L → b ≠ L + 1 → s.heap.get? b = some o → h₄.get? b = some o := fun b o hb hb' e => kp₄ b o hb (k13 b o hb hb' e)
  have hx₄ : h₄.IsCell (L + 1) (some (.int x ux)) := by obtain ⟨o, ho, r⟩ := hx₃; exact ⟨o, kp₄ (L + 1) o (by omega) ho, r⟩
  have wl₄ : PlainL h₄ wA wv.toArray := by obtain ⟨o, n, ho, r⟩ := wl; exact ⟨o, n, k14 wA o (by omega) (by omega) ho, r⟩
  refine wpAny_execs_cons ?_
  refine append_stmt (s := { s with heap := h₄, toks := k₄ }) (n := 3 - i) (x := x) rfl rfl hm₄ ((ho₄ _ (by decide +kernel)).trans ((ho₃ _ (by decide +kernel)).trans hwd₂)) ((ho₄ _ (by decide +kernel)).trans hpl₃) (by omega) (by omega)
    ((ho₄ _ (by decide +kernel)).trans ((ho₃ _ (by decide +kernel)).trans ((ho₂ _ (by decide +kernel)).trans hwo))) wl₄ wls (by omega) ?_
  intro h₅ k₅ wv' hs₅ wl₅ wls₅
  dsimp only at hs₅
  have k15 : ∀ (b : Nat) o, b ≠ L → b ≠ L + 1 → b ≠ wA → s.heap.get? b = some o → h₅.get? b = some o := fun b o hb hb' hb'' e => (hs₅.2 b hb'').trans (k14 b o hb hb' e)
  refine wpAny_execs_nil (h h₅ k₅ x hx ?_ k15)
  refine ⟨fun b o e => ?_, la.old, ?_, ?_, ⟨?_, la.d.2⟩, ?_, ?_, ⟨wv', wl₅, wls₅⟩, la.lt⟩
  · have := kL b o e
    exact k15 b o (by omega) (by omega) (by omega) (la.keep b o e)
  · refine ⟨m₄, u₄, hm₄.at fun o e => (hs₅.2 L (show @Ne Nat L wA by omega)).trans e, ?_, ?_, ?_, ?_, hty₄⟩
    · exact (ho₄ _ (by decide +kernel)).trans ((ho₃ _ (by decide +kernel)).trans ((ho₂ _ (by decide +kernel)).trans hdr))
    · exact (ho₄ _ (by decide +kernel)).trans ((ho₃ _ (by decide +kernel)).trans ((ho₂ _ (by decide +kernel)).trans hhi))
    · exact (ho₄ _ (by decide +kernel)).trans ((ho₃ _ (by decide +kernel)).trans ((ho₂ _ (by decide +kernel)).trans hend))
    · exact (ho₄ _ (by decide +kernel)).trans ((ho₃ _ (by decide +kernel)).trans ((ho₂ _ (by decide +kernel)).trans hwo))
  · obtain ⟨o, ho, r⟩ := hx₄
    exact ⟨_, o, (hs₅.2 (L + 1) (show @Ne Nat (L + 1) wA by omega)).trans ho, r⟩
  · obtain ⟨o, ho, r⟩ := la.d.1
    exact ⟨o, k15 dA o (by omega) (by omega) (by omega) ho, r⟩
  · obtain ⟨o, ho, r⟩ := hl
    exact ⟨hv, ⟨o, k15 hA o (by omega) (by omega) (by omega) ho, r⟩, hls⟩
  · obtain ⟨o, ho, r⟩ := el
    exact ⟨ev, ⟨o, k15 eA o (by omega) (by omega) (by omega) ho, r⟩, els⟩

theorem first_loop {Q : Flow → Shared → Prop} {h₀ : Heap} {L dA hA eA wA : Nat} {dv : List Value} {ds : List Int} {st : Stmt} {en : Env} (hst : st = lwSt 5) (hen : en = lwEnv L)
    (G : Gr w mg mb h₀) (hAn : A.handled = none) (la : LA prog w h₀ L dA hA eA wA dv ds [46, 13] [] s.heap) (hn : ds.length ≤ 63)
    (hQ : ∀ h' tk x0 x1 x2, x0 < 288 → x1 < 288 → x2 < 288 → LA prog w h₀ L dA hA eA wA dv ds ([46, 13] ++ rowW 3 x0 ++ rowW 2 x1 ++ rowW 1 x2) [outW 3 x0, outW 2 x1, outW 1 x2] h' → Q .next { s with heap := h', toks := tk }) :
    wpAny (model prog w) A (exec st en) Q E s := by
  have G₀ := G.keeps la.keep
  have hran := G₀.built (n := "range") rfl boot_range (by decide +kernel)
  obtain ⟨pn, p, hfor⟩ : ∃ pn p, lwSt 5 = .For (.Name "turn" pn) (iterOf (lwSt 5)) (bodyOf (lwSt 5)) [] p := ⟨_, _, rfl⟩
  rw [hst, hfor, hen]
  refine wpAny_For ?_
  refine wpAny_Call_NameR (Calls.Name_function_global rfl rfl (Calls.loadGlobal_builtin G₀.g hran.1 G₀.b hran.2 ?_))
  refine PyProof.Rows.callWith_type1 (spl_cons (wpAny_Constant_int (spl_nil ?_)))
  refine range_iter (m := 3) (by decide) fun h₁ tk₁ I hI k₁ hit => ?_
  replace hI : @LT.lt Nat _ s.heap.objs.size I := hI
  obtain ⟨lt1, lt2, lt3, lt4, lt5, lt6⟩ := la.lt
  have hw0 : @LT.lt Nat _ wA s.heap.objs.size := by
    obtain ⟨wv, ⟨o, n, ho, _⟩, _⟩ := la.words
    exact ltN (Heap.lt_size ho)
  have W := Walks.range (prog := prog) (w := w) (A := A) hAn I 0 1 3
  -- what is kept: everything at or below wA but L, L+1, wA
  have lift : ∀ {h h' : Heap} {ty ws}, LA prog w h₀ L dA hA eA wA dv ds ty ws h → (∀ (b : Nat) o, b ≠ I → h.get? b = some o → h'.get? b = some o) → LA prog w h₀ L dA hA eA wA dv ds ty ws h' := by
    intro h h' ty ws a k
    refine ⟨fun b o e => ?_, a.old, ?_, ?_, ⟨?_, a.d.2⟩, ?_, ?_, ?_, a.lt⟩
    · have := Nat.lt_of_lt_of_le (ltN (Heap.lt_size e)) a.old
      exact k b o (by omega) (a.keep b o e)
    · obtain ⟨m, t, hm, r⟩ := a.ns
      exact ⟨m, t, hm.at fun o e => k L o (by omega) e, r⟩
    · obtain ⟨v, o, ho, r⟩ := a.x
      exact ⟨v, o, k _ o (by omega) ho, r⟩
    · obtain ⟨o, ho, r⟩ := a.d.1
      exact ⟨o, k _ o (by omega) ho, r⟩
    · obtain ⟨vs, ⟨o, ho, r⟩, q⟩ := a.hid
      exact ⟨vs, ⟨o, k _ o (by omega) ho, r⟩, q⟩
    · obtain ⟨vs, ⟨o, ho, r⟩, q⟩ := a.ends
      exact ⟨vs, ⟨o, k _ o (by omega) ho, r⟩, q⟩
    · obtain ⟨vs, ⟨o, n, ho, r⟩, q⟩ := a.words
      exact ⟨vs, ⟨o, n, k _ o (by omega) ho, r⟩, q⟩
  refine for_walk W (fun i s' => ∃ h tk xs, s' = { s with heap := h, toks := tk } ∧ xs.length = i ∧ (∀ x ∈ xs, x < 288) ∧ LA prog w h₀ L dA hA eA wA dv ds ([46, 13] ++ rowsL 3 xs) (outsL 3 xs) h)
    ⟨h₁, _, [], rfl, rfl, by simp, lift la fun b o _ e => k₁ b o e⟩ hit ?_ ?_
  · rintro i v s₁ h₅ tk₅ hlt ⟨tv, rfl⟩ ⟨h, tk, xs, rfl, hxl, hxs, a⟩ k₅
    have a₅ := lift a fun b o hb e => k₅ b o (by simpa using hb) e
    obtain ⟨m, t, hm₅, hdr, hhi, hend, hwo, hty⟩ := a₅.ns
    have ei : (0 : Int) + (i : Int) * 1 = (i : Int) := by omega
    rw [ei]
    refine wpAny_storeName_local rfl hm₅ (fun h₆ hm₆ hs₆ => ?_) rfl
    dsimp only at hs₆ hm₆ ⊢
    have a₆ : LA prog w h₀ L dA hA eA wA dv ds ([46, 13] ++ rowsL 3 xs) (outsL 3 xs) h₆ := by
      refine ⟨fun b o e => ?_, a₅.old, ⟨_, t, hm₆, ?_, ?_, ?_, ?_, ?_⟩, ?_, ⟨?_, a₅.d.2⟩, ?_, ?_, ?_, a₅.lt⟩
      · have := Nat.lt_of_lt_of_le (ltN (Heap.lt_size e)) a₅.old
        exact (hs₆.2 b (show @Ne Nat b L by omega)).trans (a₅.keep b o e)
      · exact (if_neg (by decide +kernel)).trans hdr
      · exact (if_neg (by decide +kernel)).trans hhi
      · exact (if_neg (by decide +kernel)).trans hend
      · exact (if_neg (by decide +kernel)).trans hwo
      · exact (if_neg (by decide +kernel)).trans hty
      · obtain ⟨v, o, ho, r⟩ := a₅.x
        exact ⟨v, o, (hs₆.2 _ (show @Ne Nat _ L by omega)).trans ho, r⟩
      · obtain ⟨o, ho, r⟩ := a₅.d.1
        exact ⟨o, (hs₆.2 _ (show @Ne Nat _ L by omega)).trans ho, r⟩
      · obtain ⟨vs, ⟨o, ho, r⟩, q⟩ := a₅.hid
        exact ⟨vs, ⟨o, (hs₆.2 _ (show @Ne Nat _ L by omega)).trans ho, r⟩, q⟩
      · obtain ⟨vs, ⟨o, ho, r⟩, q⟩ := a₅.ends
        exact ⟨vs, ⟨o, (hs₆.2 _ (show @Ne Nat _ L by omega)).trans ho, r⟩, q⟩
      · obtain ⟨vs, ⟨o, n, ho, r⟩, q⟩ := a₅.words
        exact ⟨vs, ⟨o, n, (hs₆.2 _ (show @Ne Nat _ L by omega)).trans ho, r⟩, q⟩
    have hrl := rowsL_len 3 xs
    refine first_turn (s := { s with heap := h₆, toks := _ }) (i := i) rfl rfl G hAn a₆ hlt hn (by simp; omega) (by rw [outsL_len]; omega) hm₆ (if_pos rfl) ((if_neg (by decide +kernel)).trans hdr) ((if_neg (by decide +kernel)).trans hhi) ((if_neg (by decide +kernel)).trans hend) ((if_neg (by decide +kernel)).trans hwo) ((if_neg (by decide +kernel)).trans hty) ?_
    intro h₇ tk₇ x hx a₇ k₇
    refine ⟨rfl, ⟨h₇, tk₇, xs ++ [x], rfl, by simp [hxl], ?_, ?_⟩, ?_⟩
    · intro y hy
      rcases List.mem_append.mp hy with hy | hy
      · exact hxs y hy
      · rw [List.mem_singleton.mp hy]; exact hx
    · rw [rowsL_app, outsL_app, hxl, ← List.append_assoc]
      exact a₇
    · intro b hb o e
      rw [List.mem_singleton.mp hb] at e ⊢
      exact k₇ I o (by omega) (by omega) (by omega) ((hs₆.2 I (show @Ne Nat I L by omega)).trans e)
  · rintro s₁ h₅ tk₅ ⟨h, tk, xs, rfl, hxl, hxs, a⟩ k₅
    have a₅ := lift a fun b o hb e => k₅ b o (by simpa using hb) e
    match xs, hxl, hxs, a₅ with
    | [x0, x1, x2], _, hxs, a₅ =>
      refine hQ _ _ x0 x1 x2 (hxs _ (by simp)) (hxs _ (by simp)) (hxs _ (by simp)) ?_
      simpa [rowsL, outsL] using a₅
end
end Mine
end

-- Law6
section
set_option maxRecDepth 100000
set_option maxHeartbeats 4000000
namespace Mine
open PySem PySem.Calls PySem.W PyProof.Rows PySem.Builtin

theorem ofString_dd : Str.ofString ".." = S [46, 46] := by decide +kernel

theorem outW_ok (n x : Nat) : PyData.strOk (S (outW n x)) = true := by
  have hw : ∀ c ∈ wordW n x, c < 0x110000 := by
    intro c hc
    obtain ⟨k, _, rfl⟩ := List.mem_map.mp hc
    split <;> decide
  have ho : ∀ c ∈ outW n x, c < 0x110000 := by
    intro c hc
    unfold outW at hc
    split at hc
    · rcases List.mem_cons.mp hc with rfl | hc
      · decide
      · exact hw c hc
    · exact hw c hc
  simp only [PyData.strOk, S, Array.all_eq_true_iff_forall_mem, decide_eq_true_eq]
  intro c hc
  exact ho c (by simpa using hc)

section
variable {prog : Program} {w : World} {A : Around} {E : Value → Shared → Prop} {s : Shared} {mg mb : Str → Option Value}

/-- if _law_read(typed) != ['..'] + words: return False -/
theorem cmp_stmt {Q : Flow → Shared → Prop} {L wA : Nat} {m : Str → Option Value} {ut : Tok} {ty : List Nat} {ws : List (List Nat)} {wv : List Value} {st : Stmt} {en : Env} (hst : st = lwSt 6) (hen : en = lwEnv L)
    (G : Gr w mg mb s.heap) (hA : A.handled = none) (hroom : A.depth + 2 < recursionLimit) (hu : A.units + 100 < cLine)
    (hm : s.heap.Ns L m) (hty : m "typed" = some (.str (S ty) ut)) (hty0 : ty.length ≤ 1000) (hwo : m "words" = some (.ref wA)) (hl : PlainL s.heap wA wv.toArray) (hls : StrsAre wv (ws.map S)) (hwl : ws.length ≤ 1000)
    (hok : ∀ x ∈ ws, PyData.strOk (S x) = true) (heq : readP ty = [46, 46] :: ws)
    (h : ∀ h' tk gs, (∀ b o, s.heap.get? b = some o → h'.get? b = some o) → (gs = s.gens ∨ gs = s.gens.push .finished) → Q .next { s with heap := h', toks := tk, gens := gs }) :
    wpAny (model prog w) A (exec st en) Q E s := by
  have hsl : sizeLine = 16777216 := rfl
  subst hst hen
  refine wpAny_If (wpAny_isTrue_Compare1 ?_)
  refine wpAny_Call_NameR (Calls.Name_function_global rfl rfl (Calls.loadGlobal_global G.g (G.glob (v := .ref 86) rfl) ?_))
  refine cwf (P := fun h => Gr w mg mb h) (fun h g => by obtain ⟨⟨o, pm, doc, ho, hd⟩, _⟩ := g.f86; exact ⟨o, _, ho, hd⟩) (spl_cons (wpAny_Name (wpAny_loadName_local rfl rfl hm hty (spl_nil ⟨G, ?_⟩))))
  refine read_call G (by show A.depth + 2 < recursionLimit; exact hroom) hA (by simp [S]; omega) fun h₁ tk₁ D vs gs k₁ hgs hD hDl hvs => ?_
  have hm₁ := hm.at fun o e => k₁ L o e
  have hl₁ : h₁.IsList wA wv.toArray := by obtain ⟨o, n, ho, r⟩ := hl; exact PlainL.isList ⟨o, n, k₁ wA o ho, r⟩
  refine wpAny_BinOp (wpAny_List (spl_cons (Constant_str (spl_nil ⟨by show 1 ≤ sizeLine; omega, ?_⟩))))
  dsimp only
  generalize hH2 : h₁.push _ = H2
  have k₂ : ∀ b o, h₁.get? b = some o → H2.get? b = some o := fun b o e => hH2 ▸ Heap.get?_push_of_some _ e
  have hm₂ := hm₁.at fun o e => k₂ L o e
  have hl₂ : H2.IsList wA wv.toArray := by obtain ⟨o, ho, r⟩ := hl₁; exact ⟨o, k₂ wA o ho, r⟩
  have hd₂ : H2.IsList h₁.objs.size [Value.str (Str.ofString "..") tk₁].toArray := ⟨_, hH2 ▸ Heap.get?_push_size _ rfl, rfl, _, rfl⟩
  refine wpAny_Name (wpAny_loadName_local rfl rfl hm₂ hwo ?_)
  have hwl' := hls.length
  refine add_listK hd₂ hl₂ (by rw [hwl']; simp; omega) fun h₃ D₃ _ k₃ hD₃ => ?_
  have hD₂ : h₃.IsList D vs.toArray := by obtain ⟨o, n, ho, r⟩ := hDl; exact PlainL.isList ⟨o, n, k₃ D o (k₂ D o ho), r⟩
  have hsum : StrsAre ([Value.str (Str.ofString "..") tk₁] ++ wv) (([46, 46] :: ws).map S) := by
    rw [ofString_dd]; exact .cons _ _ hls
  have hr : ((readP (S ty).cps.toList).map fun l => (⟨l.toArray⟩ : Str)) = ([46, 46] :: ws).map S := by
    rw [show (S ty).cps.toList = ty from rfl, heq]; rfl
  rw [hr] at hvs
  have hok' : ∀ x ∈ ([46, 46] :: ws).map S, PyData.strOk x = true := by
    intro x hx
    obtain ⟨y, hy, rfl⟩ := List.mem_map.mp hx
    rcases List.mem_cons.mp hy with rfl | hy
    · decide +kernel
    · exact hok y hy
  refine ne_strsK hD₂ hD₃.isList hvs hsum hok' hok' (by omega) (wpAny_truthy_bool ?_)
  rw [if_neg (by simp)]
  exact wpAny_execs_nil (h h₃ _ gs (fun b o e => k₃ b o (k₂ b o (k₁ b o e))) hgs)
end
end Mine
end

-- Law7
section
set_option maxRecDepth 100000
set_option maxHeartbeats 4000000
namespace Mine
open PySem PySem.Calls PySem.W PyProof.Rows PySem.Builtin

section
variable {prog : Program} {w : World} {A : Around} {E : Value → Shared → Prop} {s : Shared} {mg mb : Str → Option Value}

theorem IsListOf {h : Heap} {l : Addr} {a : Array Value} (x : PlainL h l a) : h.IsList l a := x.isList

/-- ends[len(cuts) % 3] -/
theorem ends_expr {Q : Value → Shared → Prop} {L eA cA n : Nat} {m : Str → Option Value} {ev cv : List Value} {p1 p2 p3 p4 p5 p6 p7 : Pos} {e : Expr} {en : Env}
    (he : e = .Subscript (.Name "ends" p1) (.BinOp (.Call (.Name "len" p2) [.Name "cuts" p3] [] p4) .Mod (.Constant (.int 3) 0 p5) p6) p7) (hen : en = lwEnv L)
    (G : Gr w mg mb s.heap) (hm : s.heap.Ns L m) (hme : m "ends" = some (.ref eA)) (hmc : m "cuts" = some (.ref cA))
    (el : s.heap.IsList eA ev.toArray) (els : StrsAre ev [S [10], S [13], S [13, 10]]) (cl : s.heap.IsList cA cv.toArray) (hn : cv.length = n) (hn1 : n ≤ 1000)
    (h : ∀ t tk, Q (.str (S (endW (n % 3))) t) { s with toks := tk }) :
    wpAny (model prog w) A (eval e en) Q E s := by
  have hsl : sizeLine = 16777216 := rfl
  subst he hen
  have hlen := G.built (n := "len") rfl boot_len (by decide +kernel)
  refine Subscript_ (wpAny_Name (wpAny_loadName_local rfl rfl hm hme ?_))
  refine wpAny_BinOp (wpAny_Call_NameR (Calls.Name_function_global rfl rfl (Calls.loadGlobal_builtin G.g hlen.1 G.b hlen.2 ?_)))
  refine cwb (spl_cons (wpAny_Name (wpAny_loadName_local rfl rfl hm hmc (spl_nil ?_))))
  refine call_len_list cl (by simp; omega) ?_
  refine wpAny_Constant_int (mod_int' (by decide) ?_)
  have e3 : ((cv.toArray.size : Int)).fmod 3 = ((n % 3 : Nat) : Int) := by
    rw [Int.fmod_eq_emod_of_nonneg _ (by decide)]
    simp [hn]
  rw [e3]
  have hend : ([S [10], S [13], S [13, 10]] : List Str)[n % 3]? = some (S (endW (n % 3))) := by
    have : n % 3 < 3 := Nat.mod_lt _ (by decide)
    generalize n % 3 = j at this
    rcases j with _ | _ | _ | j
    · rfl
    · rfl
    · rfl
    · omega
  obtain ⟨te, hget⟩ := strsGet els hend
  exact tailG el.typeIs list_getitem_lookup (getList el hget (by rw [els.length]; decide) (h _ _)) rfl

/-- typed += ends[len(cuts) % 3] -/
theorem m_typed {Q : Flow → Shared → Prop} {L eA cA n : Nat} {m : Str → Option Value} {ev cv : List Value} {ty : List Nat} {ut : Tok} {st : Stmt} {en : Env} (hst : st = forBody 0 (lwSt 11)) (hen : en = lwEnv L)
    (G : Gr w mg mb s.heap) (hm : s.heap.Ns L m) (hme : m "ends" = some (.ref eA)) (hmc : m "cuts" = some (.ref cA)) (hty : m "typed" = some (.str (S ty) ut)) (hty0 : ty.length ≤ 1000)
    (el : s.heap.IsList eA ev.toArray) (els : StrsAre ev [S [10], S [13], S [13, 10]]) (cl : s.heap.IsList cA cv.toArray) (hn : cv.length = n) (hn1 : n ≤ 1000)
    (h : ∀ h' tk m' u, Heap.SameBut L s.heap h' → h'.Ns L m' → m' "typed" = some (.str (S (ty ++ endW (n % 3))) u) → (∀ n, n ≠ ("typed" : Str) → m' n = m n) → Q .next { s with heap := h', toks := tk }) :
    wpAny (model prog w) A (exec st en) Q E s := by
  have hsl : sizeLine = 16777216 := rfl
  subst hst hen
  refine wpAny_AugAssign_Name (wpAny_loadName_local rfl rfl hm hty ?_)
  refine ends_expr (L := L) rfl rfl G hm hme hmc el els cl hn hn1 fun t tk => ?_
  have := endW_len (n % 3)
  refine iadd_strK (by rw [S_len, S_len]; omega) fun t₆ k₆ => ?_
  rw [S_app]
  refine wpAny_storeName_local rfl hm (fun h₅ hm₅ hs₅ => ?_) rfl
  exact h h₅ _ _ _ hs₅ hm₅ (if_pos rfl) fun n hn => if_neg hn

/-- cuts.append('') -/
theorem m_cut0 {Q : Flow → Shared → Prop} {L cA : Nat} {m : Str → Option Value} {cs : List (List Nat)} {cv : List Value} {st : Stmt} {en : Env} (hst : st = forBody 1 (lwSt 11)) (hen : en = lwEnv L)
    (hm : s.heap.Ns L m) (hmc : m "cuts" = some (.ref cA)) (cl : PlainL s.heap cA cv.toArray) (cls : StrsAre cv (cs.map S)) (hn1 : cs.length ≤ 1000)
    (h : ∀ h' tk cv', Heap.SameBut cA s.heap h' → PlainL h' cA cv'.toArray → StrsAre cv' ((cs ++ [[]]).map S) → Q .next { s with heap := h', toks := tk }) :
    wpAny (model prog w) A (exec st en) Q E s := by
  have hsl : sizeLine = 16777216 := rfl
  subst hst hen
  refine wpAny_Expr_any (wpAny_Call_append rfl rfl rfl rfl ?_)
  refine wpAny_Name (wpAny_loadName_local rfl rfl hm hmc ⟨cA, cv.toArray, rfl, cl, ?_⟩)
  refine Constant_str ?_
  rw [show Str.ofString "" = S [] from by decide +kernel]
  refine list_append_plainL cl (fun h₅ hl₅ hs₅ => h h₅ _ (cv ++ [.str (S []) _]) hs₅ (by simpa using hl₅) ?_) ?_
  · rw [List.map_append]
    exact cls.append' (.cons _ _ .nil)
  · have := cls.length
    simp at this ⊢; omega

/-- weight *= len(word) + 1 -/
theorem m_weight {Q : Flow → Shared → Prop} {L wt : Nat} {m : Str → Option Value} {wd : List Nat} {uw ut : Tok} {st : Stmt} {en : Env} (hst : st = forBody 3 (lwSt 11)) (hen : en = lwEnv L)
    (G : Gr w mg mb s.heap) (hm : s.heap.Ns L m) (hwd : m "word" = some (.str (S wd) uw)) (hwe : m "weight" = some (.int wt ut)) (hwl : wd.length ≤ 10) (hwt : wt ≤ 1000)
    (h : ∀ h' tk m' u, Heap.SameBut L s.heap h' → h'.Ns L m' → m' "weight" = some (.int ((wt * (wd.length + 1) : Nat) : Int) u) → (∀ n, n ≠ ("weight" : Str) → m' n = m n) → Q .next { s with heap := h', toks := tk }) :
    wpAny (model prog w) A (exec st en) Q E s := by
  have hsl : sizeLine = 16777216 := rfl
  subst hst hen
  have hlen := G.built (n := "len") rfl boot_len (by decide +kernel)
  refine wpAny_AugAssign_Name (wpAny_loadName_local rfl rfl hm hwe ?_)
  refine wpAny_BinOp (wpAny_Call_NameR (Calls.Name_function_global rfl rfl (Calls.loadGlobal_builtin G.g hlen.1 G.b hlen.2 ?_)))
  refine cwb (spl_cons (wpAny_Name (wpAny_loadName_local rfl rfl hm hwd (spl_nil ?_))))
  refine P.len_str (by rw [S_len]; omega) (wpAny_Constant_int (add_int ?_))
  rw [S_len]
  refine imul_int ?_ (.of_right (intBits_le_64 (by omega) (by omega)))
  rw [show (wt : Int) * ((wd.length : Int) + 1) = ((wt * (wd.length + 1) : Nat) : Int) by push_cast; rfl]
  refine wpAny_storeName_local rfl hm (fun h₅ hm₅ hs₅ => ?_) rfl
  exact h h₅ _ _ _ hs₅ hm₅ (if_pos rfl) fun n hn => if_neg hn
end
end Mine
end

-- Law8
section
set_option maxRecDepth 100000
set_option maxHeartbeats 4000000
namespace Mine
open PySem PySem.Calls PySem.W PyProof.Rows PySem.Builtin

noncomputable def KeepBut (L : Nat) (h h' : Heap) : Prop := ∀ (b : Nat) o, b ≠ L → h.get? b = some o → h'.get? b = some o

noncomputable def IsStalk (h : Heap) (Z : Nat) (v : Value) (k : List Nat × Nat × Nat) : Prop :=
  ∃ (T : Nat) (t1 t2 t3 : Tok), v = .ref T ∧ Z < T ∧ h.IsTuple T #[.str (S k.1) t1, .int k.2.1 t2, .int k.2.2 t3]
inductive Stalks (h : Heap) (Z : Nat) : List Value → List (List Nat × Nat × Nat) → Prop
  | nil : Stalks h Z [] []
  | cons {v : Value} {k : List Nat × Nat × Nat} {vs : List Value} {ks : List (List Nat × Nat × Nat)} : IsStalk h Z v k → Stalks h Z vs ks → Stalks h Z (v :: vs) (k :: ks)
theorem Stalks.to {h h' : Heap} {Z : Nat} {vs : List Value} {ks : List (List Nat × Nat × Nat)} (x : Stalks h Z vs ks) (k : ∀ (b : Nat) o, Z < b → h.get? b = some o → h'.get? b = some o) : Stalks h' Z vs ks := by
  induction x with
  | nil => exact .nil
  | cons a _ ih =>
    obtain ⟨T, t1, t2, t3, rfl, hT, ⟨o, ho, r⟩⟩ := a
    exact .cons ⟨T, t1, t2, t3, rfl, hT, ⟨o, k T o hT ho, r⟩⟩ ih
theorem Stalks.snoc {h : Heap} {Z : Nat} {vs : List Value} {ks : List (List Nat × Nat × Nat)} (x : Stalks h Z vs ks) {v : Value} {k : List Nat × Nat × Nat} (a : IsStalk h Z v k) : Stalks h Z (vs ++ [v]) (ks ++ [k]) := by
  induction x with
  | nil => exact .cons a .nil
  | cons b _ ih => exact .cons b ih
theorem Stalks.length {h : Heap} {Z : Nat} {vs : List Value} {ks : List (List Nat × Nat × Nat)} (x : Stalks h Z vs ks) : vs.length = ks.length := by
  induction x with
  | nil => rfl
  | cons _ _ ih => simp [ih]
theorem Stalks.get {h : Heap} {Z : Nat} {vs : List Value} {ks : List (List Nat × Nat × Nat)} (x : Stalks h Z vs ks) : ∀ {i : Nat} {v : Value}, vs[i]? = some v → ∃ k, ks[i]? = some k ∧ IsStalk h Z v k := by
  induction x with
  | nil => intro i v e; simp at e
  | cons a _ ih =>
    intro i v e
    cases i with
    | zero => simp at e; subst e; exact ⟨_, by simp, a⟩
    | succ i =>
      obtain ⟨k, e', r⟩ := ih (i := i) (v := v) (by simpa using e)
      exact ⟨k, by simpa using e', r⟩

/-- the second mail's lists -/
structure LB (hB : Heap) (L cA sA Z : Nat) (cs : List (List Nat)) (ks : List (List Nat × Nat × Nat)) (h : Heap) : Prop where
  keep : KeepBut L hB h
  cuts : ∃ vs, PlainL h cA vs.toArray ∧ StrsAre vs (cs.map S)
  stalks : ∃ vs, PlainL h sA vs.toArray ∧ Stalks h Z vs ks
  lt : L < hB.objs.size ∧ hB.objs.size ≤ cA ∧ cA < sA ∧ sA ≤ Z

theorem LB.to {hB h h' : Heap} {L cA sA Z : Nat} {cs : List (List Nat)} {ks : List (List Nat × Nat × Nat)} (x : LB hB L cA sA Z cs ks h) (k : ∀ (b : Nat) o, b ≠ L → (b < hB.objs.size ∨ cA ≤ b) → h.get? b = some o → h'.get? b = some o) : LB hB L cA sA Z cs ks h' := by
  obtain ⟨kp, ⟨cv, ⟨oc, nc, hc, rc⟩, qc⟩, ⟨sv, ⟨os, ns, hs, rs⟩, qs⟩, l1, l2, l3, l4⟩ := x
  refine ⟨fun b o hb e => k b o hb (.inl (ltN (Heap.lt_size e))) (kp b o hb e), ⟨cv, ⟨oc, nc, k cA oc (by omega) (by omega) hc, rc⟩, qc⟩, ⟨sv, ⟨os, ns, k sA os (by omega) (by omega) hs, rs⟩, qs.to fun b o hb e => k b o (by omega) (by omega) e⟩, l1, l2, l3, l4⟩

/-- the names -/
structure MB (eA wA cA sA : Nat) (ty : List Nat) (wt : Nat) (m : Str → Option Value) : Prop where
  e : m "ends" = some (.ref eA)
  w : m "words" = some (.ref wA)
  c : m "cuts" = some (.ref cA)
  s : m "stalks" = some (.ref sA)
  t : ∃ t, m "typed" = some (.str (S ty) t)
  g : ∃ t, m "weight" = some (.int wt t)

theorem MB.typed {eA wA cA sA : Nat} {ty ty' : List Nat} {wt : Nat} {m m' : Str → Option Value} {u : Tok} (x : MB eA wA cA sA ty wt m) (hty : m' "typed" = some (.str (S ty') u)) (ho : ∀ n, n ≠ ("typed" : Str) → m' n = m n) : MB eA wA cA sA ty' wt m' :=
  ⟨(ho _ (by decide +kernel)).trans x.e, (ho _ (by decide +kernel)).trans x.w, (ho _ (by decide +kernel)).trans x.c, (ho _ (by decide +kernel)).trans x.s, ⟨u, hty⟩, by obtain ⟨t, e⟩ := x.g; exact ⟨t, (ho _ (by decide +kernel)).trans e⟩⟩
theorem MB.weight {eA wA cA sA : Nat} {ty : List Nat} {wt wt' : Nat} {m m' : Str → Option Value} {u : Tok} (x : MB eA wA cA sA ty wt m) (hwt : m' "weight" = some (.int wt' u)) (ho : ∀ n, n ≠ ("weight" : Str) → m' n = m n) : MB eA wA cA sA ty wt' m' :=
  ⟨(ho _ (by decide +kernel)).trans x.e, (ho _ (by decide +kernel)).trans x.w, (ho _ (by decide +kernel)).trans x.c, (ho _ (by decide +kernel)).trans x.s, by obtain ⟨t, e⟩ := x.t; exact ⟨t, (ho _ (by decide +kernel)).trans e⟩, ⟨u, hwt⟩⟩
theorem MB.set {eA wA cA sA : Nat} {ty : List Nat} {wt : Nat} {m : Str → Option Value} {y : Str} {v : Value} (x : MB eA wA cA sA ty wt m) (hy : y = "word" ∨ y = "c") : MB eA wA cA sA ty wt (fun n => if n = y then some v else m n) := by
  have hn : ∀ n : Str, n ≠ "word" → n ≠ "c" → n ≠ y := fun n h1 h2 => by rcases hy with rfl | rfl <;> assumption
  exact ⟨(if_neg (hn _ (by decide +kernel) (by decide +kernel))).trans x.e, (if_neg (hn _ (by decide +kernel) (by decide +kernel))).trans x.w, (if_neg (hn _ (by decide +kernel) (by decide +kernel))).trans x.c, (if_neg (hn _ (by decide +kernel) (by decide +kernel))).trans x.s,
    by obtain ⟨t, e⟩ := x.t; exact ⟨t, (if_neg (hn _ (by decide +kernel) (by decide +kernel))).trans e⟩, by obtain ⟨t, e⟩ := x.g; exact ⟨t, (if_neg (hn _ (by decide +kernel) (by decide +kernel))).trans e⟩⟩

section
variable {prog : Program} {w : World} {A : Around} {E : Value → Shared → Prop} {s : Shared} {mg mb : Str → Option Value}

/-- stalks.append((word, weight, len(cuts))) -/
theorem m_stalk {Q : Flow → Shared → Prop} {L cA sA n wt : Nat} {m : Str → Option Value} {wd : List Nat} {uw ut : Tok} {cv sv : List Value} {st : Stmt} {en : Env} (hst : st = forBody 2 (lwSt 11)) (hen : en = lwEnv L)
    (G : Gr w mg mb s.heap) (hm : s.heap.Ns L m) (hwd : m "word" = some (.str (S wd) uw)) (hwe : m "weight" = some (.int wt ut)) (hmc : m "cuts" = some (.ref cA)) (hms : m "stalks" = some (.ref sA))
    (cl : s.heap.IsList cA cv.toArray) (hn : cv.length = n) (hn1 : n ≤ 1000) (sl : PlainL s.heap sA sv.toArray) (hs1 : sv.length ≤ 1000)
    (h : ∀ h' tk (T : Nat) t3, (∀ (b : Nat) o, b ≠ sA → s.heap.get? b = some o → h'.get? b = some o) → @LE.le Nat _ s.heap.objs.size T → h'.IsTuple T #[.str (S wd) uw, .int wt ut, .int n t3] → PlainL h' sA (sv ++ [Value.ref T]).toArray → Q .next { s with heap := h', toks := tk }) :
    wpAny (model prog w) A (exec st en) Q E s := by
  have hsl : sizeLine = 16777216 := rfl
  subst hst hen
  have hlen := G.built (n := "len") rfl boot_len (by decide +kernel)
  refine wpAny_Expr_any (wpAny_Call_append rfl rfl rfl rfl ?_)
  refine wpAny_Name (wpAny_loadName_local rfl rfl hm hms ⟨sA, sv.toArray, rfl, sl, ?_⟩)
  refine wpAny_Tuple ?_
  refine spl_cons (wpAny_Name (wpAny_loadName_local rfl rfl hm hwd ?_))
  refine spl_cons (wpAny_Name (wpAny_loadName_local rfl rfl hm hwe ?_))
  refine spl_cons (wpAny_Call_NameR (Calls.Name_function_global rfl rfl (Calls.loadGlobal_builtin G.g hlen.1 G.b hlen.2 ?_)))
  refine cwb (spl_cons (wpAny_Name (wpAny_loadName_local rfl rfl hm hmc (spl_nil ?_))))
  refine call_len_list cl (by simp; omega) (spl_nil ⟨by show 3 ≤ sizeLine; omega, ?_⟩)
  dsimp only
  rw [show (cv.toArray.size : Int) = (n : Int) by simp [hn]]
  generalize hH : s.heap.push _ = H1
  have k₁ : ∀ b o, s.heap.get? b = some o → H1.get? b = some o := fun b o e => hH ▸ Heap.get?_push_of_some _ e
  have hT : H1.get? s.heap.objs.size = some _ := hH ▸ Heap.get?_push_size _ rfl
  have hsA : @LT.lt Nat _ sA s.heap.objs.size := by obtain ⟨o, k, ho, _⟩ := sl; exact ltN (Heap.lt_size ho)
  refine list_append_plainL (sl.keeps k₁) (fun h₅ hl₅ hs₅ => h h₅ _ s.heap.objs.size _ (fun b o hb e => (hs₅.2 b hb).trans (k₁ b o e)) (Nat.le_refl _) ⟨_, (hs₅.2 _ (show @Ne Nat _ sA by omega)).trans hT, rfl, _, rfl⟩ (by simpa using hl₅)) ?_
  simp; omega
end
end Mine
end

-- Law9
section
set_option maxRecDepth 100000
set_option maxHeartbeats 4000000
namespace Mine
open PySem PySem.Calls PySem.W PyProof.Rows PySem.Builtin

section
variable {prog : Program} {w : World} {A : Around} {E : Value → Shared → Prop} {s : Shared} {mg mb : Str → Option Value}

noncomputable def inAdd (wd : List Nat) (c n : Nat) : List Nat := wd.take c ++ [34] ++ wd.drop c ++ [34] ++ endW (n % 3)

/-- typed += word[:c] + '"' + word[c:] + '"' + ends[len(cuts) % 3] -/
theorem in_typed {Q : Flow → Shared → Prop} {L eA cA n c : Nat} {m : Str → Option Value} {ev cv : List Value} {ty wd : List Nat} {ut uw uc : Tok} {st : Stmt} {en : Env} (hst : st = forBody 0 (forBody 4 (lwSt 11))) (hen : en = lwEnv L)
    (hG : ∀ h, (∀ b o, s.heap.get? b = some o → h.get? b = some o) → Gr w mg mb h) (hm : s.heap.Ns L m) (hme : m "ends" = some (.ref eA)) (hmc : m "cuts" = some (.ref cA)) (hty : m "typed" = some (.str (S ty) ut)) (hwd : m "word" = some (.str (S wd) uw)) (hc : m "c" = some (.int c uc))
    (hty0 : ty.length ≤ 1000) (hwl : wd.length ≤ 10) (el : s.heap.IsList eA ev.toArray) (els : StrsAre ev [S [10], S [13], S [13, 10]]) (cl : s.heap.IsList cA cv.toArray) (hn : cv.length = n) (hn1 : n ≤ 1000)
    (h : ∀ h' tk m' u, (∀ (b : Nat) o, b ≠ L → s.heap.get? b = some o → h'.get? b = some o) → h'.Ns L m' → m' "typed" = some (.str (S (ty ++ inAdd wd c n)) u) → (∀ n, n ≠ ("typed" : Str) → m' n = m n) → Q .next { s with heap := h', toks := tk }) :
    wpAny (model prog w) A (exec st en) Q E s := by
  have hsl : sizeLine = 16777216 := rfl
  subst hst hen
  have hq : Str.ofString "\"" = S [34] := by decide +kernel
  refine wpAny_AugAssign_Name (wpAny_loadName_local rfl rfl hm hty ?_)
  refine wpAny_BinOp (wpAny_BinOp (wpAny_BinOp (wpAny_BinOp ?_)))
  refine sub_slice (wpAny_Name (wpAny_loadName_local rfl rfl hm hwd (ep_none (ep_some (wpAny_Name (wpAny_loadName_local rfl rfl hm hc ?_))))))
  refine ⟨_, _, none, some (c, uc), rfl, rfl, rfl, by rw [S_len]; omega, ?_⟩
  intro h₁ t₁ k₁ kp₁
  have hm₁ := hm.at fun o e => kp₁ L o e
  rw [cut_take]
  refine Constant_str ?_
  rw [hq]
  refine add_strK (by rw [S_len, S_len]; simp; omega) fun t₂ k₂ => ?_
  rw [S_app]
  refine sub_slice (wpAny_Name (wpAny_loadName_local rfl rfl hm₁ hwd (ep_some (wpAny_Name (wpAny_loadName_local rfl rfl hm₁ hc (ep_none ?_))))))
  refine ⟨_, _, some (c, uc), none, rfl, rfl, rfl, by rw [S_len]; omega, ?_⟩
  intro h₃ t₃ k₃ kp₃
  dsimp only at kp₃
  have hm₃ := hm₁.at fun o e => kp₃ L o e
  rw [cut_drop]
  refine add_strK (by rw [S_len, S_len]; simp; omega) fun t₄ k₄ => ?_
  rw [S_app]
  refine Constant_str ?_
  refine add_strK (by rw [S_len, S_len]; simp; omega) fun t₅ k₅ => ?_
  rw [S_app]
  have k13 : ∀ b o, s.heap.get? b = some o → h₃.get? b = some o := fun b o e => kp₃ b o (kp₁ b o e)
  have el₃ : h₃.IsList eA ev.toArray := by obtain ⟨o, ho, r⟩ := el; exact ⟨o, k13 eA o ho, r⟩
  have cl₃ : h₃.IsList cA cv.toArray := by obtain ⟨o, ho, r⟩ := cl; exact ⟨o, k13 cA o ho, r⟩
  refine ends_expr (L := L) rfl rfl (hG h₃ k13) hm₃ hme hmc el₃ els cl₃ hn hn1 fun t tk => ?_
  have he := endW_len (n % 3)
  refine add_strK (by rw [S_len, S_len]; simp; omega) fun t₆ k₆ => ?_
  rw [S_app]
  refine iadd_strK (by rw [S_len, S_len]; simp; omega) fun t₇ k₇ => ?_
  rw [S_app]
  refine wpAny_storeName_local rfl hm₃ (fun h₅ hm₅ hs₅ => ?_) rfl
  exact h h₅ _ _ _ (fun b o hb e => (hs₅.2 b hb).trans (k13 b o e)) hm₅ (if_pos rfl) fun n hn => if_neg hn

/-- cuts.append(word[:c]) -/
theorem in_cut {Q : Flow → Shared → Prop} {L cA c : Nat} {m : Str → Option Value} {cs : List (List Nat)} {wd : List Nat} {uw uc : Tok} {cv : List Value} {st : Stmt} {en : Env} (hst : st = forBody 1 (forBody 4 (lwSt 11))) (hen : en = lwEnv L)
    (hm : s.heap.Ns L m) (hmc : m "cuts" = some (.ref cA)) (hwd : m "word" = some (.str (S wd) uw)) (hc : m "c" = some (.int c uc)) (hwl : wd.length ≤ 10)
    (cl : PlainL s.heap cA cv.toArray) (cls : StrsAre cv (cs.map S)) (hn1 : cs.length ≤ 1000)
    (h : ∀ h' tk cv', (∀ (b : Nat) o, b ≠ cA → s.heap.get? b = some o → h'.get? b = some o) → PlainL h' cA cv'.toArray → StrsAre cv' ((cs ++ [wd.take c]).map S) → Q .next { s with heap := h', toks := tk }) :
    wpAny (model prog w) A (exec st en) Q E s := by
  have hsl : sizeLine = 16777216 := rfl
  subst hst hen
  refine wpAny_Expr_any (wpAny_Call_append rfl rfl rfl rfl ?_)
  refine wpAny_Name (wpAny_loadName_local rfl rfl hm hmc ⟨cA, cv.toArray, rfl, cl, ?_⟩)
  refine sub_slice (wpAny_Name (wpAny_loadName_local rfl rfl hm hwd (ep_none (ep_some (wpAny_Name (wpAny_loadName_local rfl rfl hm hc ?_))))))
  refine ⟨_, _, none, some (c, uc), rfl, rfl, rfl, by rw [S_len]; omega, ?_⟩
  intro h₁ t₁ k₁ kp₁
  rw [cut_take]
  refine list_append_plainL (cl.keeps kp₁) (fun h₅ hl₅ hs₅ => h h₅ _ (cv ++ [.str (S (wd.take c)) t₁]) (fun b o hb e => (hs₅.2 b hb).trans (kp₁ b o e)) (by simpa using hl₅) ?_) ?_
  · rw [List.map_append]
    exact cls.append' (.cons _ _ .nil)
  · have := cls.length
    simp at this ⊢; omega

/-- one turn of the inner loop -/
theorem in_turn {Q : Flow → Shared → Prop} {hB : Heap} {L eA wA cA sA Z wt c : Nat} {m : Str → Option Value} {ev : List Value} {ty wd : List Nat} {cs : List (List Nat)} {ks : List (List Nat × Nat × Nat)} {uw uc : Tok} {bs : List Stmt} {en : Env} (hbs : bs = bodyOf (forBody 4 (lwSt 11))) (hen : en = lwEnv L)
    (hG : ∀ h, KeepBut L hB h → Gr w mg mb h) (X : LB hB L cA sA Z cs ks s.heap) (heA : eA ≠ L) (el : hB.IsList eA ev.toArray) (els : StrsAre ev [S [10], S [13], S [13, 10]])
    (hm : s.heap.Ns L m) (M : MB eA wA cA sA ty wt m) (hwd : m "word" = some (.str (S wd) uw)) (hc : m "c" = some (.int c uc)) (hty0 : ty.length ≤ 1000) (hwl : wd.length ≤ 10) (hn1 : cs.length ≤ 1000)
    (h : ∀ h' tk m', LB hB L cA sA Z (cs ++ [wd.take c]) ks h' → h'.Ns L m' → MB eA wA cA sA (ty ++ inAdd wd c cs.length) wt m' → m' "word" = some (.str (S wd) uw) → (∀ (b : Nat) o, b ≠ L → b ≠ cA → s.heap.get? b = some o → h'.get? b = some o) → Q .next { s with heap := h', toks := tk }) :
    wpAny (model prog w) A (execs bs en) Q E s := by
  subst hbs hen
  obtain ⟨cv, cl, cls⟩ := X.cuts
  obtain ⟨l1, l2, l3, l4⟩ := X.lt
  obtain ⟨ut, hty⟩ := M.t
  have el₀ : s.heap.IsList eA ev.toArray := by obtain ⟨o, ho, r⟩ := el; exact ⟨o, X.keep eA o heA ho, r⟩
  refine wpAny_execs_cons ?_
  refine in_typed (n := cs.length) rfl rfl (fun h k => hG h fun b o hb e => k b o (X.keep b o hb e)) hm M.e M.c hty hwd hc hty0 hwl el₀ els cl.isList (by have := cls.length; simpa using this) hn1 ?_
  intro h₁ tk₁ m₁ u₁ k₁ hm₁ hty₁ ho₁
  have X₁ := X.to fun b o hb _ e => k₁ b o hb e
  have M₁ := M.typed hty₁ ho₁
  obtain ⟨oc, nc, hoc, rc⟩ := cl
  have cl₁ : PlainL h₁ cA cv.toArray := ⟨oc, nc, k₁ cA oc (by omega) hoc, rc⟩
  refine wpAny_execs_cons ?_
  refine in_cut (s := { s with heap := h₁, toks := tk₁ }) rfl rfl hm₁ M₁.c ((ho₁ _ (by decide +kernel)).trans hwd) ((ho₁ _ (by decide +kernel)).trans hc) hwl cl₁ cls hn1 ?_
  intro h₂ tk₂ cv' k₂ cl₂ cls₂
  dsimp only at k₂
  obtain ⟨sv, ⟨os, ns, hs, rs⟩, qs⟩ := X₁.stalks
  refine wpAny_execs_nil (h h₂ tk₂ m₁ ⟨fun b o hb e => k₂ b o (by have := ltN (Heap.lt_size e); omega) (X₁.keep b o hb e), ⟨cv', cl₂, cls₂⟩, ⟨sv, ⟨os, ns, k₂ sA os (by omega) hs, rs⟩, qs.to fun b o hb e => k₂ b o (by omega) e⟩, l1, l2, l3, l4⟩
    (hm₁.at fun o e => k₂ L o (by omega) e) M₁ ((ho₁ _ (by decide +kernel)).trans hwd) fun b o hb hb' e => k₂ b o hb' (k₁ b o hb e))
end
end Mine
end

-- Law10
section
set_option maxRecDepth 100000
set_option maxHeartbeats 4000000
namespace Mine
open PySem PySem.Calls PySem.W PyProof.Rows PySem.Builtin

noncomputable def mIns (wd : List Nat) (st : MSt) (i : Nat) : MSt := (List.range i).foldl (mIn wd) st
theorem mIns_succ (wd : List Nat) (st : MSt) (i : Nat) : mIns wd st (i + 1) = mIn wd (mIns wd st i) i := by
  unfold mIns; rw [List.range_succ, List.foldl_append]; rfl
theorem mIns_facts (wd : List Nat) (st : MSt) : ∀ i, (mIns wd st i).typed.length ≤ st.typed.length + i * (wd.length + 4) ∧ (mIns wd st i).cuts.length = st.cuts.length + i ∧ (mIns wd st i).stalks = st.stalks ∧ (mIns wd st i).weight = st.weight
  | 0 => ⟨by simp [mIns], rfl, rfl, rfl⟩
  | i + 1 => by
    obtain ⟨h1, h2, h3, h4⟩ := mIns_facts wd st i
    rw [mIns_succ]
    refine ⟨?_, ?_, h3, h4⟩
    · have he := endW_len ((mIns wd st i).cuts.length % 3)
      simp only [mIn, List.length_append, List.length_take, List.length_drop, List.length_cons, List.length_nil, Nat.add_mul, Nat.one_mul]
      omega
    · simp only [mIn, List.length_append, List.length_cons, List.length_nil]
      omega

section
variable {prog : Program} {w : World} {A : Around} {E : Value → Shared → Prop} {s : Shared} {mg mb : Str → Option Value}

theorem in_loop {Q : Flow → Shared → Prop} {hB : Heap} {L eA wA cA sA Z : Nat} {m : Str → Option Value} {ev : List Value} {wd : List Nat} {mt : MSt} {uw : Tok} {st : Stmt} {en : Env} (hst : st = forBody 4 (lwSt 11)) (hen : en = lwEnv L)
    (hG : ∀ h, KeepBut L hB h → Gr w mg mb h) (hAn : A.handled = none) (X : LB hB L cA sA Z mt.cuts mt.stalks s.heap) (heA : eA ≠ L) (el : hB.IsList eA ev.toArray) (els : StrsAre ev [S [10], S [13], S [13, 10]])
    (hm : s.heap.Ns L m) (M : MB eA wA cA sA mt.typed mt.weight m) (hwd : m "word" = some (.str (S wd) uw)) (hty0 : mt.typed.length ≤ 500) (hwl : wd.length ≤ 10) (hn1 : mt.cuts.length ≤ 500)
    (h : ∀ h' tk m', LB hB L cA sA Z (mIns wd mt (wd.length + 1)).cuts (mIns wd mt (wd.length + 1)).stalks h' → h'.Ns L m' → MB eA wA cA sA (mIns wd mt (wd.length + 1)).typed (mIns wd mt (wd.length + 1)).weight m' →
      (∀ (b : Nat) o, b ≠ L → b ≠ cA → s.heap.get? b = some o → h'.get? b = some o) → Q .next { s with heap := h', toks := tk }) :
    wpAny (model prog w) A (exec st en) Q E s := by
  have hsl : sizeLine = 16777216 := rfl
  obtain ⟨l1, l2, l3, l4⟩ := X.lt
  have G₀ := hG s.heap X.keep
  have hran := G₀.built (n := "range") rfl boot_range (by decide +kernel)
  have hlen := G₀.built (n := "len") rfl boot_len (by decide +kernel)
  obtain ⟨pn, p, hfor⟩ : ∃ pn p, forBody 4 (lwSt 11) = .For (.Name "c" pn) (iterOf (forBody 4 (lwSt 11))) (bodyOf (forBody 4 (lwSt 11))) [] p := ⟨_, _, rfl⟩
  rw [hst, hfor, hen]
  refine wpAny_For ?_
  refine wpAny_Call_NameR (Calls.Name_function_global rfl rfl (Calls.loadGlobal_builtin G₀.g hran.1 G₀.b hran.2 ?_))
  refine PyProof.Rows.callWith_type1 (spl_cons (wpAny_BinOp ?_))
  refine wpAny_Call_NameR (Calls.Name_function_global rfl rfl (Calls.loadGlobal_builtin G₀.g hlen.1 G₀.b hlen.2 ?_))
  refine cwb (spl_cons (wpAny_Name (wpAny_loadName_local rfl rfl hm hwd (spl_nil ?_))))
  refine P.len_str (by rw [S_len]; omega) (wpAny_Constant_int (add_int (spl_nil ?_)))
  rw [S_len, show ((wd.length : Int) + 1) = ((wd.length + 1 : Nat) : Int) by push_cast; rfl]
  refine range_iter (m := wd.length + 1) (by omega) fun h₁ tk₁ I hI k₁ hit => ?_
  replace hI : @LT.lt Nat _ s.heap.objs.size I := hI
  have hsA : @LT.lt Nat _ sA s.heap.objs.size := by obtain ⟨sv, ⟨o, n, ho, _⟩, _⟩ := X.stalks; exact ltN (Heap.lt_size ho)
  have W := Walks.range (prog := prog) (w := w) (A := A) hAn I 0 1 (wd.length + 1)
  have mid : ∀ i (h h₅ : Heap), (∀ (b : Nat) o, b ≠ L → b ≠ cA → s.heap.get? b = some o → h.get? b = some o) → (∀ (b : Nat) o, b ≠ I → h.get? b = some o → h₅.get? b = some o) → LB hB L cA sA Z (mIns wd mt i).cuts (mIns wd mt i).stalks h → LB hB L cA sA Z (mIns wd mt i).cuts (mIns wd mt i).stalks h₅ := by
    intro i h h₅ kp k₅ X'
    obtain ⟨f1, f2, f3, f4⟩ := mIns_facts wd mt i
    obtain ⟨kp', ⟨cv, ⟨oc, nc, hc, rc⟩, qc⟩, _, _⟩ := X'
    obtain ⟨sv, ⟨os, ns, hs, rs⟩, qs⟩ := X.stalks
    refine ⟨fun b o hb e => k₅ b o (by have := ltN (Heap.lt_size e); omega) (kp' b o hb e), ⟨cv, ⟨oc, nc, k₅ cA oc (by omega) hc, rc⟩, qc⟩, ⟨sv, ⟨os, ns, k₅ sA os (by omega) (kp sA os (by omega) (by omega) hs), rs⟩, ?_⟩, l1, l2, l3, l4⟩
    rw [f3]
    exact qs.to fun b o hb e => k₅ b o (by have := ltN (Heap.lt_size e); omega) (kp b o (by omega) (by omega) e)
  refine for_walk W (fun i s' => ∃ h tk m, s' = { s with heap := h, toks := tk } ∧ LB hB L cA sA Z (mIns wd mt i).cuts (mIns wd mt i).stalks h ∧ h.Ns L m ∧ MB eA wA cA sA (mIns wd mt i).typed (mIns wd mt i).weight m ∧ m "word" = some (.str (S wd) uw) ∧ (∀ (b : Nat) o, b ≠ L → b ≠ cA → s.heap.get? b = some o → h.get? b = some o))
    ⟨h₁, _, m, rfl, X.to fun b o _ _ e => k₁ b o e, hm.at fun o e => k₁ L o e, M, hwd, fun b o _ _ e => k₁ b o e⟩ hit ?_ ?_
  · rintro i v s₁ h₅ tk₅ hlt ⟨tv, rfl⟩ ⟨h, tk, m, rfl, X, hm, M, hwd, kp⟩ k₅
    obtain ⟨f1, f2, f3, f4⟩ := mIns_facts wd mt i
    have hle : i * (wd.length + 4) ≤ 11 * 14 := Nat.mul_le_mul (by omega) (by omega)
    have hLI : @Ne Nat L I := by omega
    have hcI : @Ne Nat cA I := by omega
    have hsI : @Ne Nat sA I := by omega
    have k₅' : ∀ (b : Nat) o, b ≠ I → h.get? b = some o → h₅.get? b = some o := fun b o hb e => k₅ b o (by simpa using hb) e
    have X₅ : LB hB L cA sA Z (mIns wd mt i).cuts (mIns wd mt i).stalks h₅ := by
      exact mid i h h₅ kp k₅' X
    have hm₅ := hm.at fun o e => k₅' L o hLI e
    have ei : (0 : Int) + (i : Int) * 1 = (i : Int) := by omega
    rw [ei]
    refine wpAny_storeName_local rfl hm₅ (fun h₆ hm₆ hs₆ => ?_) rfl
    dsimp only at hs₆ hm₆ ⊢
    have X₆ := X₅.to fun b o hb _ e => (hs₆.2 b hb).trans e
    refine in_turn (s := { s with heap := h₆, toks := _ }) (c := i) rfl rfl hG X₆ heA el els hm₆ (M.set (.inr rfl)) ((if_neg (by decide +kernel)).trans hwd) (if_pos rfl) (by omega) hwl (by omega) ?_
    intro h₇ tk₇ m₇ X₇ hm₇ M₇ hwd₇ k₇
    dsimp only at k₇
    refine ⟨rfl, ⟨h₇, tk₇, m₇, rfl, ?_, hm₇, ?_, hwd₇, fun b o hb hb' e => ?_⟩, ?_⟩
    · rw [mIns_succ]; exact X₇
    · rw [mIns_succ]; exact M₇
    · exact k₇ b o hb hb' ((hs₆.2 b hb).trans (k₅' b o (by have := ltN (Heap.lt_size e); omega) (kp b o hb hb' e)))
    · intro b hb o e
      rw [List.mem_singleton.mp hb] at e ⊢
      exact k₇ I o (Ne.symm hLI) (Ne.symm hcI) ((hs₆.2 I (Ne.symm hLI)).trans e)
  · rintro s₁ h₅ tk₅ ⟨h₄, tk, m, rfl, X, hm, M, hwd, kp⟩ k₅
    have k₅' : ∀ (b : Nat) o, b ≠ I → h₄.get? b = some o → h₅.get? b = some o := fun b o hb e => k₅ b o (by simpa using hb) e
    exact h h₅ tk₅ m (mid _ h₄ h₅ kp k₅' X) (hm.at fun o e => k₅' L o (by omega) e) M fun b o hb hb' e => k₅' b o (by have := ltN (Heap.lt_size e); omega) (kp b o hb hb' e)
end
end Mine
end

-- Law11
section
set_option maxRecDepth 100000
set_option maxHeartbeats 4000000
namespace Mine
open PySem PySem.Calls PySem.W PyProof.Rows PySem.Builtin

section
variable {prog : Program} {w : World} {A : Around} {E : Value → Shared → Prop} {s : Shared} {mg mb : Str → Option Value}

/-- for_walk with the iterator's own state handed to the turn -/
theorem for_walkS {R : Result → Shared → Prop} {env : Env} {nm : Str} {pn : Pos} {body : List Stmt} {I : Addr} {fp wr : List Addr} {n : Nat} {P : Nat → Value → Prop} {St : Nat → Heap → Prop} (W : Walks prog w A I fp wr n P St)
    (Inv : Nat → Shared → Prop) (h0 : Inv 0 s) (hst : St 0 s.heap)
    (turn : ∀ i v s₁ h' tk, i < n → P i v → St (i + 1) h' → Inv i s₁ → (∀ b o, b ∉ wr → s₁.heap.get? b = some o → h'.get? b = some o) →
      wpAny (model prog w) A (storeName env nm v) (fun _ s₂ => wpAny (model prog w) A (execs body env) (fun f s₃ => f = .next ∧ Inv (i + 1) s₃ ∧ ∀ b ∈ fp, ∀ o, h'.get? b = some o → s₃.heap.get? b = some o) (fun _ _ => False) s₂) (fun _ _ => False) { s₁ with heap := h', toks := tk })
    (done : ∀ s₁ h' tk, Inv n s₁ → (∀ b o, b ∉ wr → s₁.heap.get? b = some o → h'.get? b = some o) → R (.ok .next) { s₁ with heap := h', toks := tk }) :
    codeAny (model prog w) A (.forLoop (.Name nm pn) (.ref I) body [] env) R s := by
  refine codeAny_forLoop_any (fun k s' => ∃ i, i ≤ n ∧ k = n - i ∧ Inv i s' ∧ St i s'.heap) ?_ (n - 0) ⟨0, Nat.zero_le _, rfl, h0, hst⟩
  rintro k s' ⟨i, hi, rfl, hI, hS⟩
  rcases Nat.lt_or_ge i n with hlt | hge
  · refine W.item i s' _ _ hlt hS fun v h' tk hP hS' kp => ?_
    refine wpAny_of_eq (a := ()) rfl ?_
    refine wpAny_assign_Name ?_
    refine wpAny_mono (turn i v s' h' tk hlt hP hS' hI kp) (fun _ s₂ h₂ => wpAny_mono h₂ (fun f s₃ h₃ => ?_) fun _ _ e => e.elim) fun _ _ e => e.elim
    obtain ⟨rfl, hI', hk⟩ := h₃
    exact ⟨n - (i + 1), by omega, i + 1, by omega, rfl, hI', W.frame _ _ _ hS' hk⟩
  · have : i = n := by omega
    subst this
    refine W.done s' _ _ hS fun h' tk kp => ?_
    exact wpAny_execs_nil (done s' h' tk hI kp)

theorem out_turn {Q : Flow → Shared → Prop} {hB : Heap} {L eA wA cA sA Z : Nat} {m : Str → Option Value} {ev : List Value} {wd : List Nat} {mt : MSt} {uw : Tok} {bs : List Stmt} {en : Env} (hbs : bs = bodyOf (lwSt 11)) (hen : en = lwEnv L)
    (hG : ∀ h, KeepBut L hB h → Gr w mg mb h) (hAn : A.handled = none) (X : LB hB L cA sA Z mt.cuts mt.stalks s.heap) (hZ : Z < s.heap.objs.size) (heA : eA ≠ L) (el : hB.IsList eA ev.toArray) (els : StrsAre ev [S [10], S [13], S [13, 10]])
    (hm : s.heap.Ns L m) (M : MB eA wA cA sA mt.typed mt.weight m) (hwd : m "word" = some (.str (S wd) uw)) (hty0 : mt.typed.length ≤ 400) (hwl : wd.length ≤ 10) (hn1 : mt.cuts.length ≤ 400) (hs1 : mt.stalks.length ≤ 400) (hwt : mt.weight ≤ 1000)
    (h : ∀ h' tk m', LB hB L cA sA Z (mOut mt wd).cuts (mOut mt wd).stalks h' → h'.Ns L m' → MB eA wA cA sA (mOut mt wd).typed (mOut mt wd).weight m' →
      (∀ (b : Nat) o, b ≠ L → b ≠ cA → b ≠ sA → s.heap.get? b = some o → h'.get? b = some o) → Q .next { s with heap := h', toks := tk }) :
    wpAny (model prog w) A (execs bs en) Q E s := by
  subst hbs hen
  obtain ⟨l1, l2, l3, l4⟩ := X.lt
  obtain ⟨cv, cl, cls⟩ := X.cuts
  obtain ⟨ut, hty⟩ := M.t
  have el₀ : s.heap.IsList eA ev.toArray := by obtain ⟨o, ho, r⟩ := el; exact ⟨o, X.keep eA o heA ho, r⟩
  refine wpAny_execs_cons ?_
  refine m_typed (n := mt.cuts.length) rfl rfl (hG _ X.keep) hm M.e M.c hty (by omega) el₀ els cl.isList (by have := cls.length; simpa using this) (by omega) ?_
  intro h₁ tk₁ m₁ u₁ hs₁ hm₁ hty₁ ho₁
  have X₁ := X.to fun b o hb _ e => (hs₁.2 b hb).trans e
  have M₁ := M.typed hty₁ ho₁
  have cl₁ : PlainL h₁ cA cv.toArray := by obtain ⟨oc, nc, hoc, rc⟩ := cl; exact ⟨oc, nc, (hs₁.2 cA (show @Ne Nat cA L by omega)).trans hoc, rc⟩
  refine wpAny_execs_cons ?_
  refine m_cut0 (s := { s with heap := h₁, toks := tk₁ }) rfl rfl hm₁ M₁.c cl₁ cls (by omega) ?_
  intro h₂ tk₂ cv₂ hs₂ cl₂ cls₂
  dsimp only at hs₂
  have X₂ : LB hB L cA sA Z (mt.cuts ++ [[]]) mt.stalks h₂ := by
    obtain ⟨sv, ⟨os, ns, hs, rs⟩, qs⟩ := X₁.stalks
    exact ⟨fun b o hb e => (hs₂.2 b (by have := ltN (Heap.lt_size e); show @Ne Nat b cA; omega)).trans (X₁.keep b o hb e), ⟨cv₂, cl₂, cls₂⟩, ⟨sv, ⟨os, ns, (hs₂.2 sA (show @Ne Nat sA cA by omega)).trans hs, rs⟩, qs.to fun b o hb e => (hs₂.2 b (show @Ne Nat b cA by omega)).trans e⟩, l1, l2, l3, l4⟩
  have hm₂ : h₂.Ns L m₁ := hm₁.at fun o e => (hs₂.2 L (show @Ne Nat L cA by omega)).trans e
  obtain ⟨uwt, hwt₁⟩ := M₁.g
  obtain ⟨sv, sl₂, ql₂⟩ := X₂.stalks
  have hcl2 : cv₂.length = mt.cuts.length + 1 := by have := cls₂.length; simpa using this
  have hwd₁ := (ho₁ _ (by decide +kernel)).trans hwd
  refine wpAny_execs_cons ?_
  refine m_stalk (s := { s with heap := h₂, toks := tk₂ }) (n := mt.cuts.length + 1) rfl rfl (hG _ X₂.keep) hm₂ hwd₁ hwt₁ M₁.c M₁.s cl₂.isList hcl2 (by omega) sl₂ (by rw [ql₂.length]; omega) ?_
  intro h₃ tk₃ T t3 k₃ hT hTup sl₃
  dsimp only at k₃ hT
  have z2 : s.heap.objs.size = h₂.objs.size := by rw [hs₂.1, hs₁.1]
  have hZT : @LT.lt Nat _ Z T := by omega
  have X₃ : LB hB L cA sA Z (mt.cuts ++ [[]]) (mt.stalks ++ [(wd, mt.weight, mt.cuts.length + 1)]) h₃ := by
    obtain ⟨oc, nc, hoc, rc⟩ := cl₂
    exact ⟨fun b o hb e => k₃ b o (by have := ltN (Heap.lt_size e); omega) (X₂.keep b o hb e), ⟨cv₂, ⟨oc, nc, k₃ cA oc (by omega) hoc, rc⟩, cls₂⟩, ⟨sv ++ [.ref T], sl₃, (ql₂.to fun b o hb e => k₃ b o (by omega) e).snoc ⟨T, _, _, _, rfl, hZT, hTup⟩⟩, l1, l2, l3, l4⟩
  have hm₃ : h₃.Ns L m₁ := hm₂.at fun o e => k₃ L o (by omega) e
  refine wpAny_execs_cons ?_
  refine m_weight (s := { s with heap := h₃, toks := tk₃ }) rfl rfl (hG _ X₃.keep) hm₃ hwd₁ hwt₁ hwl hwt ?_
  intro h₄ tk₄ m₄ u₄ hs₄ hm₄ hwt₄ ho₄
  dsimp only at hs₄
  have X₄ := X₃.to fun b o hb _ e => (hs₄.2 b hb).trans e
  have M₄ := M₁.weight hwt₄ ho₄
  refine wpAny_execs_cons ?_
  have he := endW_len (mt.cuts.length % 3)
  refine in_loop (s := { s with heap := h₄, toks := tk₄ }) (mt := mHead mt wd) (wd := wd) rfl rfl hG hAn X₄ heA el els hm₄ M₄ ((ho₄ _ (by decide +kernel)).trans hwd₁) (by simp only [mHead, List.length_append]; omega) hwl (by simp [mHead]; omega) ?_
  intro h₅ tk₅ m₅ X₅ hm₅ M₅ k₅
  dsimp only at k₅
  refine wpAny_execs_nil (h h₅ tk₅ m₅ X₅ hm₅ M₅ fun b o hb hb' hb'' e => k₅ b o hb hb' ((hs₄.2 b hb).trans (k₃ b o hb'' ((hs₂.2 b hb').trans ((hs₁.2 b hb).trans e)))))

theorem mOut_facts (st : MSt) (wd : List Nat) (hw : wd.length ≤ 4) : (mOut st wd).typed.length ≤ st.typed.length + 42 ∧ (mOut st wd).cuts.length ≤ st.cuts.length + 6 ∧ (mOut st wd).stalks.length = st.stalks.length + 1 ∧ (mOut st wd).weight ≤ st.weight * 5 := by
  obtain ⟨h1, h2, h3, h4⟩ := mIns_facts wd (mHead st wd) (wd.length + 1)
  have he := endW_len (st.cuts.length % 3)
  have e : mOut st wd = mIns wd (mHead st wd) (wd.length + 1) := rfl
  rw [e, h2, h3, h4]
  have hle : (wd.length + 1) * (wd.length + 4) ≤ 5 * 8 := Nat.mul_le_mul (by omega) (by omega)
  have hle2 : st.weight * (wd.length + 1) ≤ st.weight * 5 := Nat.mul_le_mul_left _ (by omega)
  refine ⟨?_, by simp [mHead]; omega, by simp [mHead], hle2⟩
  have e1 : (mHead st wd).typed.length = st.typed.length + (endW (st.cuts.length % 3)).length := by simp [mHead]
  omega
noncomputable def mUpto (ws : List (List Nat)) (i : Nat) : MSt := (ws.take i).foldl mOut ⟨[], [], [], 1⟩
theorem mUpto_succ {ws : List (List Nat)} {i : Nat} {wd : List Nat} (h : ws[i]? = some wd) : mUpto ws (i + 1) = mOut (mUpto ws i) wd := by
  unfold mUpto; rw [take_snoc h, List.foldl_append]; rfl
theorem mUpto_facts (ws : List (List Nat)) (hw : ∀ wd ∈ ws, wd.length ≤ 4) : ∀ i, i ≤ ws.length → (mUpto ws i).typed.length ≤ i * 42 ∧ (mUpto ws i).cuts.length ≤ i * 6 ∧ (mUpto ws i).stalks.length = i ∧ (mUpto ws i).weight ≤ 5 ^ i
  | 0, _ => by simp [mUpto]
  | i + 1, hi => by
    obtain ⟨h1, h2, h3, h4⟩ := mUpto_facts ws hw i (by omega)
    have hlt : i < ws.length := by omega
    have hget : ws[i]? = some ws[i] := List.getElem?_eq_getElem hlt
    rw [mUpto_succ hget]
    obtain ⟨g1, g2, g3, g4⟩ := mOut_facts (mUpto ws i) ws[i] (hw _ (List.getElem_mem hlt))
    have : (mUpto ws i).weight * 5 ≤ 5 ^ i * 5 := Nat.mul_le_mul_right _ h4
    rw [Nat.pow_succ]
    omega

theorem out_loop {Q : Flow → Shared → Prop} {hB : Heap} {L eA wA cA sA : Nat} {m : Str → Option Value} {ev wv : List Value} {ws : List (List Nat)} {st : Stmt} {en : Env} (hst : st = lwSt 11) (hen : en = lwEnv L)
    (hG : ∀ h, KeepBut L hB h → Gr w mg mb h) (hAn : A.handled = none) (X : LB hB L cA sA sA [] [] s.heap) (heA : eA ≠ L) (el : hB.IsList eA ev.toArray) (els : StrsAre ev [S [10], S [13], S [13, 10]])
    (hwA : wA ≠ L) (wl : hB.IsList wA wv.toArray) (wls : StrsAre wv (ws.map S)) (hw : ∀ wd ∈ ws, wd.length ≤ 4) (hwn : ws.length ≤ 3)
    (hm : s.heap.Ns L m) (M : MB eA wA cA sA [] 1 m)
    (h : ∀ h' tk m' Z, LB hB L cA sA Z (mAll ws).cuts (mAll ws).stalks h' → h'.Ns L m' → MB eA wA cA sA (mAll ws).typed (mAll ws).weight m' → Q .next { s with heap := h', toks := tk }) :
    wpAny (model prog w) A (exec st en) Q E s := by
  have hsl : sizeLine = 16777216 := rfl
  obtain ⟨l1, l2, l3, l4⟩ := X.lt
  obtain ⟨pn, p, hfor⟩ : ∃ pn p, lwSt 11 = .For (.Name "word" pn) (iterOf (lwSt 11)) (bodyOf (lwSt 11)) [] p := ⟨_, _, rfl⟩
  rw [hst, hfor, hen]
  have wl₀ : s.heap.IsList wA wv.toArray := by obtain ⟨o, ho, r⟩ := wl; exact ⟨o, X.keep wA o hwA ho, r⟩
  have hwB : @LT.lt Nat _ wA hB.objs.size := by obtain ⟨o, ho, _⟩ := wl; exact ltN (Heap.lt_size ho)
  have hsA : @LT.lt Nat _ sA s.heap.objs.size := by obtain ⟨sv, ⟨o, n, ho, _⟩, _⟩ := X.stalks; exact ltN (Heap.lt_size ho)
  have hwlen : wv.length = ws.length := by have := wls.length; simpa using this
  refine wpAny_For ?_
  refine wpAny_Name (wpAny_loadName_local rfl rfl hm M.w ?_)
  refine wpAny_pyIter_list wl₀ ?_
  generalize hH1 : s.heap.push _ = H1
  generalize hI : s.heap.objs.size = I at *
  have k₁ : ∀ b o, s.heap.get? b = some o → H1.get? b = some o := fun b o e => hH1 ▸ Heap.get?_push_of_some _ e
  have hit : H1.IsListIter I wA 0 := ⟨_, hI ▸ hH1 ▸ Heap.get?_push_size _ rfl, rfl, rfl⟩
  have zI : @LT.lt Nat _ I H1.objs.size := by rw [← hH1, Heap.size_push, hI]; exact Nat.lt_succ_self _
  have wl₁ : H1.IsList wA wv.toArray := by obtain ⟨o, ho, r⟩ := wl₀; exact ⟨o, k₁ wA o ho, r⟩
  have X₁ : LB hB L cA sA I [] [] H1 := by
    obtain ⟨sv, ⟨os, ns, hs, rs⟩, qs⟩ := X.stalks
    have hsv : sv = [] := by have := qs.length; simpa using this
    subst hsv
    exact ⟨fun b o hb e => k₁ b o (X.keep b o hb e), by obtain ⟨cv, ⟨oc, nc, hc, rc⟩, qc⟩ := X.cuts; exact ⟨cv, ⟨oc, nc, k₁ cA oc hc, rc⟩, qc⟩, ⟨[], ⟨os, ns, k₁ sA os hs, rs⟩, .nil⟩, l1, l2, l3, Nat.le_of_lt hsA⟩
  have W := Walks.list (prog := prog) (w := w) (A := A) hAn I wA (show @Ne Nat wA I by omega) wv.toArray
  have wsz : wv.toArray.size = ws.length := by simp [hwlen]
  have mid : ∀ (cs : List (List Nat)) (ks : List (List Nat × Nat × Nat)) (h h₅ : Heap), (∀ (b : Nat) o, b ≠ I → h.get? b = some o → h₅.get? b = some o) → LB hB L cA sA I cs ks h → LB hB L cA sA I cs ks h₅ := by
    intro cs ks h h₅ k₅ X'
    obtain ⟨kp', ⟨cv, ⟨oc, nc, hc, rc⟩, qc⟩, ⟨sv, ⟨os, ns, hs, rs⟩, qs⟩, _⟩ := X'
    exact ⟨fun b o hb e => k₅ b o (by have := ltN (Heap.lt_size e); omega) (kp' b o hb e), ⟨cv, ⟨oc, nc, k₅ cA oc (by omega) hc, rc⟩, qc⟩, ⟨sv, ⟨os, ns, k₅ sA os (by omega) hs, rs⟩, qs.to fun b o hb e => k₅ b o (by omega) e⟩, l1, l2, l3, Nat.le_of_lt hsA⟩
  refine for_walkS W (fun i s' => ∃ h tk m, s' = { s with heap := h, toks := tk } ∧ LB hB L cA sA I (mUpto ws i).cuts (mUpto ws i).stalks h ∧ h.Ns L m ∧ MB eA wA cA sA (mUpto ws i).typed (mUpto ws i).weight m)
    ⟨H1, _, m, rfl, X₁, hm.at fun o e => k₁ L o e, M⟩ ⟨hit, wl₁⟩ ?_ ?_
  · rintro i v s₁ h₅ tk₅ hlt hP hSt ⟨h, tk, m, rfl, X, hm, M⟩ k₅
    rw [wsz] at hlt
    have hget : ws[i]? = some ws[i] := List.getElem?_eq_getElem hlt
    have hgetS : (ws.map S)[i]? = some (S ws[i]) := by rw [List.getElem?_map, hget]; rfl
    obtain ⟨uw, hv⟩ := strsGet wls hgetS
    have hv' : v = .str (S ws[i]) uw := by
      have : wv.toArray[i]? = some v := hP
      simp only [List.getElem?_toArray] at this
      rw [hv] at this
      exact (Option.some.inj this).symm
    subst hv'
    have hwi := hw _ (List.getElem_mem hlt)
    obtain ⟨f1, f2, f3, f4⟩ := mUpto_facts ws hw i (by omega)
    have f5 : 5 ^ i ≤ 5 ^ 3 := Nat.pow_le_pow_right (by decide) (by omega)
    have k₅' : ∀ (b : Nat) o, b ≠ I → h.get? b = some o → h₅.get? b = some o := fun b o hb e => k₅ b o (by simpa using hb) e
    have hLI : @Ne Nat L I := by omega
    have X₅ := mid _ _ h h₅ k₅' X
    have hm₅ := hm.at fun o e => k₅' L o hLI e
    have zI : @LT.lt Nat _ I h₅.objs.size := by obtain ⟨⟨o, ho, _⟩, _⟩ := hSt; exact ltN (Heap.lt_size ho)
    refine wpAny_storeName_local rfl hm₅ (fun h₆ hm₆ hs₆ => ?_) rfl
    dsimp only at hs₆ hm₆ ⊢
    have X₆ := X₅.to fun b o hb _ e => (hs₆.2 b hb).trans e
    refine out_turn (s := { s with heap := h₆, toks := _ }) (wd := ws[i]) (mt := mUpto ws i) rfl rfl hG hAn X₆ (by rw [hs₆.1]; exact zI) heA el els hm₆ (M.set (.inl rfl)) (if_pos rfl) (by omega) (by omega) (by omega) (by omega) (by omega) ?_
    intro h₇ tk₇ m₇ X₇ hm₇ M₇ k₇
    dsimp only at k₇
    refine ⟨rfl, ⟨h₇, tk₇, m₇, rfl, ?_, hm₇, ?_⟩, ?_⟩
    · rw [mUpto_succ hget]; exact X₇
    · rw [mUpto_succ hget]; exact M₇
    · intro b hb o e
      have hb' : b = I ∨ b = wA := by simpa using hb
      have hbL : @Ne Nat b L := by rcases hb' with rfl | rfl <;> omega
      exact k₇ b o hbL (by rcases hb' with rfl | rfl <;> omega) (by rcases hb' with rfl | rfl <;> omega) ((hs₆.2 b hbL).trans e)
  · rintro s₁ h₅ tk₅ ⟨h₄, tk, m, rfl, X, hm, M⟩ k₅
    have k₅' : ∀ (b : Nat) o, b ≠ I → h₄.get? b = some o → h₅.get? b = some o := fun b o hb e => k₅ b o (by simpa using hb) e
    have e : mUpto ws wv.toArray.size = mAll ws := by rw [wsz]; unfold mUpto mAll; rw [List.take_length]
    rw [e] at X M
    exact h h₅ tk₅ m I (mid _ _ h₄ h₅ k₅' X) (hm.at fun o e => k₅' L o (by omega) e) M
end
end Mine
end

-- Law12
section
set_option maxRecDepth 100000
set_option maxHeartbeats 4000000
namespace Mine
open PySem PySem.Calls PySem.W PyProof.Rows PySem.Builtin

section
variable {prog : Program} {w : World} {A : Around} {E : Value → Shared → Prop} {s : Shared} {mg mb : Str → Option Value}

/-- typed = ''; cuts = []; stalks = []; weight = 1 -/
theorem m_names {Q : Flow → Shared → Prop} {L eA wA : Nat} {m : Str → Option Value} {rest : List Stmt} {en : Env} (hen : en = lwEnv L)
    (hm : s.heap.Ns L m) (hme : m "ends" = some (.ref eA)) (hmw : m "words" = some (.ref wA))
    (h : ∀ h' tk m' cA sA, LB s.heap L cA sA sA [] [] h' → h'.Ns L m' → MB eA wA cA sA [] 1 m' → wpAny (model prog w) A (execs rest en) Q E { s with heap := h', toks := tk }) :
    wpAny (model prog w) A (execs (lwSt 7 :: lwSt 8 :: lwSt 9 :: lwSt 10 :: rest) en) Q E s := by
  have hsl : sizeLine = 16777216 := rfl
  subst hen
  have hL0 : @LT.lt Nat _ L s.heap.objs.size := hm.lt
  refine wpAny_execs_cons ?_
  refine wpAny_Assign_Name ?_ ?_
  rotate_left
  · rfl
  refine Constant_str ?_
  rw [show Str.ofString "" = S [] from by decide +kernel]
  refine wpAny_storeName_local rfl hm (fun h₁ hm₁ hs₁ => ?_) rfl
  dsimp only at hm₁ hs₁ ⊢
  refine wpAny_execs_cons ?_
  refine wpAny_Assign_Name ?_ ?_
  rotate_left
  · rfl
  refine wpAny_List (spl_nil ?_)
  refine ⟨Nat.zero_le _, ?_⟩
  dsimp only
  generalize hH2 : h₁.push _ = H2
  have k₂ : ∀ b o, h₁.get? b = some o → H2.get? b = some o := fun b o e => hH2 ▸ Heap.get?_push_of_some _ e
  have c₂ : PlainL H2 h₁.objs.size ([] : List Value).toArray := ⟨_, 0, hH2 ▸ Heap.get?_push_size _ rfl, rfl, rfl, rfl⟩
  have z2 : H2.objs.size = h₁.objs.size + 1 := by rw [← hH2, Heap.size_push]
  have zc : h₁.objs.size = s.heap.objs.size := hs₁.1
  refine wpAny_storeName_local rfl (hm₁.at fun o e => k₂ L o e) (fun h₃ hm₃ hs₃ => ?_) rfl
  dsimp only at hm₃ hs₃ ⊢
  refine wpAny_execs_cons ?_
  refine wpAny_Assign_Name ?_ ?_
  rotate_left
  · rfl
  refine wpAny_List (spl_nil ?_)
  refine ⟨Nat.zero_le _, ?_⟩
  dsimp only
  generalize hH4 : h₃.push _ = H4
  have k₄ : ∀ b o, h₃.get? b = some o → H4.get? b = some o := fun b o e => hH4 ▸ Heap.get?_push_of_some _ e
  have s₄ : PlainL H4 h₃.objs.size ([] : List Value).toArray := ⟨_, 0, hH4 ▸ Heap.get?_push_size _ rfl, rfl, rfl, rfl⟩
  have zs : h₃.objs.size = s.heap.objs.size + 1 := by rw [hs₃.1, z2, zc]
  generalize hcA : h₁.objs.size = cA at *
  generalize hsA : h₃.objs.size = sA at *
  refine wpAny_storeName_local rfl (hm₃.at fun o e => k₄ L o e) (fun h₅ hm₅ hs₅ => ?_) rfl
  dsimp only at hm₅ hs₅ ⊢
  refine wpAny_execs_cons ?_
  refine wpAny_Assign_Name ?_ ?_
  rotate_left
  · rfl
  refine wpAny_Constant_int (wpAny_storeName_local rfl hm₅ (fun h₆ hm₆ hs₆ => ?_) rfl)
  dsimp only at hm₆ hs₆ ⊢
  have k46 : ∀ (b : Nat) o, b ≠ L → H4.get? b = some o → h₆.get? b = some o := fun b o hb e => (hs₆.2 b hb).trans ((hs₅.2 b hb).trans e)
  have k26 : ∀ (b : Nat) o, b ≠ L → H2.get? b = some o → h₆.get? b = some o := fun b o hb e => k46 b o hb (k₄ b o ((hs₃.2 b hb).trans e))
  refine h h₆ _ _ cA sA ⟨fun b o hb e => k26 b o hb (k₂ b o ((hs₁.2 b hb).trans e)), ?_, ?_, hL0, by omega, by omega, Nat.le_refl _⟩ hm₆ ⟨?_, ?_, ?_, ?_, ?_, ?_⟩
  · obtain ⟨o, n, ho, r⟩ := c₂
    exact ⟨[], ⟨o, n, k26 cA o (show @Ne Nat cA L by omega) ho, r⟩, .nil⟩
  · obtain ⟨o, n, ho, r⟩ := s₄
    exact ⟨[], ⟨o, n, k46 sA o (show @Ne Nat sA L by omega) ho, r⟩, .nil⟩
  · exact (if_neg (by decide +kernel)).trans ((if_neg (by decide +kernel)).trans ((if_neg (by decide +kernel)).trans ((if_neg (by decide +kernel)).trans hme)))
  · exact (if_neg (by decide +kernel)).trans ((if_neg (by decide +kernel)).trans ((if_neg (by decide +kernel)).trans ((if_neg (by decide +kernel)).trans hmw)))
  · exact (if_neg (by decide +kernel)).trans ((if_neg (by decide +kernel)).trans (if_pos rfl))
  · exact (if_neg (by decide +kernel)).trans (if_pos rfl)
  · exact ⟨_, (if_neg (by decide +kernel)).trans ((if_neg (by decide +kernel)).trans ((if_neg (by decide +kernel)).trans (if_pos rfl)))⟩
  · exact ⟨_, if_pos rfl⟩

/-- rows = _law_read(typed) -/
theorem rows_stmt {Q : Flow → Shared → Prop} {L : Nat} {m : Str → Option Value} {ut : Tok} {ty : List Nat} {st : Stmt} {en : Env} (hst : st = lwSt 12) (hen : en = lwEnv L)
    (G : Gr w mg mb s.heap) (hA : A.handled = none) (hroom : A.depth + 2 < recursionLimit) (hm : s.heap.Ns L m) (hty : m "typed" = some (.str (S ty) ut)) (hty0 : ty.length ≤ 1000)
    (h : ∀ h' tk gs m' (D : Nat) vs, KeepBut L s.heap h' → (gs = s.gens ∨ gs = s.gens.push .finished) → @LE.le Nat _ s.heap.objs.size D → PlainL h' D vs.toArray → StrsAre vs ((readP ty).map S) → h'.Ns L m' → m' "rows" = some (.ref D) → (∀ n, n ≠ ("rows" : Str) → m' n = m n) → Q .next { s with heap := h', toks := tk, gens := gs }) :
    wpAny (model prog w) A (exec st en) Q E s := by
  have hsl : sizeLine = 16777216 := rfl
  subst hst hen
  have hL0 : @LT.lt Nat _ L s.heap.objs.size := hm.lt
  refine wpAny_Assign_Name ?_ ?_
  rotate_left
  · rfl
  refine wpAny_Call_NameR (Calls.Name_function_global rfl rfl (Calls.loadGlobal_global G.g (G.glob (v := .ref 86) rfl) ?_))
  refine cwf (P := fun h => Gr w mg mb h) (fun h g => by obtain ⟨⟨o, pm, doc, ho, hd⟩, _⟩ := g.f86; exact ⟨o, _, ho, hd⟩) (spl_cons (wpAny_Name (wpAny_loadName_local rfl rfl hm hty (spl_nil ⟨G, ?_⟩))))
  refine read_call G hroom hA (by simp [S]; omega) fun h₁ tk₁ D vs gs k₁ hgs hD hDl hvs => ?_
  have hD' : @LE.le Nat _ s.heap.objs.size D := hD
  refine wpAny_storeName_local rfl (hm.at fun o e => k₁ L o e) (fun h₂ hm₂ hs₂ => ?_) rfl
  obtain ⟨o, n, ho, r⟩ := hDl
  exact h h₂ _ gs _ D vs (fun b o hb e => (hs₂.2 b hb).trans (k₁ b o e)) hgs hD ⟨o, n, (hs₂.2 D (show @Ne Nat D L by omega)).trans ho, r⟩ hvs hm₂ (if_pos rfl) fun n hn => if_neg hn

/-- if len(rows) != len(cuts): return False -/
theorem lens_stmt {Q : Flow → Shared → Prop} {L rA cA : Nat} {m : Str → Option Value} {rv cv : List Value} {st : Stmt} {en : Env} (hst : st = lwSt 13) (hen : en = lwEnv L)
    (G : Gr w mg mb s.heap) (hm : s.heap.Ns L m) (hmr : m "rows" = some (.ref rA)) (hmc : m "cuts" = some (.ref cA)) (rl : s.heap.IsList rA rv.toArray) (cl : s.heap.IsList cA cv.toArray) (hn : rv.length = cv.length) (hn1 : cv.length ≤ 1000)
    (h : ∀ tk, Q .next { s with toks := tk }) :
    wpAny (model prog w) A (exec st en) Q E s := by
  have hsl : sizeLine = 16777216 := rfl
  subst hst hen
  have hlen := G.built (n := "len") rfl boot_len (by decide +kernel)
  refine wpAny_If (wpAny_isTrue_Compare1 ?_)
  refine wpAny_Call_NameR (Calls.Name_function_global rfl rfl (Calls.loadGlobal_builtin G.g hlen.1 G.b hlen.2 ?_))
  refine cwb (spl_cons (wpAny_Name (wpAny_loadName_local rfl rfl hm hmr (spl_nil ?_))))
  refine call_len_list rl (by simp; omega) ?_
  refine wpAny_Call_NameR (Calls.Name_function_global rfl rfl (Calls.loadGlobal_builtin G.g hlen.1 G.b hlen.2 ?_))
  refine cwb (spl_cons (wpAny_Name (wpAny_loadName_local rfl rfl hm hmc (spl_nil ?_))))
  refine call_len_list cl (by simp; omega) ?_
  refine ne_int (wpAny_truthy_bool ?_)
  rw [if_neg (by simp [hn])]
  exact wpAny_execs_nil (h _)

/-- NAME = [] -/
theorem empty_stmt {Q : Flow → Shared → Prop} {L : Nat} {m : Str → Option Value} {y : Str} {p1 p2 p3 : Pos} {st : Stmt} {en : Env} (hst : st = .Assign [.Name y p1] (.List [] p2) p3) (hen : en = lwEnv L) (hy : en.kindOf y = some .local) (hm : s.heap.Ns L m)
    (h : ∀ h' tk m', KeepBut L s.heap h' → PlainL h' s.heap.objs.size ([] : List Value).toArray → @LT.lt Nat _ s.heap.objs.size h'.objs.size → h'.Ns L m' → m' y = some (.ref s.heap.objs.size) → (∀ n, n ≠ y → m' n = m n) → Q .next { s with heap := h', toks := tk }) :
    wpAny (model prog w) A (exec st en) Q E s := by
  have hsl : sizeLine = 16777216 := rfl
  subst hst hen
  have hL0 : @LT.lt Nat _ L s.heap.objs.size := hm.lt
  refine wpAny_Assign_Name ?_ ?_
  rotate_left
  · rfl
  refine wpAny_List (spl_nil ?_)
  refine ⟨Nat.zero_le _, ?_⟩
  generalize hH2 : s.heap.push _ = H2
  have k₂ : ∀ b o, s.heap.get? b = some o → H2.get? b = some o := fun b o e => hH2 ▸ Heap.get?_push_of_some _ e
  have c₂ : H2.get? s.heap.objs.size = some _ := hH2 ▸ Heap.get?_push_size _ rfl
  have z2 : H2.objs.size = s.heap.objs.size + 1 := by rw [← hH2, Heap.size_push]
  refine wpAny_storeName_local hy (hm.at fun o e => k₂ L o e) (fun h₃ hm₃ hs₃ => ?_) rfl
  refine h h₃ _ _ (fun b o hb e => (hs₃.2 b hb).trans (k₂ b o e)) ⟨_, 0, (hs₃.2 _ (show @Ne Nat _ L by omega)).trans c₂, rfl, rfl, rfl⟩ ?_ hm₃ (if_pos rfl) fun n hn => if_neg hn
  rw [hs₃.1]; show @LT.lt Nat _ _ H2.objs.size; omega
end
end Mine
end

-- Law13
section
set_option maxRecDepth 100000
set_option maxHeartbeats 4000000
namespace Mine
open PySem PySem.Calls PySem.W PyProof.Rows PySem.Builtin

noncomputable def sgnW (c : Nat) : Int := if c = 46 then 1 else -1
noncomputable def isSgn (v y : Value) : Prop := ∃ c u t, v = .str ⟨#[c]⟩ u ∧ y = .int (sgnW c) t

theorem sgn_ints : ∀ {vs ys : List Value} {l : List Nat}, Paired isSgn vs ys → vs.length = l.length → (∀ (j : Nat) (v : Value), vs[j]? = some v → ∃ c u, l[j]? = some c ∧ v = .str ⟨#[c]⟩ u) → IntsAre ys (l.map sgnW)
  | _, _, [], .nil, _, _ => .nil
  | _, _, _ :: _, .nil, h, _ => by simp at h
  | _, _, [], .cons _ _, h, _ => by simp at h
  | _, _, x :: l, .cons (a := a) ⟨c, u, t, e1, e2⟩ r, hl, h => by
    obtain ⟨c', u', e3, e4⟩ := h 0 a rfl
    have ec : c = x := by
      rw [e1] at e4
      simp at e3 e4
      omega
    subst ec
    rw [e2]
    exact .cons _ _ (sgn_ints r (by simpa using hl) fun j v hv => h (j + 1) v (by simpa using hv))

section
variable {prog : Program} {w : World} {A : Around} {E : Value → Shared → Prop} {s : Shared} {mg mb : Str → Option Value}

noncomputable def sgnExpr : Expr := match testOf (forBody 2 (lwSt 15)) with
  | .Compare _ _ [.BinOp _ _ (.ListComp e _ _ _) _] _ => e
  | _ => .Name "" default
noncomputable def keptComp : Expr := match testOf (forBody 2 (lwSt 15)) with
  | .Compare _ _ [.BinOp _ _ r _] _ => r
  | _ => .Name "" default

/-- 1 if sign == '.' else -1 -/
theorem sgn_expr {Q : Value → Shared → Prop} {C c : Nat} {u : Tok} {m : Str → Option Value} {e : Expr} {en : Env} (he : e = sgnExpr)
    (hk : en.scope.kind = .function) (hl : en.kindOf "sign" = some .local) (hC : en.locals = C) (hm : s.heap.Ns C m) (hms : m "sign" = some (.str ⟨#[c]⟩ u))
    (h : ∀ t tk, Q (.int (sgnW c) t) { s with toks := tk }) :
    wpAny (model prog w) A (eval e en) Q E s := by
  subst he hC
  refine wpAny_IfExp (wpAny_isTrue_Compare1 (wpAny_Name (wpAny_loadName_local hk hl hm hms ?_)))
  refine Constant_str (eq_str (wpAny_truthy_bool ?_))
  have e1 : ((⟨#[c]⟩ : Str) == Str.ofString ".") = decide (c = 46) := by
    rw [show Str.ofString "." = S [46] from by decide +kernel, show (⟨#[c]⟩ : Str) = S [c] from rfl, S_beq]
    simp
  rw [e1]
  by_cases h46 : c = 46
  · rw [decide_eq_true h46, if_pos rfl]
    have := h (s.toks + 1) (s.toks + 1 + 1)
    unfold sgnW at this
    rw [if_pos h46] at this
    exact wpAny_Constant_int this
  · rw [decide_eq_false h46, if_neg (by simp)]
    refine wpAny_UnaryOp (wpAny_Constant_int (neg_int ?_))
    have := h (s.toks + 1 + 1) (s.toks + 1 + 1 + 1)
    unfold sgnW at this
    rw [if_neg h46] at this
    exact this

theorem kept_comp {Q : Value → Shared → Prop} {L : Nat} {m : Str → Option Value} {kept : List Nat} {uk : Tok} {e : Expr} {en : Env} (he : e = keptComp) (hen : en = lwEnv L)
    (hA : A.handled = none) (hm : s.heap.Ns L m) (hmk : m "kept" = some (.str (S kept) uk)) (hkl : kept.length ≤ 1000)
    (h : ∀ h' tk D vs, (∀ b o, s.heap.get? b = some o → h'.get? b = some o) → h'.IsList D vs.toArray → IntsAre vs (kept.map sgnW) → Q (.ref D) { s with heap := h', toks := tk }) :
    wpAny (model prog w) A (eval e en) Q E s := by
  have hsl : sizeLine = 16777216 := rfl
  subst he hen
  refine wpAny_ListComp_free (fun _ => true) isSgn (cl := []) rfl (by decide +kernel) rfl (by decide +kernel) rfl ?_
  refine wpAny_Name (wpAny_loadName_local rfl rfl hm hmk ?_)
  refine wpAny_pyIter_str fun o St hW hSt => ?_
  have hsz : (S kept).cps.size = kept.length := by simp [S]
  have hfresh : ∀ (b : Nat) o, s.heap.get? b = some o → @LT.lt Nat _ b s.heap.objs.size := fun b o e => ltN (Heap.lt_size e)
  refine ⟨s.heap.objs.size, [s.heap.objs.size], [s.heap.objs.size], (S kept).cps.size, _, St, rfl, hW A hA, by omega, hSt, ?_, ⟨?_, ?_⟩, ?_⟩
  · intro b hb
    rw [List.mem_singleton.mp hb, Heap.size_push]
    exact Nat.lt_succ_self _
  · intro C j v s₃ m₃ E' hC hP hm₃ hv hk3 ht3
    exact wpAny_tests_nil ⟨rfl, _, _, rfl, fun b o e => e⟩
  · intro C j v s₃ m₃ E' hC hP hp hm₃ hv hk3 ht3
    obtain ⟨c, u, hc, rfl⟩ := hP
    exact sgn_expr (C := C) rfl rfl rfl rfl hm₃ hv fun t tk => ⟨⟨c, u, t, rfl, rfl⟩, _, _, rfl, fun b o e => e⟩
  · intro D h' tk ys vs hD hL hPl hlen hP hF hk'
    have hfil : vs.filter (fun _ => true) = vs := by simp
    rw [hfil] at hF
    refine h h' tk D ys.toList (fun b o e => hk' b o ?_ (Heap.get?_push_of_some _ e)) (by simpa using hL) (sgn_ints hF (by omega) ?_)
    · have := hfresh b o e
      simp only [List.mem_singleton]
      exact neN (by omega)
    · intro j v hv
      obtain ⟨c, u, hc, rfl⟩ := hP j v hv
      exact ⟨c, u, by simpa [S] using hc, rfl⟩
end
end Mine
end

-- Law14
section
set_option maxRecDepth 100000
set_option maxHeartbeats 4000000
namespace Mine
open PySem PySem.Calls PySem.W PyProof.Rows PySem.Builtin

theorem IsL.isList' {h : Heap} {l : Addr} {a : Array Value} (x : ∃ n, IsL h l a n) : h.IsList l a := by
  obtain ⟨n, hx⟩ := x
  exact ⟨_, hx, rfl, _, rfl⟩

theorem moreP_le (kept : List Nat) : moreP kept ≤ 1 := by unfold moreP; split <;> omega

section
variable {prog : Program} {w : World} {A : Around} {E : Value → Shared → Prop} {s : Shared} {mg mb : Str → Option Value}

/-- signs = _law_signs(row) -/
theorem z_signs {Q : Flow → Shared → Prop} {L : Nat} {m : Str → Option Value} {row : List Nat} {ur : Tok} {st : Stmt} {en : Env} (hst : st = forBody 0 (lwSt 15)) (hen : en = lwEnv L)
    (G : Gr w mg mb s.heap) (hA : A.handled = none) (hroom : A.depth + 2 < recursionLimit) (hm : s.heap.Ns L m) (hmr : m "row" = some (.str (S row) ur)) (hd : dsB row = true) (hl : row.length ≤ 100)
    (h : ∀ h' tk m' (gA : Nat) gv, KeepBut L s.heap h' → @LE.le Nat _ s.heap.objs.size gA → h'.IsList gA gv.toArray → IntsAre gv (signsP row) → h'.Ns L m' → m' "signs" = some (.ref gA) → (∀ n, n ≠ ("signs" : Str) → m' n = m n) → Q .next { s with heap := h', toks := tk }) :
    wpAny (model prog w) A (exec st en) Q E s := by
  subst hst hen
  have hL0 : @LT.lt Nat _ L s.heap.objs.size := hm.lt
  refine wpAny_Assign_Name ?_ ?_
  rotate_left
  · rfl
  refine wpAny_Call_NameR (Calls.Name_function_global rfl rfl (Calls.loadGlobal_global G.g (G.glob (v := .ref 91) rfl) ?_))
  refine cwf (P := fun h => Gr w mg mb h) (fun h g => by obtain ⟨⟨o, pm, doc, ho, hd⟩, _⟩ := g.f91; exact ⟨o, _, ho, hd⟩) (spl_cons (wpAny_Name (wpAny_loadName_local rfl rfl hm hmr (spl_nil ⟨G, ?_⟩))))
  have hds : DS (S row).cps.toList := by
    intro c hc
    have hc' : c ∈ row := by simpa [S] using hc
    unfold dsB at hd
    rw [List.all_eq_true] at hd
    have := hd c hc'
    simpa using this
  refine signs_call G (by omega) hA hds (by simp [S]; omega) fun h₁ tk₁ gA gv k₁ hg hgl hgi => ?_
  have hg' : @LE.le Nat _ s.heap.objs.size gA := hg
  refine wpAny_storeName_local rfl (hm.at fun o e => k₁ L o e) (fun h₂ hm₂ hs₂ => ?_) rfl
  obtain ⟨o, ho, r⟩ := IsL.isList' hgl
  exact h h₂ _ _ gA gv (fun b o hb e => (hs₂.2 b hb).trans (k₁ b o e)) hg' ⟨o, (hs₂.2 gA (show @Ne Nat gA L by omega)).trans ho, r⟩ (by simpa [S] using hgi) hm₂ (if_pos rfl) fun n hn => if_neg hn

/-- more = 1 if kept[:1] == '.' else 0 -/
theorem z_more {Q : Flow → Shared → Prop} {L : Nat} {m : Str → Option Value} {kept : List Nat} {uk : Tok} {st : Stmt} {en : Env} (hst : st = forBody 1 (lwSt 15)) (hen : en = lwEnv L)
    (hm : s.heap.Ns L m) (hmk : m "kept" = some (.str (S kept) uk)) (hkl : kept.length ≤ 1000)
    (h : ∀ h' tk m' u, KeepBut L s.heap h' → h'.Ns L m' → m' "more" = some (.int (moreP kept) u) → (∀ n, n ≠ ("more" : Str) → m' n = m n) → Q .next { s with heap := h', toks := tk }) :
    wpAny (model prog w) A (exec st en) Q E s := by
  have hsl : sizeLine = 16777216 := rfl
  subst hst hen
  refine wpAny_Assign_Name ?_ ?_
  rotate_left
  · rfl
  refine wpAny_IfExp (wpAny_isTrue_Compare1 ?_)
  refine sub_slice (wpAny_Name (wpAny_loadName_local rfl rfl hm hmk (ep_none (ep_some (wpAny_Constant_int ?_)))))
  refine ⟨_, _, none, some (1, _), rfl, rfl, rfl, by rw [S_len]; omega, ?_⟩
  intro h₁ t₁ k₁ kp₁
  dsimp only at kp₁
  rw [cut_take]
  refine Constant_str ?_
  rw [show Str.ofString "." = S [46] from by decide +kernel]
  refine eq_str (wpAny_truthy_bool ?_)
  rw [S_beq]
  have hm₁ := hm.at fun o e => kp₁ L o e
  by_cases hc : kept.take 1 = [46]
  · rw [decide_eq_true hc, if_pos rfl]
    refine wpAny_Constant_int (wpAny_storeName_local rfl hm₁ (fun h₂ hm₂ hs₂ => ?_) rfl)
    have em : ((moreP kept : Nat) : Int) = 1 := by unfold moreP; rw [if_pos hc]; rfl
    rw [em] at h
    exact h h₂ _ _ _ (fun b o hb e => (hs₂.2 b hb).trans (kp₁ b o e)) hm₂ (if_pos rfl) fun n hn => if_neg hn
  · rw [decide_eq_false hc, if_neg (by simp)]
    refine wpAny_Constant_int (wpAny_storeName_local rfl hm₁ (fun h₂ hm₂ hs₂ => ?_) rfl)
    have em : ((moreP kept : Nat) : Int) = 0 := by unfold moreP; rw [if_neg hc]; rfl
    rw [em] at h
    exact h h₂ _ _ _ (fun b o hb e => (hs₂.2 b hb).trans (kp₁ b o e)) hm₂ (if_pos rfl) fun n hn => if_neg hn

/-- if signs != [1] * more + [...]: return False -/
theorem z_if {Q : Flow → Shared → Prop} {L gA : Nat} {m : Str → Option Value} {kept : List Nat} {ns : List Int} {gv : List Value} {uk um : Tok} {st : Stmt} {en : Env} (hst : st = forBody 2 (lwSt 15)) (hen : en = lwEnv L)
    (hA : A.handled = none) (hu : A.units + 100 < cLine) (hm : s.heap.Ns L m) (hmk : m "kept" = some (.str (S kept) uk)) (hkl : kept.length ≤ 1000) (hmm : m "more" = some (.int (moreP kept) um)) (hmg : m "signs" = some (.ref gA))
    (gl : s.heap.IsList gA gv.toArray) (gi : IntsAre gv ns) (heq : ns = wantP kept)
    (h : ∀ h' tk, (∀ b o, s.heap.get? b = some o → h'.get? b = some o) → Q .next { s with heap := h', toks := tk }) :
    wpAny (model prog w) A (exec st en) Q E s := by
  have hsl : sizeLine = 16777216 := rfl
  subst hst hen
  have hml := moreP_le kept
  refine wpAny_If (wpAny_isTrue_Compare1 ?_)
  refine wpAny_Name (wpAny_loadName_local rfl rfl hm hmg ?_)
  refine wpAny_BinOp (wpAny_BinOp (wpAny_List (spl_cons (wpAny_Constant_int (spl_nil ⟨by show 1 ≤ sizeLine; omega, ?_⟩)))))
  dsimp only
  generalize hH1 : s.heap.push _ = H1
  have k₁ : ∀ b o, s.heap.get? b = some o → H1.get? b = some o := fun b o e => hH1 ▸ Heap.get?_push_of_some _ e
  have hm₁ := hm.at fun o e => k₁ L o e
  have hl₁ : H1.IsList s.heap.objs.size [Value.int 1 s.toks].toArray := ⟨_, hH1 ▸ Heap.get?_push_size _ rfl, rfl, _, rfl⟩
  refine wpAny_Name (wpAny_loadName_local rfl rfl hm₁ hmm ?_)
  refine mul_listK hl₁ (by omega) (by omega) (by simp) fun h₂ k₂ hl₂ => ?_
  dsimp only at k₂ hl₂
  have hm₂ := hm₁.at fun o e => k₂ L o e
  have hi₂ : IntsAre (List.replicate (moreP kept : Int).toNat [Value.int 1 s.toks]).flatten (List.replicate (moreP kept) 1) := by
    have := intsRep (.cons 1 s.toks .nil) (moreP kept)
    rw [show ((moreP kept : Nat) : Int).toNat = moreP kept by omega]
    have e : (List.replicate (moreP kept) [(1 : Int)]).flatten = List.replicate (moreP kept) 1 := by
      generalize moreP kept = j
      induction j with
      | zero => rfl
      | succ j ih => rw [List.replicate_succ, List.flatten_cons, ih, List.replicate_succ]; rfl
    rw [e] at this
    exact this
  refine kept_comp (s := { s with heap := h₂, toks := _ }) (kept := kept) rfl rfl hA hm₂ hmk hkl fun h₃ tk₃ D vs k₃ hD hDi => ?_
  dsimp only at k₃
  have hl₃ : h₃.IsList H1.objs.size (List.replicate (moreP kept : Int).toNat [Value.int 1 s.toks]).flatten.toArray := by
    obtain ⟨o, n, ho, r⟩ := hl₂
    exact PlainL.isList ⟨o, n, k₃ _ o ho, r⟩
  refine add_listK hl₃ hD ?_ fun h₄ D₄ _ k₄ hD₄ => ?_
  · rw [hi₂.length, hDi.length]; simp; omega
  dsimp only at k₄
  have k04 : ∀ b o, s.heap.get? b = some o → h₄.get? b = some o := fun b o e => k₄ b o (k₃ b o (k₂ b o (k₁ b o e)))
  have gl₄ : h₄.IsList gA gv.toArray := by obtain ⟨o, ho, r⟩ := gl; exact ⟨o, k04 gA o ho, r⟩
  refine ke_ne_ints gl₄ hD₄.isList gi (hi₂.append hDi) (by show A.units + 64 < cLine; omega) (wpAny_truthy_bool ?_)
  have hw : ns = List.replicate (moreP kept) 1 ++ kept.map sgnW := by rw [heq]; rfl
  rw [if_neg (by simp [hw])]
  exact wpAny_execs_nil (h h₄ _ k04)

/-- worths.append(_law_worth(signs) - 4 * more) -/
theorem z_worth {Q : Flow → Shared → Prop} {L gA oA : Nat} {m : Str → Option Value} {kept : List Nat} {ns zs : List Int} {gv wv : List Value} {um : Tok} {st : Stmt} {en : Env} (hst : st = forBody 3 (lwSt 15)) (hen : en = lwEnv L)
    (G : Gr w mg mb s.heap) (hA : A.handled = none) (hu : A.units + 100 < cLine) (hroom : A.depth + 2 < recursionLimit) (hm : s.heap.Ns L m) (hmm : m "more" = some (.int (moreP kept) um)) (hmg : m "signs" = some (.ref gA)) (hmo : m "worths" = some (.ref oA))
    (gl : s.heap.IsList gA gv.toArray) (gi : IntsAre gv ns) (hn : ns.length ≤ 100) (hb : ∀ n ∈ ns, -1000 ≤ n ∧ n ≤ 1000) (ol : PlainL s.heap oA wv.toArray) (oi : IntsAre wv zs) (hz : zs.length ≤ 1000)
    (h : ∀ h' tk wv', (∀ (b : Nat) o, b ≠ oA → s.heap.get? b = some o → h'.get? b = some o) → PlainL h' oA wv'.toArray → IntsAre wv' (zs ++ [worthP ns - 4 * (moreP kept : Int)]) → Q .next { s with heap := h', toks := tk }) :
    wpAny (model prog w) A (exec st en) Q E s := by
  have hsl : sizeLine = 16777216 := rfl
  subst hst hen
  have hml := moreP_le kept
  refine wpAny_Expr_any (wpAny_Call_append rfl rfl rfl rfl ?_)
  refine wpAny_Name (wpAny_loadName_local rfl rfl hm hmo ⟨oA, wv.toArray, rfl, ol, ?_⟩)
  refine wpAny_BinOp ?_
  refine wpAny_Call_NameR (Calls.Name_function_global rfl rfl (Calls.loadGlobal_global G.g (G.glob (v := .ref 98) rfl) ?_))
  refine cwf (P := fun h => Gr w mg mb h) (fun h g => by obtain ⟨⟨o, pm, doc, ho, hd⟩, _⟩ := g.f98; exact ⟨o, _, ho, hd⟩) (spl_cons (wpAny_Name (wpAny_loadName_local rfl rfl hm hmg (spl_nil ⟨G, ?_⟩))))
  refine worth_call G (by omega) hA hu gl gi hn hb fun h₁ tk₁ t₁ k₁ => ?_
  have hm₁ := hm.at fun o e => k₁ L o e
  refine wpAny_BinOp (wpAny_Constant_int (wpAny_Name (wpAny_loadName_local rfl rfl hm₁ hmm (mul_int (sub_int ?_) (.of_right (intBits_le_64 (by omega) (by omega)))))))
  refine list_append_plainL (ol.keeps k₁) (fun h₅ hl₅ hs₅ => h h₅ _ (wv ++ [.int (worthP ns - 4 * (moreP kept : Int)) _]) (fun b o hb e => (hs₅.2 b hb).trans (k₁ b o e)) (by simpa using hl₅) (oi.append (.cons _ _ .nil))) ?_
  have := oi.length
  simp at this ⊢; omega
end
end Mine
end

-- Law15
section
set_option maxRecDepth 100000
set_option maxHeartbeats 4000000
namespace Mine
open PySem PySem.Calls PySem.W PyProof.Rows PySem.Builtin

/-- the third part's list -/
structure LZ (hC : Heap) (L oA : Nat) (zs : List Int) (h : Heap) : Prop where
  keep : KeepBut L hC h
  worths : ∃ vs, PlainL h oA vs.toArray ∧ IntsAre vs zs
  lt : L < hC.objs.size ∧ hC.objs.size ≤ oA

structure MZ (oA sA wt : Nat) (m : Str → Option Value) : Prop where
  o : m "worths" = some (.ref oA)
  s : m "stalks" = some (.ref sA)
  g : ∃ t, m "weight" = some (.int wt t)

theorem MZ.to {oA sA wt : Nat} {m m' : Str → Option Value} (x : MZ oA sA wt m) (h : ∀ n : Str, n = "worths" ∨ n = "stalks" ∨ n = "weight" → m' n = m n) : MZ oA sA wt m' :=
  ⟨(h _ (.inl rfl)).trans x.o, (h _ (.inr (.inl rfl))).trans x.s, by obtain ⟨t, e⟩ := x.g; exact ⟨t, (h _ (.inr (.inr rfl))).trans e⟩⟩
theorem MZ.but {oA sA wt : Nat} {m m' : Str → Option Value} {y : Str} (x : MZ oA sA wt m) (h : ∀ n, n ≠ y → m' n = m n) (h1 : ("worths" : Str) ≠ y) (h2 : ("stalks" : Str) ≠ y) (h3 : ("weight" : Str) ≠ y) : MZ oA sA wt m' :=
  x.to fun n hn => h n (by rcases hn with rfl | rfl | rfl <;> assumption)

section
variable {prog : Program} {w : World} {A : Around} {E : Value → Shared → Prop} {s : Shared} {mg mb : Str → Option Value}

theorem for_walkT {R : Result → Shared → Prop} {env : Env} {elts : List Expr} {k : Nat} {pos : Pos} {body : List Stmt} {I : Addr} {fp wr : List Addr} {n : Nat} {Pt : Nat → Array Value → Prop} {St : Nat → Heap → Prop} {Mid : Nat → Addr → Heap → Prop} (W : WalksT prog w A I fp wr n Pt St Mid)
    (hA : A.handled = none) (Inv : Nat → Shared → Prop) (h0 : Inv 0 s) (hst : St 0 s.heap)
    (hn : ∀ i vals, Pt i vals → (assignEach elts env).length = vals.size) (hstar : (assignEach elts env).findIdx? (·.1) = none)
    (turn : ∀ i vals s₁ h' tk, i < n → Pt i vals → St (i + 1) h' → Inv i s₁ → (∀ b o, b ∉ wr → s₁.heap.get? b = some o → h'.get? b = some o) →
      wpAny (model prog w) A (assignInOrder ((assignEach elts env).map (·.2)) vals.toList) (fun _ s₂ => wpAny (model prog w) A (execs body env) (fun f s₃ => f = .next ∧ Inv (i + 1) s₃ ∧ ∀ b ∈ fp, ∀ o, h'.get? b = some o → s₃.heap.get? b = some o) (fun _ _ => False) s₂) (fun _ _ => False) { s₁ with heap := h', toks := tk })
    (done : ∀ s₁ h' tk, Inv n s₁ → (∀ b o, b ∉ wr → s₁.heap.get? b = some o → h'.get? b = some o) → R (.ok .next) { s₁ with heap := h', toks := tk }) :
    codeAny (model prog w) A (.forLoop (.Tuple elts k pos) (.ref I) body [] env) R s := by
  refine codeAny_forLoop_any (fun k s' => ∃ i, i ≤ n ∧ k = n - i ∧ Inv i s' ∧ St i s'.heap) ?_ (n - 0) ⟨0, Nat.zero_le _, rfl, h0, hst⟩
  rintro k s' ⟨i, hi, rfl, hI, hS⟩
  rcases Nat.lt_or_ge i n with hlt | hge
  · refine W.item i s' _ _ hlt hS fun T vals h₁ tk₁ hPt hT hTup hMid kp₁ => ?_
    refine W.go _ _ _ i T _ _ _ hMid fun h₂ hSt₂ kp₂ => ?_
    have hT₂ : h₂.IsTuple T vals := by
      obtain ⟨o, ho, r⟩ := hTup
      exact ⟨o, kp₂ T o (W.apart i T h₁ hMid) ho, r⟩
    refine wpAny_assign_Tuple hA hT₂ (hn i vals hPt) hstar fun h₃ hx₃ => ?_
    have k23 : ∀ b o, h₂.get? b = some o → h₃.get? b = some o := fun b o e => hx₃ b o (Nat.ne_of_lt (Heap.lt_size e)) e
    refine wpAny_mono (turn i vals s' h₃ tk₁ hlt hPt (W.frame _ _ _ hSt₂ fun b _ o e => k23 b o e) hI fun b o hb e => k23 b o (kp₂ b o hb (kp₁ b o hb e))) (fun _ s₂ h₂ => wpAny_mono h₂ (fun f s₃ h₃ => ?_) fun _ _ e => e.elim) fun _ _ e => e.elim
    obtain ⟨rfl, hI', hk⟩ := h₃
    exact ⟨n - (i + 1), by omega, i + 1, by omega, rfl, hI', W.frame _ _ _ (W.frame _ _ _ hSt₂ fun b _ o e => k23 b o e) hk⟩
  · have : i = n := by omega
    subst this
    refine W.done s' _ _ hS fun h' tk kp => ?_
    exact wpAny_execs_nil (done s' h' tk hI kp)

theorem wantP_bounds (kept : List Nat) : ∀ n ∈ wantP kept, (-1000 : Int) ≤ n ∧ n ≤ 1000 := by
  intro n hn
  unfold wantP at hn
  rcases List.mem_append.mp hn with hn | hn
  · rw [List.eq_of_mem_replicate hn]; decide
  · obtain ⟨c, _, rfl⟩ := List.mem_map.mp hn
    split <;> decide

theorem zip_turn {Q : Flow → Shared → Prop} {hC : Heap} {L oA sA wt : Nat} {m : Str → Option Value} {row kept : List Nat} {ur uk : Tok} {zs : List Int} {bs : List Stmt} {en : Env} (hbs : bs = bodyOf (lwSt 15)) (hen : en = lwEnv L)
    (hG : ∀ h, KeepBut L hC h → Gr w mg mb h) (hA : A.handled = none) (hu : A.units + 100 < cLine) (hroom : A.depth + 2 < recursionLimit) (X : LZ hC L oA zs s.heap) (hm : s.heap.Ns L m) (M : MZ oA sA wt m)
    (hmr : m "row" = some (.str (S row) ur)) (hmk : m "kept" = some (.str (S kept) uk)) (hz : zipOk (row, kept) = true) (hzl : zs.length ≤ 900)
    (h : ∀ h' tk m', LZ hC L oA (zs ++ [worthOf (row, kept)]) h' → h'.Ns L m' → MZ oA sA wt m' → (∀ (b : Nat) o, b ≠ L → b ≠ oA → s.heap.get? b = some o → h'.get? b = some o) → Q .next { s with heap := h', toks := tk }) :
    wpAny (model prog w) A (execs bs en) Q E s := by
  subst hbs hen
  obtain ⟨l1, l2⟩ := X.lt
  simp only [zipOk, Bool.and_eq_true, decide_eq_true_eq] at hz
  obtain ⟨⟨⟨⟨d1, d2⟩, hrl⟩, heq⟩, hsl⟩ := hz
  have hkl : kept.length ≤ 100 := by
    rw [heq] at hsl
    simp only [wantP, List.length_append, List.length_map] at hsl
    omega
  refine wpAny_execs_cons ?_
  refine z_signs rfl rfl (hG _ X.keep) hA hroom hm hmr d1 hrl ?_
  intro h₁ tk₁ m₁ gA gv k₁ hgA gl gi hm₁ hg₁ ho₁
  obtain ⟨ov, ol, oi⟩ := X.worths
  have hoA : @LT.lt Nat _ oA s.heap.objs.size := by obtain ⟨o, n, ho, _⟩ := ol; exact ltN (Heap.lt_size ho)
  refine wpAny_execs_cons ?_
  refine z_more (s := { s with heap := h₁, toks := tk₁ }) rfl rfl hm₁ ((ho₁ _ (by decide +kernel)).trans hmk) (by omega) ?_
  intro h₂ tk₂ m₂ u₂ k₂ hm₂ hmo₂ ho₂
  have k₂' : KeepBut L h₁ h₂ := k₂
  have gl₂ : h₂.IsList gA gv.toArray := by obtain ⟨o, ho, r⟩ := gl; exact ⟨o, k₂' gA o (by omega) ho, r⟩
  have hg₂ := (ho₂ _ (by decide +kernel)).trans hg₁
  refine wpAny_execs_cons ?_
  refine z_if (s := { s with heap := h₂, toks := tk₂ }) rfl rfl hA hu hm₂ ((ho₂ _ (by decide +kernel)).trans ((ho₁ _ (by decide +kernel)).trans hmk)) (by omega) hmo₂ hg₂ gl₂ gi heq ?_
  intro h₃ tk₃ k₃
  dsimp only at k₃
  have k03 : KeepBut L s.heap h₃ := fun b o hb e => k₃ b o (k₂' b o hb (k₁ b o hb e))
  have hm₃ := hm₂.at fun o e => k₃ L o e
  have gl₃ : h₃.IsList gA gv.toArray := by obtain ⟨o, ho, r⟩ := gl₂; exact ⟨o, k₃ gA o ho, r⟩
  have ol₃ : PlainL h₃ oA ov.toArray := by obtain ⟨o, n, ho, r⟩ := ol; exact ⟨o, n, k03 oA o (by omega) ho, r⟩
  have M₁ := M.but ho₁ (by decide +kernel) (by decide +kernel) (by decide +kernel)
  have M₂ := M₁.but ho₂ (by decide +kernel) (by decide +kernel) (by decide +kernel)
  refine wpAny_execs_cons ?_
  refine z_worth (s := { s with heap := h₃, toks := tk₃ }) rfl rfl (hG _ fun b o hb e => k03 b o hb (X.keep b o hb e)) hA hu hroom hm₃ hmo₂ hg₂ M₂.o gl₃ gi hsl (by rw [heq]; exact wantP_bounds kept) ol₃ oi (by omega) ?_
  intro h₄ tk₄ wv' k₄ ol₄ oi₄
  dsimp only at k₄
  have k04 : ∀ (b : Nat) o, b ≠ L → b ≠ oA → s.heap.get? b = some o → h₄.get? b = some o := fun b o hb hb' e => k₄ b o hb' (k03 b o hb e)
  refine wpAny_execs_nil (h h₄ tk₄ m₂ ⟨fun b o hb e => k04 b o hb (by have := ltN (Heap.lt_size e); omega) (X.keep b o hb e), ⟨wv', ol₄, oi₄⟩, l1, l2⟩ (hm₃.at fun o e => k₄ L o (by omega) e) M₂ k04)

theorem zip_loop {Q : Flow → Shared → Prop} {hC : Heap} {L oA sA wt rA cA : Nat} {m : Str → Option Value} {rows cs : List (List Nat)} {rv cv : List Value} {st : Stmt} {en : Env} (hst : st = lwSt 15) (hen : en = lwEnv L)
    (hG : ∀ h, KeepBut L hC h → Gr w mg mb h) (hA : A.handled = none) (hu : A.units + 100 < cLine) (hroom : A.depth + 2 < recursionLimit) (X : LZ hC L oA [] s.heap) (hm : s.heap.Ns L m) (M : MZ oA sA wt m)
    (hmr : m "rows" = some (.ref rA)) (hmc : m "cuts" = some (.ref cA)) (hrL : rA ≠ L) (hcL : cA ≠ L) (rl : hC.IsList rA rv.toArray) (rs : StrsAre rv (rows.map S)) (cl : hC.IsList cA cv.toArray) (cls : StrsAre cv (cs.map S))
    (hlen : rows.length = cs.length) (hl : cs.length ≤ 100) (hz : (rows.zip cs).all zipOk = true)
    (h : ∀ h' tk m', LZ hC L oA ((rows.zip cs).map worthOf) h' → h'.Ns L m' → MZ oA sA wt m' → Q .next { s with heap := h', toks := tk }) :
    wpAny (model prog w) A (exec st en) Q E s := by
  have hsl : sizeLine = 16777216 := rfl
  obtain ⟨l1, l2⟩ := X.lt
  obtain ⟨pn1, pn2, k, pt, p, hfor⟩ : ∃ pn1 pn2 k pt p, lwSt 15 = .For (.Tuple [.Name "row" pn1, .Name "kept" pn2] k pt) (iterOf (lwSt 15)) (bodyOf (lwSt 15)) [] p := ⟨_, _, _, _, _, rfl⟩
  rw [hst, hfor, hen]
  have G₀ := hG _ X.keep
  have hzip := G₀.built (n := "zip") rfl boot_zip (by decide +kernel)
  have rB : @LT.lt Nat _ rA hC.objs.size := by obtain ⟨o, ho, _⟩ := rl; exact ltN (Heap.lt_size ho)
  have cB : @LT.lt Nat _ cA hC.objs.size := by obtain ⟨o, ho, _⟩ := cl; exact ltN (Heap.lt_size ho)
  have rl₀ : s.heap.IsList rA rv.toArray := by obtain ⟨o, ho, r⟩ := rl; exact ⟨o, X.keep rA o hrL ho, r⟩
  have cl₀ : s.heap.IsList cA cv.toArray := by obtain ⟨o, ho, r⟩ := cl; exact ⟨o, X.keep cA o hcL ho, r⟩
  have hoA : @LT.lt Nat _ oA s.heap.objs.size := by obtain ⟨sv, ⟨o, n, ho, _⟩, _⟩ := X.worths; exact ltN (Heap.lt_size ho)
  refine wpAny_For ?_
  refine wpAny_Call_NameR (Calls.Name_function_global rfl rfl (Calls.loadGlobal_builtin G₀.g hzip.1 G₀.b hzip.2 ?_))
  refine PyProof.Rows.callWith_type1 (spl_cons (wpAny_Name (wpAny_loadName_local rfl rfl hm hmr (spl_cons (wpAny_Name (wpAny_loadName_local rfl rfl hm hmc (spl_nil ?_)))))))
  refine call_zip_2 rl₀ cl₀ fun h₁ z1 z2 z3 z4 z5 z6 k₁ => ?_
  refine wpAny_pyIter_zip z1 ?_
  generalize hb0 : s.heap.objs.size = b0 at *
  have D : ZipApart (b0 + 4) (b0 + 2) (b0 + 3) b0 (b0 + 1) rA cA := by
    constructor
    all_goals (refine neN ?_; omega)
  have W := WalksT.zip2 (prog := prog) (w := w) (A := A) hA _ _ _ _ _ rA cA D rv.toArray cv.toArray
  have hrn : rv.length = rows.length := by have := rs.length; simpa using this
  have hcn : cv.length = cs.length := by have := cls.length; simpa using this
  have hmin : min rv.toArray.size cv.toArray.size = cs.length := by simp [hrn, hcn, hlen]
  have rl₁ : h₁.IsList rA rv.toArray := by obtain ⟨o, ho, r⟩ := rl₀; exact ⟨o, k₁ rA o ho, r⟩
  have cl₁ : h₁.IsList cA cv.toArray := by obtain ⟨o, ho, r⟩ := cl₀; exact ⟨o, k₁ cA o ho, r⟩
  have mid : ∀ (zs : List Int) (h h₅ : Heap), (∀ (b : Nat) o, b < b0 → h.get? b = some o → h₅.get? b = some o) → LZ hC L oA zs h → LZ hC L oA zs h₅ := by
    intro zs h h₅ k₅ X'
    obtain ⟨kp', ⟨ov, ⟨oo, no, ho, ro⟩, qo⟩, _⟩ := X'
    exact ⟨fun b o hb e => k₅ b o (by have := ltN (Heap.lt_size e); omega) (kp' b o hb e), ⟨ov, ⟨oo, no, k₅ oA oo hoA ho, ro⟩, qo⟩, l1, l2⟩
  have hwr : ∀ b : Nat, b < b0 → b ∉ [b0 + 4, b0 + 3, b0, b0 + 1] := fun b hb hm => by simp at hm; omega
  refine for_walkT W hA (fun i s' => ∃ h tk m, s' = { s with heap := h, toks := tk } ∧ LZ hC L oA (((rows.zip cs).take i).map worthOf) h ∧ h.Ns L m ∧ MZ oA sA wt m)
    ⟨h₁, _, m, rfl, mid _ _ _ (fun b o _ e => k₁ b o e) X, hm.at fun o e => k₁ L o e, M⟩ ⟨z1, z2, ⟨_, _, z3⟩, z4, z5, rl₁, cl₁⟩ ?_ rfl ?_ ?_
  · rintro i vals ⟨x, y, _, _, rfl⟩; rfl
  · rintro i vals s₁ h₅ tk₅ hlt ⟨x, y, hx, hy, rfl⟩ _ ⟨h, tk, m, rfl, X, hm, M⟩ k₅
    rw [hmin] at hlt
    have hget1 : rows[i]? = some rows[i] := List.getElem?_eq_getElem (by omega)
    have hget2 : cs[i]? = some cs[i] := List.getElem?_eq_getElem (by omega)
    obtain ⟨u1, hv1⟩ := strsGet rs (k := i) (y := S rows[i]) (by rw [List.getElem?_map, hget1]; rfl)
    obtain ⟨u2, hv2⟩ := strsGet cls (k := i) (y := S cs[i]) (by rw [List.getElem?_map, hget2]; rfl)
    have hx' : x = .str (S rows[i]) u1 := by
      simp only [List.getElem?_toArray] at hx
      rw [hv1] at hx
      exact (Option.some.inj hx).symm
    have hy' : y = .str (S cs[i]) u2 := by
      simp only [List.getElem?_toArray] at hy
      rw [hv2] at hy
      exact (Option.some.inj hy).symm
    subst hx' hy'
    have hzget : (rows.zip cs)[i]? = some (rows[i], cs[i]) := by rw [List.getElem?_zip_eq_some]; exact ⟨hget1, hget2⟩
    have hzi : zipOk (rows[i], cs[i]) = true := List.all_eq_true.mp hz _ (List.mem_of_getElem? hzget)
    have k₅' : ∀ (b : Nat) o, b < b0 → h.get? b = some o → h₅.get? b = some o := fun b o hb e => k₅ b o (hwr b hb) e
    have X₅ := mid _ _ _ k₅' X
    have hm₅ := hm.at fun o e => k₅' L o (by omega) e
    show wpAny _ _ (do holding [Value.str (S cs[i]) u2] (assign (.Name "row" pn1) (lwEnv L) (.str (S rows[i]) u1)); do holding [] (assign (.Name "kept" pn2) (lwEnv L) (Value.str (S cs[i]) u2)); pure ()) _ _ _
    refine wpAny_bind (wpAny_holding (wpAny_assign_Name (wpAny_storeName_local rfl hm₅ (fun h₆ hm₆ hs₆ => ?_) rfl)))
    refine wpAny_bind (wpAny_holding (wpAny_assign_Name (wpAny_storeName_local rfl hm₆ (fun h₇ hm₇ hs₇ => wpAny_pure ?_) rfl)))
    dsimp only at hs₆ hs₇ hm₇ ⊢
    have k57 : KeepBut L h₅ h₇ := fun b o hb e => (hs₇.2 b hb).trans ((hs₆.2 b hb).trans e)
    have X₇ : LZ hC L oA (((rows.zip cs).take i).map worthOf) h₇ := by
      obtain ⟨kp', ⟨ov, ⟨oo, no, ho, ro⟩, qo⟩, _⟩ := X₅
      exact ⟨fun b o hb e => k57 b o hb (kp' b o hb e), ⟨ov, ⟨oo, no, k57 oA oo (by omega) ho, ro⟩, qo⟩, l1, l2⟩
    have M₇ := (M.but (m' := fun n => if n = "row" then some (Value.str (S rows[i]) u1) else m n) (y := "row") (fun n hn => if_neg hn) (by decide +kernel) (by decide +kernel) (by decide +kernel)).but (m' := fun n => if n = "kept" then some (Value.str (S cs[i]) u2) else if n = "row" then some (Value.str (S rows[i]) u1) else m n) (y := "kept") (fun n hn => if_neg hn) (by decide +kernel) (by decide +kernel) (by decide +kernel)
    refine zip_turn (s := { s with heap := h₇, toks := _ }) (row := rows[i]) (kept := cs[i]) rfl rfl hG hA hu hroom X₇ hm₇ M₇ ((if_neg (by decide +kernel)).trans (if_pos rfl)) (if_pos rfl) hzi (by simp; omega) ?_
    intro h₈ tk₈ m₈ X₈ hm₈ M₈ k₈
    dsimp only at k₈
    refine ⟨rfl, ⟨h₈, tk₈, m₈, rfl, ?_, hm₈, M₈⟩, ?_⟩
    · rw [take_snoc hzget, List.map_append]; exact X₈
    · intro b hb o e
      have hb2 : @Ne Nat b L ∧ @Ne Nat b oA := by
        simp only [List.mem_cons, List.not_mem_nil, or_false] at hb
        rcases hb with rfl | rfl | rfl | rfl | rfl | rfl | rfl <;> exact ⟨by omega, by omega⟩
      exact k₈ b o hb2.1 hb2.2 (k57 b o hb2.1 e)
  · rintro s₁ h₅ tk₅ ⟨h₄, tk, m, rfl, X, hm, M⟩ k₅
    have k₅' : ∀ (b : Nat) o, b < b0 → h₄.get? b = some o → h₅.get? b = some o := fun b o hb e => k₅ b o (hwr b hb) e
    have X₅ := mid _ _ _ k₅' X
    rw [hmin, List.take_of_length_le (by simp; omega)] at X₅
    exact h h₅ tk₅ m X₅ (hm.at fun o e => k₅' L o (by omega) e) M
end
end Mine
end

-- Law16
section
set_option maxRecDepth 100000
set_option maxHeartbeats 4000000
namespace Mine
open PySem PySem.Calls PySem.W PyProof.Rows PySem.Builtin

/-- the game's lists -/
structure LG (hD : Heap) (L fA gA : Nat) (fs : List Bool × List Bool) (h : Heap) : Prop where
  keep : KeepBut L hD h
  first : PlainL h fA (fs.1.map Value.bool).toArray
  second : PlainL h gA (fs.2.map Value.bool).toArray
  lt : L < hD.objs.size ∧ hD.objs.size ≤ fA ∧ fA < gA

theorem LG.to {hD h h' : Heap} {L fA gA : Nat} {fs : List Bool × List Bool} (x : LG hD L fA gA fs h) (k : KeepBut L h h') : LG hD L fA gA fs h' := by
  obtain ⟨kp, ⟨o1, n1, h1, r1⟩, ⟨o2, n2, h2, r2⟩, l1, l2, l3⟩ := x
  exact ⟨fun b o hb e => k b o hb (kp b o hb e), ⟨o1, n1, k fA o1 (by omega) h1, r1⟩, ⟨o2, n2, k gA o2 (by omega) h2, r2⟩, l1, l2, l3⟩

structure MG (oA sA fA gA : Nat) (m : Str → Option Value) : Prop where
  o : m "worths" = some (.ref oA)
  s : m "stalks" = some (.ref sA)
  f : m "first" = some (.ref fA)
  g : m "second" = some (.ref gA)

theorem MG.to {oA sA fA gA : Nat} {m m' : Str → Option Value} (x : MG oA sA fA gA m) (h : ∀ n : Str, n = "worths" ∨ n = "stalks" ∨ n = "first" ∨ n = "second" → m' n = m n) : MG oA sA fA gA m' :=
  ⟨(h _ (.inl rfl)).trans x.o, (h _ (.inr (.inl rfl))).trans x.s, (h _ (.inr (.inr (.inl rfl)))).trans x.f, (h _ (.inr (.inr (.inr rfl)))).trans x.g⟩
theorem MG.but {oA sA fA gA : Nat} {m m' : Str → Option Value} {y : Str} (x : MG oA sA fA gA m) (h : ∀ n, n ≠ y → m' n = m n) (h1 : ("worths" : Str) ≠ y) (h2 : ("stalks" : Str) ≠ y) (h3 : ("first" : Str) ≠ y) (h4 : ("second" : Str) ≠ y) : MG oA sA fA gA m' :=
  x.to fun n hn => h n (by rcases hn with rfl | rfl | rfl | rfl <;> assumption)

section
variable {prog : Program} {w : World} {A : Around} {E : Value → Shared → Prop} {s : Shared} {mg mb : Str → Option Value}

/-- LIST[p - (c - i) * step] -/
theorem past_expr {Q : Value → Shared → Prop} {L a p c i step : Nat} {y : Str} {m : Str → Option Value} {bs : List Bool} {tp tc ti ts : Tok} {p1 p2 p3 p4 p5 p6 p7 p8 p9 : Pos} {e : Expr} {en : Env}
    (he : e = .Subscript (.Name y p1) (.BinOp (.Name "p" p2) .Sub (.BinOp (.BinOp (.Name "c" p3) .Sub (.Name "i" p4) p5) .Mult (.Name "step" p6) p7) p8) p9) (hen : en = lwEnv L) (hy : en.kindOf y = some .local) (hyd : (y == Str.ofString "__debug__") = false)
    (hm : s.heap.Ns L m) (hmy : m y = some (.ref a)) (hmp : m "p" = some (.int p tp)) (hmc : m "c" = some (.int c tc)) (hmi : m "i" = some (.int i ti)) (hms : m "step" = some (.int step ts))
    (hl : s.heap.IsList a (bs.map Value.bool).toArray) (hic : i < c) (hcp : c * step ≤ p) (hst : 1 ≤ step) (hst2 : step ≤ 1000) (hbs : bs.length = p) (hp : p ≤ 1000)
    (h : ∀ tk, Q (.bool (bs.getD (p - (c - i) * step) false)) { s with toks := tk }) :
    wpAny (model prog w) A (eval e en) Q E s := by
  subst he hen
  refine Subscript_ (wpAny_Name (hd := hyd) (wpAny_loadName_local rfl hy hm hmy ?_))
  refine wpAny_BinOp (wpAny_Name (wpAny_loadName_local rfl rfl hm hmp ?_))
  refine wpAny_BinOp (wpAny_BinOp (wpAny_Name (wpAny_loadName_local rfl rfl hm hmc (wpAny_Name (wpAny_loadName_local rfl rfl hm hmi (sub_int ?_))))))
  refine wpAny_Name (wpAny_loadName_local rfl rfl hm hms (mul_int (sub_int ?_) (.of_right (intBits_le_64 (by omega) (by omega)))))
  have hle : (c - i) * step ≤ p := Nat.le_trans (Nat.mul_le_mul_right _ (Nat.sub_le _ _)) hcp
  have hpos : 1 ≤ (c - i) * step := Nat.mul_pos (by omega) hst
  have e : (p : Int) - ((c : Int) - (i : Int)) * (step : Int) = ((p - (c - i) * step : Nat) : Int) := by
    rw [Int.ofNat_sub hle, Int.natCast_mul, Int.ofNat_sub (by omega)]
  rw [e]
  have hlt : p - (c - i) * step < bs.length := by omega
  have hget : (bs.map Value.bool)[p - (c - i) * step]? = some (.bool (bs.getD (p - (c - i) * step) false)) := by
    rw [List.getElem?_map, List.getElem?_eq_getElem hlt, List.getD_eq_getElem?_getD, List.getElem?_eq_getElem hlt]; rfl
  exact tailG hl.typeIs list_getitem_lookup (getList hl hget (by simp; omega) (h _)) rfl

/-- X or not LIST[p - (c - i) * step] -/
theorem or_expr {Q : Value → Shared → Prop} {L a p c i step : Nat} {x y : Str} {b0 : Bool} {m : Str → Option Value} {bs : List Bool} {tp tc ti ts : Tok} {p1 p2 p3 p4 p5 p6 p7 p8 p9 q1 q2 q3 : Pos} {e : Expr} {en : Env}
    (he : e = .BoolOp .Or [.Name x q1, .UnaryOp .Not (.Subscript (.Name y p1) (.BinOp (.Name "p" p2) .Sub (.BinOp (.BinOp (.Name "c" p3) .Sub (.Name "i" p4) p5) .Mult (.Name "step" p6) p7) p8) p9) q2] q3) (hen : en = lwEnv L)
    (hx : en.kindOf x = some .local) (hxd : (x == Str.ofString "__debug__") = false) (hy : en.kindOf y = some .local) (hyd : (y == Str.ofString "__debug__") = false)
    (hm : s.heap.Ns L m) (hmx : m x = some (.bool b0)) (hmy : m y = some (.ref a)) (hmp : m "p" = some (.int p tp)) (hmc : m "c" = some (.int c tc)) (hmi : m "i" = some (.int i ti)) (hms : m "step" = some (.int step ts))
    (hl : s.heap.IsList a (bs.map Value.bool).toArray) (hic : i < c) (hcp : c * step ≤ p) (hst : 1 ≤ step) (hst2 : step ≤ 1000) (hbs : bs.length = p) (hp : p ≤ 1000)
    (h : ∀ tk, Q (.bool (b0 || !(bs.getD (p - (c - i) * step) false))) { s with toks := tk }) :
    wpAny (model prog w) A (eval e en) Q E s := by
  subst he hen
  refine BoolOp_or (wpAny_Name (hd := hxd) (wpAny_loadName_local rfl hx hm hmx (wpAny_truthy_bool ?_)))
  cases b0 with
  | true => exact h s.toks
  | false =>
    rw [if_neg (by simp)]
    refine BoolOp_one (wpAny_UnaryOp ?_)
    refine past_expr rfl rfl hy hyd hm hmy hmp hmc hmi hms hl hic hcp hst hst2 hbs hp fun tk => not_value (wpAny_truthy_bool ?_)
    exact h tk

/-- the body of for i in range(c) -/
theorem g_in {Q : Flow → Shared → Prop} {hD : Heap} {L oA sA fA gA p c i step : Nat} {wd : List Nat} {fs : List Bool × List Bool} {g : GIn} {m : Str → Option Value} {tp tc ti ts tw : Tok} {bs : List Stmt} {en : Env} (hbs : bs = bodyOf (forBody 2 (forBody 3 (lwSt 18)))) (hen : en = lwEnv L)
    (X : LG hD L fA gA fs s.heap) (hm : s.heap.Ns L m) (M : MG oA sA fA gA m)
    (hmp : m "p" = some (.int p tp)) (hmc : m "c" = some (.int c tc)) (hmi : m "i" = some (.int i ti)) (hms : m "step" = some (.int step ts)) (hmw : m "word" = some (.str (S wd) tw)) (hmo : m "one" = some (.bool g.one)) (hmt : m "two" = some (.bool g.two))
    (hic : i < c) (hcw : c ≤ wd.length) (hwl : wd.length ≤ 100) (hcp : c * step ≤ p) (hst : 1 ≤ step) (hst2 : step ≤ 1000) (hf1 : fs.1.length = p) (hf2 : fs.2.length = p) (hp : p ≤ 1000)
    (h : ∀ h' tk m', KeepBut L s.heap h' → h'.Ns L m' → m' "one" = some (.bool (gIn fs p wd step c g i).one) → m' "two" = some (.bool (gIn fs p wd step c g i).two) → (∀ n : Str, n ≠ "one" → n ≠ "two" → m' n = m n) → Q .next { s with heap := h', toks := tk }) :
    wpAny (model prog w) A (execs bs en) Q E s := by
  subst hbs hen
  have hlt : i < wd.length := by omega
  have hget : wd[i]? = some (wd.getD i 0) := by rw [List.getD_eq_getElem?_getD, List.getElem?_eq_getElem hlt]; rfl
  refine wpAny_execs_cons ?_
  refine wpAny_If (wpAny_isTrue_Compare1 ?_)
  refine Subscript_ (wpAny_Name (wpAny_loadName_local rfl rfl hm hmw (wpAny_Name (wpAny_loadName_local rfl rfl hm hmi ?_))))
  refine tailG (typeIs_str _ _ _) F.slot_str_getitem.lookup (getStr hget (by omega) fun t₁ k₁ => ?_) rfl
  refine Constant_str (eq_str (wpAny_truthy_bool ?_))
  have e1 : (S [wd.getD i 0] == Str.ofString ".") = decide (wd.getD i 0 = 46) := by
    rw [show Str.ofString "." = S [46] from by decide +kernel, S_beq]
    simp
  rw [e1]
  by_cases h46 : wd.getD i 0 = 46
  · rw [decide_eq_true h46, if_pos rfl]
    have eg : gIn fs p wd step c g i = { g with one := g.one || !(fs.2.getD (p - (c - i) * step) false) } := by unfold gIn; rw [if_pos h46]
    rw [eg] at h
    refine wpAny_execs_cons ?_
    refine wpAny_Assign_Name ?_ ?_
    rotate_left
    · rfl
    refine or_expr (L := L) (y := "second") rfl rfl rfl (by decide +kernel) rfl (by decide +kernel) hm hmo M.g hmp hmc hmi hms X.second.isList hic hcp hst hst2 hf2 hp fun tk => ?_
    refine wpAny_storeName_local rfl hm (fun h₂ hm₂ hs₂ => wpAny_execs_nil (wpAny_execs_nil ?_)) rfl
    exact h h₂ _ _ (fun b o hb e => (hs₂.2 b hb).trans e) hm₂ (if_pos rfl) ((if_neg (by decide +kernel)).trans hmt) fun n hn _ => if_neg hn
  · rw [decide_eq_false h46, if_neg (by simp)]
    have eg : gIn fs p wd step c g i = { g with two := g.two || !(fs.1.getD (p - (c - i) * step) false) } := by unfold gIn; rw [if_neg h46]
    rw [eg] at h
    refine wpAny_execs_cons ?_
    refine wpAny_Assign_Name ?_ ?_
    rotate_left
    · rfl
    refine or_expr (L := L) (y := "first") rfl rfl rfl (by decide +kernel) rfl (by decide +kernel) hm hmt M.f hmp hmc hmi hms X.first.isList hic hcp hst hst2 hf1 hp fun tk => ?_
    refine wpAny_storeName_local rfl hm (fun h₂ hm₂ hs₂ => wpAny_execs_nil (wpAny_execs_nil ?_)) rfl
    exact h h₂ _ _ (fun b o hb e => (hs₂.2 b hb).trans e) hm₂ ((if_neg (by decide +kernel)).trans hmo) (if_pos rfl) fun n _ hn => if_neg hn
end
end Mine
end

-- Law17
section
set_option maxRecDepth 100000
set_option maxHeartbeats 4000000
namespace Mine
open PySem PySem.Calls PySem.W PyProof.Rows PySem.Builtin

noncomputable def gIns (fs : List Bool × List Bool) (p : Nat) (wd : List Nat) (step c : Nat) (g : GIn) (n : Nat) : GIn := (List.range n).foldl (gIn fs p wd step c) g
theorem gIns_succ (fs : List Bool × List Bool) (p : Nat) (wd : List Nat) (step c : Nat) (g : GIn) (n : Nat) : gIns fs p wd step c g (n + 1) = gIn fs p wd step c (gIns fs p wd step c g n) n := by
  unfold gIns; rw [List.range_succ, List.foldl_append]; rfl
theorem gIns_worth (fs : List Bool × List Bool) (p : Nat) (wd : List Nat) (step c : Nat) (g : GIn) : ∀ n, (gIns fs p wd step c g n).worth = g.worth
  | 0 => rfl
  | n + 1 => by
    rw [gIns_succ, ← gIns_worth fs p wd step c g n]
    unfold gIn
    split <;> rfl

section
variable {prog : Program} {w : World} {A : Around} {E : Value → Shared → Prop} {s : Shared} {mg mb : Str → Option Value}

theorem g_loop {Q : Flow → Shared → Prop} {hD : Heap} {L oA sA fA gA p c step : Nat} {wd : List Nat} {fs : List Bool × List Bool} {g : GIn} {m : Str → Option Value} {tp tc ts tw : Tok} {st : Stmt} {en : Env} (hst : st = forBody 2 (forBody 3 (lwSt 18))) (hen : en = lwEnv L)
    (hG : ∀ h, KeepBut L hD h → Gr w mg mb h) (hA : A.handled = none)
    (X : LG hD L fA gA fs s.heap) (hm : s.heap.Ns L m) (M : MG oA sA fA gA m)
    (hmp : m "p" = some (.int p tp)) (hmc : m "c" = some (.int c tc)) (hms : m "step" = some (.int step ts)) (hmw : m "word" = some (.str (S wd) tw)) (hmo : m "one" = some (.bool g.one)) (hmt : m "two" = some (.bool g.two))
    (hcw : c ≤ wd.length) (hwl : wd.length ≤ 100) (hcp : c * step ≤ p) (hst1 : 1 ≤ step) (hst2 : step ≤ 1000) (hf1 : fs.1.length = p) (hf2 : fs.2.length = p) (hp : p ≤ 1000)
    (h : ∀ h' tk m', KeepBut L s.heap h' → h'.Ns L m' → m' "one" = some (.bool (gIns fs p wd step c g c).one) → m' "two" = some (.bool (gIns fs p wd step c g c).two) → (∀ n : Str, n ≠ "one" → n ≠ "two" → n ≠ "i" → m' n = m n) → Q .next { s with heap := h', toks := tk }) :
    wpAny (model prog w) A (exec st en) Q E s := by
  have hsl : sizeLine = 16777216 := rfl
  have G₀ := hG s.heap X.keep
  have hran := G₀.built (n := "range") rfl boot_range (by decide +kernel)
  obtain ⟨pn, ps, hfor⟩ : ∃ pn ps, forBody 2 (forBody 3 (lwSt 18)) = .For (.Name "i" pn) (iterOf (forBody 2 (forBody 3 (lwSt 18)))) (bodyOf (forBody 2 (forBody 3 (lwSt 18)))) [] ps := ⟨_, _, rfl⟩
  rw [hst, hfor, hen]
  refine wpAny_For ?_
  refine wpAny_Call_NameR (Calls.Name_function_global rfl rfl (Calls.loadGlobal_builtin G₀.g hran.1 G₀.b hran.2 ?_))
  refine PyProof.Rows.callWith_type1 (spl_cons (wpAny_Name (wpAny_loadName_local rfl rfl hm hmc (spl_nil ?_))))
  refine range_iter (m := c) (by omega) fun h₁ tk₁ I hI k₁ hit => ?_
  replace hI : @LT.lt Nat _ s.heap.objs.size I := hI
  have hL0 : @LT.lt Nat _ L s.heap.objs.size := hm.lt
  have W := Walks.range (prog := prog) (w := w) (A := A) hA I 0 1 c
  have hLI : @Ne Nat L I := by omega
  refine for_walk W (fun i s' => ∃ h tk m', s' = { s with heap := h, toks := tk } ∧ KeepBut L s.heap h ∧ h.Ns L m' ∧ m' "one" = some (.bool (gIns fs p wd step c g i).one) ∧ m' "two" = some (.bool (gIns fs p wd step c g i).two) ∧ (∀ n : Str, n ≠ "one" → n ≠ "two" → n ≠ "i" → m' n = m n))
    ⟨h₁, _, m, rfl, fun b o _ e => k₁ b o e, hm.at fun o e => k₁ L o e, hmo, hmt, fun _ _ _ _ => rfl⟩ hit ?_ ?_
  · rintro i v s₁ h₅ tk₅ hlt ⟨tv, rfl⟩ ⟨h, tk, m₁, rfl, kp, hm₁, ho₁, ht₁, hr₁⟩ k₅
    have k₅' : ∀ (b : Nat) o, b ≠ I → h.get? b = some o → h₅.get? b = some o := fun b o hb e => k₅ b o (by simpa using hb) e
    have k05 : KeepBut L s.heap h₅ := fun b o hb e => k₅' b o (by have := ltN (Heap.lt_size e); omega) (kp b o hb e)
    have hm₅ := hm₁.at fun o e => k₅' L o hLI e
    have ei : (0 : Int) + (i : Int) * 1 = (i : Int) := by omega
    rw [ei]
    refine wpAny_storeName_local rfl hm₅ (fun h₆ hm₆ hs₆ => ?_) rfl
    dsimp only at hs₆ hm₆ ⊢
    have k06 : KeepBut L s.heap h₆ := fun b o hb e => (hs₆.2 b hb).trans (k05 b o hb e)
    have r₆ : ∀ n : Str, n ≠ "one" → n ≠ "two" → n ≠ "i" → (fun (x : Str) => if x = "i" then some (Value.int (i : Int) tv) else m₁ x) n = m n := fun n h1 h2 h3 => (if_neg h3).trans (hr₁ n h1 h2 h3)
    refine g_in (s := { s with heap := h₆, toks := _ }) (i := i) (g := gIns fs p wd step c g i) rfl rfl (X.to k06) hm₆ (M.to fun n hn => r₆ n ?_ ?_ ?_) ((r₆ _ ?_ ?_ ?_).trans hmp) ((r₆ _ ?_ ?_ ?_).trans hmc) (if_pos rfl) ((r₆ _ ?_ ?_ ?_).trans hms) ((r₆ _ ?_ ?_ ?_).trans hmw) ((if_neg ?_).trans ho₁) ((if_neg ?_).trans ht₁) hlt hcw hwl hcp hst1 hst2 hf1 hf2 hp ?_
    rotate_right
    · intro h₇ tk₇ m₇ k₇ hm₇ ho₇ ht₇ hr₇
      dsimp only at k₇
      refine ⟨rfl, ⟨h₇, tk₇, m₇, rfl, fun b o hb e => k₇ b o hb (k06 b o hb e), hm₇, ?_, ?_, fun n h1 h2 h3 => (hr₇ n h1 h2).trans (r₆ n h1 h2 h3)⟩, ?_⟩
      · rw [gIns_succ]; exact ho₇
      · rw [gIns_succ]; exact ht₇
      · intro b hb o e
        rw [List.mem_singleton.mp hb] at e ⊢
        exact k₇ I o (Ne.symm hLI) ((hs₆.2 I (Ne.symm hLI)).trans e)
    all_goals first | decide +kernel | (rcases hn with rfl | rfl | rfl | rfl <;> decide +kernel)
  · rintro s₁ h₅ tk₅ ⟨h₄, tk, m₁, rfl, kp, hm₁, ho₁, ht₁, hr₁⟩ k₅
    have k₅' : ∀ (b : Nat) o, b ≠ I → h₄.get? b = some o → h₅.get? b = some o := fun b o hb e => k₅ b o (by simpa using hb) e
    exact h h₅ tk₅ m₁ (fun b o hb e => k₅' b o (by have := ltN (Heap.lt_size e); omega) (kp b o hb e)) (hm₁.at fun o e => k₅' L o hLI e) ho₁ ht₁ hr₁
end
end Mine
end

-- Law18
section
set_option maxRecDepth 100000
set_option maxHeartbeats 4000000
namespace Mine
open PySem PySem.Calls PySem.W PyProof.Rows PySem.Builtin

section
variable {prog : Program} {w : World} {A : Around} {E : Value → Shared → Prop} {s : Shared} {mg mb : Str → Option Value}

theorem gStalk_eq (fs : List Bool × List Bool) (zs : List Int) (p : Nat) (g : GIn) (wd : List Nat) (step base : Nat) :
    gStalk fs zs p g (wd, step, base) = gIns fs p wd step (p / step % (wd.length + 1)) { g with worth := g.worth + zs.getD (base + p / step % (wd.length + 1)) 0 } (p / step % (wd.length + 1)) := rfl

/-- the body of for word, step, base in stalks -/
theorem s_turn {Q : Flow → Shared → Prop} {hD : Heap} {L oA sA fA gA p step base : Nat} {wd : List Nat} {fs : List Bool × List Bool} {zs : List Int} {ov : List Value} {g : GIn} {m : Str → Option Value} {tp ts tb tw tg : Tok} {bs : List Stmt} {en : Env} (hbs : bs = bodyOf (forBody 3 (lwSt 18))) (hen : en = lwEnv L)
    (hG : ∀ h, KeepBut L hD h → Gr w mg mb h) (hA : A.handled = none)
    (X : LG hD L fA gA fs s.heap) (hoL : oA ≠ L) (ol : hD.IsList oA ov.toArray) (oi : IntsAre ov zs) (hz : zs.length ≤ 1000) (hm : s.heap.Ns L m) (M : MG oA sA fA gA m)
    (hmp : m "p" = some (.int p tp)) (hms : m "step" = some (.int step ts)) (hmb : m "base" = some (.int base tb)) (hmw : m "word" = some (.str (S wd) tw)) (hmo : m "one" = some (.bool g.one)) (hmt : m "two" = some (.bool g.two)) (hmg : m "worth" = some (.int g.worth tg))
    (hwl : wd.length ≤ 100) (hst1 : 1 ≤ step) (hst2 : step ≤ 1000) (hbz : base + wd.length < zs.length) (hf1 : fs.1.length = p) (hf2 : fs.2.length = p) (hp : p ≤ 1000)
    (h : ∀ h' tk m' tg', KeepBut L s.heap h' → h'.Ns L m' → m' "one" = some (.bool (gStalk fs zs p g (wd, step, base)).one) → m' "two" = some (.bool (gStalk fs zs p g (wd, step, base)).two) → m' "worth" = some (.int (gStalk fs zs p g (wd, step, base)).worth tg') →
      (∀ n : Str, n = "worths" ∨ n = "stalks" ∨ n = "first" ∨ n = "second" ∨ n = "p" → m' n = m n) → Q .next { s with heap := h', toks := tk }) :
    wpAny (model prog w) A (execs bs en) Q E s := by
  subst hbs hen
  rw [gStalk_eq] at h
  have hc1 : p / step % (wd.length + 1) ≤ wd.length := by have := Nat.mod_lt (p / step) (show 0 < wd.length + 1 by omega); omega
  have hc2 : p / step % (wd.length + 1) * step ≤ p := Nat.le_trans (Nat.mul_le_mul_right _ (Nat.mod_le _ _)) (Nat.div_mul_le_self _ _)
  have ec : ((p : Int).fdiv (step : Int)).fmod ((wd.length : Int) + 1) = ((p / step % (wd.length + 1) : Nat) : Int) := by
    rw [Int.fdiv_eq_ediv_of_nonneg _ (by omega), Int.fmod_eq_emod_of_nonneg _ (by omega)]
    push_cast
    rfl
  generalize hcd : p / step % (wd.length + 1) = c at *
  have hc1000 : c ≤ 1000 := by omega
  have hL0 : @LT.lt Nat _ L s.heap.objs.size := hm.lt
  have G₀ := hG s.heap X.keep
  have hlen := G₀.built (n := "len") rfl boot_len (by decide +kernel)
  refine wpAny_execs_cons ?_
  refine wpAny_Assign_Name ?_ ?_
  rotate_left
  · rfl
  refine wpAny_BinOp (wpAny_BinOp (wpAny_Name (wpAny_loadName_local rfl rfl hm hmp (wpAny_Name (wpAny_loadName_local rfl rfl hm hms ?_)))))
  refine floordiv_int (by omega) ?_ (.inl (PyProof.noPylong_small (by omega)))
  refine wpAny_BinOp (wpAny_Call_NameR (Calls.Name_function_global rfl rfl (Calls.loadGlobal_builtin G₀.g hlen.1 G₀.b hlen.2 ?_)))
  refine cwb (spl_cons (wpAny_Name (wpAny_loadName_local rfl rfl hm hmw (spl_nil ?_))))
  refine P.len_str (by rw [S_len]; omega) (wpAny_Constant_int (add_int ?_))
  rw [S_len]
  refine mod_int' (by omega) ?_
  rw [ec]
  refine wpAny_storeName_local rfl hm (fun h₁ hm₁ hs₁ => ?_) rfl
  dsimp only at hs₁ hm₁ ⊢
  have k₁ : KeepBut L s.heap h₁ := fun b o hb e => (hs₁.2 b hb).trans e
  refine wpAny_execs_cons ?_
  refine wpAny_AugAssign_Name (wpAny_loadName_local rfl rfl hm₁ ((if_neg (by decide +kernel)).trans hmg) ?_)
  refine Subscript_ (wpAny_Name (wpAny_loadName_local rfl rfl hm₁ ((if_neg (by decide +kernel)).trans M.o) ?_))
  refine wpAny_BinOp (wpAny_Name (wpAny_loadName_local rfl rfl hm₁ ((if_neg (by decide +kernel)).trans hmb) (wpAny_Name (wpAny_loadName_local rfl rfl hm₁ (if_pos rfl) (add_int ?_)))))
  have ol₁ : h₁.IsList oA ov.toArray := by obtain ⟨o, ho, r⟩ := ol; exact ⟨o, k₁ oA o hoL (X.keep oA o hoL ho), r⟩
  obtain ⟨tv, hget⟩ := intsGet oi (k := base + c) (by omega)
  rw [show (base : Int) + (c : Int) = ((base + c : Nat) : Int) by push_cast; rfl]
  have hoz := oi.length
  refine tailG ol₁.typeIs list_getitem_lookup (getList ol₁ (by simpa using hget) (by omega) ?_) rfl
  refine iadd_int ?_
  refine wpAny_storeName_local rfl hm₁ (fun h₂ hm₂ hs₂ => ?_) rfl
  dsimp only at hs₂ hm₂ ⊢
  have k₂ : KeepBut L s.heap h₂ := fun b o hb e => (hs₂.2 b hb).trans (k₁ b o hb e)
  obtain ⟨m₂, tw₂, tc₂, hm₂, hw₂, hc₂, r₂⟩ : ∃ (m₂ : Str → Option Value) (tw₂ tc₂ : Tok), h₂.Ns L m₂ ∧ m₂ "worth" = some (.int (g.worth + zs.getD (base + c) 0) tw₂) ∧ m₂ "c" = some (.int c tc₂) ∧ ∀ n : Str, n ≠ "c" → n ≠ "worth" → m₂ n = m n :=
    ⟨_, _, _, hm₂, if_pos rfl, (if_neg (by decide +kernel)).trans (if_pos rfl), fun n h1 h2 => (if_neg h2).trans (if_neg h1)⟩
  refine wpAny_execs_cons ?_
  refine g_loop (s := { s with heap := h₂, toks := _ }) (c := c) (g := { g with worth := g.worth + zs.getD (base + c) 0 }) rfl rfl hG hA (X.to k₂) hm₂ (M.to fun n hn => r₂ n ?_ ?_) ((r₂ _ ?_ ?_).trans hmp) hc₂ ((r₂ _ ?_ ?_).trans hms) ((r₂ _ ?_ ?_).trans hmw) ((r₂ _ ?_ ?_).trans hmo) ((r₂ _ ?_ ?_).trans hmt) hc1 hwl hc2 hst1 hst2 hf1 hf2 hp ?_
  rotate_right
  · intro h₃ tk₃ m₃ k₃ hm₃ ho₃ ht₃ hr₃
    dsimp only at k₃
    refine wpAny_execs_nil (h h₃ tk₃ m₃ tw₂ (fun b o hb e => k₃ b o hb (k₂ b o hb e)) hm₃ ho₃ ht₃ ?_ fun n hn => ?_)
    · rw [gIns_worth]
      exact (hr₃ _ (by decide +kernel) (by decide +kernel) (by decide +kernel)).trans hw₂
    · refine (hr₃ n ?_ ?_ ?_).trans (r₂ n ?_ ?_)
      all_goals (rcases hn with rfl | rfl | rfl | rfl | rfl <;> decide +kernel)
  all_goals first | decide +kernel | (rcases hn with rfl | rfl | rfl | rfl <;> decide +kernel)
end
end Mine
end

-- Law19
section
set_option maxRecDepth 100000
set_option maxHeartbeats 4000000
namespace Mine
open PySem PySem.Calls PySem.W PyProof.Rows PySem.Builtin

noncomputable def gUpto (fs : List Bool × List Bool) (zs : List Int) (p : Nat) (g : GIn) (ks : List (List Nat × Nat × Nat)) (i : Nat) : GIn := (ks.take i).foldl (gStalk fs zs p) g
theorem gUpto_succ {fs : List Bool × List Bool} {zs : List Int} {p : Nat} {g : GIn} {ks : List (List Nat × Nat × Nat)} {i : Nat} {k : List Nat × Nat × Nat} (h : ks[i]? = some k) : gUpto fs zs p g ks (i + 1) = gStalk fs zs p (gUpto fs zs p g ks i) k := by
  unfold gUpto; rw [take_snoc h, List.foldl_append]; rfl

section
variable {prog : Program} {w : World} {A : Around} {E : Value → Shared → Prop} {s : Shared} {mg mb : Str → Option Value}

theorem for_walkL {R : Result → Shared → Prop} {env : Env} {elts : List Expr} {k : Nat} {pos : Pos} {body : List Stmt} {I l : Addr} {items : Array Value}
    (hA : A.handled = none) (hne : l ≠ I) (Inv : Nat → Shared → Prop) (h0 : Inv 0 s) (hit : s.heap.IsListIter I l 0) (hl : s.heap.IsList l items)
    (hstar : (assignEach elts env).findIdx? (·.1) = none)
    (turn : ∀ (i : Nat) (s₁ : Shared) (h' : Heap), i < items.size → h'.IsListIter I l (i + 1) → Inv i s₁ → (∀ b o, b ≠ I → s₁.heap.get? b = some o → h'.get? b = some o) →
      ∃ (T : Addr) (vals : Array Value), items[i]? = some (.ref T) ∧ h'.IsTuple T vals ∧ (assignEach elts env).length = vals.size ∧ ∀ h₃ : Heap, (∀ b o, h'.get? b = some o → h₃.get? b = some o) →
      wpAny (model prog w) A (assignInOrder ((assignEach elts env).map (·.2)) vals.toList) (fun _ s₂ => wpAny (model prog w) A (execs body env) (fun f s₃ => f = .next ∧ Inv (i + 1) s₃ ∧ (∀ o, h₃.get? I = some o → s₃.heap.get? I = some o) ∧ (∀ o, h₃.get? l = some o → s₃.heap.get? l = some o)) (fun _ _ => False) s₂) (fun _ _ => False) { s₁ with heap := h₃ })
    (done : ∀ (s₁ : Shared) (h' : Heap), Inv items.size s₁ → (∀ b o, b ≠ I → s₁.heap.get? b = some o → h'.get? b = some o) → R (.ok .next) { s₁ with heap := h' }) :
    codeAny (model prog w) A (.forLoop (.Tuple elts k pos) (.ref I) body [] env) R s := by
  refine codeAny_forLoop_any (fun k s' => ∃ i, i ≤ items.size ∧ k = items.size - i ∧ Inv i s' ∧ s'.heap.IsListIter I l i ∧ s'.heap.IsList l items) ?_ (items.size - 0) ⟨0, Nat.zero_le _, rfl, h0, hit, hl⟩
  rintro k s' ⟨i, hi, rfl, hI, hit, hl⟩
  rcases Nat.lt_or_ge i items.size with hlt | hge
  · refine wpAny_pyNext_list_item hit hl (x := items[i]) (by simp [hlt]) fun h' hit' hs' => ?_
    have kp : ∀ b o, b ≠ I → s'.heap.get? b = some o → h'.get? b = some o := fun b o hb e => hs'.extBut b o hb e
    have hl' : h'.IsList l items := hl.extBut hs'.extBut hne
    obtain ⟨T, vals, hT, hTup, hn, hgo⟩ := turn i s' h' hlt hit' hI kp
    have hT' : items[i] = .ref T := by rw [Array.getElem?_eq_getElem hlt] at hT; exact Option.some.inj hT
    rw [hT']
    refine wpAny_letOwnedTupleGo_listiter hit' ?_
    refine wpAny_assign_Tuple hA hTup hn hstar fun h₃ hx₃ => ?_
    have k3 : ∀ b o, h'.get? b = some o → h₃.get? b = some o := fun b o e => hx₃ b o (Nat.ne_of_lt (Heap.lt_size e)) e
    refine wpAny_mono (hgo h₃ k3) (fun _ s₂ h₂ => wpAny_mono h₂ (fun f s₃ h₃ => ?_) fun _ _ e => e.elim) fun _ _ e => e.elim
    obtain ⟨rfl, hI', kI, kl⟩ := h₃
    refine ⟨items.size - (i + 1), by omega, i + 1, by omega, rfl, hI', (hit'.at fun o e => kI o (k3 I o e)), ?_⟩
    obtain ⟨o, ho, r⟩ := hl'
    exact ⟨o, kl o (k3 l o ho), r⟩
  · have : i = items.size := by omega
    subst this
    refine wpAny_pyNext_list_end hA hit hl (by simp) fun h' he' => ?_
    exact wpAny_execs_nil (done s' h' hI fun b o hb e => he' b o hb e)

theorem s_loop {Q : Flow → Shared → Prop} {hD : Heap} {L oA sA fA gA p Z : Nat} {fs : List Bool × List Bool} {zs : List Int} {ks : List (List Nat × Nat × Nat)} {ov sv : List Value} {g : GIn} {m : Str → Option Value} {tp tg : Tok} {st : Stmt} {en : Env} (hst : st = forBody 3 (lwSt 18)) (hen : en = lwEnv L)
    (hG : ∀ h, KeepBut L hD h → Gr w mg mb h) (hA : A.handled = none)
    (X : LG hD L fA gA fs s.heap) (hoL : oA ≠ L) (ol : hD.IsList oA ov.toArray) (oi : IntsAre ov zs) (hz : zs.length ≤ 1000) (hsL : sA ≠ L) (sl : hD.IsList sA sv.toArray) (hLZ : L ≤ Z) (qs : Stalks hD Z sv ks)
    (hk : ∀ k ∈ ks, k.1.length ≤ 100 ∧ 1 ≤ k.2.1 ∧ k.2.1 ≤ 1000 ∧ k.2.2 + k.1.length < zs.length)
    (hm : s.heap.Ns L m) (M : MG oA sA fA gA m)
    (hmp : m "p" = some (.int p tp)) (hmo : m "one" = some (.bool g.one)) (hmt : m "two" = some (.bool g.two)) (hmg : m "worth" = some (.int g.worth tg))
    (hf1 : fs.1.length = p) (hf2 : fs.2.length = p) (hp : p ≤ 1000)
    (h : ∀ h' tk m' tg', KeepBut L s.heap h' → h'.Ns L m' → m' "one" = some (.bool (ks.foldl (gStalk fs zs p) g).one) → m' "two" = some (.bool (ks.foldl (gStalk fs zs p) g).two) → m' "worth" = some (.int (ks.foldl (gStalk fs zs p) g).worth tg') →
      MG oA sA fA gA m' → m' "p" = some (.int p tp) → Q .next { s with heap := h', toks := tk }) :
    wpAny (model prog w) A (exec st en) Q E s := by
  have hsl : sizeLine = 16777216 := rfl
  obtain ⟨pn1, pn2, pn3, k, pt, pp, hfor⟩ : ∃ pn1 pn2 pn3 k pt pp, forBody 3 (lwSt 18) = .For (.Tuple [.Name "word" pn1, .Name "step" pn2, .Name "base" pn3] k pt) (iterOf (forBody 3 (lwSt 18))) (bodyOf (forBody 3 (lwSt 18))) [] pp := ⟨_, _, _, _, _, _, rfl⟩
  rw [hst, hfor, hen]
  have hL0 : @LT.lt Nat _ L s.heap.objs.size := hm.lt
  have sl₀ : s.heap.IsList sA sv.toArray := by obtain ⟨o, ho, r⟩ := sl; exact ⟨o, X.keep sA o hsL ho, r⟩
  have hsA : @LT.lt Nat _ sA s.heap.objs.size := by obtain ⟨o, ho, _⟩ := sl₀; exact ltN (Heap.lt_size ho)
  have hDs : ∀ (b : Nat) o, b ≠ L → hD.get? b = some o → @LT.lt Nat _ b s.heap.objs.size := fun b o hb e => ltN (Heap.lt_size (X.keep b o hb e))
  refine wpAny_For ?_
  refine wpAny_Name (wpAny_loadName_local rfl rfl hm M.s ?_)
  refine wpAny_pyIter_list sl₀ ?_
  generalize hH1 : s.heap.push _ = H1
  generalize hI : s.heap.objs.size = I at *
  have k₁ : ∀ b o, s.heap.get? b = some o → H1.get? b = some o := fun b o e => hH1 ▸ Heap.get?_push_of_some _ e
  have hit : H1.IsListIter I sA 0 := ⟨_, hI ▸ hH1 ▸ Heap.get?_push_size _ rfl, rfl, rfl⟩
  have sl₁ : H1.IsList sA sv.toArray := by obtain ⟨o, ho, r⟩ := sl₀; exact ⟨o, k₁ sA o ho, r⟩
  have hsn : sv.length = ks.length := qs.length
  have hne : @Ne Nat sA I := by omega
  have hLI : @Ne Nat L I := by omega
  have h0 : ∀ b o, s.heap.get? b = some o → @LT.lt Nat _ b I := fun b o e => hI ▸ ltN (Heap.lt_size e)
  refine for_walkL (items := sv.toArray) hA hne (fun i s' => ∃ h tk m' tg', s' = { s with heap := h, toks := tk } ∧ KeepBut L s.heap h ∧ h.Ns L m' ∧ MG oA sA fA gA m' ∧ m' "p" = some (.int p tp) ∧ m' "one" = some (.bool (gUpto fs zs p g ks i).one) ∧ m' "two" = some (.bool (gUpto fs zs p g ks i).two) ∧ m' "worth" = some (.int (gUpto fs zs p g ks i).worth tg'))
    ⟨H1, s.toks, m, tg, rfl, fun b o _ e => k₁ b o e, hm.at fun o e => k₁ L o e, M, hmp, hmo, hmt, hmg⟩ hit sl₁ rfl ?_ ?_
  · rintro i s₁ h₅ hlt hit₅ ⟨h, tk, m₁, tg₁, rfl, kp, hm₁, M₁, hp₁, ho₁, ht₁, hg₁⟩ k₅
    have k05 : KeepBut L s.heap h₅ := fun b o hb e => k₅ b o (by have := h0 b o e; exact neN (by omega)) (kp b o hb e)
    have kD5 : KeepBut L hD h₅ := fun b o hb e => k05 b o hb (X.keep b o hb e)
    have hlt' : i < sv.length := by simpa using hlt
    have hvi : sv[i]? = some sv[i] := List.getElem?_eq_getElem hlt'
    obtain ⟨kk, hki, T, t1, t2, t3, hT, hZT, hTup⟩ := qs.get hvi
    obtain ⟨wd, step, base⟩ := kk
    obtain ⟨f1, f2, f3, f4⟩ := hk _ (List.mem_of_getElem? hki)
    dsimp only at f1 f2 f3 f4 hTup
    have hTL : @Ne Nat T L := by omega
    have hTup₅ : h₅.IsTuple T #[.str (S wd) t1, .int step t2, .int base t3] := by obtain ⟨o, ho, r⟩ := hTup; exact ⟨o, kD5 T o hTL ho, r⟩
    refine ⟨T, _, by simp only [List.getElem?_toArray]; rw [hvi, hT], hTup₅, rfl, fun h₃ k₃ => ?_⟩
    have k03 : KeepBut L s.heap h₃ := fun b o hb e => k₃ b o (k05 b o hb e)
    have hm₃ : h₃.Ns L m₁ := hm₁.at fun o e => k₃ L o (k₅ L o hLI e)
    show wpAny _ _ (do holding [Value.int step t2, Value.int base t3] (assign (.Name "word" pn1) (lwEnv L) (.str (S wd) t1)); do holding [Value.int base t3] (assign (.Name "step" pn2) (lwEnv L) (Value.int step t2)); do holding [] (assign (.Name "base" pn3) (lwEnv L) (Value.int base t3)); pure ()) _ _ _
    refine wpAny_bind (wpAny_holding (wpAny_assign_Name (wpAny_storeName_local rfl hm₃ (fun h₆ hm₆ hs₆ => ?_) rfl)))
    refine wpAny_bind (wpAny_holding (wpAny_assign_Name (wpAny_storeName_local rfl hm₆ (fun h₇ hm₇ hs₇ => ?_) rfl)))
    refine wpAny_bind (wpAny_holding (wpAny_assign_Name (wpAny_storeName_local rfl hm₇ (fun h₈ hm₈ hs₈ => wpAny_pure ?_) rfl)))
    dsimp only at hs₆ hs₇ hs₈ ⊢
    obtain ⟨m₈, hm₈', hw₈, hs₈', hb₈, r₈⟩ : ∃ (m₈ : Str → Option Value), h₈.Ns L m₈ ∧ m₈ "word" = some (.str (S wd) t1) ∧ m₈ "step" = some (.int step t2) ∧ m₈ "base" = some (.int base t3) ∧ ∀ n : Str, n ≠ "word" → n ≠ "step" → n ≠ "base" → m₈ n = m₁ n :=
      ⟨_, hm₈, (if_neg (by decide +kernel)).trans ((if_neg (by decide +kernel)).trans (if_pos rfl)), (if_neg (by decide +kernel)).trans (if_pos rfl), if_pos rfl, fun n h1 h2 h3 => (if_neg h3).trans ((if_neg h2).trans (if_neg h1))⟩
    have k38 : KeepBut L h₃ h₈ := fun b o hb e => (hs₈.2 b hb).trans ((hs₇.2 b hb).trans ((hs₆.2 b hb).trans e))
    have k08 : KeepBut L s.heap h₈ := fun b o hb e => k38 b o hb (k03 b o hb e)
    refine s_turn (s := { s with heap := h₈, toks := _ }) (wd := wd) (step := step) (base := base) (g := gUpto fs zs p g ks i) rfl rfl hG hA (X.to k08) hoL ol oi hz hm₈' (M₁.to fun n hn => r₈ n ?_ ?_ ?_) ((r₈ _ ?_ ?_ ?_).trans hp₁) hs₈' hb₈ hw₈ ((r₈ _ ?_ ?_ ?_).trans ho₁) ((r₈ _ ?_ ?_ ?_).trans ht₁) ((r₈ _ ?_ ?_ ?_).trans hg₁) f1 f2 f3 f4 hf1 hf2 hp ?_
    rotate_right
    · intro h₉ tk₉ m₉ tg₉ k₉ hm₉ ho₉ ht₉ hg₉ hr₉
      have k₉' : KeepBut L h₈ h₉ := k₉
      refine ⟨rfl, ⟨h₉, tk₉, m₉, tg₉, rfl, fun b o hb e => k₉' b o hb (k08 b o hb e), hm₉, ?_, ?_, ?_, ?_, ?_⟩, fun o e => k₉' I o (Ne.symm hLI) (k38 I o (Ne.symm hLI) e), fun o e => k₉' sA o hsL (k38 sA o hsL e)⟩
      · refine M₁.to fun n hn => (hr₉ n ?_).trans (r₈ n ?_ ?_ ?_)
        · rcases hn with rfl | rfl | rfl | rfl <;> simp
        all_goals (rcases hn with rfl | rfl | rfl | rfl <;> decide +kernel)
      · exact (hr₉ _ (by simp)).trans ((r₈ _ (by decide +kernel) (by decide +kernel) (by decide +kernel)).trans hp₁)
      · rw [gUpto_succ hki]; exact ho₉
      · rw [gUpto_succ hki]; exact ht₉
      · rw [gUpto_succ hki]; exact hg₉
    all_goals first | decide +kernel | (rcases hn with rfl | rfl | rfl | rfl <;> decide +kernel)
  · rintro s₁ h₅ ⟨h₄, tk, m₁, tg₁, rfl, kp, hm₁, M₁, hp₁, ho₁, ht₁, hg₁⟩ k₅
    have eU : gUpto fs zs p g ks sv.toArray.size = ks.foldl (gStalk fs zs p) g := by unfold gUpto; rw [List.take_of_length_le (by simp; omega)]
    rw [eU] at ho₁ ht₁ hg₁
    exact h h₅ tk m₁ tg₁ (fun b o hb e => k₅ b o (by have := h0 b o e; exact neN (by omega)) (kp b o hb e)) (hm₁.at fun o e => k₅ L o hLI e) ho₁ ht₁ hg₁ M₁ hp₁
end
end Mine
end

-- Law20
section
set_option maxRecDepth 100000
set_option maxHeartbeats 4000000
namespace Mine
open PySem PySem.Calls PySem.W PyProof.Rows PySem.Builtin

section
variable {prog : Program} {w : World} {A : Around} {E : Value → Shared → Prop} {s : Shared} {mg mb : Str → Option Value}

/-- LIST.append(NAME) of a bool -/
theorem addb_stmt {Q : Flow → Shared → Prop} {L a : Nat} {x y : Str} {b : Bool} {bs : List Bool} {m : Str → Option Value} {p1 p2 p3 p4 p5 : Pos} {st : Stmt} {en : Env} (hst : st = .Expr (.Call (.Attribute (.Name y p1) "append" p2) [.Name x p3] [] p4) p5) (hpp : (p2.endLine == p4.line) = true) (hen : en = lwEnv L)
    (hx : en.kindOf x = some .local) (hxd : (x == Str.ofString "__debug__") = false) (hy : en.kindOf y = some .local) (hyd : (y == Str.ofString "__debug__") = false)
    (hm : s.heap.Ns L m) (hmx : m x = some (.bool b)) (hmy : m y = some (.ref a)) (hl : PlainL s.heap a (bs.map Value.bool).toArray) (hn : bs.length ≤ 1000)
    (h : ∀ h' tk, Heap.SameBut a s.heap h' → PlainL h' a ((bs ++ [b]).map Value.bool).toArray → Q .next { s with heap := h', toks := tk }) :
    wpAny (model prog w) A (exec st en) Q E s := by
  have hsl : sizeLine = 16777216 := rfl
  subst hst hen
  refine wpAny_Expr_any (wpAny_Call_append rfl rfl hpp rfl ?_)
  refine wpAny_Name (hd := hyd) (wpAny_loadName_local rfl hy hm hmy ⟨a, _, rfl, hl, ?_⟩)
  refine wpAny_Name (hd := hxd) (wpAny_loadName_local rfl hx hm hmx ?_)
  refine list_append_plainL hl (fun h₅ hl₅ hs₅ => h h₅ _ hs₅ (by simpa using hl₅)) ?_
  simp; omega

/-- if ISTERMINAL(256 - worth) is not one or ISTERMINAL(256 + worth) is not two: return False -/
theorem ister_stmt {Q : Flow → Shared → Prop} {L : Nat} {g : GIn} {tg : Tok} {m : Str → Option Value} {st : Stmt} {en : Env} (hst : st = forBody 6 (lwSt 18)) (hen : en = lwEnv L)
    (hG : ∀ h, (∀ b o, s.heap.get? b = some o → h.get? b = some o) → Gr w mg mb h) (hroom : A.depth < recursionLimit)
    (hm : s.heap.Ns L m) (hmo : m "one" = some (.bool g.one)) (hmt : m "two" = some (.bool g.two)) (hmg : m "worth" = some (.int g.worth tg)) (hok : gOk g = true)
    (h : ∀ h' tk, (∀ b o, s.heap.get? b = some o → h'.get? b = some o) → Q .next { s with heap := h', toks := tk }) :
    wpAny (model prog w) A (exec st en) Q E s := by
  subst hst hen
  simp only [gOk, Bool.and_eq_true, beq_iff_eq] at hok
  obtain ⟨⟨o1, o2⟩, _⟩ := hok
  have G := hG s.heap fun _ _ e => e
  refine wpAny_If (isTrue_or (wpAny_isTrue_Compare1 ?_))
  refine wpAny_Call_NameR (Calls.Name_function_global rfl rfl (Calls.loadGlobal_global G.g (G.glob (v := .ref 72) rfl) ?_))
  refine cwf (P := fun h => Gr w mg mb h) (fun h g => by obtain ⟨⟨o, pm, doc, ho, hd⟩, _⟩ := g.f72; exact ⟨o, _, ho, hd⟩) (spl_cons (wpAny_BinOp (wpAny_Constant_int (wpAny_Name (wpAny_loadName_local rfl rfl hm hmg (sub_int (spl_nil ⟨G, ?_⟩)))))))
  refine ister_call G hroom fun h₁ tk₁ k₁ => ?_
  have hm₁ := hm.at fun o e => k₁ L o e
  have G₁ := hG h₁ k₁
  rw [o1]
  refine wpAny_Name (wpAny_loadName_local rfl rfl hm₁ hmo (wpAny_isNot_self rfl (wpAny_truthy_bool ?_)))
  rw [if_neg (by simp)]
  refine isTrue_or (wpAny_isTrue_Compare1 ?_)
  refine wpAny_Call_NameR (Calls.Name_function_global rfl rfl (Calls.loadGlobal_global G₁.g (G₁.glob (v := .ref 72) rfl) ?_))
  refine cwf (P := fun h => Gr w mg mb h) (fun h g => by obtain ⟨⟨o, pm, doc, ho, hd⟩, _⟩ := g.f72; exact ⟨o, _, ho, hd⟩) (spl_cons (wpAny_BinOp (wpAny_Constant_int (wpAny_Name (wpAny_loadName_local rfl rfl hm₁ hmg (add_int (spl_nil ⟨G₁, ?_⟩)))))))
  refine ister_call G₁ hroom fun h₂ tk₂ k₂ => ?_
  dsimp only at k₂
  have hm₂ := hm₁.at fun o e => k₂ L o e
  rw [o2]
  refine wpAny_Name (wpAny_loadName_local rfl rfl hm₂ hmt (wpAny_isNot_self rfl (wpAny_truthy_bool ?_)))
  rw [if_neg (by simp)]
  refine isTrue_or_nil ?_
  rw [if_neg (by simp)]
  exact wpAny_execs_nil (h h₂ _ fun b o e => k₂ b o (k₁ b o e))

/-- if ISEOF(worth) is not (not one and (not two)): return False -/
theorem iseof_stmt {Q : Flow → Shared → Prop} {L : Nat} {g : GIn} {tg : Tok} {m : Str → Option Value} {st : Stmt} {en : Env} (hst : st = forBody 7 (lwSt 18)) (hen : en = lwEnv L)
    (G : Gr w mg mb s.heap) (hroom : A.depth < recursionLimit)
    (hm : s.heap.Ns L m) (hmo : m "one" = some (.bool g.one)) (hmt : m "two" = some (.bool g.two)) (hmg : m "worth" = some (.int g.worth tg)) (hok : gOk g = true)
    (h : ∀ h' tk, (∀ b o, s.heap.get? b = some o → h'.get? b = some o) → Q .next { s with heap := h', toks := tk }) :
    wpAny (model prog w) A (exec st en) Q E s := by
  subst hst hen
  simp only [gOk, Bool.and_eq_true, beq_iff_eq] at hok
  obtain ⟨_, o3⟩ := hok
  refine wpAny_If (wpAny_isTrue_Compare1 ?_)
  refine wpAny_Call_NameR (Calls.Name_function_global rfl rfl (Calls.loadGlobal_global G.g (G.glob (v := .ref 79) rfl) ?_))
  refine cwf (P := fun h => Gr w mg mb h) (fun h g => by obtain ⟨⟨o, pm, doc, ho, hd⟩, _⟩ := g.f79; exact ⟨o, _, ho, hd⟩) (spl_cons (wpAny_Name (wpAny_loadName_local rfl rfl hm hmg (spl_nil ⟨G, ?_⟩))))
  refine iseof_call G hroom fun h₁ tk₁ k₁ => ?_
  have hm₁ := hm.at fun o e => k₁ L o e
  rw [o3]
  have fin : ∀ tk, wpAny (model prog w) A (compareOp .IsNot (.bool (!g.one && !g.two)) (.bool (!g.one && !g.two))) (fun c s₃ => wpAny (model prog w) A (truthy c) (fun b s₂ => if b = true then wpAny (model prog w) A (execs (bodyOf (forBody 7 (lwSt 18))) (lwEnv L)) Q E s₂ else wpAny (model prog w) A (execs [] (lwEnv L)) Q E s₂) E s₃) E { s with heap := h₁, toks := tk } := by
    intro tk
    refine wpAny_isNot_self rfl (wpAny_truthy_bool ?_)
    rw [if_neg (by simp)]
    exact wpAny_execs_nil (h h₁ _ k₁)
  refine BoolOp_and (wpAny_UnaryOp (wpAny_Name (wpAny_loadName_local rfl rfl hm₁ hmo (not_value (wpAny_truthy_bool (wpAny_truthy_bool ?_))))))
  cases ho : g.one with
  | true =>
    rw [if_neg (by simp)]
    have := fin tk₁
    rw [ho] at this
    exact this
  | false =>
    rw [if_pos (by simp)]
    refine BoolOp_one (wpAny_UnaryOp (wpAny_Name (wpAny_loadName_local rfl rfl hm₁ hmt (not_value (wpAny_truthy_bool ?_)))))
    have := fin tk₁
    rw [ho] at this
    exact this
end
end Mine
end

-- Law21
section
set_option maxRecDepth 100000
set_option maxHeartbeats 4000000
namespace Mine
open PySem PySem.Calls PySem.W PyProof.Rows PySem.Builtin

noncomputable def gAt (ks : List (List Nat × Nat × Nat)) (zs : List Int) (i : Nat) : List Bool × List Bool := (List.range i).foldl (gNext ks zs) ([], [])
theorem gAt_succ (ks : List (List Nat × Nat × Nat)) (zs : List Int) (i : Nat) : gAt ks zs (i + 1) = gNext ks zs (gAt ks zs i) i := by
  unfold gAt; rw [List.range_succ, List.foldl_append]; rfl
theorem gAt_len (ks : List (List Nat × Nat × Nat)) (zs : List Int) : ∀ i, (gAt ks zs i).1.length = i ∧ (gAt ks zs i).2.length = i
  | 0 => ⟨rfl, rfl⟩
  | i + 1 => by
    obtain ⟨h1, h2⟩ := gAt_len ks zs i
    rw [gAt_succ]
    simp [gNext, h1, h2]
theorem runG_go (ks : List (List Nat × Nat × Nat)) (zs : List Int) : ∀ (f p : Nat) (fs : List Bool × List Bool), runG ks zs f p fs = true → ∀ i, i < f → gOk (gTurn ks zs ((List.range' p i).foldl (gNext ks zs) fs) (p + i)) = true
  | 0, _, _, _, i, hi => absurd hi (Nat.not_lt_zero i)
  | f + 1, p, fs, h, i, hi => by
    simp only [runG, Bool.and_eq_true] at h
    cases i with
    | zero => exact h.1
    | succ i =>
      have := runG_go ks zs f (p + 1) _ h.2 i (by omega)
      rw [List.range'_succ, List.foldl_cons]
      rw [show p + 1 + i = p + (i + 1) by omega] at this
      exact this
theorem runG_ok {ks : List (List Nat × Nat × Nat)} {zs : List Int} {n : Nat} (h : runG ks zs n 0 ([], []) = true) {i : Nat} (hi : i < n) : gOk (gTurn ks zs (gAt ks zs i) i) = true := by
  have := runG_go ks zs n 0 _ h i hi
  rw [Nat.zero_add, ← List.range_eq_range'] at this
  exact this

section
variable {prog : Program} {w : World} {A : Around} {E : Value → Shared → Prop} {s : Shared} {mg mb : Str → Option Value}

theorem p_turn {Q : Flow → Shared → Prop} {hD : Heap} {L oA sA fA gA p Z : Nat} {fs : List Bool × List Bool} {zs : List Int} {ks : List (List Nat × Nat × Nat)} {ov sv : List Value} {m : Str → Option Value} {tp : Tok} {bs : List Stmt} {en : Env} (hbs : bs = bodyOf (lwSt 18)) (hen : en = lwEnv L)
    (hG : ∀ h, KeepBut L hD h → Gr w mg mb h) (hA : A.handled = none) (hroom : A.depth < recursionLimit)
    (X : LG hD L fA gA fs s.heap) (hoL : oA ≠ L) (ol : hD.IsList oA ov.toArray) (oi : IntsAre ov zs) (hz : zs.length ≤ 1000) (hsL : sA ≠ L) (sl : hD.IsList sA sv.toArray) (hLZ : L ≤ Z) (qs : Stalks hD Z sv ks)
    (hk : ∀ k ∈ ks, k.1.length ≤ 100 ∧ 1 ≤ k.2.1 ∧ k.2.1 ≤ 1000 ∧ k.2.2 + k.1.length < zs.length)
    (hm : s.heap.Ns L m) (M : MG oA sA fA gA m) (hmp : m "p" = some (.int p tp)) (hf1 : fs.1.length = p) (hf2 : fs.2.length = p) (hp : p ≤ 999) (hok : gOk (gTurn ks zs fs p) = true)
    (h : ∀ h' tk m', LG hD L fA gA (gNext ks zs fs p) h' → h'.Ns L m' → MG oA sA fA gA m' → (∀ (b : Nat) o, b ≠ L → b ≠ fA → b ≠ gA → s.heap.get? b = some o → h'.get? b = some o) → Q .next { s with heap := h', toks := tk }) :
    wpAny (model prog w) A (execs bs en) Q E s := by
  subst hbs hen
  obtain ⟨l1, l2, l3⟩ := X.lt
  refine wpAny_execs_cons (wpAny_Assign_Name (wpAny_Constant_bool (wpAny_storeName_local rfl hm (fun h₁ hm₁ hs₁ => ?_) rfl)))
  refine wpAny_execs_cons (wpAny_Assign_Name (wpAny_Constant_bool (wpAny_storeName_local rfl hm₁ (fun h₂ hm₂ hs₂ => ?_) rfl)))
  refine wpAny_execs_cons (wpAny_Assign_Name (wpAny_Constant_int (wpAny_storeName_local rfl hm₂ (fun h₃ hm₃ hs₃ => ?_) rfl)))
  dsimp only at hs₁ hs₂ hs₃ ⊢
  obtain ⟨m₃, tg, hm₃', ho₃, ht₃, hg₃, r₃⟩ : ∃ (m₃ : Str → Option Value) (tg : Tok), h₃.Ns L m₃ ∧ m₃ "one" = some (.bool false) ∧ m₃ "two" = some (.bool false) ∧ m₃ "worth" = some (.int 0 tg) ∧ ∀ n : Str, n ≠ "one" → n ≠ "two" → n ≠ "worth" → m₃ n = m n :=
    ⟨_, _, hm₃, (if_neg (by decide +kernel)).trans ((if_neg (by decide +kernel)).trans (if_pos rfl)), (if_neg (by decide +kernel)).trans (if_pos rfl), if_pos rfl, fun n h1 h2 h3 => (if_neg h3).trans ((if_neg h2).trans (if_neg h1))⟩
  have k03 : KeepBut L s.heap h₃ := fun b o hb e => (hs₃.2 b hb).trans ((hs₂.2 b hb).trans ((hs₁.2 b hb).trans e))
  have X₃ := X.to k03
  refine wpAny_execs_cons ?_
  refine s_loop (s := { s with heap := h₃, toks := _ }) (g := ⟨false, false, 0⟩) rfl rfl hG hA X₃ hoL ol oi hz hsL sl hLZ qs hk hm₃' (M.to fun n hn => r₃ n ?_ ?_ ?_) ((r₃ _ (by decide +kernel) (by decide +kernel) (by decide +kernel)).trans hmp) ho₃ ht₃ hg₃ hf1 hf2 (by omega) ?_
  rotate_right
  · intro h₄ tk₄ m₄ tg₄ k₄ hm₄ ho₄ ht₄ hg₄ M₄ hp₄
    have k₄' : KeepBut L h₃ h₄ := k₄
    have k04 : KeepBut L s.heap h₄ := fun b o hb e => k₄' b o hb (k03 b o hb e)
    have X₄ := X.to k04
    change m₄ "one" = some (.bool (gTurn ks zs fs p).one) at ho₄
    change m₄ "two" = some (.bool (gTurn ks zs fs p).two) at ht₄
    change m₄ "worth" = some (.int (gTurn ks zs fs p).worth tg₄) at hg₄
    have eN : gNext ks zs fs p = (fs.1 ++ [(gTurn ks zs fs p).one], fs.2 ++ [(gTurn ks zs fs p).two]) := rfl
    rw [eN] at h
    generalize gTurn ks zs fs p = g at *
    refine wpAny_execs_cons ?_
    refine addb_stmt (s := { s with heap := h₄, toks := tk₄ }) (x := "one") (y := "first") (bs := fs.1) rfl rfl rfl rfl (by decide +kernel) rfl (by decide +kernel) hm₄ ho₄ M₄.f X₄.first (by omega) ?_
    intro h₅ tk₅ hs₅ f₅
    dsimp only at hs₅
    have hm₅ : h₅.Ns L m₄ := hm₄.at fun o e => (hs₅.2 L (show @Ne Nat L fA by omega)).trans e
    have s₅ : PlainL h₅ gA (fs.2.map Value.bool).toArray := by obtain ⟨o, n, ho, r⟩ := X₄.second; exact ⟨o, n, (hs₅.2 gA (show @Ne Nat gA fA by omega)).trans ho, r⟩
    refine wpAny_execs_cons ?_
    refine addb_stmt (s := { s with heap := h₅, toks := tk₅ }) (x := "two") (y := "second") (bs := fs.2) rfl rfl rfl rfl (by decide +kernel) rfl (by decide +kernel) hm₅ ht₄ M₄.g s₅ (by omega) ?_
    intro h₆ tk₆ hs₆ g₆
    dsimp only at hs₆
    have hm₆ : h₆.Ns L m₄ := hm₅.at fun o e => (hs₆.2 L (show @Ne Nat L gA by omega)).trans e
    have f₆ : PlainL h₆ fA ((fs.1 ++ [g.one]).map Value.bool).toArray := by obtain ⟨o, n, ho, r⟩ := f₅; exact ⟨o, n, (hs₆.2 fA (show @Ne Nat fA gA by omega)).trans ho, r⟩
    have k06 : ∀ (b : Nat) o, b ≠ L → b ≠ fA → b ≠ gA → s.heap.get? b = some o → h₆.get? b = some o := fun b o h1 h2 h3 e => (hs₆.2 b h3).trans ((hs₅.2 b h2).trans (k04 b o h1 e))
    have X₆ : LG hD L fA gA (fs.1 ++ [g.one], fs.2 ++ [g.two]) h₆ := ⟨fun b o hb e => k06 b o hb (by have := ltN (Heap.lt_size e); omega) (by have := ltN (Heap.lt_size e); omega) (X.keep b o hb e), f₆, g₆, l1, l2, l3⟩
    refine wpAny_execs_cons ?_
    refine ister_stmt (s := { s with heap := h₆, toks := tk₆ }) (g := g) rfl rfl (fun h k => hG h fun b o hb e => k b o (X₆.keep b o hb e)) hroom hm₆ ho₄ ht₄ hg₄ hok ?_
    intro h₇ tk₇ k₇
    dsimp only at k₇
    have X₇ := X₆.to fun b o _ e => k₇ b o e
    have hm₇ := hm₆.at fun o e => k₇ L o e
    refine wpAny_execs_cons ?_
    refine iseof_stmt (s := { s with heap := h₇, toks := tk₇ }) (g := g) rfl rfl (hG _ X₇.keep) hroom hm₇ ho₄ ht₄ hg₄ hok ?_
    intro h₈ tk₈ k₈
    dsimp only at k₈
    exact wpAny_execs_nil (h h₈ tk₈ m₄ (X₇.to fun b o _ e => k₈ b o e) (hm₇.at fun o e => k₈ L o e) M₄ fun b o h1 h2 h3 e => k₈ b o (k₇ b o (k06 b o h1 h2 h3 e)))
  all_goals (rcases hn with rfl | rfl | rfl | rfl <;> decide +kernel)

theorem p_loop {Q : Flow → Shared → Prop} {hD : Heap} {L oA sA fA gA wt Z : Nat} {zs : List Int} {ks : List (List Nat × Nat × Nat)} {ov sv : List Value} {m : Str → Option Value} {tw : Tok} {st : Stmt} {en : Env} (hst : st = lwSt 18) (hen : en = lwEnv L)
    (hG : ∀ h, KeepBut L hD h → Gr w mg mb h) (hA : A.handled = none) (hroom : A.depth < recursionLimit)
    (X : LG hD L fA gA ([], []) s.heap) (hoL : oA ≠ L) (ol : hD.IsList oA ov.toArray) (oi : IntsAre ov zs) (hz : zs.length ≤ 1000) (hsL : sA ≠ L) (sl : hD.IsList sA sv.toArray) (hLZ : L ≤ Z) (qs : Stalks hD Z sv ks)
    (hk : ∀ k ∈ ks, k.1.length ≤ 100 ∧ 1 ≤ k.2.1 ∧ k.2.1 ≤ 1000 ∧ k.2.2 + k.1.length < zs.length)
    (hm : s.heap.Ns L m) (M : MG oA sA fA gA m) (hmw : m "weight" = some (.int wt tw)) (hwt : wt ≤ 1000) (hok : runG ks zs wt 0 ([], []) = true)
    (h : ∀ h' tk, KeepBut L hD h' → Q .next { s with heap := h', toks := tk }) :
    wpAny (model prog w) A (exec st en) Q E s := by
  have hsl : sizeLine = 16777216 := rfl
  obtain ⟨l1, l2, l3⟩ := X.lt
  have G₀ := hG s.heap X.keep
  have hran := G₀.built (n := "range") rfl boot_range (by decide +kernel)
  obtain ⟨pn, ps, hfor⟩ : ∃ pn ps, lwSt 18 = .For (.Name "p" pn) (iterOf (lwSt 18)) (bodyOf (lwSt 18)) [] ps := ⟨_, _, rfl⟩
  rw [hst, hfor, hen]
  refine wpAny_For ?_
  refine wpAny_Call_NameR (Calls.Name_function_global rfl rfl (Calls.loadGlobal_builtin G₀.g hran.1 G₀.b hran.2 ?_))
  refine PyProof.Rows.callWith_type1 (spl_cons (wpAny_Name (wpAny_loadName_local rfl rfl hm hmw (spl_nil ?_))))
  refine range_iter (m := wt) (by omega) fun h₁ tk₁ I hI k₁ hit => ?_
  replace hI : @LT.lt Nat _ s.heap.objs.size I := hI
  have hg0 : @LT.lt Nat _ gA s.heap.objs.size := by obtain ⟨o, n, ho, _⟩ := X.second; exact ltN (Heap.lt_size ho)
  have W := Walks.range (prog := prog) (w := w) (A := A) hA I 0 1 wt
  have hLI : @Ne Nat L I := by omega
  have mid : ∀ (fs : List Bool × List Bool) (h h₅ : Heap), (∀ (b : Nat) o, b ≠ I → h.get? b = some o → h₅.get? b = some o) → LG hD L fA gA fs h → LG hD L fA gA fs h₅ := by
    intro fs h h₅ k₅ X'
    obtain ⟨kp, ⟨o1, n1, h1, r1⟩, ⟨o2, n2, h2, r2⟩, _⟩ := X'
    exact ⟨fun b o hb e => k₅ b o (by have := ltN (Heap.lt_size e); omega) (kp b o hb e), ⟨o1, n1, k₅ fA o1 (by omega) h1, r1⟩, ⟨o2, n2, k₅ gA o2 (by omega) h2, r2⟩, l1, l2, l3⟩
  refine for_walk W (fun i s' => ∃ h tk m, s' = { s with heap := h, toks := tk } ∧ LG hD L fA gA (gAt ks zs i) h ∧ h.Ns L m ∧ MG oA sA fA gA m)
    ⟨h₁, _, m, rfl, mid _ _ _ (fun b o _ e => k₁ b o e) X, hm.at fun o e => k₁ L o e, M⟩ hit ?_ ?_
  · rintro i v s₁ h₅ tk₅ hlt ⟨tv, rfl⟩ ⟨h, tk, m₁, rfl, X, hm₁, M₁⟩ k₅
    have k₅' : ∀ (b : Nat) o, b ≠ I → h.get? b = some o → h₅.get? b = some o := fun b o hb e => k₅ b o (by simpa using hb) e
    have X₅ := mid _ _ _ k₅' X
    have hm₅ := hm₁.at fun o e => k₅' L o hLI e
    have ei : (0 : Int) + (i : Int) * 1 = (i : Int) := by omega
    rw [ei]
    refine wpAny_storeName_local rfl hm₅ (fun h₆ hm₆ hs₆ => ?_) rfl
    dsimp only at hs₆ hm₆ ⊢
    have k56 : KeepBut L h₅ h₆ := fun b o hb e => (hs₆.2 b hb).trans e
    obtain ⟨g1, g2⟩ := gAt_len ks zs i
    refine p_turn (s := { s with heap := h₆, toks := _ }) (p := i) (tp := tv) rfl rfl hG hA hroom (X₅.to k56) hoL ol oi hz hsL sl hLZ qs hk hm₆ (M₁.but (y := "p") (fun n hn => if_neg hn) (by decide +kernel) (by decide +kernel) (by decide +kernel) (by decide +kernel)) (if_pos rfl) g1 g2 (by omega) (runG_ok hok hlt) ?_
    intro h₇ tk₇ m₇ X₇ hm₇ M₇ k₇
    dsimp only at k₇
    refine ⟨rfl, ⟨h₇, tk₇, m₇, rfl, ?_, hm₇, M₇⟩, ?_⟩
    · rw [gAt_succ]; exact X₇
    · intro b hb o e
      rw [List.mem_singleton.mp hb] at e ⊢
      exact k₇ I o (Ne.symm hLI) (show @Ne Nat I fA by omega) (show @Ne Nat I gA by omega) (k56 I o (Ne.symm hLI) e)
  · rintro s₁ h₅ tk₅ ⟨h₄, tk, m₁, rfl, X, hm₁, M₁⟩ k₅
    have k₅' : ∀ (b : Nat) o, b ≠ I → h₄.get? b = some o → h₅.get? b = some o := fun b o hb e => k₅ b o (by simpa using hb) e
    exact h h₅ tk₅ (mid _ _ _ k₅' X).keep
end
end Mine
end

-- Law22
section
set_option maxRecDepth 100000
set_option maxHeartbeats 4000000
namespace Mine
open PySem PySem.Calls PySem.W PyProof.Rows PySem.Builtin

theorem mUpto_stalks (ws : List (List Nat)) (hw : ∀ wd ∈ ws, wd.length ≤ 4) : ∀ i, i ≤ ws.length → i ≤ 3 → 1 ≤ (mUpto ws i).weight ∧ ∀ k ∈ (mUpto ws i).stalks, k.1.length ≤ 100 ∧ 1 ≤ k.2.1 ∧ k.2.1 ≤ 1000 ∧ k.2.2 + k.1.length < (mUpto ws i).cuts.length
  | 0, _, _ => by
    refine ⟨Nat.le_refl _, fun k hk => ?_⟩
    have : k ∈ ([] : List (List Nat × Nat × Nat)) := hk
    cases this
  | i + 1, hi, hi3 => by
    obtain ⟨hw1, hk⟩ := mUpto_stalks ws hw i (by omega) (by omega)
    obtain ⟨_, _, _, h4⟩ := mUpto_facts ws hw i (by omega)
    have h5 : 5 ^ i ≤ 5 ^ 3 := Nat.pow_le_pow_right (by decide) (by omega)
    have hlt : i < ws.length := by omega
    have hget : ws[i]? = some ws[i] := List.getElem?_eq_getElem hlt
    have hl := hw _ (List.getElem_mem hlt)
    rw [mUpto_succ hget]
    obtain ⟨f1, f2, f3, f4⟩ := mIns_facts ws[i] (mHead (mUpto ws i) ws[i]) (ws[i].length + 1)
    have e : mOut (mUpto ws i) ws[i] = mIns ws[i] (mHead (mUpto ws i) ws[i]) (ws[i].length + 1) := rfl
    rw [e, f2, f3, f4]
    have ec : (mHead (mUpto ws i) ws[i]).cuts.length = (mUpto ws i).cuts.length + 1 := by simp [mHead]
    rw [ec]
    refine ⟨Nat.mul_pos hw1 (by omega), fun k hk' => ?_⟩
    have hk'' : k ∈ (mUpto ws i).stalks ++ [(ws[i], (mUpto ws i).weight, (mUpto ws i).cuts.length + 1)] := hk'
    rcases List.mem_append.mp hk'' with hm | hm
    · obtain ⟨a, b, c, d⟩ := hk k hm
      exact ⟨a, b, c, by omega⟩
    · rw [List.mem_singleton.mp hm]
      refine ⟨?_, hw1, ?_, ?_⟩
      · show ws[i].length ≤ 100; omega
      · show (mUpto ws i).weight ≤ 1000; omega
      · show (mUpto ws i).cuts.length + 1 + ws[i].length < _; omega
theorem mAll_eq (ws : List (List Nat)) : mUpto ws ws.length = mAll ws := by unfold mUpto mAll; rw [List.take_length]

theorem outW_len (n x : Nat) : (outW n x).length ≤ n + 1 := by
  unfold outW
  split <;> simp [wordW_len]

section
variable {prog : Program} {w : World} {A : Around} {E : Value → Shared → Prop} {s : Shared} {mg mb : Str → Option Value}

/-- the second half, from the names on -/
theorem law_tail {Q : Flow → Shared → Prop} {h₀ hB : Heap} {L eA wA : Nat} {m : Str → Option Value} {ev wv : List Value} {ws : List (List Nat)} {tk : Nat} {gs : Array GenState} {en : Env} (hen : en = lwEnv L)
    (G : Gr w mg mb h₀) (hA : A.handled = none) (hroom : A.depth + 3 < recursionLimit) (hu : A.units + 200 < cLine) (h0 : ∀ b o, h₀.get? b = some o → hB.get? b = some o) (hL : h₀.objs.size ≤ L)
    (hm : hB.Ns L m) (hme : m "ends" = some (.ref eA)) (hmw : m "words" = some (.ref wA)) (heA : eA ≠ L) (hwA : wA ≠ L)
    (el : hB.IsList eA ev.toArray) (els : StrsAre ev [S [10], S [13], S [13, 10]]) (wl : hB.IsList wA wv.toArray) (wls : StrsAre wv (ws.map S)) (hw : ∀ wd ∈ ws, wd.length ≤ 4) (hwn : ws.length ≤ 3) (hok : allOk ws = true)
    (h : ∀ h' tk gs', (∀ b o, h₀.get? b = some o → h'.get? b = some o) → (gs' = gs ∨ gs' = gs.push .finished) → Q (.ret (.bool true)) { s with heap := h', toks := tk, gens := gs' }) :
    wpAny (model prog w) A (execs [lwSt 7, lwSt 8, lwSt 9, lwSt 10, lwSt 11, lwSt 12, lwSt 13, lwSt 14, lwSt 15, lwSt 16, lwSt 17, lwSt 18, lwSt 19] en) Q E { s with heap := hB, toks := tk, gens := gs } := by
  have hsl : sizeLine = 16777216 := rfl
  have kL : ∀ b o, h₀.get? b = some o → @LT.lt Nat _ b L := fun b o e => Nat.lt_of_lt_of_le (ltN (Heap.lt_size e)) hL
  have hGB : ∀ h, KeepBut L hB h → Gr w mg mb h := fun h k => G.keeps fun b o e => k b o (by have := kL b o e; omega) (h0 b o e)
  have hLB : @LT.lt Nat _ L hB.objs.size := hm.lt
  have heB : @LT.lt Nat _ eA hB.objs.size := by obtain ⟨o, ho, _⟩ := el; exact ltN (Heap.lt_size ho)
  have hwB : @LT.lt Nat _ wA hB.objs.size := by obtain ⟨o, ho, _⟩ := wl; exact ltN (Heap.lt_size ho)
  simp only [allOk, Bool.and_eq_true, decide_eq_true_eq] at hok
  obtain ⟨⟨hlen, hzips⟩, hrun⟩ := hok
  obtain ⟨f1, f2, f3, f4⟩ := mUpto_facts ws hw ws.length (Nat.le_refl _)
  have f5 : 5 ^ ws.length ≤ 5 ^ 3 := Nat.pow_le_pow_right (by decide) hwn
  obtain ⟨_, hstk⟩ := mUpto_stalks ws hw ws.length (Nat.le_refl _) hwn
  rw [mAll_eq] at f1 f2 f3 f4 hstk
  generalize hmt : mAll ws = mt at *
  subst hen
  refine m_names (s := { s with heap := hB, toks := tk, gens := gs }) rfl hm hme hmw ?_
  intro h₁ tk₁ m₁ cA sA X₁ hm₁ M₁
  refine wpAny_execs_cons ?_
  refine out_loop (s := { s with heap := h₁, toks := tk₁, gens := gs }) (ws := ws) rfl rfl hGB hA X₁ heA el els hwA wl wls hw hwn hm₁ M₁ ?_
  intro h₂ tk₂ m₂ Z X₂ hm₂ M₂
  rw [hmt] at X₂ M₂
  obtain ⟨l1, l2, l3, l4⟩ := X₂.lt
  obtain ⟨ut, hty⟩ := M₂.t
  refine wpAny_execs_cons ?_
  refine rows_stmt (s := { s with heap := h₂, toks := tk₂, gens := gs }) (ty := mt.typed) rfl rfl (hGB _ X₂.keep) hA (by omega) hm₂ hty (by omega) ?_
  intro h₃ tk₃ gs₃ m₃ rA rv k₃ hgs hrA rl rs hm₃ hr₃ ho₃
  have k₃' : KeepBut L h₂ h₃ := k₃
  have hrA' : @LE.le Nat _ h₂.objs.size rA := hrA
  have X₃ : LB hB L cA sA Z mt.cuts mt.stalks h₃ := X₂.to fun b o hb _ e => k₃' b o hb e
  have hG₃ : ∀ h, KeepBut L h₃ h → Gr w mg mb h := fun h k => hGB h fun b o hb e => k b o hb (X₃.keep b o hb e)
  obtain ⟨cv, cl, cls⟩ := X₃.cuts
  obtain ⟨sv, sl, qs⟩ := X₃.stalks
  have hcn : cv.length = mt.cuts.length := by have := cls.length; simpa using this
  have hrn : rv.length = mt.cuts.length := by have := rs.length; rw [← hlen]; simpa using this
  have hL3 : @LT.lt Nat _ L h₃.objs.size := hm₃.lt
  have hcl3 : @LT.lt Nat _ cA h₃.objs.size := by obtain ⟨o, n, ho, _⟩ := cl; exact ltN (Heap.lt_size ho)
  have hsl3 : @LT.lt Nat _ sA h₃.objs.size := by obtain ⟨o, n, ho, _⟩ := sl; exact ltN (Heap.lt_size ho)
  have hrl3 : @LT.lt Nat _ rA h₃.objs.size := by obtain ⟨o, n, ho, _⟩ := rl; exact ltN (Heap.lt_size ho)
  have hL2 : @LT.lt Nat _ L h₂.objs.size := hm₂.lt
  have c₃ := (ho₃ _ (by decide +kernel)).trans M₂.c
  have s₃ := (ho₃ _ (by decide +kernel)).trans M₂.s
  obtain ⟨ug, g₂⟩ := M₂.g
  have g₃ := (ho₃ _ (by decide +kernel)).trans g₂
  refine wpAny_execs_cons ?_
  refine lens_stmt (s := { s with heap := h₃, toks := tk₃, gens := gs₃ }) rfl rfl (hG₃ h₃ fun _ _ _ e => e) hm₃ hr₃ c₃ rl.isList cl.isList (by omega) (by omega) ?_
  intro tk₄
  refine wpAny_execs_cons ?_
  obtain ⟨q1, q2, q3, hq⟩ : ∃ q1 q2 q3, lwSt 14 = .Assign [.Name "worths" q1] (.List [] q2) q3 := ⟨_, _, _, rfl⟩
  refine empty_stmt (s := { s with heap := h₃, toks := tk₄, gens := gs₃ }) (y := "worths") hq rfl rfl hm₃ ?_
  intro h₅ tk₅ m₅ k₅ w₅ z₅ hm₅ hw₅ ho₅
  dsimp only at w₅ z₅ hw₅
  have k₅' : KeepBut L h₃ h₅ := k₅
  generalize hoA : h₃.objs.size = oA at *
  have M₅ : MZ oA sA mt.weight m₅ := ⟨hw₅, (ho₅ _ (by decide +kernel)).trans s₃, ⟨ug, (ho₅ _ (by decide +kernel)).trans g₃⟩⟩
  refine wpAny_execs_cons ?_
  refine zip_loop (s := { s with heap := h₅, toks := tk₅, gens := gs₃ }) (hC := h₃) (rows := readP mt.typed) (cs := mt.cuts) rfl rfl hG₃ hA (by omega) (by omega) ⟨k₅', ⟨[], w₅, .nil⟩, by omega, by omega⟩ hm₅ M₅ ((ho₅ _ (by decide +kernel)).trans hr₃) ((ho₅ _ (by decide +kernel)).trans c₃) (show @Ne Nat rA L by omega) (show @Ne Nat cA L by omega) rl.isList rs cl.isList cls hlen (by omega) hzips ?_
  intro h₆ tk₆ m₆ X₆ hm₆ M₆
  obtain ⟨ov, ol, oi⟩ := X₆.worths
  have hL6 : @LT.lt Nat _ L h₆.objs.size := hm₆.lt
  have ho6 : @LT.lt Nat _ oA h₆.objs.size := by obtain ⟨o, n, ho, _⟩ := ol; exact ltN (Heap.lt_size ho)
  refine wpAny_execs_cons ?_
  obtain ⟨q1, q2, q3, hq⟩ : ∃ q1 q2 q3, lwSt 16 = .Assign [.Name "first" q1] (.List [] q2) q3 := ⟨_, _, _, rfl⟩
  refine empty_stmt (s := { s with heap := h₆, toks := tk₆, gens := gs₃ }) (y := "first") hq rfl rfl hm₆ ?_
  intro h₇ tk₇ m₇ k₇ w₇ z₇ hm₇ hw₇ ho₇
  dsimp only at w₇ z₇ hw₇
  have k₇' : KeepBut L h₆ h₇ := k₇
  refine wpAny_execs_cons ?_
  obtain ⟨q1, q2, q3, hq⟩ : ∃ q1 q2 q3, lwSt 17 = .Assign [.Name "second" q1] (.List [] q2) q3 := ⟨_, _, _, rfl⟩
  refine empty_stmt (s := { s with heap := h₇, toks := tk₇, gens := gs₃ }) (y := "second") hq rfl rfl hm₇ ?_
  intro h₈ tk₈ m₈ k₈ w₈ z₈ hm₈ hw₈ ho₈
  dsimp only at w₈ z₈ hw₈
  have k₈' : KeepBut L h₇ h₈ := k₈
  generalize hfA : h₆.objs.size = fA at *
  generalize hgA : h₇.objs.size = gA at *
  have k38 : KeepBut L h₃ h₆ := X₆.keep
  have X₈ : LG h₆ L fA gA ([], []) h₈ := ⟨fun b o hb e => k₈' b o hb (k₇' b o hb e), by obtain ⟨o, n, ho, r⟩ := w₇; exact ⟨o, n, k₈' fA o (show @Ne Nat fA L by omega) ho, r⟩, w₈, by omega, by omega, by omega⟩
  have hG₆ : ∀ h, KeepBut L h₆ h → Gr w mg mb h := fun h k => hG₃ h fun b o hb e => k b o hb (k38 b o hb e)
  have M₈ : MG oA sA fA gA m₈ := ⟨(ho₈ _ (by decide +kernel)).trans ((ho₇ _ (by decide +kernel)).trans M₆.o), (ho₈ _ (by decide +kernel)).trans ((ho₇ _ (by decide +kernel)).trans M₆.s), (ho₈ _ (by decide +kernel)).trans hw₇, hw₈⟩
  obtain ⟨ug₆, g₆⟩ := M₆.g
  have sl₆ : h₆.IsList sA sv.toArray := by obtain ⟨o, n, ho, r⟩ := sl; exact PlainL.isList ⟨o, n, k38 sA o (show @Ne Nat sA L by omega) ho, r⟩
  have qs₆ : Stalks h₆ Z sv mt.stalks := qs.to fun b o hb e => k38 b o (by omega) e
  have hzl : (((readP mt.typed).zip mt.cuts).map worthOf).length = mt.cuts.length := by simp [hlen]
  refine wpAny_execs_cons ?_
  refine p_loop (s := { s with heap := h₈, toks := tk₈, gens := gs₃ }) (Z := Z) (zs := ((readP mt.typed).zip mt.cuts).map worthOf) rfl rfl hG₆ hA (by omega) X₈ (show @Ne Nat oA L by omega) ol.isList oi (by rw [hzl]; omega) (show @Ne Nat sA L by omega) sl₆ (by omega) qs₆ (by rw [hzl]; exact hstk) hm₈ M₈ ((ho₈ _ (by decide +kernel)).trans ((ho₇ _ (by decide +kernel)).trans g₆)) (by omega) hrun ?_
  intro h₉ tk₉ k₉
  refine wpAny_execs_cons (wpAny_Return_some (wpAny_Constant_bool ?_))
  refine h h₉ tk₉ gs₃ (fun b o e => ?_) hgs
  have hb := kL b o e
  have hbL : @Ne Nat b L := by omega
  exact k₉ b o hbL (k38 b o hbL (X₃.keep b o hbL (h0 b o e)))
end
end Mine
end

-- Law23
section
set_option maxRecDepth 100000
set_option maxHeartbeats 4000000
namespace Mine
open PySem PySem.Calls PySem.W PyProof.Rows PySem.Builtin

section
variable {prog : Program} {w : World} {A : Around} {E : Value → Shared → Prop} {s : Shared} {mg mb : Str → Option Value}

theorem law_call {Q : Value → Shared → Prop} {l : Addr} {vs : List Value} {ns : List Int} (G : Gr w mg mb s.heap) (hA : A.handled = none) (hroom : A.depth + 4 < recursionLimit) (hu : A.units + 300 < cLine)
    (hl : s.heap.IsList l vs.toArray) (hi : IntsAre vs ns) (hn : ns.length ≤ 63)
    (h : ∀ h' tk gs, (∀ b o, s.heap.get? b = some o → h'.get? b = some o) → (gs = s.gens ∨ gs = s.gens.push .finished ∨ gs = (s.gens.push .finished).push .finished) → Q (.bool true) { s with heap := h', toks := tk, gens := gs }) :
    wpAny (model prog w) A (call (.ref 103) [.ref l]) Q E s := by
  refine law_enter G (by omega) hl hi hn fun h₁ tk₁ L dA hA' eA wA dv la => ?_
  have hb : (bodyOf (topSt 67)).drop 5 = lwSt 5 :: lwSt 6 :: [lwSt 7, lwSt 8, lwSt 9, lwSt 10, lwSt 11, lwSt 12, lwSt 13, lwSt 14, lwSt 15, lwSt 16, lwSt 17, lwSt 18, lwSt 19] := rfl
  rw [hb]
  have hAd : (A.deeper (lwEnv L)).handled = none := hA
  refine wpAny_execs_cons ?_
  refine first_loop (s := { s with heap := h₁, toks := tk₁ }) rfl rfl G hAd la hn ?_
  intro h₂ tk₂ x0 x1 x2 hx0 hx1 hx2 la₂
  obtain ⟨m, t, hm, hdr, hhi, hen, hwo, hty⟩ := la₂.ns
  obtain ⟨wv, wl, wls⟩ := la₂.words
  obtain ⟨ev, el, els⟩ := la₂.ends
  obtain ⟨lt1, lt2, lt3, lt4, lt5, lt6⟩ := la₂.lt
  have r0 := rowW_len 3 x0
  have r1 := rowW_len 2 x1
  have r2 := rowW_len 1 x2
  refine wpAny_execs_cons ?_
  refine cmp_stmt (s := { s with heap := h₂, toks := tk₂ }) (ws := [outW 3 x0, outW 2 x1, outW 1 x2]) rfl rfl (G.keeps la₂.keep) hAd (by show A.depth + 1 + 2 < recursionLimit; omega) (by show A.units + 3 + 100 < cLine; omega) hm hty (by simp only [List.length_append, List.length_cons, List.length_nil]; omega) hwo wl wls (by simp) ?_ (first_mail hx0 hx1 hx2) ?_
  · intro x hx
    simp only [List.mem_cons, List.not_mem_nil, or_false] at hx
    rcases hx with rfl | rfl | rfl <;> exact outW_ok _ _
  intro h₃ tk₃ gs₃ k₃ hgs₃
  dsimp only at k₃ hgs₃
  have o0 := outW_len 3 x0
  have o1 := outW_len 2 x1
  have o2 := outW_len 1 x2
  refine law_tail (s := s) (h₀ := s.heap) (hB := h₃) (ws := [outW 3 x0, outW 2 x1, outW 1 x2]) rfl G hAd (by show A.depth + 1 + 3 < recursionLimit; omega) (by show A.units + 3 + 200 < cLine; omega) (fun b o e => k₃ b o (la₂.keep b o e)) la₂.old
    (hm.at fun o e => k₃ L o e) hen hwo (show @Ne Nat eA L by omega) (show @Ne Nat wA L by omega) ?_ els ?_ wls ?_ (by simp) (law_pure hx0 hx1 hx2) ?_
  · obtain ⟨o, ho, r⟩ := el; exact ⟨o, k₃ eA o ho, r⟩
  · obtain ⟨o, n, ho, r⟩ := wl; exact PlainL.isList ⟨o, n, k₃ wA o ho, r⟩
  · intro wd hwd
    simp only [List.mem_cons, List.not_mem_nil, or_false] at hwd
    rcases hwd with rfl | rfl | rfl <;> omega
  · intro h₄ tk₄ gs₄ k₄ hgs₄
    refine h h₄ tk₄ gs₄ k₄ ?_
    rcases hgs₃ with rfl | rfl <;> rcases hgs₄ with rfl | rfl
    · exact .inl rfl
    · exact .inr (.inl rfl)
    · exact .inr (.inl rfl)
    · exact .inr (.inr rfl)
end
end Mine
end

-- Join1
set_option maxRecDepth 100000
set_option maxHeartbeats 4000000
open PySem PySem.W PySem.Calls PyProof.Rows Mine
theorem PySem.Challenge.cw_rs0097_01_holds : PySem.Challenge.rw_rs0097_01.Holds := by
  refine head ?_
  intro w s₀ s₁ mg mb G Y fa o pm cd doc dV kV ho hd hcd hD hmg hg args vals as hpre hlay hrd hwl hlo
  have KX := kIn_of Y
  refine Ground.open G ?_
  intro T B D TE TW
  wrow_args hpre hlay hrd hwl hlo
  have e := mg_of KX T.g (n := "law") (v := .ref 103) rfl
  have hfa : fa = 103 := by
    have := (show mg "law" = some (.ref fa) from hmg).symm.trans e
    simpa using this
  subst hfa
  show wpAny _ _ (call (.ref 103) [_]) _ _ _
  refine law_call (mg := mg) (mb := mb) ⟨KX, T.g, T.b, T.nolimit, T.builtins⟩ rfl (by decide +kernel) (by decide +kernel) (by assumption) (by assumption) (by omega) ?_
  intro h' tk gs k hgs
  refine ⟨.inl ⟨.bool true, .bool true, [], rfl, fun _ => rfl, .bool true, ?_, fun _ => ⟨.nil, fun a ha => by cases ha⟩⟩, .of_keep k, rfl, ?_⟩
  · wrow_post
  · rw [hg] at hgs
    show AllBare gs
    rcases hgs with rfl | rfl | rfl
    · exact .empty
    · exact AllBare.empty.push rfl
    · exact (AllBare.empty.push rfl).push rfl
