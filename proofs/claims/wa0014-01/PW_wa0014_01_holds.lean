import PyProof.Rows.All
import Wide.All
import OpenK.AllK
import Wide.FinOn
import PySem.Challenge.RW_wa0014_01
open PySem PySem.W PyProof.Rows
set_option Elab.async false
namespace Mine
set_option maxRecDepth 100000
set_option maxHeartbeats 8000000
open PySem.Calls
section PK
/-- the i-th line of the text -/
noncomputable def st0 (i : Nat) : Stmt := PySem.Challenge.pw_wa0014_01.main.body.getD i (.Pass ⟨0, 0, 0, 0⟩)
noncomputable def paOf : Stmt → Arguments
  | .FunctionDef _ a _ _ _ _ _ _ _ _ => a
  | _ => ⟨[], [], none, [], [], none, []⟩
noncomputable def boOf : Stmt → List Stmt
  | .FunctionDef _ _ b _ _ _ _ _ _ _ => b
  | _ => []
noncomputable def scOf : Stmt → Scope
  | .FunctionDef _ _ _ _ _ _ s _ _ _ => s
  | _ => { kind := .function, names := [], isGenerator := false, isCoroutine := false }
/-- what stands in the heap behind the top, as far as the proofs lean on it -/
noncomputable def K0 : Params → Frag := fun P =>
  [
   (nat_lit 3,
    { cls := Value.type "dict",
      data :=
        Data.dict
          #[{ hash := PyData.keyHash P (Str.ofString "__name__"), key := Value.str (Str.ofString "__name__") 165,
              val := Value.str (Str.ofString "law_wa0014_01") 697 },
            { hash := PyData.keyHash P (Str.ofString "__doc__"), key := Value.str (Str.ofString "__doc__") 166,
              val := Value.none },
            { hash := PyData.keyHash P (Str.ofString "__package__"),
              key := Value.str (Str.ofString "__package__") 167, val := Value.none },
            { hash := PyData.keyHash P (Str.ofString "__loader__"), key := Value.str (Str.ofString "__loader__") 168,
              val := Value.builtin "__main__.__loader__#opaque" },
            { hash := PyData.keyHash P (Str.ofString "__spec__"), key := Value.str (Str.ofString "__spec__") 169,
              val := Value.none },
            { hash := PyData.keyHash P (Str.ofString "__annotations__"),
              key := Value.str (Str.ofString "__annotations__") 170, val := Value.ref 6 },
            { hash := PyData.keyHash P (Str.ofString "__builtins__"),
              key := Value.str (Str.ofString "__builtins__") 171, val := Value.ref 4 },
            { hash := PyData.keyHash P (Str.ofString "__file__"), key := Value.str (Str.ofString "__file__") 173,
              val := Value.str (Str.ofString "/claim/cut.py") 172 },
            { hash := PyData.keyHash P (Str.ofString "__cached__"), key := Value.str (Str.ofString "__cached__") 174,
              val := Value.none },
            { hash := PyData.keyHash P (Str.ofString "_sre"), key := Value.str (Str.ofString "_sre") 275,
              val := Value.ref 12 },
            { hash := PyData.keyHash P (Str.ofString "_wall"), key := Value.str (Str.ofString "_wall") 288,
              val := Value.ref 38 },
            { hash := PyData.keyHash P (Str.ofString "_plain_name"),
              key := Value.str (Str.ofString "_plain_name") 299, val := Value.ref 45 },
            { hash := PyData.keyHash P (Str.ofString "ABCMeta"), key := Value.str (Str.ofString "ABCMeta") 325,
              val := Value.ref 62 },
            { hash := PyData.keyHash P (Str.ofString "_ABCLike"), key := Value.str (Str.ofString "_ABCLike") 368,
              val := Value.ref 95 },
            { hash := PyData.keyHash P (Str.ofString "_abc_plain_meta"),
              key := Value.str (Str.ofString "_abc_plain_meta") 375, val := Value.ref 104 },
            { hash := PyData.keyHash P (Str.ofString "fspath"), key := Value.str (Str.ofString "fspath") 387,
              val := Value.ref 111 },
            { hash := PyData.keyHash P (Str.ofString "commonprefix"),
              key := Value.str (Str.ofString "commonprefix") 400, val := Value.ref 118 },
            { hash := PyData.keyHash P (Str.ofString "IPV4_RE"), key := Value.str (Str.ofString "IPV4_RE") 432,
              val := Value.ref 123 },
            { hash := PyData.keyHash P (Str.ofString "liberal_is_HDN"),
              key := Value.str (Str.ofString "liberal_is_HDN") 439, val := Value.ref 130 },
            { hash := PyData.keyHash P (Str.ofString "ESCAPED_CHAR_RE"),
              key := Value.str (Str.ofString "ESCAPED_CHAR_RE") 485, val := Value.ref 135 },
            { hash := PyData.keyHash P (Str.ofString "uppercase_escaped_char"),
              key := Value.str (Str.ofString "uppercase_escaped_char") 492, val := Value.ref 142 },
            { hash := PyData.keyHash P (Str.ofString "LPAR"), key := Value.str (Str.ofString "LPAR") 496,
              val := Value.int 7 495 },
            { hash := PyData.keyHash P (Str.ofString "RPAR"), key := Value.str (Str.ofString "RPAR") 498,
              val := Value.int 8 497 },
            { hash := PyData.keyHash P (Str.ofString "LSQB"), key := Value.str (Str.ofString "LSQB") 500,
              val := Value.int 9 499 },
            { hash := PyData.keyHash P (Str.ofString "RSQB"), key := Value.str (Str.ofString "RSQB") 502,
              val := Value.int 10 501 },
            { hash := PyData.keyHash P (Str.ofString "COLON"), key := Value.str (Str.ofString "COLON") 504,
              val := Value.int 11 503 },
            { hash := PyData.keyHash P (Str.ofString "COMMA"), key := Value.str (Str.ofString "COMMA") 506,
              val := Value.int 12 505 },
            { hash := PyData.keyHash P (Str.ofString "SEMI"), key := Value.str (Str.ofString "SEMI") 508,
              val := Value.int 13 507 },
            { hash := PyData.keyHash P (Str.ofString "PLUS"), key := Value.str (Str.ofString "PLUS") 510,
              val := Value.int 14 509 },
            { hash := PyData.keyHash P (Str.ofString "MINUS"), key := Value.str (Str.ofString "MINUS") 512,
              val := Value.int 15 511 },
            { hash := PyData.keyHash P (Str.ofString "STAR"), key := Value.str (Str.ofString "STAR") 514,
              val := Value.int 16 513 },
            { hash := PyData.keyHash P (Str.ofString "SLASH"), key := Value.str (Str.ofString "SLASH") 516,
              val := Value.int 17 515 },
            { hash := PyData.keyHash P (Str.ofString "VBAR"), key := Value.str (Str.ofString "VBAR") 518,
              val := Value.int 18 517 },
            { hash := PyData.keyHash P (Str.ofString "AMPER"), key := Value.str (Str.ofString "AMPER") 520,
              val := Value.int 19 519 },
            { hash := PyData.keyHash P (Str.ofString "LESS"), key := Value.str (Str.ofString "LESS") 522,
              val := Value.int 20 521 },
            { hash := PyData.keyHash P (Str.ofString "GREATER"), key := Value.str (Str.ofString "GREATER") 524,
              val := Value.int 21 523 },
            { hash := PyData.keyHash P (Str.ofString "EQUAL"), key := Value.str (Str.ofString "EQUAL") 526,
              val := Value.int 22 525 },
            { hash := PyData.keyHash P (Str.ofString "DOT"), key := Value.str (Str.ofString "DOT") 528,
              val := Value.int 23 527 },
            { hash := PyData.keyHash P (Str.ofString "PERCENT"), key := Value.str (Str.ofString "PERCENT") 530,
              val := Value.int 24 529 },
            { hash := PyData.keyHash P (Str.ofString "LBRACE"), key := Value.str (Str.ofString "LBRACE") 532,
              val := Value.int 25 531 },
            { hash := PyData.keyHash P (Str.ofString "RBRACE"), key := Value.str (Str.ofString "RBRACE") 534,
              val := Value.int 26 533 },
            { hash := PyData.keyHash P (Str.ofString "EQEQUAL"), key := Value.str (Str.ofString "EQEQUAL") 536,
              val := Value.int 27 535 },
            { hash := PyData.keyHash P (Str.ofString "NOTEQUAL"), key := Value.str (Str.ofString "NOTEQUAL") 538,
              val := Value.int 28 537 },
            { hash := PyData.keyHash P (Str.ofString "LESSEQUAL"), key := Value.str (Str.ofString "LESSEQUAL") 540,
              val := Value.int 29 539 },
            { hash := PyData.keyHash P (Str.ofString "GREATEREQUAL"),
              key := Value.str (Str.ofString "GREATEREQUAL") 542, val := Value.int 30 541 },
            { hash := PyData.keyHash P (Str.ofString "TILDE"), key := Value.str (Str.ofString "TILDE") 544,
              val := Value.int 31 543 },
            { hash := PyData.keyHash P (Str.ofString "CIRCUMFLEX"), key := Value.str (Str.ofString "CIRCUMFLEX") 546,
              val := Value.int 32 545 },
            { hash := PyData.keyHash P (Str.ofString "LEFTSHIFT"), key := Value.str (Str.ofString "LEFTSHIFT") 548,
              val := Value.int 33 547 },
            { hash := PyData.keyHash P (Str.ofString "RIGHTSHIFT"), key := Value.str (Str.ofString "RIGHTSHIFT") 550,
              val := Value.int 34 549 },
            { hash := PyData.keyHash P (Str.ofString "DOUBLESTAR"), key := Value.str (Str.ofString "DOUBLESTAR") 552,
              val := Value.int 35 551 },
            { hash := PyData.keyHash P (Str.ofString "PLUSEQUAL"), key := Value.str (Str.ofString "PLUSEQUAL") 554,
              val := Value.int 36 553 },
            { hash := PyData.keyHash P (Str.ofString "MINEQUAL"), key := Value.str (Str.ofString "MINEQUAL") 556,
              val := Value.int 37 555 },
            { hash := PyData.keyHash P (Str.ofString "STAREQUAL"), key := Value.str (Str.ofString "STAREQUAL") 558,
              val := Value.int 38 557 },
            { hash := PyData.keyHash P (Str.ofString "SLASHEQUAL"), key := Value.str (Str.ofString "SLASHEQUAL") 560,
              val := Value.int 39 559 },
            { hash := PyData.keyHash P (Str.ofString "PERCENTEQUAL"),
              key := Value.str (Str.ofString "PERCENTEQUAL") 562, val := Value.int 40 561 },
            { hash := PyData.keyHash P (Str.ofString "AMPEREQUAL"), key := Value.str (Str.ofString "AMPEREQUAL") 564,
              val := Value.int 41 563 },
            { hash := PyData.keyHash P (Str.ofString "VBAREQUAL"), key := Value.str (Str.ofString "VBAREQUAL") 566,
              val := Value.int 42 565 },
            { hash := PyData.keyHash P (Str.ofString "CIRCUMFLEXEQUAL"),
              key := Value.str (Str.ofString "CIRCUMFLEXEQUAL") 568, val := Value.int 43 567 },
            { hash := PyData.keyHash P (Str.ofString "LEFTSHIFTEQUAL"),
              key := Value.str (Str.ofString "LEFTSHIFTEQUAL") 570, val := Value.int 44 569 },
            { hash := PyData.keyHash P (Str.ofString "RIGHTSHIFTEQUAL"),
              key := Value.str (Str.ofString "RIGHTSHIFTEQUAL") 572, val := Value.int 45 571 },
            { hash := PyData.keyHash P (Str.ofString "DOUBLESTAREQUAL"),
              key := Value.str (Str.ofString "DOUBLESTAREQUAL") 574, val := Value.int 46 573 },
            { hash := PyData.keyHash P (Str.ofString "DOUBLESLASH"),
              key := Value.str (Str.ofString "DOUBLESLASH") 576, val := Value.int 47 575 },
            { hash := PyData.keyHash P (Str.ofString "DOUBLESLASHEQUAL"),
              key := Value.str (Str.ofString "DOUBLESLASHEQUAL") 578, val := Value.int 48 577 },
            { hash := PyData.keyHash P (Str.ofString "AT"), key := Value.str (Str.ofString "AT") 580,
              val := Value.int 49 579 },
            { hash := PyData.keyHash P (Str.ofString "ATEQUAL"), key := Value.str (Str.ofString "ATEQUAL") 582,
              val := Value.int 50 581 },
            { hash := PyData.keyHash P (Str.ofString "RARROW"), key := Value.str (Str.ofString "RARROW") 584,
              val := Value.int 51 583 },
            { hash := PyData.keyHash P (Str.ofString "ELLIPSIS"), key := Value.str (Str.ofString "ELLIPSIS") 586,
              val := Value.int 52 585 },
            { hash := PyData.keyHash P (Str.ofString "COLONEQUAL"), key := Value.str (Str.ofString "COLONEQUAL") 588,
              val := Value.int 53 587 },
            { hash := PyData.keyHash P (Str.ofString "EXCLAMATION"),
              key := Value.str (Str.ofString "EXCLAMATION") 590, val := Value.int 54 589 },
            { hash := PyData.keyHash P (Str.ofString "NT_OFFSET"), key := Value.str (Str.ofString "NT_OFFSET") 592,
              val := Value.int 256 591 },
            { hash := PyData.keyHash P (Str.ofString "EXACT_TOKEN_TYPES"),
              key := Value.str (Str.ofString "EXACT_TOKEN_TYPES") 689, val := Value.ref 143 },
            { hash := PyData.keyHash P (Str.ofString "ISTERMINAL"), key := Value.str (Str.ofString "ISTERMINAL") 696,
              val := Value.ref 152 },
            { hash := PyData.keyHash P (Str.ofString "_law_cells"), key := Value.str (Str.ofString "_law_cells") 704,
              val := Value.ref 157 },
            { hash := PyData.keyHash P (Str.ofString "_law_rows"), key := Value.str (Str.ofString "_law_rows") 715,
              val := Value.ref 164 },
            { hash := PyData.keyHash P (Str.ofString "_law_great"), key := Value.str (Str.ofString "_law_great") 723,
              val := Value.ref 171 },
            { hash := PyData.keyHash P (Str.ofString "_law_worth"), key := Value.str (Str.ofString "_law_worth") 737,
              val := Value.ref 178 },
            { hash := PyData.keyHash P (Str.ofString "_law_taken"), key := Value.str (Str.ofString "_law_taken") 743,
              val := Value.ref 183 },
            { hash := PyData.keyHash P (Str.ofString "_law_alike"), key := Value.str (Str.ofString "_law_alike") 749,
              val := Value.ref 188 },
            { hash := PyData.keyHash P (Str.ofString "_law_fronts"),
              key := Value.str (Str.ofString "_law_fronts") 761, val := Value.ref 195 },
            { hash := PyData.keyHash P (Str.ofString "_law_best"), key := Value.str (Str.ofString "_law_best") 767,
              val := Value.ref 200 },
            { hash := PyData.keyHash P (Str.ofString "law"), key := Value.str (Str.ofString "law") 773,
              val := Value.ref 205 }]
          81 }),
   (nat_lit 117,
    { cls := Value.type "code",
      data :=
        Data.fields
          #[Value.str (Str.ofString "commonprefix") 390, Value.str (Str.ofString "commonprefix") 391,
            Value.str (Str.ofString "/claim/cut.py") 392, Value.int 53 0, Value.int 1 0, Value.int 0 0, Value.int 0 0,
            Value.int 3 0, Value.ref 112, Value.bool true, Value.int 276 0, Value.ref 113, Value.none, Value.ref 114,
            Value.ref 115, Value.ref 116, Value.int 398 0, Value.int 53 0, Value.str (Str.ofString "/claim/cut.py") 399] }),
   (nat_lit 118,
    { cls := Value.type "function", data := Data.func (fnOf (Str.ofString "commonprefix") (Str.ofString "commonprefix") (paOf (st0 12)) (boOf (st0 12)) (scOf (st0 12)) (Value.none) (Value.none) (Value.none) (Value.str (Str.ofString "cpy313.genericpath") 388) none (Value.ref 117) (Value.none)) }),
   (nat_lit 122,
    { cls := Value.type "tuple",
      data :=
        Data.seq
          #[Value.int 14 0, Value.int 8 0, Value.int 1 0, Value.int 2 0, Value.int 4294967295 0, Value.int 1 0,
            Value.int 1 0, Value.int 46 0, Value.int 0 0, Value.int 16 0, Value.int 46 0, Value.int 24 0, Value.int 9 0,
            Value.int 1 0, Value.int 4294967295 0, Value.int 13 0, Value.int 4 0, Value.int 8 0, Value.int 0 0,
            Value.int 0 0, Value.int 1 0, Value.int 6 0, Value.int 5 0, Value.int 1 0] }),
   (nat_lit 123,
    { cls := Value.type "re.Pattern",
      data :=
        Data.fields
          #[Value.str (Str.ofString "\\.\\d+$") 404, Value.int 256 431, Value.int 0 0, Value.none, Value.none,
            Value.ref 122, Value.int 0 0] }),
   (nat_lit 129,
    { cls := Value.type "code",
      data :=
        Data.fields
          #[Value.str (Str.ofString "liberal_is_HDN") 433, Value.str (Str.ofString "liberal_is_HDN") 434,
            Value.str (Str.ofString "/claim/cut.py") 435, Value.int 66 0, Value.int 1 0, Value.int 0 0, Value.int 0 0,
            Value.int 3 0, Value.ref 124, Value.bool true, Value.int 276 0, Value.ref 125, Value.none, Value.ref 126,
            Value.ref 127, Value.ref 128, Value.int 437 0, Value.int 66 0, Value.str (Str.ofString "/claim/cut.py") 438] }),
   (nat_lit 130,
    { cls := Value.type "function", data := Data.func (fnOf (Str.ofString "liberal_is_HDN") (Str.ofString "liberal_is_HDN") (paOf (st0 15)) (boOf (st0 15)) (scOf (st0 15)) (Value.none) (Value.none) (Value.none) (Value.str (Str.ofString "cpy313.http.cookiejar") 401) none (Value.ref 129) (Value.none)) }),
   (nat_lit 134,
    { cls := Value.type "tuple",
      data :=
        Data.seq
          #[Value.int 14 0, Value.int 8 0, Value.int 1 0, Value.int 3 0, Value.int 3 0, Value.int 1 0, Value.int 1 0,
            Value.int 37 0, Value.int 0 0, Value.int 16 0, Value.int 37 0, Value.int 17 0, Value.int 0 0, Value.int 13 0,
            Value.int 11 0, Value.int 9 0, Value.int 0 0, Value.int 67043328 0, Value.int 126 0, Value.int 126 0,
            Value.int 0 0, Value.int 0 0, Value.int 0 0, Value.int 0 0, Value.int 0 0, Value.int 13 0, Value.int 11 0,
            Value.int 9 0, Value.int 0 0, Value.int 67043328 0, Value.int 126 0, Value.int 126 0, Value.int 0 0,
            Value.int 0 0, Value.int 0 0, Value.int 0 0, Value.int 0 0, Value.int 17 0, Value.int 1 0, Value.int 1 0] }),
   (nat_lit 135,
    { cls := Value.type "re.Pattern",
      data :=
        Data.fields
          #[Value.str (Str.ofString "%([0-9a-fA-F][0-9a-fA-F])") 441, Value.int 32 484, Value.int 1 0, Value.none,
            Value.none, Value.ref 134, Value.int 0 0] }),
   (nat_lit 141,
    { cls := Value.type "code",
      data :=
        Data.fields
          #[Value.str (Str.ofString "uppercase_escaped_char") 486, Value.str (Str.ofString "uppercase_escaped_char") 487,
            Value.str (Str.ofString "/claim/cut.py") 488, Value.int 71 0, Value.int 1 0, Value.int 0 0, Value.int 0 0,
            Value.int 3 0, Value.ref 136, Value.bool true, Value.int 276 0, Value.ref 137, Value.none, Value.ref 138,
            Value.ref 139, Value.ref 140, Value.int 490 0, Value.int 71 0, Value.str (Str.ofString "/claim/cut.py") 491] }),
   (nat_lit 142,
    { cls := Value.type "function", data := Data.func (fnOf (Str.ofString "uppercase_escaped_char") (Str.ofString "uppercase_escaped_char") (paOf (st0 17)) (boOf (st0 17)) (scOf (st0 17)) (Value.none) (Value.none) (Value.none) (Value.str (Str.ofString "cpy313.http.cookiejar") 401) none (Value.ref 141) (Value.none)) }),
   (nat_lit 143,
    { cls := Value.type "dict",
      data :=
        Data.dict
          #[{ hash := PyData.keyHash P (Str.ofString "!"), key := Value.str (Str.ofString "!") 593,
              val := Value.int 54 589 },
            { hash := PyData.keyHash P (Str.ofString "!="), key := Value.str (Str.ofString "!=") 595,
              val := Value.int 28 537 },
            { hash := PyData.keyHash P (Str.ofString "%"), key := Value.str (Str.ofString "%") 597,
              val := Value.int 24 529 },
            { hash := PyData.keyHash P (Str.ofString "%="), key := Value.str (Str.ofString "%=") 599,
              val := Value.int 40 561 },
            { hash := PyData.keyHash P (Str.ofString "&"), key := Value.str (Str.ofString "&") 601,
              val := Value.int 19 519 },
            { hash := PyData.keyHash P (Str.ofString "&="), key := Value.str (Str.ofString "&=") 603,
              val := Value.int 41 563 },
            { hash := PyData.keyHash P (Str.ofString "("), key := Value.str (Str.ofString "(") 605,
              val := Value.int 7 495 },
            { hash := PyData.keyHash P (Str.ofString ")"), key := Value.str (Str.ofString ")") 607,
              val := Value.int 8 497 },
            { hash := PyData.keyHash P (Str.ofString "*"), key := Value.str (Str.ofString "*") 609,
              val := Value.int 16 513 },
            { hash := PyData.keyHash P (Str.ofString "**"), key := Value.str (Str.ofString "**") 611,
              val := Value.int 35 551 },
            { hash := PyData.keyHash P (Str.ofString "**="), key := Value.str (Str.ofString "**=") 613,
              val := Value.int 46 573 },
            { hash := PyData.keyHash P (Str.ofString "*="), key := Value.str (Str.ofString "*=") 615,
              val := Value.int 38 557 },
            { hash := PyData.keyHash P (Str.ofString "+"), key := Value.str (Str.ofString "+") 617,
              val := Value.int 14 509 },
            { hash := PyData.keyHash P (Str.ofString "+="), key := Value.str (Str.ofString "+=") 619,
              val := Value.int 36 553 },
            { hash := PyData.keyHash P (Str.ofString ","), key := Value.str (Str.ofString ",") 621,
              val := Value.int 12 505 },
            { hash := PyData.keyHash P (Str.ofString "-"), key := Value.str (Str.ofString "-") 623,
              val := Value.int 15 511 },
            { hash := PyData.keyHash P (Str.ofString "-="), key := Value.str (Str.ofString "-=") 625,
              val := Value.int 37 555 },
            { hash := PyData.keyHash P (Str.ofString "->"), key := Value.str (Str.ofString "->") 627,
              val := Value.int 51 583 },
            { hash := PyData.keyHash P (Str.ofString "."), key := Value.str (Str.ofString ".") 629,
              val := Value.int 23 527 },
            { hash := PyData.keyHash P (Str.ofString "..."), key := Value.str (Str.ofString "...") 631,
              val := Value.int 52 585 },
            { hash := PyData.keyHash P (Str.ofString "/"), key := Value.str (Str.ofString "/") 633,
              val := Value.int 17 515 },
            { hash := PyData.keyHash P (Str.ofString "//"), key := Value.str (Str.ofString "//") 635,
              val := Value.int 47 575 },
            { hash := PyData.keyHash P (Str.ofString "//="), key := Value.str (Str.ofString "//=") 637,
              val := Value.int 48 577 },
            { hash := PyData.keyHash P (Str.ofString "/="), key := Value.str (Str.ofString "/=") 639,
              val := Value.int 39 559 },
            { hash := PyData.keyHash P (Str.ofString ":"), key := Value.str (Str.ofString ":") 641,
              val := Value.int 11 503 },
            { hash := PyData.keyHash P (Str.ofString ":="), key := Value.str (Str.ofString ":=") 643,
              val := Value.int 53 587 },
            { hash := PyData.keyHash P (Str.ofString ";"), key := Value.str (Str.ofString ";") 645,
              val := Value.int 13 507 },
            { hash := PyData.keyHash P (Str.ofString "<"), key := Value.str (Str.ofString "<") 647,
              val := Value.int 20 521 },
            { hash := PyData.keyHash P (Str.ofString "<<"), key := Value.str (Str.ofString "<<") 649,
              val := Value.int 33 547 },
            { hash := PyData.keyHash P (Str.ofString "<<="), key := Value.str (Str.ofString "<<=") 651,
              val := Value.int 44 569 },
            { hash := PyData.keyHash P (Str.ofString "<="), key := Value.str (Str.ofString "<=") 653,
              val := Value.int 29 539 },
            { hash := PyData.keyHash P (Str.ofString "="), key := Value.str (Str.ofString "=") 655,
              val := Value.int 22 525 },
            { hash := PyData.keyHash P (Str.ofString "=="), key := Value.str (Str.ofString "==") 657,
              val := Value.int 27 535 },
            { hash := PyData.keyHash P (Str.ofString ">"), key := Value.str (Str.ofString ">") 659,
              val := Value.int 21 523 },
            { hash := PyData.keyHash P (Str.ofString ">="), key := Value.str (Str.ofString ">=") 661,
              val := Value.int 30 541 },
            { hash := PyData.keyHash P (Str.ofString ">>"), key := Value.str (Str.ofString ">>") 662,
              val := Value.int 34 549 },
            { hash := PyData.keyHash P (Str.ofString ">>="), key := Value.str (Str.ofString ">>=") 663,
              val := Value.int 45 571 },
            { hash := PyData.keyHash P (Str.ofString "@"), key := Value.str (Str.ofString "@") 664,
              val := Value.int 49 579 },
            { hash := PyData.keyHash P (Str.ofString "@="), key := Value.str (Str.ofString "@=") 665,
              val := Value.int 50 581 },
            { hash := PyData.keyHash P (Str.ofString "["), key := Value.str (Str.ofString "[") 666,
              val := Value.int 9 499 },
            { hash := PyData.keyHash P (Str.ofString "]"), key := Value.str (Str.ofString "]") 667,
              val := Value.int 10 501 },
            { hash := PyData.keyHash P (Str.ofString "^"), key := Value.str (Str.ofString "^") 668,
              val := Value.int 32 545 },
            { hash := PyData.keyHash P (Str.ofString "^="), key := Value.str (Str.ofString "^=") 669,
              val := Value.int 43 567 },
            { hash := PyData.keyHash P (Str.ofString "{"), key := Value.str (Str.ofString "{") 670,
              val := Value.int 25 531 },
            { hash := PyData.keyHash P (Str.ofString "|"), key := Value.str (Str.ofString "|") 671,
              val := Value.int 18 517 },
            { hash := PyData.keyHash P (Str.ofString "|="), key := Value.str (Str.ofString "|=") 672,
              val := Value.int 42 565 },
            { hash := PyData.keyHash P (Str.ofString "}"), key := Value.str (Str.ofString "}") 673,
              val := Value.int 26 533 },
            { hash := PyData.keyHash P (Str.ofString "~"), key := Value.str (Str.ofString "~") 674,
              val := Value.int 31 543 }]
          48 }),
   (nat_lit 151,
    { cls := Value.type "code",
      data :=
        Data.fields
          #[Value.str (Str.ofString "ISTERMINAL") 690, Value.str (Str.ofString "ISTERMINAL") 691,
            Value.str (Str.ofString "/claim/cut.py") 692, Value.int 124 0, Value.int 1 0, Value.int 0 0, Value.int 0 0,
            Value.int 3 0, Value.ref 146, Value.bool true, Value.int 276 0, Value.ref 147, Value.none, Value.ref 148,
            Value.ref 149, Value.ref 150, Value.int 694 0, Value.int 124 0, Value.str (Str.ofString "/claim/cut.py") 695] }),
   (nat_lit 152,
    { cls := Value.type "function", data := Data.func (fnOf (Str.ofString "ISTERMINAL") (Str.ofString "ISTERMINAL") (paOf (st0 69)) (boOf (st0 69)) (scOf (st0 69)) (Value.none) (Value.none) (Value.none) (Value.str (Str.ofString "cpy313.token") 493) none (Value.ref 151) (Value.none)) }),
   (nat_lit 156,
    { cls := Value.type "code",
      data :=
        Data.fields
          #[Value.str (Str.ofString "_law_cells") 699, Value.str (Str.ofString "_law_cells") 700,
            Value.str (Str.ofString "/claim/cut.py") 701, Value.int 127 0, Value.int 1 0, Value.int 0 0, Value.int 0 0,
            Value.int 3 0, Value.ref 153, Value.bool true, Value.int 276 0, Value.ref 154, Value.none, Value.none,
            Value.none, Value.ref 155, Value.int 702 0, Value.int 127 0, Value.str (Str.ofString "/claim/cut.py") 703] }),
   (nat_lit 157,
    { cls := Value.type "function", data := Data.func (fnOf (Str.ofString "_law_cells") (Str.ofString "_law_cells") (paOf (st0 71)) (boOf (st0 71)) (scOf (st0 71)) (Value.none) (Value.none) (Value.none) (Value.str (Str.ofString "law_wa0014_01") 697) none (Value.ref 156) (Value.none)) }),
   (nat_lit 163,
    { cls := Value.type "code",
      data :=
        Data.fields
          #[Value.str (Str.ofString "_law_rows") 705, Value.str (Str.ofString "_law_rows") 706,
            Value.str (Str.ofString "/claim/cut.py") 707, Value.int 132 0, Value.int 1 0, Value.int 0 0, Value.int 0 0,
            Value.int 3 0, Value.ref 158, Value.bool true, Value.int 276 0, Value.ref 159, Value.none, Value.ref 160,
            Value.ref 161, Value.ref 162, Value.int 713 0, Value.int 132 0, Value.str (Str.ofString "/claim/cut.py") 714] }),
   (nat_lit 164,
    { cls := Value.type "function", data := Data.func (fnOf (Str.ofString "_law_rows") (Str.ofString "_law_rows") (paOf (st0 72)) (boOf (st0 72)) (scOf (st0 72)) (Value.none) (Value.none) (Value.none) (Value.str (Str.ofString "law_wa0014_01") 697) none (Value.ref 163) (Value.none)) }),
   (nat_lit 170,
    { cls := Value.type "code",
      data :=
        Data.fields
          #[Value.str (Str.ofString "_law_great") 716, Value.str (Str.ofString "_law_great") 717,
            Value.str (Str.ofString "/claim/cut.py") 718, Value.int 139 0, Value.int 1 0, Value.int 0 0, Value.int 0 0,
            Value.int 3 0, Value.ref 165, Value.bool true, Value.int 276 0, Value.ref 166, Value.none, Value.ref 167,
            Value.ref 168, Value.ref 169, Value.int 721 0, Value.int 139 0, Value.str (Str.ofString "/claim/cut.py") 722] }),
   (nat_lit 171,
    { cls := Value.type "function", data := Data.func (fnOf (Str.ofString "_law_great") (Str.ofString "_law_great") (paOf (st0 73)) (boOf (st0 73)) (scOf (st0 73)) (Value.none) (Value.none) (Value.none) (Value.str (Str.ofString "law_wa0014_01") 697) none (Value.ref 170) (Value.none)) }),
   (nat_lit 177,
    { cls := Value.type "code",
      data :=
        Data.fields
          #[Value.str (Str.ofString "_law_worth") 724, Value.str (Str.ofString "_law_worth") 725,
            Value.str (Str.ofString "/claim/cut.py") 726, Value.int 144 0, Value.int 1 0, Value.int 0 0, Value.int 0 0,
            Value.int 3 0, Value.ref 172, Value.bool true, Value.int 276 0, Value.ref 173, Value.none, Value.ref 174,
            Value.ref 175, Value.ref 176, Value.int 735 0, Value.int 144 0, Value.str (Str.ofString "/claim/cut.py") 736] }),
   (nat_lit 178,
    { cls := Value.type "function", data := Data.func (fnOf (Str.ofString "_law_worth") (Str.ofString "_law_worth") (paOf (st0 74)) (boOf (st0 74)) (scOf (st0 74)) (Value.none) (Value.none) (Value.none) (Value.str (Str.ofString "law_wa0014_01") 697) none (Value.ref 177) (Value.none)) }),
   (nat_lit 182,
    { cls := Value.type "code",
      data :=
        Data.fields
          #[Value.str (Str.ofString "_law_taken") 738, Value.str (Str.ofString "_law_taken") 739,
            Value.str (Str.ofString "/claim/cut.py") 740, Value.int 160 0, Value.int 2 0, Value.int 0 0, Value.int 0 0,
            Value.int 3 0, Value.ref 179, Value.bool true, Value.int 276 0, Value.ref 180, Value.none, Value.none,
            Value.none, Value.ref 181, Value.int 741 0, Value.int 160 0, Value.str (Str.ofString "/claim/cut.py") 742] }),
   (nat_lit 183,
    { cls := Value.type "function", data := Data.func (fnOf (Str.ofString "_law_taken") (Str.ofString "_law_taken") (paOf (st0 75)) (boOf (st0 75)) (scOf (st0 75)) (Value.none) (Value.none) (Value.none) (Value.str (Str.ofString "law_wa0014_01") 697) none (Value.ref 182) (Value.none)) }),
   (nat_lit 187,
    { cls := Value.type "code",
      data :=
        Data.fields
          #[Value.str (Str.ofString "_law_alike") 744, Value.str (Str.ofString "_law_alike") 745,
            Value.str (Str.ofString "/claim/cut.py") 746, Value.int 178 0, Value.int 1 0, Value.int 0 0, Value.int 0 0,
            Value.int 3 0, Value.ref 184, Value.bool true, Value.int 276 0, Value.ref 185, Value.none, Value.none,
            Value.none, Value.ref 186, Value.int 747 0, Value.int 178 0, Value.str (Str.ofString "/claim/cut.py") 748] }),
   (nat_lit 188,
    { cls := Value.type "function", data := Data.func (fnOf (Str.ofString "_law_alike") (Str.ofString "_law_alike") (paOf (st0 76)) (boOf (st0 76)) (scOf (st0 76)) (Value.none) (Value.none) (Value.none) (Value.str (Str.ofString "law_wa0014_01") 697) none (Value.ref 187) (Value.none)) }),
   (nat_lit 194,
    { cls := Value.type "code",
      data :=
        Data.fields
          #[Value.str (Str.ofString "_law_fronts") 750, Value.str (Str.ofString "_law_fronts") 751,
            Value.str (Str.ofString "/claim/cut.py") 752, Value.int 183 0, Value.int 1 0, Value.int 0 0, Value.int 0 0,
            Value.int 3 0, Value.ref 189, Value.bool true, Value.int 276 0, Value.ref 190, Value.none, Value.ref 191,
            Value.ref 192, Value.ref 193, Value.int 759 0, Value.int 183 0, Value.str (Str.ofString "/claim/cut.py") 760] }),
   (nat_lit 195,
    { cls := Value.type "function", data := Data.func (fnOf (Str.ofString "_law_fronts") (Str.ofString "_law_fronts") (paOf (st0 77)) (boOf (st0 77)) (scOf (st0 77)) (Value.none) (Value.none) (Value.none) (Value.str (Str.ofString "law_wa0014_01") 697) none (Value.ref 194) (Value.none)) }),
   (nat_lit 199,
    { cls := Value.type "code",
      data :=
        Data.fields
          #[Value.str (Str.ofString "_law_best") 762, Value.str (Str.ofString "_law_best") 763,
            Value.str (Str.ofString "/claim/cut.py") 764, Value.int 193 0, Value.int 2 0, Value.int 0 0, Value.int 0 0,
            Value.int 3 0, Value.ref 196, Value.bool true, Value.int 276 0, Value.ref 197, Value.none, Value.none,
            Value.none, Value.ref 198, Value.int 765 0, Value.int 193 0, Value.str (Str.ofString "/claim/cut.py") 766] }),
   (nat_lit 200,
    { cls := Value.type "function", data := Data.func (fnOf (Str.ofString "_law_best") (Str.ofString "_law_best") (paOf (st0 78)) (boOf (st0 78)) (scOf (st0 78)) (Value.none) (Value.none) (Value.none) (Value.str (Str.ofString "law_wa0014_01") 697) none (Value.ref 199) (Value.none)) }),
   (nat_lit 204,
    { cls := Value.type "code",
      data :=
        Data.fields
          #[Value.str (Str.ofString "law") 768, Value.str (Str.ofString "law") 769,
            Value.str (Str.ofString "/claim/cut.py") 770, Value.int 202 0, Value.int 1 0, Value.int 0 0, Value.int 0 0,
            Value.int 3 0, Value.ref 201, Value.bool true, Value.int 276 0, Value.ref 202, Value.none, Value.none,
            Value.none, Value.ref 203, Value.int 771 0, Value.int 202 0, Value.str (Str.ofString "/claim/cut.py") 772] }),
   (nat_lit 205,
    { cls := Value.type "function", data := Data.func (fnOf (Str.ofString "law") (Str.ofString "law") (paOf (st0 79)) (boOf (st0 79)) (scOf (st0 79)) (Value.none) (Value.none) (Value.none) (Value.str (Str.ofString "law_wa0014_01") 697) none (Value.ref 204) (Value.none)) })]
end PK
section PBase
noncomputable abbrev P0 : Program := PySem.Challenge.rw_wa0014_01.row.prog

/-- every object of the one heap stands in the other -/
noncomputable def Kp (h h' : Heap) : Prop := ∀ b o, h.get? b = some o → h'.get? b = some o
theorem Kp.rfl {h : Heap} : Kp h h := fun _ _ e => e
theorem Kp.trans {a b c : Heap} (x : Kp a b) (y : Kp b c) : Kp a c := fun _ _ e => y _ _ (x _ _ e)

/-- what stands at the top -/
structure TopAt (w : World) (h : Heap) : Prop where
  kin : (Mine.K0 w.params).In h
  top : ∃ q loose mean mg mb, Top q loose mean mg mb h
theorem TopAt.keeps {w : World} {h h' : Heap} (T : TopAt w h) (k : Kp h h') : TopAt w h' :=
  ⟨T.kin.keeps k, let ⟨q, l, a, b, c, t⟩ := T.top; ⟨q, l, a, b, c, t.keeps k⟩⟩

/-- a block's names: ρ tells what they hold; B is the frozen part of the heap -/
structure At (w : World) (env : Env) (ρ : Str → Option Value) (B h : Heap) : Prop where
  keep : Kp B h
  top : TopAt w B
  fn : env.scope.kind = .function
  gl : env.globals = mainGlobals
  bi : env.builtins = builtinsNs
  loc : ∃ m, h.Ns env.locals m ∧ ∀ x, env.kindOf x = some .local → m x = ρ x
  hid : B.get? env.locals = none
  cel : ∀ x, (env.kindOf x = some .cell ∨ env.kindOf x = some .free) → ∃ c, env.cells.lookup x = some c ∧ h.IsCell c (ρ x) ∧ (B.IsCell c (ρ x) ∨ B.get? c = none)
  inj : ∀ x y c, env.cells.lookup x = some c → env.cells.lookup y = some c → B.get? c = none → x = y

noncomputable def upd (ρ : Str → Option Value) (x : Str) (v : Value) : Str → Option Value := fun y => if y = x then some v else ρ y
theorem upd_same {ρ : Str → Option Value} {x : Str} {v : Value} : upd ρ x v x = some v := by simp [upd]
theorem upd_ne {ρ : Str → Option Value} {x y : Str} {v : Value} (h : y ≠ x) : upd ρ x v y = ρ y := by simp [upd, h]

section
variable {w : World} {env : Env} {ρ : Str → Option Value} {B h h' : Heap} {x : Str} {v : Value}

theorem At.grow (a : At w env ρ B h) (k : Kp h h') : At w env ρ B h' :=
  ⟨a.keep.trans k, a.top, a.fn, a.gl, a.bi, let ⟨m, n, e⟩ := a.loc; ⟨m, n.keeps k, e⟩, a.hid,
   fun x hx => let ⟨c, h1, h2, h3⟩ := a.cel x hx; ⟨c, h1, h2.keeps k, h3⟩, a.inj⟩

theorem ns_not_cell {h : Heap} {a c : Addr} {m : Str → Option Value} {v : Option Value} (n : h.Ns a m) (x : h.IsCell c v) : c ≠ a := by
  obtain ⟨o, es, ep, e, d, _⟩ := n
  obtain ⟨o', e', d'⟩ := x
  rintro rfl
  rw [e] at e'; cases e'; rw [d] at d'; cases d'

theorem At.store (a : At w env ρ B h) (hx : env.kindOf x = some .local) {m : Str → Option Value} (hm : h.Ns env.locals m) (he : ∀ x, env.kindOf x = some .local → m x = ρ x)
    (hn : h'.Ns env.locals (fun y => if y = x then some v else m y)) (hs : Heap.SameBut env.locals h h') : At w env (upd ρ x v) B h' := by
  refine ⟨fun b o e => (hs.2 b ?_).trans (a.keep b o e), a.top, a.fn, a.gl, a.bi, ⟨_, hn, fun y hy => ?_⟩, a.hid, fun y hy => ?_, a.inj⟩
  · rintro rfl; rw [a.hid] at e; cases e
  · unfold upd; split
    · rfl
    · exact he y hy
  · obtain ⟨c, h1, h2, h3⟩ := a.cel y hy
    have hyx : y ≠ x := by rintro rfl; rw [hx] at hy; rcases hy with e | e <;> cases e
    rw [upd_ne hyx]
    exact ⟨c, h1, h2.sameBut hs (ns_not_cell hm h2), h3⟩

theorem At.storeC (a : At w env ρ B h) (hx : env.kindOf x = some .cell) {c : Addr} (hc : env.cells.lookup x = some c) (hf : B.get? c = none) (hv : h.IsCell c (ρ x))
    (hn : h'.IsCell c (some v)) (hs : Heap.SameBut c h h') : At w env (upd ρ x v) B h' := by
  obtain ⟨m, n, e⟩ := a.loc
  refine ⟨fun b o q => (hs.2 b ?_).trans (a.keep b o q), a.top, a.fn, a.gl, a.bi, ⟨m, n.sameBut hs (Ne.symm (ns_not_cell n hv)), fun y hy => ?_⟩, a.hid, fun y hy => ?_, a.inj⟩
  · rintro rfl; rw [hf] at q; cases q
  · have hyx : y ≠ x := by rintro rfl; rw [hx] at hy; cases hy
    rw [upd_ne hyx]; exact e y hy
  · obtain ⟨c', h1, h2, h3⟩ := a.cel y hy
    by_cases hyx : y = x
    · subst hyx
      rw [hc] at h1; cases h1
      rw [upd_same]; exact ⟨c, hc, hn, .inr hf⟩
    · rw [upd_ne hyx]
      have : c' ≠ c := by rintro rfl; exact hyx (a.inj _ _ _ h1 hc hf)
      exact ⟨c', h1, h2.sameBut hs this, h3⟩

/-- the frozen part may take in what stands, but the block's own -/
theorem At.rebase {B' : Heap} (a : At w env ρ B h) (k : Kp B B') (k' : Kp B' h) (hl : B'.get? env.locals = none) (hc : ∀ x c, env.cells.lookup x = some c → B.get? c = none → B'.get? c = none)
    : At w env ρ B' h := by
  refine ⟨k', a.top.keeps k, a.fn, a.gl, a.bi, a.loc, hl, fun x hx => ?_, fun x y c h1 h2 h3 => ?_⟩
  · obtain ⟨c, h1, h2, h3⟩ := a.cel x hx
    exact ⟨c, h1, h2, h3.imp (fun q => q.keeps k) fun q => hc x c h1 q⟩
  · refine a.inj x y c h1 h2 ?_
    cases q : B.get? c with
    | none => rfl
    | some o => rw [k _ _ q] at h3; cases h3
end

section
variable {w : World} {A : Around} {E : Value → Shared → Prop} {s : Shared} {env : Env} {ρ : Str → Option Value} {B : Heap}

theorem ld_var {x : Str} {pos : Pos} {v : Value} {Q : Value → Shared → Prop} (a : At w env ρ B s.heap) (hv : ρ x = some v) (h : Q v s)
    (hk : env.kindOf x = some .local ∨ env.kindOf x = some .cell ∨ env.kindOf x = some .free) (hd : (x == ("__debug__" : Str)) = false := by decide) (hn : (x == ("__classdict__" : Str)) = false := by decide) :
    wpAny (model P0 w) A (eval (.Name x pos) env) Q E s := by
  refine wpAny_Name ?_ hd
  rcases hk with hk | hk | hk
  · obtain ⟨m, n, e⟩ := a.loc
    exact wpAny_loadName_local a.fn hk n ((e x hk).trans hv) h
  · obtain ⟨c, h1, h2, _⟩ := a.cel x (.inl hk)
    exact wpAny_loadName_cell a.fn hk h1 (hv ▸ h2) h
  · obtain ⟨c, h1, h2, _⟩ := a.cel x (.inr hk)
    exact wpAny_loadName_free a.fn hk h1 (hv ▸ h2) h hn

theorem ldn_var {x : Str} {v : Value} {Q : Value → Shared → Prop} (a : At w env ρ B s.heap) (hv : ρ x = some v) (h : Q v s)
    (hk : env.kindOf x = some .local) :
    wpAny (model P0 w) A (loadName env x) Q E s := by
  obtain ⟨m, n, e⟩ := a.loc
  exact wpAny_loadName_local a.fn hk n ((e x hk).trans hv) h

theorem ld_glob {x : Str} {pos : Pos} {v : Value} {Q : Value → Shared → Prop} (a : At w env ρ B s.heap) (hv : nsIn (Mine.K0 w.params) mainGlobals x = some (some v)) (h : Q v s)
    (hk : env.kindOf x = some .globalImplicit) (hd : (x == ("__debug__" : Str)) = false := by decide) :
    wpAny (model P0 w) A (eval (.Name x pos) env) Q E s := by
  obtain ⟨q, loose, mean, mg, mb, T⟩ := a.top.top
  exact Name_function_global a.fn hk (loadGlobal_global (env := env) (by rw [a.gl]; exact T.g.keeps a.keep) (mg_of a.top.kin T.g hv) h) hd

theorem ld_boot {x : Str} {pos : Pos} {v : Value} {Q : Value → Shared → Prop} (a : At w env ρ B s.heap) (hm : nsIn (Mine.K0 w.params) mainGlobals x = some none) (hv : bootBuiltins x = some v) (hx : x ≠ "__name__") (h : Q v s)
    (hk : env.kindOf x = some .globalImplicit) (hd : (x == ("__debug__" : Str)) = false := by decide) :
    wpAny (model P0 w) A (eval (.Name x pos) env) Q E s := by
  obtain ⟨q, loose, mean, mg, mb, T⟩ := a.top.top
  exact Name_function_global a.fn hk (loadGlobal_builtin (env := env) (by rw [a.gl]; exact T.g.keeps a.keep) (mg_none_of a.top.kin T.g hm) (by rw [a.bi]; exact T.b.keeps a.keep) ((T.builtins _ hx).trans hv) h) hd

theorem st_var {x : Str} {v : Value} {Q : Unit → Shared → Prop} (a : At w env ρ B s.heap) (hk : env.kindOf x = some .local)
    (h : ∀ h' tk, At w env (upd ρ x v) B h' → (∀ b o, b ≠ env.locals → s.heap.get? b = some o → h'.get? b = some o) → Q () { s with heap := h', toks := tk }) :
    wpAny (model P0 w) A (storeName env x v) Q E s := by
  obtain ⟨m, n, e⟩ := a.loc
  exact wpAny_storeName_local hk n (fun h' hn hs => h h' _ (a.store hk n e hn hs) fun b o hb q => (hs.2 b hb).trans q) (by rw [a.fn]; rfl)

theorem st_cell {x : Str} {v : Value} {Q : Unit → Shared → Prop} (a : At w env ρ B s.heap) (hk : env.kindOf x = some .cell) {c : Addr} (hc : env.cells.lookup x = some c) (hf : B.get? c = none)
    (h : ∀ h' tk, At w env (upd ρ x v) B h' → (∀ b o, b ≠ c → s.heap.get? b = some o → h'.get? b = some o) → Q () { s with heap := h', toks := tk }) :
    wpAny (model P0 w) A (storeName env x v) Q E s := by
  obtain ⟨c', h1, h2, _⟩ := a.cel x (.inl hk)
  rw [hc] at h1; cases h1
  exact wpAny_storeName_cell a.fn hk hc h2 fun h' hn hs => h h' _ (a.storeC hk hc hf h2 hn hs) fun b o hb q => (hs.2 b hb).trans q
end

/-- room for k more frames -/
structure Room (A : Around) (k : Nat) : Prop where
  h : A.handled = none
  d : A.depth + k ≤ 500
  u : A.units + 20 * k ≤ 5000
theorem Room.deeper {A : Around} {k : Nat} (r : Room A (k + 1)) (env : Env) : Room (A.deeper env) k :=
  ⟨r.h, by have := r.d; show A.depth + 1 + k ≤ 500; omega, by have := r.u; show A.units + 3 + 20 * k ≤ 5000; omega⟩
theorem Room.deep {A : Around} {k : Nat} (r : Room A k) : A.depth < recursionLimit := by have := r.d; show A.depth < 1000; omega
theorem Room.mono {A : Around} {k j : Nat} (r : Room A k) (h : j ≤ k) : Room A j := ⟨r.h, by have := r.d; omega, by have := r.u; omega⟩

/-- the value that a def's body gives back -/
noncomputable def retOf (f : Flow) : Value := match f with | .ret v => v | _ => .none

theorem enter {w : World} {A : Around} {E : Value → Shared → Prop} {s : Shared} {f : Addr} {vs : List Value} {Q : Value → Shared → Prop} {k : Nat}
    {name qual : Str} {params : Arguments} {body : List Stmt} {scope : Scope} {dV kV doc pm cdv ct oc : Value} {an od : Option Addr} {osl : Array (Option Value)} {binds : List (Str × Value)}
    (T : TopAt w s.heap) (R : Room A (k + 1)) (ho : (Mine.K0 w.params).lookup f = some ⟨oc, od, .func (fnOf name qual params body scope dV kV doc pm an cdv ct), osl⟩) (hcd : codeIn (Mine.K0 w.params) cdv qual = true)
    (hbind : bindArgs (fnOf name qual params body scope dV kV doc pm an cdv ct) ⟨vs, []⟩ = pure binds) (hloc : ∀ y ∈ binds, scope.names.lookup y.1 = some .local)
    (hcf : ∀ x ∈ scope.names, x.2 ≠ .cell ∧ x.2 ≠ .free)
    (h : ∀ L h₁ tk, At w (envOf qual scope L f cdv) (fun y => binds.reverse.lookup y) s.heap h₁ → Room (A.deeper (envOf qual scope L f cdv)) k →
      wpAny (model P0 w) (A.deeper (envOf qual scope L f cdv)) (execs body (envOf qual scope L f cdv)) (fun fl s' => Q (retOf fl) s') (fun _ _ => False) { s with heap := h₁, toks := tk })
    (hco : scope.isCoroutine = false := by rfl) (hgen : scope.isGenerator = false := by rfl) (hk : scope.kind = .function := by rfl) :
    wpAny (model P0 w) A (call (.ref f) vs) Q E s := by
  obtain ⟨q, loose, mean, mg, mb, T'⟩ := T.top
  refine wpAny_call (codeAny_call_def (fd := fnOf name qual params body scope dV kV doc pm an cdv ct) (body := body) (binds := binds) R.deep (T.kin _ _ ho) rfl T'.nolimit (codeRec_of T.kin hcd) rfl (BindsTo.of_eq hbind)
    (fun x hx => (hcf x hx).1) hloc (fun h₁ hns hk₁ => ?_) hco hgen hk)
  have no : ∀ (x : Str) (kd : NameKind), scope.names.lookup x = some kd → kd ≠ .cell ∧ kd ≠ .free := fun x kd e => hcf (x, kd) (mem_of_lookup e)
  refine wpAny_mono (h s.heap.objs.size h₁ _ ⟨hk₁, T, hk, rfl, rfl, ⟨_, hns, fun _ _ => rfl⟩, ?_, ?_, ?_⟩ (R.deeper _)) (fun fl s' q => q) (fun _ _ e => e.elim)
  · show s.heap.get? s.heap.objs.size = none
    cases q : s.heap.get? s.heap.objs.size with
    | none => rfl
    | some o => exact absurd (Heap.lt_size q) (Nat.lt_irrefl _)
  · rintro x (hx | hx)
    · exact absurd rfl (no x _ hx).1
    · exact absurd rfl (no x _ hx).2
  · intro x y c e; cases e
end PBase
section PComp
/-- an element's value: a plain one, or an object that its reckoning made -/
noncomputable def Elem (Rel : Nat → Value → Option Obj → Prop) (old h : Heap) (i : Nat) (y : Value) : Prop :=
  Rel i y none ∨ ∃ T o, y = .ref T ∧ old.get? T = none ∧ h.get? T = some o ∧ Rel i y (some o)
noncomputable def ElemU (Rel : Nat → Value → Option Obj → Prop) (old : Heap) (U : List Addr) (h : Heap) (i : Nat) (y : Value) : Prop :=
  Rel i y none ∨ ∃ T o, y = .ref T ∧ old.get? T = none ∧ T ∉ U ∧ h.get? T = some o ∧ Rel i y (some o)
theorem ElemU.move {Rel : Nat → Value → Option Obj → Prop} {old h h' : Heap} {U : List Addr} {i : Nat} {y : Value} (x : ElemU Rel old U h i y) (k : ∀ b o, b ∉ U → h.get? b = some o → h'.get? b = some o) : ElemU Rel old U h' i y :=
  x.imp id fun ⟨T, o, a, b, c, d, e⟩ => ⟨T, o, a, b, c, k _ _ c d, e⟩

section
variable {w : World} {env : Env} {ρ : Str → Option Value} {B h h' : Heap}
theorem At.off (a : At w env ρ B h) {U : List Addr} (hU : ∀ b ∈ U, B.get? b = none ∧ b ≠ env.locals ∧ ∀ y c, (env.kindOf y = some .cell ∨ env.kindOf y = some .free) → env.cells.lookup y = some c → b ≠ c)
    (k : ∀ b o, b ∉ U → h.get? b = some o → h'.get? b = some o) : At w env ρ B h' := by
  have kl : ∀ o, h.get? env.locals = some o → h'.get? env.locals = some o := fun o e => k _ _ (fun hm => (hU _ hm).2.1 rfl) e
  refine ⟨fun b o e => k b o (fun hm => by have := (hU _ hm).1; rw [e] at this; cases this) (a.keep b o e), a.top, a.fn, a.gl, a.bi, ?_, a.hid, fun x hx => ?_, a.inj⟩
  · obtain ⟨m, n, e⟩ := a.loc
    exact ⟨m, n.at' kl, e⟩
  · obtain ⟨c, h1, h2, h3⟩ := a.cel x hx
    refine ⟨c, h1, ?_, h3⟩
    obtain ⟨o, q, d⟩ := h2
    exact ⟨o, k c o (fun hm => (hU _ hm).2.2 x c hx h1 rfl) q, d⟩
theorem At.eq {ρ' : Str → Option Value} (a : At w env ρ B h) (e : ∀ x, ρ x = ρ' x) : At w env ρ' B h := by
  have : ρ = ρ' := funext e
  exact this ▸ a
end

section
variable {w : World} {A : Around} {R : Result → Shared → Prop} {s : Shared}

theorem range_filter_succ (p : Nat → Bool) (i : Nat) : (List.range (i + 1)).filter p = (List.range i).filter p ++ (if p i = true then [i] else []) := by
  rw [List.range_succ, List.filter_append]
  cases hp : p i <;> simp [hp]

theorem comp_loop {elt iter : Expr} {x : Str} {px : Pos} {ifs : List Expr} {scope : Scope} {pos : Pos} {I D tgt : Addr} {fp wr : List Addr} {n : Nat} {P : Nat → Value → Prop} {St : Nat → Heap → Prop}
    {cenv : Env} {ρ₀ : Str → Option Value} {B₂ : Heap} (W : Walks P0 w A I fp wr n P St) (p : Nat → Bool) (Rel : Nat → Value → Option Obj → Prop)
    (hlive : ∀ i h, St i h → ∀ b ∈ wr, ∃ o, h.get? b = some o)
    (hDf : D ∉ fp) (htf : tgt ∉ fp) (hDt : D ≠ tgt)
    (hU : ∀ b ∈ D :: wr, B₂.get? b = none ∧ b ≠ cenv.locals ∧ ∀ y c, (cenv.kindOf y = some .cell ∨ cenv.kindOf y = some .free) → cenv.cells.lookup y = some c → b ≠ c)
    (htl : ∀ h ρ₁, At w cenv ρ₁ B₂ h → ∃ o, h.get? tgt = some o)
    (hst : ∀ (s' : Shared) (ρ₁ : Str → Option Value) (v : Value) (Q : Unit → Shared → Prop) (E' : Value → Shared → Prop), At w cenv ρ₁ B₂ s'.heap →
      (∀ h' tk, At w cenv (upd ρ₁ x v) B₂ h' → (∀ b o, b ≠ tgt → s'.heap.get? b = some o → h'.get? b = some o) → Q () { s' with heap := h', toks := tk }) → wpAny (model P0 w) A (storeName cenv x v) Q E' s')
    (st0 : St 0 s.heap) (acc0 : s.heap.PlainList D #[]) (a0 : At w cenv ρ₀ B₂ s.heap)
    (htest : ∀ i v (s' : Shared) (E' : Value → Shared → Prop), i < n → P i v → At w cenv (upd ρ₀ x v) B₂ s'.heap →
      wpAny (model P0 w) A (forIn ifs true fun c r => if r = true then do let ok ← isTrue c cenv (eval c cenv); pure (ForInStep.yield ok) else pure (ForInStep.yield r)) (fun ok s₃ => ok = p i ∧ Keeps s' s₃) E' s')
    (helt : ∀ i v (s' : Shared) (E' : Value → Shared → Prop), i < n → P i v → p i = true → At w cenv (upd ρ₀ x v) B₂ s'.heap →
      wpAny (model P0 w) A (eval elt cenv) (fun y s₄ => Keeps s' s₄ ∧ Elem Rel s'.heap s₄.heap i y) E' s')
    (hR : ∀ h' tk ys ρ₁, At w cenv ρ₁ B₂ h' → h'.PlainList D ys → Paired (ElemU Rel s.heap (D :: tgt :: cenv.locals :: wr) h') ((List.range n).filter p) ys.toList →
      (∀ b o, b ∉ D :: tgt :: cenv.locals :: wr → s.heap.get? b = some o → h'.get? b = some o) → R (.ok .next) { s with heap := h', toks := tk })
    (hsz : n ≤ sizeLine) :
    codeAny (model P0 w) A (.compLoop (.ListComp elt [⟨.Name x px, iter, ifs, 0⟩] scope pos) 0 (.ref I) (.ref D) cenv) R s := by
  have hDw : D ∉ wr := fun h => hDf (W.sub _ h)
  have htw : tgt ∉ wr := fun h => htf (W.sub _ h)
  refine codeAny_compLoop_tests
    (fun k s' => ∃ h' tk ys ρ₁ i, s' = { s with heap := h', toks := tk } ∧ St i h' ∧ h'.PlainList D ys ∧ At w cenv ρ₁ B₂ h' ∧ (∀ y, y ≠ x → ρ₁ y = ρ₀ y) ∧
      Paired (ElemU Rel s.heap (D :: tgt :: cenv.locals :: wr) h') ((List.range i).filter p) ys.toList ∧ i ≤ n ∧ k = n + 1 - i ∧
      (∀ b o, b ∉ D :: tgt :: cenv.locals :: wr → s.heap.get? b = some o → h'.get? b = some o)) ?_ (n + 1)
    ⟨s.heap, s.toks, #[], ρ₀, 0, rfl, st0, acc0, a0, fun _ _ => rfl, by simpa using Paired.nil, Nat.zero_le _, rfl, fun _ _ _ e => e⟩
  rintro k s' ⟨H, tk, ys, ρ₁, i, rfl, hst', hacc', ha, hρ, hF, hi, rfl, hk⟩
  have offw : ∀ {h' : Heap} {ρ₁ : Str → Option Value} {h : Heap}, At w cenv ρ₁ B₂ h → (∀ b o, b ∉ wr → h.get? b = some o → h'.get? b = some o) → At w cenv ρ₁ B₂ h' := fun a q => a.off (U := wr) (fun b hb => hU b (.tail _ hb)) q
  have inU : ∀ {b : Addr}, b ∉ D :: tgt :: cenv.locals :: wr → b ≠ D ∧ b ≠ tgt ∧ b ∉ wr := fun {b} hb => ⟨fun e => hb (e ▸ .head _), fun e => hb (e ▸ .tail _ (.head _)), fun e => hb (.tail _ (.tail _ (.tail _ e)))⟩
  by_cases hlt : i < n
  · refine W.item i _ _ _ hlt hst' fun v h₁ tk₁ hPv hst₁ hk₁ => ?_
    have ha₁ : At w cenv ρ₁ B₂ h₁ := offw ha hk₁
    refine wpAny_assign_Name (hst _ ρ₁ v _ _ ha₁ fun h₂ tk₂ ha₂ hk₂ => ?_)
    have ha₂ : At w cenv (upd ρ₀ x v) B₂ h₂ := ha₂.eq fun y => by
      unfold upd; split
      · rfl
      · exact hρ y (by assumption)
    have up₂ : ∀ b o, b ∉ D :: tgt :: cenv.locals :: wr → H.get? b = some o → h₂.get? b = some o := fun b o hb e => hk₂ b o (inU hb).2.1 (hk₁ b o (inU hb).2.2 e)
    have hst₂ : St (i + 1) h₂ := W.frame _ _ _ hst₁ fun b hb o e => hk₂ b o (fun h => htf (h ▸ hb)) e
    have hacc₂ : h₂.PlainList D ys := hacc'.at fun o e => hk₂ _ o hDt (hk₁ _ o hDw e)
    refine wpAny_mono (htest i v _ _ hlt hPv ha₂) (fun ok s₃ q₃ => ?_) fun _ _ e => e
    obtain ⟨rfl, h₃, tk₃, rfl, hk₃⟩ := q₃
    have ha₃ : At w cenv (upd ρ₀ x v) B₂ h₃ := ha₂.grow hk₃
    have hst₃ : St (i + 1) h₃ := W.frame _ _ _ hst₂ fun b _ o e => hk₃ b o e
    have hacc₃ : h₃.PlainList D ys := hacc₂.at fun o e => hk₃ _ o e
    have hF₃ : Paired (ElemU Rel s.heap (D :: tgt :: cenv.locals :: wr) h₃) ((List.range i).filter p) ys.toList := hF.mono fun _ _ hy => hy.move fun b o hb e => hk₃ b o (up₂ b o hb e)
    cases hpi : p i with
    | false =>
      simp only [Bool.false_eq_true, if_false]
      refine ⟨n + 1 - (i + 1), by omega, h₃, tk₃, ys, _, i + 1, rfl, hst₃, hacc₃, ha₃, fun y hy => upd_ne hy, ?_, hlt, rfl, fun b o hb e => hk₃ b o (up₂ b o hb (hk b o hb e))⟩
      rw [range_filter_succ]; simpa [hpi] using hF₃
    | true =>
      simp only [if_true]
      refine wpAny_mono (helt i v _ _ hlt hPv hpi ha₃) (fun y s₄ q₄ => ?_) fun _ _ e => e
      obtain ⟨⟨h₄, tk₄, rfl, hk₄⟩, hy⟩ := q₄
      have hys : ys.size ≤ sizeLine := by
        have e1 := hF.length
        have e2 : ((List.range i).filter p).length ≤ (List.range i).length := List.length_filter_le _ _
        rw [List.length_range] at e2
        have e4 : ys.toList.length = ys.size := by simp
        omega
      refine wpAny_list_append_plain (hsz := hys) (hacc₃.at fun o e => hk₄ _ o e) fun h₅ hl₅ hs₅ => ?_
      have ha₅ : At w cenv (upd ρ₀ x v) B₂ h₅ := (ha₃.grow hk₄).off (U := [D]) (fun b hb => hU b (by rw [List.mem_singleton.mp hb]; exact .head _)) fun b o hb e => hs₅.extBut b o (fun e => hb (e ▸ .head _)) e
      refine ⟨n + 1 - (i + 1), by omega, h₅, tk₄, ys.push y, _, i + 1, rfl, ?_, hl₅, ha₅, fun y hy => upd_ne hy, ?_, hlt, rfl, fun b o hb e => hs₅.extBut b o (inU hb).1 (hk₄ b o (hk₃ b o (up₂ b o hb (hk b o hb e))))⟩
      · exact W.frame _ _ h₅ hst₃ fun b hb o e => hs₅.extBut b o (fun h => hDf (h ▸ hb)) (hk₄ b o e)
      · have hF₅ := hF₃.mono (F' := ElemU Rel s.heap (D :: tgt :: cenv.locals :: wr) h₅) fun _ _ hy => hy.move fun b o hb e => hs₅.extBut b o (inU hb).1 (hk₄ b o e)
        have hy₅ : ElemU Rel s.heap (D :: tgt :: cenv.locals :: wr) h₅ i y := by
          refine hy.imp id ?_
          rintro ⟨T, o, e, hf, hg, hr⟩
          have hfU : T ∉ D :: tgt :: cenv.locals :: wr := by
            intro hm
            rcases List.mem_cons.mp hm with rfl | hm
            · obtain ⟨_, q⟩ := hacc₃; exact absurd rfl (ne_of_none_some hf q)
            · rcases List.mem_cons.mp hm with rfl | hm
              · obtain ⟨o', q⟩ := htl _ _ ha₃; exact absurd rfl (ne_of_none_some hf q)
              · rcases List.mem_cons.mp hm with rfl | hm
                · obtain ⟨_, ⟨o', _, _, q, _⟩, _⟩ := ha₃.loc; exact absurd rfl (ne_of_none_some hf q)
                · obtain ⟨o', q⟩ := hlive _ _ hst₃ T hm; exact absurd rfl (ne_of_none_some hf q)
          refine ⟨T, o, e, ?_, hfU, hs₅.extBut T o (inU hfU).1 hg, hr⟩
          cases q : s.heap.get? T with
          | none => rfl
          | some o' => exact absurd rfl (ne_of_none_some hf (hk₃ T o' (up₂ T o' hfU (hk T o' hfU q))))
        rw [range_filter_succ]; simpa [hpi] using Paired.snoc hF₅ hy₅
  · have hin : i = n := by omega
    subst hin
    refine W.done _ _ _ hst' fun h₁ tk₁ hk₁ => ?_
    exact hR h₁ tk₁ ys ρ₁ (offw ha hk₁) (hacc'.at fun o e => hk₁ _ o hDw e) (hF.mono fun _ _ hy => hy.move fun b o hb e => hk₁ b o (inU hb).2.2 e) fun b o hb e => hk₁ b o (inU hb).2.2 (hk b o hb e)
end
end PComp
section PCompB
section
variable {M : Model} {A : Around} {E : Value → Shared → Prop} {s : Shared}

noncomputable def cEnv (scope : Scope) (cs : List (Str × Addr)) (C : Addr) (env : Env) : Env :=
  { scope := scope, locals := C, globals := env.globals, cells := cs, qual := env.qual, func := none, code := env.code, frame := env.frame, builtins := env.builtins }

theorem newEnv_comp {scope : Scope} {cl : List (Str × Addr)} {env : Env} {Q : Env → Shared → Prop}
    (h : Q (cEnv scope (cellsFrom (s.heap.objs.size + 1) scope.names cl) s.heap.objs.size env) { s with heap := pushCells (s.heap.push { cls := .type "dict", data := .dict #[] }) scope.names }) :
    wpAny M A (newFunctionEnv scope env.globals cl [] env.qual none .none (some env)) Q E s := by
  simp only [newFunctionEnv, Option.isSome_some, if_true]
  refine wpAny_bind (wpAny_alloc ?_)
  refine wpAny_bind (wpAny_layCells _ (fun name kind cells => by cases hkc : kind == NameKind.cell <;> simp [hkc]) _ _ _ _ ?_)
  rw [List.forIn_nil]
  refine wpAny_bind (wpAny_pure (wpAny_pure ?_))
  rw [show ({ s with heap := s.heap.push { cls := .type "dict", data := .dict #[] } } : Shared).heap.objs.size = s.heap.objs.size + 1 from Heap.size_push ..]
  exact h
end

theorem cellsFrom_none : ∀ (names : List (Str × NameKind)) (n : Nat) (cl : List (Str × Addr)), (∀ y ∈ names, y.2 ≠ .cell) → cellsFrom n names cl = cl
  | [], _, _, _ => rfl
  | (y, k) :: r, n, cl, h => by
    have hk : (k == NameKind.cell) = false := by simpa using h (y, k) (.head _)
    unfold cellsFrom
    rw [if_neg (by rw [hk]; exact Bool.false_ne_true)]
    exact cellsFrom_none r n cl fun z hz => h z (.tail _ hz)
/-- a name's place does not turn where the kinds alone are turned -/
theorem lookup_turned {g : Str → NameKind → NameKind} (x : Str) : ∀ names : List (Str × NameKind), (names.map fun p => (p.1, g p.1 p.2)).lookup x = (names.lookup x).map (g x)
  | [] => rfl
  | (n, k) :: r => by
    rw [List.map_cons, List.lookup_cons, List.lookup_cons]
    cases h : x == n with
    | true => simp only [Option.map_some, eq_of_beq h]
    | false => exact lookup_turned x r
noncomputable abbrev relabelled (env : Env) (names : List (Str × NameKind)) : List (Str × NameKind) := names.map fun (n, k) => if (k == NameKind.free && env.scope.kind == .function && env.kindOf n == some .cell) then (n, NameKind.cell) else (n, k)
theorem relabelled_eq (env : Env) (names : List (Str × NameKind)) : relabelled env names = names.map fun p => (p.1, if (p.2 == NameKind.free && env.scope.kind == .function && env.kindOf p.1 == some .cell) then NameKind.cell else p.2) := by
  refine List.map_congr_left fun p _ => ?_
  obtain ⟨n, k⟩ := p
  dsimp only
  split <;> rfl
theorem lookup_relabel {env : Env} {names : List (Str × NameKind)} {x : Str} {k : NameKind} (h : (relabelled env names).lookup x = some k) : names.lookup x = some k ∨ (k = .cell ∧ names.lookup x = some .free) := by
  rw [relabelled_eq, lookup_turned (g := fun n k => if (k == NameKind.free && env.scope.kind == .function && env.kindOf n == some .cell) then NameKind.cell else k)] at h
  obtain ⟨j, e, q⟩ := Option.map_eq_some_iff.mp h
  by_cases c : (j == NameKind.free && env.scope.kind == .function && env.kindOf x == some .cell) = true
  · rw [if_pos c] at q
    simp only [Bool.and_eq_true, beq_iff_eq] at c
    exact .inr ⟨q.symm, e.trans (congrArg some c.1.1)⟩
  · rw [if_neg c] at q
    exact .inl (e.trans (congrArg some q))
theorem lookup_relabel_cell {env : Env} {names : List (Str × NameKind)} {x : Str} (h : names.lookup x = some .cell) : (relabelled env names).lookup x = some .cell := by
  rw [relabelled_eq, lookup_turned (g := fun n k => if (k == NameKind.free && env.scope.kind == .function && env.kindOf n == some .cell) then NameKind.cell else k), h]
  rfl

/-- the names that a comprehension's block sees, before its own is bound -/
noncomputable def hole (ρ : Str → Option Value) (x : Str) : Str → Option Value := fun y => if y = Str.ofString ".0" then none else if y = x then none else ρ y
noncomputable abbrev inner (ρ : Str → Option Value) (x : Str) (v : Value) : Str → Option Value := upd (hole ρ x) x v

noncomputable def ElemF (Rel : Nat → Value → Option Obj → Prop) (old : Heap) (D : Addr) (h : Heap) (i : Nat) (y : Value) : Prop :=
  Rel i y none ∨ ∃ T o, y = .ref T ∧ old.get? T = none ∧ T ≠ D ∧ h.get? T = some o ∧ Rel i y (some o)

/-- how a comprehension's names lie: the target is its own local, or its own only cell -/
inductive Names (scope : Scope) (x : Str) (cl : List (Str × Addr)) : Prop
  | loc (hx : scope.names.lookup x = some .local) (hc : ∀ y ∈ scope.names, y.2 ≠ .cell)
  | cell (hx : scope.names.lookup x = some .cell) (hc : ∀ n, cellsFrom n scope.names cl = (x, n) :: cl) (hp : ∀ h : Heap, pushCells h scope.names = h.push { cls := .type "cell", data := .cell none })

section
variable {w : World} {A : Around} {E : Value → Shared → Prop} {s₂ : Shared} {env : Env} {ρ : Str → Option Value} {B : Heap}

theorem comp_core {elt iter : Expr} {x : Str} {px : Pos} {ifs : List Expr} {scope : Scope} {pos : Pos} {cl : List (Str × Addr)} {I : Addr} {fp wr : List Addr} {n : Nat} {P : Nat → Value → Prop} {St : Nat → Heap → Prop}
    (a : At w env ρ B s₂.heap) (W : Walks P0 w A I fp wr n P St) (hsz : n ≤ sizeLine) (p : Nat → Bool) (Rel : Nat → Value → Option Obj → Prop) {RR : Value → Addr → Result → Shared → Prop}
    (hlive : ∀ i h, St i h → ∀ b ∈ wr, ∃ o, h.get? b = some o) (st0 : St 0 s₂.heap) (hfp : ∀ b ∈ fp, b < s₂.heap.objs.size)
    (hwr : ∀ b ∈ wr, B.get? b = none ∧ ∀ y c, (env.kindOf y = some .cell ∨ env.kindOf y = some .free) → env.cells.lookup y = some c → b ≠ c)
    (hkind : scope.kind = .function) (hnm : ∀ y, scope.names.lookup y = some .local → y = Str.ofString ".0" ∨ y = x) (hx0 : x ≠ Str.ofString ".0")
    (hfr : ∀ y, scope.names.lookup y = some .free → (env.kindOf y = some .cell ∨ env.kindOf y = some .free) ∧ cl.lookup y = env.cells.lookup y ∧ y ≠ Str.ofString ".0")
    (hclo : ∀ y c, cl.lookup y = some c → scope.names.lookup y = some .free) (hN : Names scope x cl)
    (htest : ∀ C cs i v (s' : Shared) (E' : Value → Shared → Prop), i < n → P i v → At w (cEnv (relabel scope env) cs C env) (inner ρ x v) (hideAll s₂.heap wr) s'.heap →
      wpAny (model P0 w) A (forIn ifs true fun c r => if r = true then do let ok ← isTrue c (cEnv (relabel scope env) cs C env) (eval c (cEnv (relabel scope env) cs C env)); pure (ForInStep.yield ok) else pure (ForInStep.yield r)) (fun ok s₃ => ok = p i ∧ Keeps s' s₃) E' s')
    (helt : ∀ C cs i v (s' : Shared) (E' : Value → Shared → Prop), i < n → P i v → p i = true → At w (cEnv (relabel scope env) cs C env) (inner ρ x v) (hideAll s₂.heap wr) s'.heap →
      wpAny (model P0 w) A (eval elt (cEnv (relabel scope env) cs C env)) (fun y s₄ => Keeps s' s₄ ∧ Elem Rel s'.heap s₄.heap i y) E' s')
    (hRR : ∀ D C h' tk ys m, s₂.heap.get? D = none → s₂.heap.get? C = none → D ≠ C → h'.Ns C m → h'.PlainList D ys →
      (∀ h'', Heap.SameBut C h' h'' → Paired (ElemF Rel s₂.heap D h'') ((List.range n).filter p) ys.toList) →
      (∀ b o, b ∉ wr → s₂.heap.get? b = some o → h'.get? b = some o) → RR (.ref D) C (.ok .next) { s₂ with heap := h', toks := tk }) :
    wpAny (model P0 w) A (newList []) (fun acc s₃ => wpAny (model P0 w) A (newFunctionEnv scope env.globals cl [] env.qual none .none (some env)) (fun cenv s₄ =>
      codeAny (model P0 w) A (.compStart (.ListComp elt [⟨.Name x px, iter, ifs, 0⟩] scope pos) 0 (.ref I) acc { cenv with scope := relabel scope env }) (RR acc cenv.locals) s₄) E s₃) E s₂ := by
  refine wpAny_newObj_type (newEnv_comp ?_)
  dsimp only
  generalize hH2 : s₂.heap.push { cls := .type "list", dict := none, data := .seq ([] : List Value).toArray } = H2
  obtain ⟨D, hD⟩ : ∃ D : Nat, s₂.heap.objs.size = D := ⟨_, rfl⟩
  obtain ⟨C, hCe⟩ : ∃ C : Nat, H2.objs.size = C := ⟨_, rfl⟩
  have hC : C = D + 1 := by rw [← hCe, ← hH2, Heap.size_push, hD]
  rw [hD, hCe]
  have fresh : ∀ b : Nat, D ≤ b → s₂.heap.get? b = none := fun b hb => by
    cases e : s₂.heap.get? b with
    | none => rfl
    | some o' => exact absurd (Heap.lt_size e) (by rw [hD]; exact Nat.not_lt.mpr hb)
  -- the heap behind the block's making
  generalize hH3 : pushCells (H2.push { cls := .type "dict", data := .dict #[] }) scope.names = H3
  have k23 : ∀ b o, H2.get? b = some o → H3.get? b = some o := fun b o e => hH3 ▸ pushCells_keeps _ _ b o (Heap.get?_push_of_some _ e)
  have old : ∀ b o, s₂.heap.get? b = some o → H3.get? b = some o := fun b o e => k23 b o (hH2 ▸ Heap.get?_push_of_some _ e)
  have hacc : H3.PlainList D #[] := ⟨_, k23 _ _ (by rw [← hH2, ← hD]; exact Heap.get?_push_size _ rfl)⟩
  have hns : H3.Ns C (fun _ => none) := by
    rw [← hH3, ← hCe]
    exact (Heap.Ns.new H2 (.type "dict")).keeps (pushCells_keeps _ _)
  have hCD : C ≠ D := by omega
  -- the target's place
  obtain ⟨tgt, htC, htD, hcs, hct⟩ : ∃ tgt : Nat, (tgt = C ∨ (tgt = C + 1 ∧ scope.names.lookup x = some .cell ∧ H3.IsCell (C + 1) none)) ∧ D < tgt ∧
      (∀ y c, (cellsFrom (C + 1) scope.names cl).lookup y = some c → (cl.lookup y = some c) ∨ (y = x ∧ c = C + 1 ∧ tgt = C + 1)) ∧
      (tgt = C → scope.names.lookup x = some .local ∧ ∀ y, (cellsFrom (C + 1) scope.names cl).lookup y = cl.lookup y) := by
    cases hN with
    | loc hx hc => exact ⟨C, .inl rfl, by omega, fun y c e => .inl (by rwa [cellsFrom_none _ _ _ hc] at e), fun _ => ⟨hx, fun y => by rw [cellsFrom_none _ _ _ hc]⟩⟩
    | cell hx hc hp =>
      refine ⟨C + 1, .inr ⟨rfl, hx, ?_⟩, by omega, fun y c e => ?_, fun e => absurd e (by omega)⟩
      · rw [← hH3, hp, ← hCe]
        have := Heap.get?_push_size (H2.push { cls := .type "dict", data := .dict #[] }) (o := { cls := .type "cell", data := .cell none }) rfl
        rw [Heap.size_push] at this
        exact ⟨_, this, rfl⟩
      · rw [hc, List.lookup_cons] at e
        cases hy : y == x with
        | true => rw [hy] at e; cases e; exact .inr ⟨beq_iff_eq.mp hy, rfl, rfl⟩
        | false => rw [hy] at e; exact .inl e
  have hkN : ∀ y k, (relabel scope env).names.lookup y = some k → scope.names.lookup y = some k ∨ (k = .cell ∧ scope.names.lookup y = some .free) := fun y k e => lookup_relabel e
  generalize hB2 : hideAll s₂.heap wr = B₂
  have kB2 : Kp B₂ s₂.heap := fun b o e => of_hideAll wr (by rw [hB2]; exact e)
  have kBB : Kp B B₂ := fun b o e => by
    rw [← hB2]
    exact hideAll_get wr (a.keep b o e) fun hm => by have := (hwr b hm).1; rw [e] at this; cases this
  -- the free names' cells
  have hfree : ∀ y, scope.names.lookup y = some .free → ∃ c, cl.lookup y = some c ∧ B₂.IsCell c (ρ y) := fun y hy => by
    obtain ⟨h1, h2, _⟩ := hfr y hy
    obtain ⟨c, q1, q2, _⟩ := a.cel y h1
    obtain ⟨o, q, d⟩ := q2
    exact ⟨c, h2.trans q1, o, by rw [← hB2]; exact hideAll_get wr q fun hm => (hwr c hm).2 y c h1 q1 rfl, d⟩
  have hcs' : ∀ y, scope.names.lookup y = some .free → (cellsFrom (C + 1) scope.names cl).lookup y = cl.lookup y := fun y hy => by
    cases hN with
    | loc hx hc => rw [cellsFrom_none _ _ _ hc]
    | cell hx hc hp =>
      rw [hc, List.lookup_cons]
      cases hyx : y == x with
      | true => rw [beq_iff_eq.mp hyx, hx] at hy; cases hy
      | false => rfl
  have ρfree : ∀ y, scope.names.lookup y = some .free → y ≠ x → hole ρ x y = ρ y := fun y hy hyx => by
    unfold hole; rw [if_neg (hfr y hy).2.2, if_neg hyx]
  have xfree : scope.names.lookup x ≠ some .free := by
    cases hN with
    | loc hx _ => rw [hx]; intro e; cases e
    | cell hx _ _ => rw [hx]; intro e; cases e
  have a0 : At w (cEnv (relabel scope env) (cellsFrom (C + 1) scope.names cl) C env) (hole ρ x) B₂ H3 := by
    refine ⟨fun b o e => old b o (kB2 b o e), a.top.keeps kBB, hkind, a.gl, a.bi, ⟨_, hns, fun y hy => ?_⟩, ?_, fun y hy => ?_, fun y z c h1 h2 h3 => ?_⟩
    · have hy' : scope.names.lookup y = some .local := (hkN y _ hy).resolve_right (fun q => by cases q.1)
      rcases hnm y hy' with e | e
      · simp [hole, e]
      · simp [hole, e]
    · show B₂.get? C = none
      cases e : B₂.get? C with
      | none => rfl
      | some o => exact absurd (kB2 _ _ e) (by rw [fresh C (by omega)]; intro q; cases q)
    · have free_case : scope.names.lookup y = some .free → ∃ c, (cellsFrom (C + 1) scope.names cl).lookup y = some c ∧ H3.IsCell c (hole ρ x y) ∧ (B₂.IsCell c (hole ρ x y) ∨ B₂.get? c = none) := fun hy' => by
        obtain ⟨c, q1, q2⟩ := hfree y hy'
        have hyx : y ≠ x := fun e => xfree (e ▸ hy')
        rw [ρfree y hy' hyx]
        exact ⟨c, (hcs' y hy').trans q1, q2.keeps fun b o e => old b o (kB2 b o e), .inl q2⟩
      rcases hy with hy | hy
      · rcases hkN y _ hy with q | q
        · cases hN with
          | loc hx hc => exact absurd rfl (hc (y, .cell) (mem_of_lookup q))
          | cell hx hc hp =>
            have hyx : y = x := by
              have z := hc 0
              cases hyx : y == x with
              | true => exact beq_iff_eq.mp hyx
              | false =>
                exfalso
                have s1 := cellsFrom_some (x := y) scope.names 0 cl (.inl q)
                rw [z, List.lookup_cons, hyx] at s1
                obtain ⟨c, e⟩ := Option.isSome_iff_exists.mp s1
                have := hclo y c e
                rw [q] at this; cases this
            subst hyx
            rcases htC with e | ⟨e, _, hcell⟩
            · exact absurd ((hct e).1.symm.trans hx) (by intro q; cases q)
            · refine ⟨C + 1, by show (cellsFrom (C + 1) scope.names cl).lookup y = _; rw [hc, List.lookup_cons]; simp, ?_, .inr ?_⟩
              · have : hole ρ y y = none := by unfold hole; split <;> simp
                rw [this]; exact hcell
              · cases e : B₂.get? (C + 1) with
                | none => rfl
                | some o => exact absurd (kB2 _ _ e) (by rw [fresh (C + 1) (by omega)]; intro q; cases q)
        · exact free_case q.2
      · rcases hkN y _ hy with q | q
        · exact free_case q
        · exact free_case q.2
    · have own : ∀ y, (cellsFrom (C + 1) scope.names cl).lookup y = some c → y = x := fun y e => by
        rcases hcs y c e with q | q
        · obtain ⟨c', q1, o, q2, _⟩ := hfree y (hclo y c q)
          rw [q] at q1; cases q1
          rw [h3] at q2; cases q2
        · exact q.1
      exact (own y h1).trans (own z h2).symm
  have hcell_ne : ∀ b : Nat, b < C → B₂.get? b = none → ∀ y c, (cellsFrom (C + 1) scope.names cl).lookup y = some c → b ≠ c := fun b hb hn y c e => by
    rintro rfl
    rcases hcs y b e with q | q
    · obtain ⟨c', q1, o, q2, _⟩ := hfree y (hclo y b q)
      rw [q] at q1; cases q1
      rw [hn] at q2; cases q2
    · have q' : (b : Nat) = C + 1 := q.2.1
      omega
  have hwrlt : ∀ b : Nat, b ∈ wr → b < D := fun b hb => by rw [← hD]; exact hfp b (W.sub b hb)
  have hDB : B₂.get? D = none := by
    cases e : B₂.get? D with
    | none => rfl
    | some o => exact absurd (kB2 _ _ e) (by rw [fresh D (Nat.le_refl _)]; intro q; cases q)
  have loop : ∀ s₃ : Shared, s₃ = { s₂ with heap := H3 } →
      codeAny (model P0 w) A (.compLoop (.ListComp elt [⟨.Name x px, iter, ifs, 0⟩] scope pos) 0 (.ref I) (.ref D) (cEnv (relabel scope env) (cellsFrom (C + 1) scope.names cl) C env))
        (RR (.ref D) C) s₃ := by
    rintro s₃ rfl
    refine comp_loop (cenv := cEnv (relabel scope env) (cellsFrom (C + 1) scope.names cl) C env) (D := D) (tgt := tgt) W p Rel hlive (fun hm => ?_) (fun hm => ?_) (Nat.ne_of_lt htD) (fun b hb => ?_) (fun h ρ₁ a₁ => ?_) (fun s' ρ₁ v Q E' a₁ hQ => ?_)
      (W.frame _ _ _ st0 fun b _ o e => old b o e) hacc a0 (fun i v s' E' hi hv a' => htest C _ i v s' E' hi hv (hB2.symm ▸ a')) (fun i v s' E' hi hv hp a' => helt C _ i v s' E' hi hv hp (hB2.symm ▸ a')) (fun h' tk ys ρ₁ a' hl hF hk => ?_) hsz
    · have q : (D : Nat) < s₂.heap.objs.size := hfp _ hm
      omega
    · have q : (tgt : Nat) < s₂.heap.objs.size := hfp _ hm
      omega
    · rcases List.mem_cons.mp hb with rfl | hb
      · exact ⟨hDB, fun e => hCD e.symm, fun y c _ => hcell_ne _ (by omega) hDB y c⟩
      · have hn : B₂.get? b = none := by rw [← hB2]; exact hideAll_none wr hb
        have q := hwrlt b hb
        have q1 : Nat.lt b C := Nat.lt_trans q (by omega)
        exact ⟨hn, fun e => absurd (e : b = C) (Nat.ne_of_lt q1), fun y c _ => hcell_ne b q1 hn y c⟩
    · rcases htC with e | ⟨e, hx, _⟩
      · rw [e]; obtain ⟨_, ⟨o, _, _, q, _⟩, _⟩ := a₁.loc; exact ⟨o, q⟩
      · have hkx : (cEnv (relabel scope env) (cellsFrom (C + 1) scope.names cl) C env).kindOf x = some .cell := by
          cases hN with
          | loc hx' _ => rw [hx] at hx'; cases hx'
          | cell hx' hc hp =>
            show (relabel scope env).names.lookup x = some .cell
            exact lookup_relabel_cell hx'
        obtain ⟨c, q1, ⟨o, q2, _⟩, _⟩ := a₁.cel x (.inl hkx)
        rcases hcs x c q1 with q | q
        · have := hclo x c q; rw [hx] at this; cases this
        · rw [e]; exact ⟨o, q.2.1 ▸ q2⟩
    · rcases htC with e | ⟨e, hx, _⟩
      · subst e
        exact st_var a₁ (lookup_relabel_local (hct rfl).1) fun h' tk a' k => hQ h' tk a' k
      · have hkx : (cEnv (relabel scope env) (cellsFrom (C + 1) scope.names cl) C env).kindOf x = some .cell := lookup_relabel_cell hx
        have hcx : (cellsFrom (C + 1) scope.names cl).lookup x = some tgt := by
          cases hN with
          | loc hx' _ => rw [hx] at hx'; cases hx'
          | cell hx' hc hp => rw [hc, List.lookup_cons, e]; simp
        have htB : B₂.get? tgt = none := by
          cases e' : B₂.get? tgt with
          | none => rfl
          | some o => exact absurd (kB2 _ _ e') (by rw [fresh tgt (by omega)]; intro q; cases q)
        exact st_cell a₁ hkx hcx htB fun h' tk a' k => hQ h' tk a' k
    · obtain ⟨m, hm, _⟩ := a'.loc
      have lift : ∀ {b : Addr}, s₂.heap.get? b = none → True := fun _ => trivial
      refine hRR D C h' tk ys m (fresh D (Nat.le_refl _)) (fresh C (by omega)) (Ne.symm hCD) hm hl (fun h'' hs => ?_) fun b o hb e => ?_
      · refine hF.mono fun i y hy => hy.imp id ?_
        rintro ⟨T, o, e, hf, hU, hg, hr⟩
        refine ⟨T, o, e, ?_, fun e => hU (e ▸ .head _), (hs.2 T fun e => hU (e ▸ .tail _ (.tail _ (.head _)))).trans hg, hr⟩
        cases q : s₂.heap.get? T with
        | none => rfl
        | some o' => have hf' : H3.get? T = none := hf; rw [old T o' q] at hf'; cases hf'
      · refine hk b o (fun hm => ?_) (old b o e)
        have hlt : (b : Nat) < D := hD ▸ Heap.lt_size e
        rcases List.mem_cons.mp hm with e1 | hm
        · exact absurd e1 (Nat.ne_of_lt hlt)
        · rcases List.mem_cons.mp hm with e1 | hm
          · have q1 : Nat.lt b tgt := Nat.lt_trans hlt (by omega)
            exact absurd e1 (Nat.ne_of_lt q1)
          · rcases List.mem_cons.mp hm with e1 | hm
            · have q1 : Nat.lt b C := Nat.lt_trans hlt (by omega)
              exact absurd (e1 : b = C) (Nat.ne_of_lt q1)
            · exact hb hm
  have st3 : St 0 H3 := W.frame _ _ _ st0 fun b _ o e => old b o e
  exact codeAny_compStart_list (loop _ rfl) (W.self 0 _ _ _ st3 (loop _ rfl))
end
end PCompB
section PCompC
theorem keeps_rfl {s : Shared} : Keeps s s := ⟨s.heap, s.toks, rfl, fun _ _ e => e⟩
theorem keeps_trans {a b c : Shared} (x : Keeps a b) (y : Keeps b c) : Keeps a c := by
  obtain ⟨h, t, rfl, k⟩ := x
  obtain ⟨h', t', rfl, k'⟩ := y
  exact ⟨h', t', rfl, fun b o e => k' _ _ (k b o e)⟩
theorem keeps_kp {a b : Shared} (x : Keeps a b) : Kp a.heap b.heap := by obtain ⟨h, t, rfl, k⟩ := x; exact k
theorem keeps_push (s : Shared) (o : Obj) : Keeps s { s with heap := s.heap.push o } := ⟨_, _, rfl, fun _ _ e => Heap.get?_push_of_some _ e⟩
theorem fresh_size (h : Heap) : h.get? h.objs.size = none := by
  cases e : h.get? h.objs.size with
  | none => rfl
  | some o => exact absurd (Heap.lt_size e) (Nat.lt_irrefl _)

/-- an object that holds no row of values -/
noncomputable def NotSeq (o : Obj) : Prop := ∀ items n, o.data ≠ .seq items n

/-- a value that can be walked through: n items, each as P says; src: what it reads of the old -/
noncomputable def Iters (w : World) (A : Around) (h : Heap) (xv : Value) (src : List Addr) (n : Nat) (P : Nat → Value → Prop) : Prop :=
  ∀ (s : Shared) (Q : Value → Shared → Prop) (E : Value → Shared → Prop), Kp h s.heap →
    (∀ s₂ I fp wr St, Keeps s s₂ → Walks P0 w A I fp wr n P St → St 0 s₂.heap → (∀ b ∈ fp, b < s₂.heap.objs.size) → (∀ b ∈ wr, s.heap.get? b = none) →
      (∀ i h, St i h → ∀ b ∈ wr, ∃ o, h.get? b = some o ∧ NotSeq o) → (∀ b ∈ fp, b ∈ src ∨ s.heap.get? b = none) → Q (.ref I) s₂) → wpAny (model P0 w) A (pyIter xv) Q E s

theorem iters_list {w : World} {A : Around} {h : Heap} {l : Addr} {items : Array Value} (hh : A.handled = none) (hl : h.IsList l items) :
    Iters w A h (.ref l) [l] items.size (fun i v => items[i]? = some v) := fun s Q E k hQ => by
  have hls : s.heap.IsList l items := hl.at fun o e => k _ _ e
  obtain ⟨ol, hol, _⟩ := id hls
  have hlt := Heap.lt_size hol
  refine wpAny_pyIter_list hls (hQ _ _ _ _ _ (keeps_push _ _) (Walks.list hh s.heap.objs.size l (Nat.ne_of_lt hlt) items) ⟨⟨_, Heap.get?_push_size _ rfl, rfl, rfl⟩, hls.at fun o e => Heap.get?_push_of_some _ e⟩ ?_ ?_ ?_ ?_)
  · intro b hb
    show b < (s.heap.push _).objs.size
    rw [Heap.size_push]
    rcases List.mem_cons.mp hb with rfl | hb
    · exact Nat.lt_succ_self _
    · rw [List.mem_singleton.mp hb]; exact Nat.lt_succ_of_lt hlt
  · intro b hb; rw [List.mem_singleton.mp hb]; exact fresh_size _
  · rintro i h ⟨⟨o, q, _, d⟩, _⟩ b hb; rw [List.mem_singleton.mp hb]; exact ⟨o, q, fun _ _ e => by rw [d] at e; cases e⟩
  · intro b hb
    rcases List.mem_cons.mp hb with rfl | hb
    · exact .inr (fresh_size _)
    · exact .inl hb

theorem iters_tuple {w : World} {A : Around} {h : Heap} {l : Addr} {items : Array Value} (hh : A.handled = none) (hl : h.IsTuple l items) :
    Iters w A h (.ref l) [l] items.size (fun i v => items[i]? = some v) := fun s Q E k hQ => by
  have hls : s.heap.IsTuple l items := hl.at fun o e => k _ _ e
  obtain ⟨ol, hol, _⟩ := id hls
  have hlt := Heap.lt_size hol
  refine wpAny_pyIter_tuple hls (hQ _ _ _ _ _ (keeps_push _ _) (Walks.tuple hh s.heap.objs.size l (Nat.ne_of_lt hlt) items) ⟨⟨_, Heap.get?_push_size _ rfl, rfl, rfl⟩, hls.at fun o e => Heap.get?_push_of_some _ e⟩ ?_ ?_ ?_ ?_)
  · intro b hb
    show b < (s.heap.push _).objs.size
    rw [Heap.size_push]
    rcases List.mem_cons.mp hb with rfl | hb
    · exact Nat.lt_succ_self _
    · rw [List.mem_singleton.mp hb]; exact Nat.lt_succ_of_lt hlt
  · intro b hb; rw [List.mem_singleton.mp hb]; exact fresh_size _
  · rintro i h ⟨⟨o, q, _, d⟩, _⟩ b hb; rw [List.mem_singleton.mp hb]; exact ⟨o, q, fun _ _ e => by rw [d] at e; cases e⟩
  · intro b hb
    rcases List.mem_cons.mp hb with rfl | hb
    · exact .inr (fresh_size _)
    · exact .inl hb

theorem iters_range {w : World} {A : Around} {h : Heap} {r : Addr} {a b : Int} {t u v : Tok} (hh : A.handled = none) (hr : IsRange h r a b 1 t u v) (ha : -(2 ^ 62) ≤ a) (ha' : a < 2 ^ 62) (hb : -(2 ^ 62) ≤ b) (hb' : b < 2 ^ 62) :
    Iters w A h (.ref r) [] (b - a).toNat (fun i v => ∃ t, v = .int (a + i) t) := fun s Q E k hQ => by
  have hrs : IsRange s.heap r a b 1 t u v := k _ _ hr
  have W := Walks.range (prog := P0) (w := w) hh s.heap.objs.size a 1 (b - a).toNat
  simp only [Int.mul_one] at W
  refine wpAny_pyIter_range hrs (small_one ha ha' hb hb') (hQ _ _ _ _ _ (keeps_push _ _) W ?_ ?_ ?_ ?_ ?_)
  · show IsRangeIter (s.heap.push _) _ _ _ _
    have e : Builtin.Range.rangeSize a b 1 = ((b - a).toNat : Int) - ((0 : Nat) : Int) := by rw [rangeSize_one]; split <;> omega
    rw [e]
    have := Heap.get?_push_size s.heap (o := { cls := .type "range_iterator", data := .fields #[rawInt a, rawInt (((b - a).toNat : Int) - ((0 : Nat) : Int)), rawInt 1] }) rfl
    simpa [IsRangeIter] using this
  · intro b hb
    show b < (s.heap.push _).objs.size
    rw [Heap.size_push, List.mem_singleton.mp hb]
    exact Nat.lt_succ_self _
  · intro b hb; rw [List.mem_singleton.mp hb]; exact fresh_size _
  · intro i h st b hb
    rw [List.mem_singleton.mp hb]
    unfold IsRangeIter at st
    first | exact ⟨_, st, fun _ _ e => by cases e⟩ | (obtain ⟨o, q, d⟩ := st; exact ⟨o, q, fun _ _ e => by simp_all⟩)
  · intro b hb; rw [List.mem_singleton.mp hb]; exact .inr (fresh_size _)

/-- what lies written in a comprehension's block -/
structure Static (env : Env) (scope : Scope) (x : Str) (cl : List (Str × Addr)) : Prop where
  clos : closureFor scope env = pure cl
  kind : scope.kind = .function
  own : ∀ y ∈ scope.names, y.2 = .local → scope.names.lookup y.1 = some .local
  nm : ∀ y, scope.names.lookup y = some .local → y = Str.ofString ".0" ∨ y = x
  x0 : x ≠ Str.ofString ".0"
  fr : ∀ y, scope.names.lookup y = some .free → (env.kindOf y = some .cell ∨ env.kindOf y = some .free) ∧ cl.lookup y = env.cells.lookup y ∧ y ≠ Str.ofString ".0"
  clo : ∀ y c, cl.lookup y = some c → scope.names.lookup y = some .free
  N : Names scope x cl

section
variable {w : World} {A : Around} {E : Value → Shared → Prop} {s : Shared} {env : Env} {ρ : Str → Option Value} {B : Heap}

theorem hideAll_kp {h g : Heap} {wr : List Addr} (k : Kp h g) (hw : ∀ b ∈ wr, h.get? b = none) : Kp h (hideAll g wr) := fun b o e =>
  hideAll_get wr (k b o e) fun hm => by have := hw b hm; rw [e] at this; cases this

noncomputable abbrev TestP (w : World) (A : Around) (ifs : List Expr) (cenv : Env) (p : Bool) (s' : Shared) (E' : Value → Shared → Prop) : Prop :=
  wpAny (model P0 w) A (forIn ifs true fun c r => if r = true then do let ok ← isTrue c cenv (eval c cenv); pure (ForInStep.yield ok) else pure (ForInStep.yield r)) (fun ok s₃ => ok = p ∧ Keeps s' s₃) E' s'

theorem comp_eval {elt iter : Expr} {x : Str} {px : Pos} {ifs : List Expr} {scope : Scope} {pos : Pos} {cl : List (Str × Addr)} {src : List Addr} {n : Nat} {P : Nat → Value → Prop}
    (a : At w env ρ B s.heap) (S : Static env scope x cl) (hsz : n ≤ sizeLine) (p : Nat → Bool) (Rel : Nat → Value → Option Obj → Prop)
    (hit : wpAny (model P0 w) A (eval iter env) (fun xv s₁ => Keeps s s₁ ∧ Iters w A s₁.heap xv src n P) E s)
    (htest : ∀ C cs B₂ i v (s' : Shared) (E' : Value → Shared → Prop), Kp s.heap B₂ → i < n → P i v → At w (cEnv (relabel scope env) cs C env) (inner ρ x v) B₂ s'.heap → TestP w A ifs (cEnv (relabel scope env) cs C env) (p i) s' E')
    (helt : ∀ C cs B₂ i v (s' : Shared) (E' : Value → Shared → Prop), Kp s.heap B₂ → i < n → P i v → p i = true → At w (cEnv (relabel scope env) cs C env) (inner ρ x v) B₂ s'.heap →
      wpAny (model P0 w) A (eval elt (cEnv (relabel scope env) cs C env)) (fun y s₄ => Keeps s' s₄ ∧ Elem Rel s'.heap s₄.heap i y) E' s')
    (hs : ∀ x, foldedSetIterable iter env x = pure x := by intro _; rfl) :
    wpAny (model P0 w) A (eval (.ListComp elt [⟨.Name x px, iter, ifs, 0⟩] scope pos) env) (fun v s' => Keeps s s' ∧ ∃ D ys, v = .ref D ∧ s.heap.get? D = none ∧ s'.heap.PlainList D ys ∧
      Paired (ElemF Rel s.heap D s'.heap) ((List.range n).filter p) ys.toList) E s := by
  rw [eval_ListComp]
  refine wpAny_comprehension_free (use := none) rfl hs S.clos S.kind S.own (wpAny_mono hit (fun xv s₁ h₁ => h₁.2 s₁ _ _ Kp.rfl fun s₂ I fp wr St k₂ W st0 hfp hwr hlive0 _ => ?_) fun _ _ e => e)
  have hlive : ∀ i h, St i h → ∀ b ∈ wr, ∃ o, h.get? b = some o := fun i h st b hb => let ⟨o, q, _⟩ := hlive0 i h st b hb; ⟨o, q⟩
  have k0 : Keeps s s₂ := keeps_trans h₁.1 k₂
  have hw0 : ∀ b ∈ wr, s.heap.get? b = none := fun b hb => by
    cases e : s.heap.get? b with
    | none => rfl
    | some o => have := hwr b hb; rw [keeps_kp h₁.1 _ _ e] at this; cases this
  refine comp_core (RR := fun acc C => compPost (model P0 w) A E none _ acc C) (a.grow (keeps_kp k0)) W hsz p Rel hlive st0 hfp (fun b hb => ⟨?_, fun y c hk e => ?_⟩) S.kind S.nm S.x0 S.fr S.clo S.N
    (fun C cs i v s' E' hi hv a' => htest C cs _ i v s' E' (hideAll_kp (keeps_kp k0) hw0) hi hv a') (fun C cs i v s' E' hi hv hp a' => helt C cs _ i v s' E' (hideAll_kp (keeps_kp k0) hw0) hi hv hp a') ?_
  · cases e : B.get? b with
    | none => rfl
    | some o => have := hw0 b hb; rw [a.keep _ _ e] at this; cases this
  · obtain ⟨c', q1, ⟨o, q2, _⟩, _⟩ := a.cel y hk
    rw [e] at q1; cases q1
    rintro rfl
    rw [hw0 _ hb] at q2; cases q2
  · intro D C h' tk ys m hD hC hDC hn hl hF hk
    have fr0 : ∀ T, s₂.heap.get? T = none → s.heap.get? T = none := fun T e => by
      cases q : s.heap.get? T with
      | none => rfl
      | some o => rw [keeps_kp k0 _ _ q] at e; cases e
    obtain ⟨h2, t2, e2, kk⟩ := k0
    refine ⟨m, hn, fun h'' hs'' => ⟨⟨h'', tk, by rw [e2], fun b o e => (hs''.2 b ?_).trans (hk b o ?_ (by rw [e2]; exact kk b o e))⟩, D, ys, rfl, fr0 D hD, ?_, ?_⟩⟩
    · rintro rfl; rw [fr0 _ hC] at e; cases e
    · intro hm; rw [hw0 b hm] at e; cases e
    · exact hl.at fun o e => (hs''.2 D hDC).trans e
    · exact (hF h'' hs'').mono fun i y hy => hy.imp id fun ⟨T, o, e, f, g⟩ => ⟨T, o, e, fr0 T f, g⟩

theorem comp_assign {elt iter : Expr} {x y : Str} {px py : Pos} {ifs : List Expr} {scope : Scope} {pos spos : Pos} {cl : List (Str × Addr)} {src : List Addr} {n : Nat} {P : Nat → Value → Prop} {Q : Flow → Shared → Prop}
    (a : At w env ρ B s.heap) (hsw : swapsWith (.ListComp elt [⟨.Name x px, iter, ifs, 0⟩] scope pos) (some (.Name y py)) spos.line env = pure true) (hy : env.kindOf y = some .local)
    (S : Static env scope x cl) (hsz : n ≤ sizeLine) (p : Nat → Bool) (Rel : Nat → Value → Option Obj → Prop)
    (hit : wpAny (model P0 w) A (eval iter env) (fun xv s₁ => Keeps s s₁ ∧ Iters w A s₁.heap xv src n P) E s)
    (htest : ∀ C cs B₂ i v (s' : Shared) (E' : Value → Shared → Prop), Kp s.heap B₂ → i < n → P i v → At w (cEnv (relabel scope env) cs C env) (inner ρ x v) B₂ s'.heap → TestP w A ifs (cEnv (relabel scope env) cs C env) (p i) s' E')
    (helt : ∀ C cs B₂ i v (s' : Shared) (E' : Value → Shared → Prop), Kp s.heap B₂ → i < n → P i v → p i = true → At w (cEnv (relabel scope env) cs C env) (inner ρ x v) B₂ s'.heap →
      wpAny (model P0 w) A (eval elt (cEnv (relabel scope env) cs C env)) (fun y s₄ => Keeps s' s₄ ∧ Elem Rel s'.heap s₄.heap i y) E' s')
    (hQ : ∀ D ys h' tk, At w env (upd ρ y (.ref D)) B h' → (∀ b o, b ≠ env.locals → s.heap.get? b = some o → h'.get? b = some o) → s.heap.get? D = none → h'.PlainList D ys →
      Paired (ElemF Rel s.heap D h') ((List.range n).filter p) ys.toList → Q .next { s with heap := h', toks := tk })
    (hs : ∀ x, foldedSetIterable iter env x = pure x := by intro _; rfl) :
    wpAny (model P0 w) A (exec (.Assign [.Name y py] (.ListComp elt [⟨.Name x px, iter, ifs, 0⟩] scope pos) spos) env) Q E s := by
  rw [exec_Assign_Name_used _ _ _ _ hsw]
  refine wpAny_bind (wpAny_standAt (wpAny_bind ?_))
  show wpAny _ A (do let _ ← comprehension (.ListComp elt [⟨.Name x px, iter, ifs, 0⟩] scope pos) scope env _ (newList []) false (eval iter env) (some (assign (.Name y py) env))) _ _ s
  refine wpAny_bind (wpAny_mono (wpAny_comprehension_free (use := some (assign (.Name y py) env)) (Q := fun _ s' => Q .next s') rfl hs S.clos S.kind S.own
    (wpAny_mono hit (fun xv s₁ h₁ => h₁.2 s₁ _ _ Kp.rfl fun s₂ I fp wr St k₂ W st0 hfp hwr hlive0 _ => ?_) fun _ _ e => e)) (fun _ s' hq => wpAny_pure (wpAny_pure hq)) fun _ _ e => e)
  have hlive : ∀ i h, St i h → ∀ b ∈ wr, ∃ o, h.get? b = some o := fun i h st b hb => let ⟨o, q, _⟩ := hlive0 i h st b hb; ⟨o, q⟩
  have k0 : Keeps s s₂ := keeps_trans h₁.1 k₂
  have hw0 : ∀ b ∈ wr, s.heap.get? b = none := fun b hb => by
    cases e : s.heap.get? b with
    | none => rfl
    | some o => have := hwr b hb; rw [keeps_kp h₁.1 _ _ e] at this; cases this
  refine comp_core (RR := fun acc C => compPost (model P0 w) A E (some (assign (.Name y py) env)) (fun _ s' => Q .next s') acc C) (a.grow (keeps_kp k0)) W hsz p Rel hlive st0 hfp (fun b hb => ⟨?_, fun y c hk e => ?_⟩) S.kind S.nm S.x0 S.fr S.clo S.N
    (fun C cs i v s' E' hi hv a' => htest C cs _ i v s' E' (hideAll_kp (keeps_kp k0) hw0) hi hv a') (fun C cs i v s' E' hi hv hp a' => helt C cs _ i v s' E' (hideAll_kp (keeps_kp k0) hw0) hi hv hp a') ?_
  · cases e : B.get? b with
    | none => rfl
    | some o => have := hw0 b hb; rw [a.keep _ _ e] at this; cases this
  · obtain ⟨c', q1, ⟨o, q2, _⟩, _⟩ := a.cel y hk
    rw [e] at q1; cases q1
    rintro rfl
    rw [hw0 _ hb] at q2; cases q2
  · intro D C h' tk ys m hD hC hDC hn hl hF hk
    have fr0 : ∀ T, s₂.heap.get? T = none → s.heap.get? T = none := fun T e => by
      cases q : s.heap.get? T with
      | none => rfl
      | some o => rw [keeps_kp k0 _ _ q] at e; cases e
    obtain ⟨mL, hnL, _⟩ := a.loc
    obtain ⟨oL, _, _, eL, _⟩ := id hnL
    have kp' : Kp s.heap h' := fun b o e => hk b o (fun hm => by rw [hw0 b hm] at e; cases e) (keeps_kp k0 _ _ e)
    have hLC : env.locals ≠ C := by rintro rfl; rw [fr0 _ hC] at eL; cases eL
    have hLD : D ≠ env.locals := by rintro rfl; rw [fr0 _ hD] at eL; cases eL
    obtain ⟨h2, t2, e2, kk⟩ := k0
    show wpAny _ A (assign (.Name y py) env (.ref D)) _ _ _
    refine wpAny_assign_Name (st_var (s := { s₂ with heap := h', toks := tk }) (a.grow kp') hy fun h₃ tk₃ a₃ k₃ => ?_)
    obtain ⟨oC, esC, epC, eC, rC⟩ := id hn
    refine ⟨m, ⟨oC, esC, epC, k₃ _ _ (Ne.symm hLC) eC, rC⟩, fun h'' hs'' => ?_⟩
    have e3 : ({ { { s₂ with heap := h', toks := tk } with heap := h₃, toks := tk₃ } with heap := h'' } : Shared) = { s with heap := h'', toks := tk₃ } := by rw [e2]
    rw [e3]
    have lt : ∀ b o, s.heap.get? b = some o → b ≠ C := fun b o e => by rintro rfl; rw [fr0 _ hC] at e; cases e
    refine hQ D ys h'' tk₃ ?_ (fun b o hb e => (hs''.2 b (lt b o e)).trans (k₃ b o hb (kp' b o e))) (fr0 D hD) (hl.at fun o e => (hs''.2 D hDC).trans (k₃ _ _ hLD e)) ?_
    · refine a₃.off (U := [C]) (fun b hb => ?_) fun b o hb e => (hs''.2 b fun e' => hb (e' ▸ .head _)).trans e
      rw [List.mem_singleton.mp hb]
      refine ⟨?_, Ne.symm hLC, fun z c hk hz => ?_⟩
      · cases q : B.get? C with
        | none => rfl
        | some o => have := a.keep _ _ q; rw [fr0 _ hC] at this; cases this
      · rintro rfl
        obtain ⟨c', q1, ⟨o, q2, _⟩, _⟩ := a.cel z hk
        rw [hz] at q1; cases q1
        rw [fr0 _ hC] at q2; cases q2
    · refine (hF (h'.hide C) (Heap.SameBut.update ..)).mono fun i y hy => hy.imp id ?_
      rintro ⟨T, o, e, f, hTD, g, r⟩
      have hTC : T ≠ C := by rintro rfl; rw [Heap.hide_self] at g; cases g
      have g := Heap.of_hide g
      exact ⟨T, o, e, fr0 T f, hTD, (hs''.2 T hTC).trans (k₃ _ _ (by rintro rfl; rw [fr0 _ f] at eL; cases eL) g), r⟩
end
end PCompC
section PLoops
/-- every row of values stands -/
noncomputable def KpS (h h' : Heap) : Prop := ∀ b o, ¬ NotSeq o → h.get? b = some o → h'.get? b = some o
theorem KpS.rfl {h : Heap} : KpS h h := fun _ _ _ e => e
theorem KpS.trans {a b c : Heap} (x : KpS a b) (y : KpS b c) : KpS a c := fun _ _ n e => y _ _ n (x _ _ n e)
theorem Kp.s {a b : Heap} (x : Kp a b) : KpS a b := fun _ _ _ e => x _ _ e
theorem notSeq_not {o : Obj} {items : Array Value} {n : Nat} (e : o.data = .seq items n) : ¬ NotSeq o := fun h => h _ _ e
theorem KpS.list {h h' : Heap} {l : Addr} {items : Array Value} (k : KpS h h') (x : h.IsList l items) : h'.IsList l items := by
  obtain ⟨o, e, c, n, d⟩ := x
  exact ⟨o, k _ _ (notSeq_not d) e, c, n, d⟩
theorem KpS.plain {h h' : Heap} {l : Addr} {items : Array Value} (k : KpS h h') (x : h.PlainList l items) : h'.PlainList l items := by
  obtain ⟨n, e⟩ := x
  exact ⟨n, k _ _ (notSeq_not (items := items) (n := n) (by rfl)) e⟩
theorem KpS.tuple {h h' : Heap} {l : Addr} {items : Array Value} (k : KpS h h') (x : h.IsTuple l items) : h'.IsTuple l items := by
  obtain ⟨o, e, c, n, d⟩ := x
  exact ⟨o, k _ _ (notSeq_not d) e, c, n, d⟩
/-- stands but where the address is one of U's, each no row -/
theorem KpS.off {h h' : Heap} {U : List Addr} (k : ∀ b o, b ∉ U → h.get? b = some o → h'.get? b = some o) (hU : ∀ b ∈ U, ∃ o, h.get? b = some o ∧ NotSeq o) : KpS h h' := fun b o n e =>
  k b o (fun hm => by obtain ⟨o', q, n'⟩ := hU b hm; rw [e] at q; cases q; exact n n') e

section
variable {w : World} {A : Around} {E : Value → Shared → Prop} {s : Shared} {env : Env} {ρ : Str → Option Value} {B : Heap}

theorem At.loc_obj (a : At w env ρ B s.heap) : ∃ o, s.heap.get? env.locals = some o ∧ NotSeq o := by
  obtain ⟨m, ⟨o, es, ep, e, d, _⟩, _⟩ := a.loc
  exact ⟨o, e, fun _ _ q => by rw [d] at q; cases q⟩

/-- a for loop: I says what holds between the turns; mu: the rows of values that the body may change -/
theorem for_loop {x : Str} {px : Pos} {iter : Expr} {body : List Stmt} {pos : Pos} {src : List Addr} {n : Nat} {P : Nat → Value → Prop} {Q : Flow → Shared → Prop}
    (a : At w env ρ B s.heap) (hh : A.handled = none) (tgt : Addr) (mu : List Addr) (I : Nat → (Str → Option Value) → Heap → Prop)
    (hit : wpAny (model P0 w) A (eval iter env) (fun xv s₁ => Keeps s s₁ ∧ Iters w A s₁.heap xv src n P) E s)
    (htq : ∀ h ρ₁, At w env ρ₁ B h → ∃ o, h.get? tgt = some o ∧ NotSeq o)
    (hmu : ∀ b ∈ mu, ∃ o, s.heap.get? b = some o)
    (hsrc : ∀ b ∈ src, b ≠ env.locals ∧ b ≠ tgt ∧ b ∉ mu)
    (hst : ∀ (s' : Shared) (ρ₁ : Str → Option Value) (v : Value) (Q : Unit → Shared → Prop) (E' : Value → Shared → Prop), At w env ρ₁ B s'.heap →
      (∀ h' tk, At w env (upd ρ₁ x v) B h' → (∀ b o, b ≠ tgt → s'.heap.get? b = some o → h'.get? b = some o) → Q () { s' with heap := h', toks := tk }) → wpAny (model P0 w) A (storeName env x v) Q E' s')
    (hI : ∀ i ρ₁ ρ₂ h h', KpS h h' → (∀ y, y ≠ x → ρ₁ y = ρ₂ y) → I i ρ₁ h → I i ρ₂ h')
    (i0 : I 0 ρ s.heap)
    (turn : ∀ i v ρ₁ (s' : Shared), i < n → P i v → At w env (upd ρ₁ x v) B s'.heap → I i (upd ρ₁ x v) s'.heap →
      wpAny (model P0 w) A (execs body env) (fun f s₃ => match f with
        | .next => ∃ h' tk ρ₂, s₃ = { s' with heap := h', toks := tk } ∧ At w env ρ₂ B h' ∧ I (i + 1) ρ₂ h' ∧ (∀ b o, b ≠ env.locals → b ≠ tgt → b ∉ mu → s'.heap.get? b = some o → h'.get? b = some o)
        | .ret v => ∃ h' tk, s₃ = { s' with heap := h', toks := tk } ∧ Q (.ret v) { s with heap := h', toks := tk }
        | _ => False) (fun _ _ => False) s')
    (done : ∀ ρ₂ h' tk, At w env ρ₂ B h' → I n ρ₂ h' → (∀ b o, b ≠ env.locals → b ≠ tgt → b ∉ mu → s.heap.get? b = some o → h'.get? b = some o) → Q .next { s with heap := h', toks := tk })
    (hs : ∀ x, foldedSetIterable iter env x = pure x := by intro _; rfl) :
    wpAny (model P0 w) A (exec (.For (.Name x px) iter body [] pos) env) Q E s := by
  refine wpAny_For (wpAny_mono hit (fun xv s₁ h₁ => h₁.2 s₁ _ _ Kp.rfl fun s₂ J fp wr St k₂ W st0 hfp hwr hlive hfs => ?_) fun _ _ e => e) hs
  have k0 : Keeps s s₂ := keeps_trans h₁.1 k₂
  have hw0 : ∀ b ∈ wr, s.heap.get? b = none := fun b hb => by
    cases e : s.heap.get? b with
    | none => rfl
    | some o => have := hwr b hb; rw [keeps_kp h₁.1 _ _ e] at this; cases this
  obtain ⟨oL, eL, nL⟩ := a.loc_obj
  obtain ⟨oT, eT, nT⟩ := htq _ _ a
  -- what the walk reads is no one's that the body turns
  have hfree : ∀ b ∈ fp, b ≠ env.locals ∧ b ≠ tgt ∧ b ∉ mu := fun b hb => by
    rcases hfs b hb with q | q
    · exact hsrc b q
    · have q' : s.heap.get? b = none := by
        cases e : s.heap.get? b with
        | none => rfl
        | some o => rw [keeps_kp h₁.1 _ _ e] at q; cases q
      refine ⟨fun e => ?_, fun e => ?_, fun hm => ?_⟩
      · rw [e, eL] at q'; cases q'
      · rw [e, eT] at q'; cases q'
      · obtain ⟨o, e⟩ := hmu b hm; rw [e] at q'; cases q'
  have hwf : ∀ b ∈ wr, b ≠ env.locals ∧ b ≠ tgt ∧ b ∉ mu := fun b hb => hfree b (W.sub b hb)
  obtain ⟨h2, t2, e2, kk⟩ := k0
  have hwB : ∀ b ∈ wr, B.get? b = none := fun b hb => by
    cases e : B.get? b with
    | none => rfl
    | some o => have := a.keep _ _ e; rw [hw0 b hb] at this; cases this
  have hwC : ∀ b ∈ wr, ∀ y c, (env.kindOf y = some .cell ∨ env.kindOf y = some .free) → env.cells.lookup y = some c → b ≠ c := fun b hb y c hk hc => by
    obtain ⟨c', q1, ⟨o, q2, _⟩, _⟩ := a.cel y hk
    rw [hc] at q1; cases q1
    rintro rfl
    rw [hw0 _ hb] at q2; cases q2
  have offw : ∀ {ρ₁ : Str → Option Value} {h h' : Heap}, At w env ρ₁ B h → (∀ b o, b ∉ wr → h.get? b = some o → h'.get? b = some o) → At w env ρ₁ B h' := fun a₁ q =>
    a₁.off (U := wr) (fun b hb => ⟨hwB b hb, (hwf b hb).1, hwC b hb⟩) q
  refine codeAny_forLoop (fun k s' => ∃ h' tk ρ₁ i, s' = { s with heap := h', toks := tk } ∧ St i h' ∧ At w env ρ₁ B h' ∧ I i ρ₁ h' ∧ i ≤ n ∧ k = n + 1 - i ∧
      (∀ b o, b ≠ env.locals → b ≠ tgt → b ∉ mu → s.heap.get? b = some o → h'.get? b = some o)) ?_ (n + 1)
    ⟨h2, t2, ρ, 0, e2, by have := st0; rw [e2] at this; exact this, a.grow kk, hI 0 _ _ _ _ (Kp.s kk) (fun _ _ => rfl) i0, Nat.zero_le _, rfl, fun b o _ _ _ e => kk b o e⟩ (by intro _; rfl)
  rintro k s' ⟨H, tk, ρ₁, i, rfl, hst', ha, hi, hin, rfl, hk⟩
  have fal : ∀ {α : Type} {t : Sem α} {Q' : α → Shared → Prop} {E' : Value → Shared → Prop} {s'' : Shared}, wpAny (model P0 w) A t Q' (fun _ _ => False) s'' → wpAny (model P0 w) A t Q' E' s'' := fun q => wpAny_mono q (fun _ _ z => z) fun _ _ z => z.elim
  by_cases hlt : i < n
  · refine W.item i _ _ _ hlt hst' fun v h₁ tk₁ hPv hst₁ hk₁ => ?_
    have ha₁ : At w env ρ₁ B h₁ := offw ha hk₁
    have s1 : KpS H h₁ := KpS.off hk₁ (hlive _ _ hst')
    refine wpAny_assign_Name (hst _ ρ₁ v _ _ ha₁ fun h₂ tk₂ ha₂ hk₂ => ?_)
    have s2 : KpS h₁ h₂ := fun b o nn e => by
      refine hk₂ b o ?_ e
      rintro rfl
      obtain ⟨o', q, n'⟩ := htq _ _ ha₁
      rw [e] at q; cases q; exact nn n'
    have hst₂ : St (i + 1) h₂ := W.frame _ _ _ hst₁ fun b hb o e => hk₂ b o (hfree b hb).2.1 e
    have hi₂ : I i (upd ρ₁ x v) h₂ := hI i _ _ _ _ (s1.trans s2) (fun y hy => (upd_ne hy).symm) hi
    refine fal (wpAny_mono (turn i v ρ₁ _ hlt hPv ha₂ hi₂) (fun f s₃ q₃ => ?_) fun _ _ e => e)
    cases f with
    | next =>
      obtain ⟨h₃, tk₃, ρ₂, rfl, ha₃, hi₃, hk₃⟩ := q₃
      refine ⟨n + 1 - (i + 1), by omega, h₃, tk₃, ρ₂, i + 1, rfl, W.frame _ _ _ hst₂ fun b hb o e => hk₃ b o (hfree b hb).1 (hfree b hb).2.1 (hfree b hb).2.2 e, ha₃, hi₃, hlt, rfl, fun b o h1 h2 h3 e => hk₃ b o h1 h2 h3 (hk₂ b o h2 (hk₁ b o (fun hm => ?_) (hk b o h1 h2 h3 e)))⟩
      rw [hw0 b hm] at e; cases e
    | ret v => obtain ⟨h₃, tk₃, rfl, q⟩ := q₃; exact q
    | brk => exact q₃.elim
    | cont => exact q₃.elim
  · have : i = n := by omega
    subst this
    refine W.done _ _ _ hst' fun h₁ tk₁ hk₁ => ?_
    refine wpAny_execs_nil ?_
    exact done ρ₁ h₁ tk₁ (offw ha hk₁) (hI i _ _ _ _ (KpS.off hk₁ (hlive _ _ hst')) (fun _ _ => rfl) hi) fun b o h1 h2 h3 e => hk₁ b o (fun hm => by rw [hw0 b hm] at e; cases e) (hk b o h1 h2 h3 e)

theorem while_loop {test : Expr} {body : List Stmt} {pos : Pos} {Q : Flow → Shared → Prop}
    (a : At w env ρ B s.heap) (I : Nat → (Str → Option Value) → Heap → Prop) (m₀ : Nat) (i0 : I m₀ ρ s.heap)
    (turn : ∀ m ρ₁ H tk, At w env ρ₁ B H → I m ρ₁ H →
      wpAny (model P0 w) A (isTrue test env (eval test env)) (fun b s₂ =>
        if b = true then wpAny (model P0 w) A (execs body env) (fun f s₃ => f = .next ∧ ∃ h' tk ρ₂ m', s₃ = { s with heap := h', toks := tk } ∧ At w env ρ₂ B h' ∧ m' < m ∧ I m' ρ₂ h') (fun _ _ => False) s₂
        else Q .next s₂) (fun _ _ => False) { s with heap := H, toks := tk }) :
    wpAny (model P0 w) A (exec (.While test body [] pos) env) Q E s := by
  have fal : ∀ {α : Type} {t : Sem α} {Q' : α → Shared → Prop} {E' : Value → Shared → Prop} {s'' : Shared}, wpAny (model P0 w) A t Q' (fun _ _ => False) s'' → wpAny (model P0 w) A t Q' E' s'' := fun q => wpAny_mono q (fun _ _ z => z) fun _ _ z => z.elim
  refine wpAny_While (codeAny_whileLoop (fun m s' => ∃ h' tk ρ₁, s' = { s with heap := h', toks := tk } ∧ At w env ρ₁ B h' ∧ I m ρ₁ h') ?_ m₀ ⟨s.heap, s.toks, ρ, rfl, a, i0⟩)
  rintro m s' ⟨H, tk, ρ₁, rfl, ha, hi⟩
  refine fal (wpAny_mono (turn m ρ₁ H tk ha hi) (fun b s₂ q => ?_) fun _ _ e => e)
  cases b with
  | true =>
    simp only [if_true] at q ⊢
    refine fal (wpAny_mono q (fun f s₃ q₃ => ?_) fun _ _ e => e)
    obtain ⟨rfl, h', tk', ρ₂, m', rfl, a', hm, i'⟩ := q₃
    exact ⟨m', hm, h', tk', ρ₂, rfl, a', i'⟩
  | false =>
    simp only [Bool.false_eq_true, if_false] at q ⊢
    exact wpAny_execs_nil q
end

/-- the names of a def some of whose names are cells -/
noncomputable def bindR (kindOf : Str → Option NameKind) (binds : List (Str × Value)) : Str → Option Value := fun y => if kindOf y = some .local then bindL kindOf binds (fun _ => none) y else bindC kindOf binds (fun _ => none) y

theorem enterC {w : World} {A : Around} {E : Value → Shared → Prop} {s : Shared} {f : Addr} {vs : List Value} {Q : Value → Shared → Prop} {k : Nat}
    {name qual : Str} {params : Arguments} {body : List Stmt} {scope : Scope} {dV kV doc pm cdv ct oc : Value} {an od : Option Addr} {osl : Array (Option Value)} {binds : List (Str × Value)}
    (T : TopAt w s.heap) (R : Room A (k + 1)) (ho : (Mine.K0 w.params).lookup f = some ⟨oc, od, .func (fnOf name qual params body scope dV kV doc pm an cdv ct), osl⟩) (hcd : codeIn (Mine.K0 w.params) cdv qual = true)
    (hbind : bindArgs (fnOf name qual params body scope dV kV doc pm an cdv ct) ⟨vs, []⟩ = pure binds)
    (hkind : (binds.all fun y => scope.names.lookup y.1 == some .local || scope.names.lookup y.1 == some .cell) = true)
    (hcf : ∀ x ∈ scope.names, x.2 ≠ .free)
    (h : ∀ L h₁ tk, L = s.heap.objs.size → At w (envOfC qual scope L f cdv) (bindR (envOfC qual scope L f cdv).kindOf binds) s.heap h₁ → Room (A.deeper (envOfC qual scope L f cdv)) k →
      wpAny (model P0 w) (A.deeper (envOfC qual scope L f cdv)) (execs body (envOfC qual scope L f cdv)) (fun fl s' => Q (retOf fl) s') (fun _ _ => False) { s with heap := h₁, toks := tk })
    (hco : scope.isCoroutine = false := by rfl) (hgen : scope.isGenerator = false := by rfl) (hk : scope.kind = .function := by rfl) :
    wpAny (model P0 w) A (call (.ref f) vs) Q E s := by
  obtain ⟨q, loose, mean, mg, mb, T'⟩ := T.top
  refine wpAny_call (codeAny_call_cells (fd := fnOf name qual params body scope dV kV doc pm an cdv ct) (body := body) (binds := binds) R.deep (T.kin _ _ ho) rfl T'.nolimit (codeRec_of T.kin hcd) rfl hbind rfl
    (kindsX hkind _) (fun s₁ x => ?_) hco hgen hk)
  have fr : ∀ b : Nat, s.heap.objs.size ≤ b → s.heap.get? b = none := fun b hb => by
    cases q : s.heap.get? b with
    | none => rfl
    | some o => exact absurd (Heap.lt_size q) (Nat.not_lt.mpr hb)
  obtain ⟨h₁, tk, e₁⟩ := x.toInCall.same
  subst e₁
  refine wpAny_mono (h s.heap.objs.size h₁ tk rfl ⟨x.toInCall.keep, T, hk, rfl, rfl, ⟨_, x.toInCall.ns, fun y hy => ?_⟩, ?_, fun y hy => ?_, fun y z c h1 h2 _ => ?_⟩ (R.deeper _)) (fun fl s' q => q) (fun _ _ e => e.elim)
  · unfold bindR; rw [if_pos hy]; rfl
  · exact fr _ (Nat.le_refl _)
  · rcases hy with hy | hy
    · have hs := cellsFrom_some (x := y) scope.names (s.heap.objs.size + 1) [] (.inl hy)
      obtain ⟨c, hc⟩ := Option.isSome_iff_exists.mp hs
      have hnl : ¬ (envOfC qual scope s.heap.objs.size f cdv).kindOf y = some .local := by rw [hy]; intro e; cases e
      refine ⟨c, hc, ?_, .inr (fr c (Nat.le_of_lt (x.above y c (mem_of_lookup hc))))⟩
      unfold bindR; rw [if_neg hnl]
      exact x.cell y c hc
    · exact absurd rfl (hcf (y, .free) (mem_of_lookup hy))
  · exact name_of_addr x.apart (mem_of_lookup h1) (mem_of_lookup h2)
end PLoops
section PStm
theorem hole_ne {ρ : Str → Option Value} {x y : Str} (h0 : y ≠ Str.ofString ".0") (h : y ≠ x) : hole ρ x y = ρ y := by simp [hole, h0, h]
theorem boot_len' : bootBuiltins "len" = some (.builtin "len") := by decide +kernel
theorem boot_range' : bootBuiltins "range" = some (.type "range") := by decide +kernel
theorem boot_chr' : bootBuiltins "chr" = some (.builtin "chr") := by decide +kernel
theorem boot_sum' : bootBuiltins "sum" = some (.builtin "sum") := by decide +kernel
theorem boot_min' : bootBuiltins "min" = some (.builtin "min") := by decide +kernel
theorem boot_max' : bootBuiltins "max" = some (.builtin "max") := by decide +kernel
theorem boot_tuple' : bootBuiltins "tuple" = some (.type "tuple") := by decide +kernel
theorem boot_list' : bootBuiltins "list" = some (.type "list") := by decide +kernel
theorem boot_isinstance' : bootBuiltins "isinstance" = some (.builtin "isinstance") := by decide +kernel
theorem boot_enumerate' : bootBuiltins "enumerate" = some (.type "enumerate") := by decide +kernel

section
variable {M : Model} {A : Around} {E : Value → Shared → Prop} {s : Shared} {env : Env}
theorem xs_ret {e : Expr} {pos : Pos} {rest : List Stmt} {Q : Flow → Shared → Prop} (h : wpAny M A (eval e env) (fun v s' => Q (.ret v) s') E s) : wpAny M A (execs (.Return (some e) pos :: rest) env) Q E s :=
  wpAny_execs_cons (wpAny_Return_some h)
theorem xs_asg {x : Str} {px pos : Pos} {e : Expr} {rest : List Stmt} {Q : Flow → Shared → Prop}
    (h : wpAny M A (eval e env) (fun v s₁ => wpAny M A (storeName env x v) (fun _ s₂ => wpAny M A (execs rest env) Q E s₂) E s₁) E s)
    (hs : swapsWith e (some (.Name x px)) pos.line env = pure false := by rfl) : wpAny M A (execs (.Assign [.Name x px] e pos :: rest) env) Q E s :=
  wpAny_execs_cons (wpAny_Assign_Name h hs)
theorem xs_aug {x : Str} {px pos : Pos} {op : Operator} {e : Expr} {rest : List Stmt} {Q : Flow → Shared → Prop}
    (h : wpAny M A (loadName env x) (fun old s₁ => wpAny M A (eval e env) (fun v s₂ => wpAny M A (inplaceOp op old v)
      (fun r s₃ => wpAny M A (storeName env x r) (fun _ s₄ => wpAny M A (execs rest env) Q E s₄) E s₃) E s₂) E s₁) E s) : wpAny M A (execs (.AugAssign (.Name x px) op e pos :: rest) env) Q E s :=
  wpAny_execs_cons (wpAny_AugAssign_Name h)
/-- what follows where a statement goes on, and what is wanted where it leaves -/
noncomputable def Nx (K : Shared → Prop) (Q : Flow → Shared → Prop) (f : Flow) (s : Shared) : Prop := (f = .next → K s) ∧ (f ≠ .next → Q f s)
theorem Nx.go {K : Shared → Prop} {Q : Flow → Shared → Prop} {s : Shared} (h : K s) : Nx K Q .next s := ⟨fun _ => h, fun n => absurd rfl n⟩
theorem Nx.out {K : Shared → Prop} {Q : Flow → Shared → Prop} {s : Shared} {v : Value} (h : Q (.ret v) s) : Nx K Q (.ret v) s := ⟨fun e => (by cases e), fun _ => h⟩
theorem xs_one {st : Stmt} {rest : List Stmt} {Q : Flow → Shared → Prop} (h : wpAny M A (exec st env) (Nx (fun s' => wpAny M A (execs rest env) Q E s') Q) E s) : wpAny M A (execs (st :: rest) env) Q E s :=
  wpAny_execs_cons (wpAny_mono h (fun f s' q => by cases f <;> first | exact q.1 rfl | exact q.2 (by intro e; cases e)) fun _ _ e => e)
theorem xs_if {test : Expr} {body orelse rest : List Stmt} {pos : Pos} {Q : Flow → Shared → Prop}
    (h : wpAny M A (isTrue test env (eval test env)) (fun b s₂ => wpAny M A (execs (if b = true then body else orelse) env) (Nx (fun s' => wpAny M A (execs rest env) Q E s') Q) E s₂) E s) :
    wpAny M A (execs (.If test body orelse pos :: rest) env) Q E s := by
  refine xs_one (wpAny_If (wpAny_mono h (fun b s₂ q => ?_) fun _ _ e => e))
  cases b
  · exact q
  · exact q
theorem xs_nil {Q : Flow → Shared → Prop} (h : Q .next s) : wpAny M A (execs [] env) Q E s := wpAny_execs_nil h
end
section
variable {w : World} {A : Around} {E : Value → Shared → Prop} {s : Shared} {env : Env}
/-- a def of the text called with arguments by place -/
theorem cw_def {f : Addr} {pos : Pos} {e : Expr} {rest : List Expr} {Q : Value → Shared → Prop} (T : TopAt w s.heap) (hk : keepIn (Mine.K0 w.params) (.ref f) = true)
    (h : wpAny (model P0 w) A (spliced (backTo pos (starEach (e :: rest) env))) (fun vs s₁ => TopAt w s₁.heap ∧ wpAny (model P0 w) A (call (.ref f) vs) Q E s₁) E s)
    (he : starEach (e :: rest) env = (false, eval e env) :: starEach rest env := by rfl) (hplain : (backTo pos (starEach rest env)).any (·.1) = false := by rfl) :
    wpAny (model P0 w) A (callWith pos (.ref f) [] (backTo pos (starEach (e :: rest) env)) []) Q E s :=
  callWith_K (h₀ := s.heap) T.kin hk (wpAny_mono h (fun vs s₁ q => ⟨q.1.kin, q.2⟩) fun _ _ e => e) he hplain
/-- a call by contract -/
theorem by_con {f : Value} {vs : List Value} {C : Value → Shared → Prop} {Q : Value → Shared → Prop} (c : ∀ E, wpAny (model P0 w) A (call f vs) C E s) (h : ∀ v s', C v s' → Q v s') : wpAny (model P0 w) A (call f vs) Q E s :=
  wpAny_mono (c E) h fun _ _ e => e
end
section
variable {w : World} {A : Around} {E : Value → Shared → Prop} {s : Shared} {env : Env} {ρ : Str → Option Value} {B : Heap}
/-- a for loop whose target is a local -/
theorem for_local {x : Str} {px : Pos} {iter : Expr} {body : List Stmt} {pos : Pos} {src : List Addr} {n : Nat} {P : Nat → Value → Prop} {Q : Flow → Shared → Prop}
    (a : At w env ρ B s.heap) (hh : A.handled = none) (hk : env.kindOf x = some .local) (mu : List Addr) (I : Nat → (Str → Option Value) → Heap → Prop)
    (hit : wpAny (model P0 w) A (eval iter env) (fun xv s₁ => Keeps s s₁ ∧ Iters w A s₁.heap xv src n P) E s)
    (hmu : ∀ b ∈ mu, ∃ o, s.heap.get? b = some o)
    (hsrc : ∀ b ∈ src, b ≠ env.locals ∧ b ∉ mu)
    (hI : ∀ i ρ₁ ρ₂ h h', KpS h h' → (∀ y, y ≠ x → ρ₁ y = ρ₂ y) → I i ρ₁ h → I i ρ₂ h')
    (i0 : I 0 ρ s.heap)
    (turn : ∀ i v ρ₁ (s' : Shared), i < n → P i v → At w env (upd ρ₁ x v) B s'.heap → I i (upd ρ₁ x v) s'.heap →
      wpAny (model P0 w) A (execs body env) (fun f s₃ => match f with
        | .next => ∃ h' tk ρ₂, s₃ = { s' with heap := h', toks := tk } ∧ At w env ρ₂ B h' ∧ I (i + 1) ρ₂ h' ∧ (∀ b o, b ≠ env.locals → b ≠ env.locals → b ∉ mu → s'.heap.get? b = some o → h'.get? b = some o)
        | .ret v => ∃ h' tk, s₃ = { s' with heap := h', toks := tk } ∧ Q (.ret v) { s with heap := h', toks := tk }
        | _ => False) (fun _ _ => False) s')
    (done : ∀ ρ₂ h' tk, At w env ρ₂ B h' → I n ρ₂ h' → (∀ b o, b ≠ env.locals → b ∉ mu → s.heap.get? b = some o → h'.get? b = some o) → Q .next { s with heap := h', toks := tk })
    (hs : ∀ x, foldedSetIterable iter env x = pure x := by intro _; rfl) :
    wpAny (model P0 w) A (exec (.For (.Name x px) iter body [] pos) env) Q E s :=
  for_loop a hh env.locals mu I hit (fun h ρ₁ a₁ => by
    obtain ⟨m, ⟨o, es, ep, e, d, _⟩, _⟩ := a₁.loc
    exact ⟨o, e, fun _ _ q => by rw [d] at q; cases q⟩) hmu (fun b hb => ⟨(hsrc b hb).1, (hsrc b hb).1, (hsrc b hb).2⟩)
    (fun s' ρ₁ v Q E' a₁ hQ => st_var a₁ hk hQ) hI i0 turn (fun ρ₂ h' tk a' i' k => done ρ₂ h' tk a' i' fun b o h1 h2 e => k b o h1 h1 h2 e) hs
/-- what a store of a local leaves -/
theorem off_seq {h h' : Heap} (a : At w env ρ B h) (k : ∀ b o, b ≠ env.locals → h.get? b = some o → h'.get? b = some o) : KpS h h' := fun b o n e => by
  refine k b o ?_ e
  rintro rfl
  obtain ⟨m, ⟨o', es, ep, e', d, _⟩, _⟩ := a.loc
  rw [e] at e'; cases e'
  exact n fun _ _ q => by rw [d] at q; cases q
end
end PStm
theorem fill_all : (Mine.K0 = Mine.K0) ∧ (PySem.Challenge.rw_wa0014_01 = PySem.Challenge.rw_wa0014_01) := by k_fill; exact ⟨rfl, rfl⟩
local macro_rules | `(tactic| walk_at "rho") => `(tactic| first
  | exact upd_same
  | (refine (upd_ne (by decide)).trans ?_; walk_at "rho")
  | (refine (hole_ne (by decide) (by decide)).trans ?_; walk_at "rho")
  | assumption
  | rfl)
local macro_rules | `(tactic| walk_at "nm") => `(tactic| first
  | (refine' ld_var (by assumption) ?hv ?_ (by first | exact .inl rfl | exact .inr (.inl rfl) | exact .inr (.inr rfl)); (case hv => walk_at "rho"))
  | (refine' ld_glob (by assumption) ?hv ?_ rfl; (case hv => k_is))
  | (refine' ld_boot (by assumption) ?hm ?hv (by decide) ?_ rfl; (case hm => k_is); (case hv => first | exact boot_len' | exact boot_range' | exact boot_chr' | exact boot_sum' | exact boot_min' | exact boot_max' | exact boot_tuple' | exact boot_list' | exact boot_isinstance' | exact boot_enumerate')))
local macro_rules | `(tactic| walk_at "st") => `(tactic| (refine st_var (by assumption) rfl ?_))
local macro_rules | `(tactic| walk_at "k") => `(tactic| first | walk1 | (dsimp only; walk1))
local macro_rules | `(tactic| walk_at "go") => `(tactic| repeat (first | walk_at "nm" | walk_at "k"))
local macro_rules | `(tactic| walk_at "cw") => `(tactic| (refine' cw_def (At.top (by assumption) |>.keeps (At.keep (by assumption))) ?hk ?_; (case hk => k_is)))
section PRx
namespace Rx
open PySem.Sre
noncomputable def C : Array Nat := #[14, 8, 1, 2, 4294967295, 1, 1, 46, 0, 16, 46, 24, 9, 1, 4294967295, 13, 4, 8, 0, 0, 1, 6, 5, 1]
noncomputable def F0 (s : Nat) (o : Bool) : Sre.Frame := { wait := .nextStart, pc := 9, pos := s, outermost := o }
noncomputable def G0 (p : Nat) (o : Bool) (d : Int) : Sre.Frame := { wait := .giveBack, pc := 11, pos := p, outermost := o, count := d, kept := { lastmark := -1, lastindex := -1, whole := false, marks := #[] } }
/-- the machine on this pattern's code -/
noncomputable def mk (t : Array Nat) (st : Nat) (pc pos hd : Nat) (o : Bool) (fs : List Sre.Frame) (wt : Nat) (an : Option Bool) (sn : Sre.Seen) (oc : Option Sre.Outcome) : M :=
  { code := C, text := t, lim := t.size, start := st, lastStart := t.size, wholeText := false, mustAdvance := false, pc := pc, pos := pos, handed := hd, outermost := o, marks := #[], lastmark := -1, lastindex := -1,
    loops := #[], inner := none, frames := fs, weight := wt, answer := an, seen := sn, outcome := oc }
noncomputable def it : Nat → M → M
  | 0, m => m
  | n + 1, m => it n m.step
theorem it_add (a b : Nat) (m : M) : it (a + b) m = it b (it a m) := by
  induction a generalizing m with
  | zero => rw [Nat.zero_add]; rfl
  | succ a ih => rw [Nat.succ_add]; exact ih _
noncomputable def ch (t : Array Nat) (p : Nat) : Nat := t[p]?.getD 0
theorem ch_eq (t : Array Nat) (p : Nat) : t.getD p 0 = ch t p := by simp [ch]
section
variable {t : Array Nat} {st pos hd s p : Nat} {o : Bool} {sn : Sre.Seen}
theorem lit_hit {fs : List Sre.Frame} {wt : Nat} (h : p < t.size) (e : ch t p = 46) : ∃ sn', (mk t st 9 p hd o fs wt none sn none).step = mk t st 11 (p + 1) hd o fs wt none sn' none := by
  have h' : ¬ t.size ≤ p := Nat.not_le.mpr h
  have e' : t[p]?.getD 0 = 46 := e
  refine ⟨sn.add 16, ?_⟩
  simp [mk, M.step, M.exec, M.word, C, ops, h', M.say, accepts, e', itemWidth]
theorem lit_miss {fs : List Sre.Frame} {wt : Nat} (h : ¬ (p < t.size ∧ ch t p = 46)) : ∃ sn', (mk t st 9 p hd o fs wt none sn none).step = mk t st 9 p hd o fs wt (some false) sn' none := by
  refine ⟨sn.add 16, ?_⟩
  by_cases h' : t.size ≤ p
  · simp [mk, M.step, M.exec, M.word, C, ops, h', M.say]
  · have e : ¬ t[p]?.getD 0 = 46 := fun e => h ⟨Nat.not_le.mp h', e⟩
    have e2 : (t[p]?.getD 0 == 46) = false := by simpa using e
    simp [mk, M.step, M.exec, M.word, C, ops, h', M.say, accepts, e2]

/-- the figures in a row from p on, k at most -/
noncomputable def digs (t : Array Nat) : Nat → Nat → Nat
  | 0, _ => 0
  | k + 1, p => if Sre.isDigit (ch t p) = true then digs t k (p + 1) + 1 else 0
theorem run_digs : ∀ (k p found : Nat) (sn : Sre.Seen), ∃ sn', Sre.run C t 15 k p found sn = .ok (found + digs t k p, sn')
  | 0, p, found, sn => ⟨sn, rfl⟩
  | k + 1, p, found, sn => by
    have acc : ∃ sn', accepts C 15 (t.getD p 0) sn = .ok (Sre.isDigit (ch t p), sn') := by
      rw [ch_eq]
      cases hd : Sre.isDigit (ch t p) with
      | true => simp [accepts, C, ops, inSet, category, hd, Except.map]; exact ⟨_, rfl⟩
      | false => simp [accepts, C, ops, inSet, category, hd, Except.map]; exact ⟨_, rfl⟩
    obtain ⟨sn1, e⟩ := acc
    unfold Sre.run digs
    rw [e]
    cases hd : Sre.isDigit (ch t p) with
    | true =>
      obtain ⟨sn2, e2⟩ := run_digs k (p + 1) (found + 1) sn1
      refine ⟨sn2, ?_⟩
      simp only [if_true]
      show Sre.run C t 15 k (p + 1) (found + 1) sn1 = _
      rw [e2]
      congr 2
      omega
    | false => exact ⟨sn1, rfl⟩
theorem rep_few {fs : List Sre.Frame} {wt : Nat} (h : p < t.size → Sre.isDigit (ch t p) = false) : ∃ sn', (mk t st 11 p hd o fs wt none sn none).step = mk t st 11 p hd o fs wt (some false) sn' none := by
  by_cases h' : t.size ≤ p
  · refine ⟨sn.add 24, ?_⟩
    have : (1 : Int) > (t.size : Int) - p := by omega
    simp [mk, M.step, M.exec, M.word, C, ops, this, M.say]
  · have hp := Nat.not_le.mp h'
    obtain ⟨sn1, e⟩ := run_digs (t := t) (min 4294967295 (t.size - p)) p 0 ((sn.add 24).add 13)
    have hz : digs t (min 4294967295 (t.size - p)) p = 0 := by
      cases hk : min 4294967295 (t.size - p) with
      | zero => rfl
      | succ k => unfold digs; rw [h hp]; rfl
    rw [hz] at e
    refine ⟨sn1, ?_⟩
    have n1 : ¬ ((1 : Int) > (t.size : Int) - p) := by omega
    have e' : Sre.run #[14, 8, 1, 2, 4294967295, 1, 1, 46, 0, 16, 46, 24, 9, 1, 4294967295, 13, 4, 8, 0, 0, 1, 6, 5, 1] t 15 (min 4294967295 (t.size - p)) p 0 ((sn.add 24).add 13) = .ok (0 + 0, sn1) := e
    simp [mk, M.step, M.exec, M.word, C, ops, n1, M.say, e']

noncomputable abbrev dg (t : Array Nat) (p : Nat) : Nat := digs t (min 4294967295 (t.size - p)) p
theorem dg_pos (hp : p < t.size) (h : Sre.isDigit (ch t p) = true) : 1 ≤ dg t p := by
  unfold dg
  cases hk : min 4294967295 (t.size - p) with
  | zero => omega
  | succ k => unfold digs; rw [h]; simp
theorem digs_le : ∀ (k p : Nat), digs t k p ≤ k
  | 0, _ => Nat.le_refl _
  | k + 1, p => by unfold digs; split; (have := digs_le k (p + 1); omega); omega
theorem digs_all : ∀ (k p j : Nat), j < digs t k p → Sre.isDigit (ch t (p + j)) = true
  | 0, p, j, h => by simp [digs] at h
  | k + 1, p, j, h => by
    unfold digs at h
    split at h
    · rename_i hd
      cases j with
      | zero => exact hd
      | succ j =>
        have := digs_all k (p + 1) j (by omega)
        rwa [show p + 1 + j = p + (j + 1) by omega] at this
    · omega
theorem rep_go {fs : List Sre.Frame} {wt : Nat} (hp : p < t.size) (h : Sre.isDigit (ch t p) = true) (hw : wt ≤ 10) :
    ∃ sn', (mk t st 11 p hd o fs wt none sn none).step = mk t st 21 (p + dg t p) (p + dg t p) o (G0 (p + dg t p) o (dg t p) :: fs) (wt + 1) none sn' none := by
  obtain ⟨sn1, e⟩ := run_digs (t := t) (min 4294967295 (t.size - p)) p 0 ((sn.add 24).add 13)
  have hz := dg_pos hp h
  refine ⟨sn1, ?_⟩
  have n1 : ¬ ((1 : Int) > (t.size : Int) - p) := by omega
  have e' : Sre.run #[14, 8, 1, 2, 4294967295, 1, 1, 46, 0, 16, 46, 24, 9, 1, 4294967295, 13, 4, 8, 0, 0, 1, 6, 5, 1] t 15 (min 4294967295 (t.size - p)) p 0 ((sn.add 24).add 13) = .ok (dg t p, sn1) := by rw [Nat.zero_add] at e; exact e
  have n2 : ¬ dg t p = 0 := by omega
  have n3 : ¬ 16777216 < wt + 1 := by omega
  simp [mk, M.step, M.exec, M.word, C, ops, n1, M.say, e', n2, M.afterRun, M.attempt, M.frame, M.keep, n3, G0]

/-- the text ends here, or but for one line feed -/
noncomputable def atEnd (t : Array Nat) (q : Nat) : Bool := q == t.size || (q + 1 == t.size && ch t q == 10)
theorem at_yes {fs : List Sre.Frame} {wt : Nat} (h : atEnd t p = true) : ∃ sn', (mk t st 21 p hd o fs wt none sn none).step = mk t st 23 p hd o fs wt none sn' none := by
  refine ⟨(sn.add 6).add 48, ?_⟩
  have h' : (p == t.size || (p + 1 == t.size && t[p]?.getD 0 == 10)) = true := h
  simp only [mk, M.step, M.exec, M.word, C, ops, M.isAt]
  simp
  simp only [Bool.or_eq_true, Bool.and_eq_true, beq_iff_eq] at h'
  intro n1 n2
  rcases h' with e | ⟨e1, e2⟩
  · exact absurd e n1
  · exact absurd e2 (n2 e1)
theorem at_no {fs : List Sre.Frame} {wt : Nat} (h : atEnd t p = false) : ∃ sn', (mk t st 21 p hd o fs wt none sn none).step = mk t st 21 p hd o fs wt (some false) sn' none := by
  refine ⟨(sn.add 6).add 48, ?_⟩
  have h' : (p == t.size || (p + 1 == t.size && t[p]?.getD 0 == 10)) = false := h
  simp only [mk, M.step, M.exec, M.word, C, ops, M.isAt]
  simp
  simp at h'
  simp [h', M.say]
  exact h'.2
theorem succ_yes {fs : List Sre.Frame} {wt : Nat} : ∃ sn', (mk t st 23 p hd o fs wt none sn none).step = mk t st 23 p p o fs wt (some true) sn' none := by
  refine ⟨sn.add 1, ?_⟩
  simp [mk, M.step, M.exec, M.word, C, ops, M.say]
theorem give_yes {pc : Nat} {o' : Bool} {fs : List Sre.Frame} {wt q : Nat} {d : Int} : (mk t st pc p hd o' (G0 q o d :: fs) (wt + 1) (some true) sn none).step = mk t st 11 q hd o fs wt (some true) sn none := by
  simp [mk, M.step, M.resume, G0, M.say]
theorem start_yes {pc : Nat} {o' : Bool} {q : Nat} : (mk t st pc p hd o' [F0 q o] 1 (some true) sn none).step = mk t st 9 q hd o [] 0 (some true) sn none := by
  simp [mk, M.step, M.resume, F0, M.say]
theorem end_yes {pc : Nat} : (mk t st pc p hd o [] 0 (some true) sn none).step = mk t st pc p hd o [] 0 (some true) sn (some .matched) := by
  simp [mk, M.step]
theorem end_no {pc : Nat} : (mk t st pc p hd o [] 0 (some false) sn none).step = mk t st pc p hd o [] 0 (some false) sn (some .failed) := by
  simp [mk, M.step]
theorem start_no {pc : Nat} {o' : Bool} {q : Nat} (h : ¬ q < t.size) : (mk t st pc p hd o' [F0 q o] 1 (some false) sn none).step = mk t st 9 q hd o [] 0 (some false) sn none := by
  simp [mk, M.step, M.resume, F0, M.say, h]
theorem start_next {pc : Nat} {o' : Bool} {q : Nat} (h : q < t.size) : (mk t st pc p hd o' [F0 q o] 1 (some false) sn none).step = mk t (q + 1) 9 (q + 1) (q + 1) false [F0 (q + 1) false] 1 none sn none := by
  simp [mk, M.step, M.resume, F0, M.say, h, M.attemptFrom, M.hasFirstSet, ops, C, M.attemptAt, M.attempt]
theorem give_less {pc : Nat} {o' : Bool} {fs : List Sre.Frame} {wt q : Nat} {d : Nat} (hd1 : 2 ≤ d) (hw : wt ≤ 10) :
    (mk t st pc p hd o' (G0 q o d :: fs) (wt + 1) (some false) sn none).step = mk t st 21 (q - 1) (q - 1) o (G0 (q - 1) o ((d - 1 : Nat) : Int) :: fs) (wt + 1) none sn none := by
  have n1 : ¬ ((d : Int) - 1 < 1) := by omega
  have n3 : ¬ 16777216 < wt + 1 := by omega
  have e : ((d : Int) - 1) = ((d - 1 : Nat) : Int) := by omega
  simp [mk, M.step, M.resume, G0, M.say, M.word, C, n1, M.putBack, M.afterRun, M.attempt, M.frame, n3]
  omega
theorem give_none {pc : Nat} {o' : Bool} {fs : List Sre.Frame} {wt q : Nat} : (mk t st pc p hd o' (G0 q o (1 : Nat) :: fs) (wt + 1) (some false) sn none).step = mk t st 11 q hd o fs wt (some false) sn none := by
  simp [mk, M.step, M.resume, G0, M.say, M.word, C, M.putBack]

/-- a match begins here -/
noncomputable def hit (t : Array Nat) (s : Nat) : Bool := decide (s < t.size) && ch t s == 46 && decide (s + 1 < t.size) && Sre.isDigit (ch t (s + 1)) && atEnd t (s + 1 + dg t (s + 1))

/-- the machine comes to the end of its work within K steps -/
noncomputable def Ev (K : Nat) (m : M) (b : Bool) : Prop := ∃ k m', k ≤ K ∧ it k m = m' ∧ m'.outcome = some (if b then .matched else .failed) ∧ m'.frames = [] ∧ m'.marks = #[] 
theorem Ev.step {K : Nat} {m m' : M} {b : Bool} (h : m.step = m') (e : Ev K m' b) : Ev (K + 1) m b := by
  obtain ⟨k, m'', hk, h1, h2⟩ := e
  exact ⟨k + 1, m'', by omega, by rw [← h1, ← h]; rfl, h2⟩
theorem Ev.mono {K K' : Nat} {m : M} {b : Bool} (h : K ≤ K') (e : Ev K m b) : Ev K' m b := by
  obtain ⟨k, m'', hk, r⟩ := e
  exact ⟨k, m'', by omega, r⟩

theorem ev_yes {pc : Nat} {o' : Bool} {q : Nat} : Ev 2 (mk t st pc p hd o' [F0 q o] 1 (some true) sn none) true :=
  Ev.step start_yes ⟨1, _, Nat.le_refl _, rfl, by rw [it, end_yes]; rfl, by rw [it, end_yes]; rfl, by rw [it, end_yes]; rfl⟩

/-- giving back figures: no shorter run ends the text -/
theorem ev_back : ∀ (d : Nat) {K pc q : Nat} {hd p : Nat} {o o' : Bool} {sn : Sre.Seen} {b : Bool} {fs : List Sre.Frame}, 1 ≤ d →
    (∀ j, 1 ≤ j → j < d → atEnd t (q - j) = false) →
    (∀ hd q' sn, Ev K (mk t st 11 q' hd o fs 1 (some false) sn none) b) → Ev (K + 2 * d) (mk t st pc p hd o' (G0 q o (d : Nat) :: fs) (1 + 1) (some false) sn none) b
  | 0, _, _, _, _, _, _, _, _, _, _, h, _, _ => absurd h (by omega)
  | 1, _, _, _, _, _, _, _, _, _, _, _, _, hK => Ev.mono (by omega) (Ev.step give_none (hK _ _ _))
  | d + 2, K, pc, q, hd, p, o, o', sn, b, fs, _, hno, hK => by
    have h1 := hno 1 (by omega) (by omega)
    obtain ⟨sn', e2⟩ := at_no (st := st) (hd := q - 1) (o := o) (sn := sn) (fs := G0 (q - 1) o ((d + 2 - 1 : Nat) : Int) :: fs) (wt := 1 + 1) h1
    refine Ev.mono ?_ (Ev.step (give_less (by omega) (by omega)) (Ev.step e2 (ev_back (d + 1) (K := K) (by omega) (fun j hj1 hj2 => ?_) hK)))
    · omega
    · have := hno (j + 1) (by omega) (by omega)
      rwa [show q - (j + 1) = q - 1 - j by omega] at this

theorem digit_not_end {q : Nat} (h : Sre.isDigit (ch t q) = true) (hq : q < t.size) : atEnd t q = false := by
  unfold atEnd
  have h1 : ch t q ≠ 10 := by
    intro e
    rw [e] at h
    exact absurd h (by decide)
  simp [h1]
  omega

theorem ev_start : ∀ (r s : Nat) {st hd : Nat} {o : Bool} {sn : Sre.Seen}, s + r = t.size + 1 → s ≤ t.size →
    Ev (r * (2 * t.size + 12)) (mk t st 9 s hd o [F0 s o] 1 none sn none) ((List.range r).any fun i => hit t (s + i))
  | 0, s, st, hd, o, sn, h, h' => absurd h (by omega)
  | r + 1, s, st, hd, o, sn, h, h' => by
    have big : r * (2 * t.size + 12) + 2 + (2 * t.size + 10) = (r + 1) * (2 * t.size + 12) := by rw [Nat.add_mul r 1 (2 * t.size + 12)]; omega
    -- what follows a miss
    have miss : ∀ {pc p hd : Nat} {o' : Bool} {sn : Sre.Seen}, hit t s = false → Ev (r * (2 * t.size + 12) + 2) (mk t st pc p hd o' [F0 s o] 1 (some false) sn none) ((List.range (r + 1)).any fun i => hit t (s + i)) := by
      intro pc p hd o' sn hs
      have ea : ((List.range (r + 1)).any fun i => hit t (s + i)) = ((List.range r).any fun i => hit t (s + 1 + i)) := by
        rw [List.range_succ_eq_map, List.any_cons, List.any_map]
        simp only [Nat.add_zero, hs, Bool.false_or]
        congr 1
        funext i
        show hit t (s + (i + 1)) = _
        congr 1; omega
      rw [ea]
      by_cases hlt : s < t.size
      · exact Ev.mono (Nat.le_succ _) (Ev.step (start_next hlt) (ev_start r (s + 1) (by omega) (by omega)))
      · have : r = 0 := by omega
        subst this
        refine Ev.mono (Nat.le_add_left _ _) (Ev.step (start_no hlt) (K := 1) ⟨1, _, Nat.le_refl _, rfl, ?_, ?_, ?_⟩) <;> rw [it, end_no] <;> rfl
    generalize r * (2 * t.size + 12) = X at miss big
    generalize (r + 1) * (2 * t.size + 12) = Y at big ⊢
    by_cases h1 : s < t.size ∧ ch t s = 46
    · obtain ⟨sn1, e1⟩ := lit_hit (st := st) (hd := hd) (o := o) (sn := sn) (fs := [F0 s o]) (wt := 1) h1.1 h1.2
      by_cases h2 : s + 1 < t.size ∧ Sre.isDigit (ch t (s + 1)) = true
      · obtain ⟨sn2, e2⟩ := rep_go (st := st) (hd := hd) (o := o) (sn := sn1) (fs := [F0 s o]) (wt := 1) h2.1 h2.2 (by omega)
        have d1 := dg_pos h2.1 h2.2
        have d2 : dg t (s + 1) ≤ t.size - (s + 1) := by unfold dg; exact Nat.le_trans (digs_le _ _) (Nat.min_le_right _ _)
        cases h3 : atEnd t (s + 1 + dg t (s + 1)) with
        | true =>
          have hs : hit t s = true := by simp [hit, h1, h2, h3]
          have ea : ((List.range (r + 1)).any fun i => hit t (s + i)) = true := by
            rw [List.range_succ_eq_map, List.any_cons]; simp [hs]
          rw [ea]
          obtain ⟨sn3, e3⟩ := at_yes (st := st) (hd := s + 1 + dg t (s + 1)) (o := o) (sn := sn2) (fs := G0 (s + 1 + dg t (s + 1)) o (dg t (s + 1)) :: [F0 s o]) (wt := 1 + 1) h3
          obtain ⟨sn4, e4⟩ := succ_yes (t := t) (st := st) (p := s + 1 + dg t (s + 1)) (hd := s + 1 + dg t (s + 1)) (o := o) (sn := sn3) (fs := G0 (s + 1 + dg t (s + 1)) o (dg t (s + 1)) :: [F0 s o]) (wt := 1 + 1)
          exact Ev.mono (by omega) (Ev.step e1 (Ev.step e2 (Ev.step e3 (Ev.step e4 (Ev.step give_yes ev_yes)))))
        | false =>
          have hs : hit t s = false := by simp [hit, h3]
          obtain ⟨sn3, e3⟩ := at_no (st := st) (hd := s + 1 + dg t (s + 1)) (o := o) (sn := sn2) (fs := G0 (s + 1 + dg t (s + 1)) o (dg t (s + 1)) :: [F0 s o]) (wt := 1 + 1) h3
          refine Ev.mono ?_ (Ev.step e1 (Ev.step e2 (Ev.step e3 (ev_back (dg t (s + 1)) d1 (fun j hj1 hj2 => ?_) fun hd q' sn => miss hs))))
          · omega
          · have hj := digs_all _ (s + 1) (dg t (s + 1) - j) (show dg t (s + 1) - j < dg t (s + 1) by omega)
            rw [show s + 1 + (dg t (s + 1) - j) = s + 1 + dg t (s + 1) - j by omega] at hj
            exact digit_not_end hj (by omega)
      · have hs : hit t s = false := by
          cases q : hit t s with
          | false => rfl
          | true => simp [hit] at q; exact absurd ⟨q.1.1.2, q.1.2⟩ h2
        obtain ⟨sn2, e2⟩ := rep_few (st := st) (hd := hd) (o := o) (sn := sn1) (fs := [F0 s o]) (wt := 1) (p := s + 1) (t := t) (fun hl => by
          cases q : Sre.isDigit (ch t (s + 1)) with
          | false => rfl
          | true => exact absurd ⟨hl, q⟩ h2)
        exact Ev.mono (by omega) (Ev.step e1 (Ev.step e2 (miss hs)))
    · have hs : hit t s = false := by
        cases q : hit t s with
        | false => rfl
        | true => simp [hit] at q; exact absurd ⟨q.1.1.1.1, q.1.1.1.2⟩ h1
      obtain ⟨sn1, e1⟩ := lit_miss (st := st) (hd := hd) (o := o) (sn := sn) (fs := [F0 s o]) (wt := 1) h1
      exact Ev.mono (by omega) (Ev.step e1 (miss hs))

/-- what the pattern's search does on a text -/
noncomputable def hdn (t : Array Nat) : Bool := (List.range (t.size + 1)).any fun i => hit t i
theorem search_ev (t : Array Nat) : Ev ((t.size + 1) * (2 * t.size + 12)) (forSearch C t 0 0 t.size false) (hdn t) := by
  by_cases h : t.size < 2
  · have e : forSearch C t 0 0 t.size false = { mk t 0 9 0 0 true [] 0 (some false) (({} : Sre.Seen).add 14) none with lastStart := 0 } := by
      unfold forSearch
      dsimp only
      rw [if_pos (by
        have : (header C).1 = 2 := rfl
        rw [this]; simp; omega)]
      rfl
    have e0 : hdn t = false := by
      unfold hdn
      rw [List.any_eq_false]
      intro i hi
      have hi' := List.mem_range.mp hi
      simp [hit]
      omega
    rw [e0, e]
    exact ⟨1, _, by rw [Nat.succ_mul]; omega, rfl, by simp [it, mk, M.step], by simp [it, mk, M.step], by simp [it, mk, M.step]⟩
  · have e : forSearch C t 0 0 t.size false = mk t 0 9 0 0 true [F0 0 true] 1 none (({} : Sre.Seen).add 14) none := by
      unfold forSearch
      dsimp only
      rw [if_neg (by
        have : (header C).1 = 2 := rfl
        rw [this]; simp; omega)]
      rfl
    rw [e]
    have := ev_start (t := t) (t.size + 1) 0 (st := 0) (hd := 0) (o := true) (sn := ({} : Sre.Seen).add 14) (by omega) (by omega)
    simpa [hdn] using this
end
end Rx
end PRx
section PRs
open PySem.Builtin PySem.Builtin.Re
theorem plainAttrs_pat : PlainAttrs "re.Pattern" :=
  ⟨⟨"object.__getattribute__", by rw [typeLookup_type, builtinLookup_eq_fast]; kernel_rfl, by decide +kernel⟩, by rw [typeLookup_type, builtinLookup_eq_fast]; kernel_rfl⟩
theorem slot_pat_search : Slot "re.Pattern" "search" "re.Pattern.search" :=
  .of (owner := "re.Pattern") (n := "search") (by rw [typeLookup_type, builtinLookup_eq_fast]; kernel_rfl) (by decide +kernel) (by decide +kernel) (by decide +kernel)
    (by first | exact .inl (by decide +kernel) | exact .inr (by decide +kernel)) (by rw [isSubtype_type]; kernel_rfl)
theorem type_pat_search : typeOf (.builtin "re.Pattern.search") = pure (.type "method_descriptor") := by show builtinType _ = _; rw [builtinType_eq_fast]; kernel_rfl
theorem entry_pat_search : entryFor table "re.Pattern.search" = some Builtin.«re.Pattern.search» := entryFor_of_tree (by kernel_rfl)
theorem args_pat_search (a b : Value) : argsOk "re.Pattern.search" ⟨[a, b], []⟩ := by unfold argsOk; kernel_rfl
theorem named1 (v : Value) : reNamed "re.Pattern.search" "search" ["string", "pos", "endpos"] 1 [v] [] = pure [some v, none, none] := by rfl

theorem runFor_it : ∀ (n : Nat) (m : Sre.M), m.runFor n = Rx.it n m
  | 0, _ => rfl
  | n + 1, m => by
    unfold Sre.M.runFor
    split
    · rename_i h
      have fix : ∀ k, Rx.it k m = m := fun k => by
        induction k with
        | zero => rfl
        | succ k ih => show Rx.it k m.step = m; rw [show m.step = m by unfold Sre.M.step; rw [if_pos h]]; exact ih
      exact (fix _).symm
    · exact runFor_it n m.step
theorem it_halted {m : Sre.M} (h : m.outcome.isSome = true) : ∀ k, Rx.it k m = m
  | 0 => rfl
  | k + 1 => by show Rx.it k m.step = m; rw [show m.step = m by unfold Sre.M.step; rw [if_pos h]]; exact it_halted h k

section
variable {M : Model} {A : Around} {E : Value → Shared → Prop} {s : Shared}
theorem drive : ∀ (turns k : Nat) (m : Sre.M) {Q : Sre.M → Shared → Prop}, (Rx.it k m).outcome.isSome = true → k ≤ 4 * turns → 1 ≤ turns → Q (Rx.it k m) s → wpAny M A (reDrive turns m) Q E s
  | 0, k, m, Q, _, _, h1, _ => absurd h1 (by omega)
  | turns + 1, k, m, Q, ho, hk, _, h => by
    unfold reDrive
    dsimp only
    rw [show reTurnSteps = 4 from rfl, runFor_it]
    split
    · rename_i h4
      refine wpAny_pure ?_
      have : Rx.it k m = Rx.it 4 m := by
        by_cases hk4 : k ≤ 4
        · have e : Rx.it 4 m = Rx.it (4 - k) (Rx.it k m) := by rw [← Rx.it_add]; congr 1; omega
          rw [e, it_halted ho]
        · have e : Rx.it k m = Rx.it (k - 4) (Rx.it 4 m) := by rw [← Rx.it_add]; congr 1; omega
          rw [e, it_halted h4]
      rw [← this]; exact h
    · rename_i h4
      have hk4 : 4 < k := by
        apply Nat.lt_of_not_le
        intro hk4
        apply h4
        have e : Rx.it 4 m = Rx.it (4 - k) (Rx.it k m) := by rw [← Rx.it_add]; congr 1; omega
        rw [e, it_halted ho]; exact ho
      have e : Rx.it k m = Rx.it (k - 4) (Rx.it 4 m) := by rw [← Rx.it_add]; congr 1; omega
      rw [e] at ho h
      refine wpAny_bind (wpAny_rule ?_)
      exact drive turns (k - 4) (Rx.it 4 m) ho (by omega) (by omega) h

theorem runToEnd {m : Sre.M} {k : Nat} {Q : Option Sre.M → Shared → Prop} {b : Bool} (ho : (Rx.it k m).outcome = some (if b then .matched else .failed)) (hk : k ≤ 2 ^ 60)
    (h : Q (if b then some (Rx.it k m) else none) s) : wpAny M A (reRunToEnd m) Q E s := by
  unfold reRunToEnd
  refine wpAny_bind (drive (2 ^ 64) k m (by rw [ho]; rfl) (by omega) (by omega) ?_)
  refine wpAny_bind (wpAny_mono (Q := fun _ s' => s' = s) (wpAny_forIn_list _ (fun _ _ s' => s' = s) (fun _ s' => s' = s) ?_ (fun _ _ e => e) _ _ rfl) ?_ fun _ _ e => e)
  · intro x rest c s' e
    split
    · exact wpAny_bind (wpAny_rule (wpAny_pure e))
    · exact wpAny_pure e
  · intro _ s' e
    subst e
    rw [ho]
    cases b <;> exact wpAny_pure h

/-- a compiled pattern over a str, and its code -/
structure Pat (h : Heap) (p q : Addr) (code : List Nat) (groups : Nat) : Prop where
  pat : ∃ (x : Value) (fl : Int) (t : Tok), h.get? p = some ⟨.type "re.Pattern", none, .fields #[x, .int fl t, .int groups 0, .none, .none, .ref q, .int 0 0], #[]⟩
  code : ∃ (o : Obj) (n : Nat), h.get? q = some o ∧ o.data = .seq (code.map fun k : Nat => rawInt k).toArray n
theorem rawItems {q : Addr} {code : List Nat} {Q : Array Int → Shared → Prop} {o : Obj} {n : Nat} (ho : s.heap.get? q = some o) (hd : o.data = .seq (code.map fun k : Nat => rawInt k).toArray n)
    (h : Q (code.map fun k : Nat => (k : Int)).toArray s) : wpAny M A (reRawItems (.ref q)) Q E s := by
  unfold reRawItems
  refine wpAny_bind (wpAny_seqItems ho hd (wpAny_pure ?_))
  have : (((code.map fun k : Nat => rawInt k).toArray).map reRawOf) = (code.map fun k : Nat => (k : Int)).toArray := by
    rw [List.map_toArray, List.map_map]
    rfl
  simpa [this] using h

theorem target {p q : Addr} {code : List Nat} {groups : Nat} {x : Str} {t : Tok} {Q : ReTarget → Shared → Prop} (X : Pat s.heap p q code groups)
    (h : Q { pattern := .ref p, string := .str x t, code := code.toArray, text := x.cps, kind := 0, groups := groups, pos := 0, lim := x.cps.size } s) (hz : x.cps.size < 2 ^ 62) :
    wpAny M A (reTarget "re.Pattern.search" "search" ⟨[.ref p, .str x t], []⟩) Q E s := by
  obtain ⟨⟨px, fl, pt, hp⟩, o, n, ho, hd⟩ := X
  unfold reTarget
  dsimp only
  rw [named1]
  refine wpAny_bind (wpAny_pure ?_)
  dsimp only
  refine wpAny_bind (wpAny_pure (wpAny_bind (wpAny_pure (wpAny_bind (wpAny_fieldsOf hp rfl ?_)))))
  unfold reTextOf
  refine wpAny_bind (wpAny_bind (wpAny_pure ?_))
  dsimp only
  refine wpAny_pure ?_
  split
  · rename_i hc; exact absurd hc Bool.false_ne_true
  split
  · rename_i hc; exact absurd hc Bool.false_ne_true
  refine wpAny_bind (wpAny_pure (wpAny_bind (rawItems ho hd (wpAny_pure ?_))))
  have e1 : Array.map (fun x : Int => x.toNat) (code.map fun k : Nat => (k : Int)).toArray = code.toArray := by
    rw [List.map_toArray, List.map_map]
    congr 1
    have : ∀ l : List Nat, List.map ((fun x : Int => x.toNat) ∘ fun k : Nat => (k : Int)) l = l := fun l => by
      induction l with
      | nil => rfl
      | cons a l ih => rw [List.map_cons, ih]; rfl
    exact this code
  have e2 : Min.min (2 ^ 63 - 1 : Int).toNat x.cps.size = x.cps.size := by
    rw [Nat.min_def]; split
    · omega
    · rfl
  have e3 : reRawNat (#[px, Value.int fl pt, Value.int (groups : Int) 0, Value.none, Value.none, Value.ref q, Value.int 0 0].getD 2 Value.none) = groups := rfl
  rw [e1, e3]
  have e4 : Min.min (Int.toNat 0) x.cps.size = 0 := Nat.zero_min _
  dsimp only
  rw [e2, e4]
  exact h

/-- a match object, as the search makes it -/
noncomputable def matchOf (p : Addr) (x : Str) (t : Tok) (T : Addr) (m : Sre.M) : Obj := { cls := .type "re.Match", dict := none, data := .fields #[.str x t, .ref p, rawInt 0, rawInt x.cps.size, rawInt m.lastindex, .ref T] }
theorem search_failed {prog : Program} {w : World} {p q : Addr} {code : List Nat} {groups : Nat} {x : Str} {t : Tok} {Q : Value → Shared → Prop} {k : Nat} (X : Pat s.heap p q code groups) (hz : x.cps.size < 2 ^ 62)
    (ho : (Rx.it k (Sre.forSearch code.toArray x.cps groups 0 x.cps.size false)).outcome = some .failed) (hk : k ≤ 2 ^ 60) (h : Q .none s) :
    wpAny (model prog w) A (call (.builtin "re.Pattern.search") [.ref p, .str x t]) Q E s := by
  have hT : s.TypeIs (.ref p) "re.Pattern" := let ⟨_, _, _, e⟩ := X.pat; ⟨_, e, rfl⟩
  refine wpAny_call_entry slot_pat_search hT entry_pat_search ?_ (args_pat_search _ _)
  unfold Builtin.«re.Pattern.search»
  refine wpAny_bind (target X ?_ hz)
  unfold reAnswer
  exact wpAny_bind (runToEnd (b := false) ho hk (wpAny_pure ⟨_, rfl, h⟩))
theorem search_matched {prog : Program} {w : World} {p q : Addr} {code : List Nat} {groups : Nat} {x : Str} {t : Tok} {Q : Value → Shared → Prop} {k : Nat} {m : Sre.M} {spans : List Value} (X : Pat s.heap p q code groups) (hz : x.cps.size < 2 ^ 62)
    (hm : Rx.it k (Sre.forSearch code.toArray x.cps groups 0 x.cps.size false) = m) (ho : m.outcome = some .matched) (hk : k ≤ 2 ^ 60)
    (hs : reNewMatch (.ref p) (.str x t) groups 0 x.cps.size m = (do newFields "re.Match" [.str x t, .ref p, rawInt 0, rawInt x.cps.size, rawInt m.lastindex, ← newTuple spans])) (hl : spans.length ≤ 1000)
    (h : ∀ T r h', h'.get? T = some { cls := .type "tuple", data := .seq spans.toArray } → h'.get? r = some (matchOf p x t T m) → Kp s.heap h' → s.heap.get? r = none → Q (.ref r) { s with heap := h' }) :
    wpAny (model prog w) A (call (.builtin "re.Pattern.search") [.ref p, .str x t]) Q E s := by
  have hT : s.TypeIs (.ref p) "re.Pattern" := let ⟨_, _, _, e⟩ := X.pat; ⟨_, e, rfl⟩
  refine wpAny_call_entry slot_pat_search hT entry_pat_search ?_ (args_pat_search _ _)
  unfold Builtin.«re.Pattern.search»
  refine wpAny_bind (target X ?_ hz)
  unfold reAnswer
  refine wpAny_bind (runToEnd (b := true) (k := k) (by rw [hm]; exact ho) hk ?_)
  rw [hm]
  simp only [if_true]
  rw [hs]
  refine wpAny_bind (wpAny_bind (wpAny_newObj_type ?_ (by show spans.toArray.size ≤ sizeLine; rw [List.size_toArray, sizeLine_eq]; omega)))
  refine wpAny_newObj_type (wpAny_pure ⟨_, rfl, ?_⟩) (by show 6 ≤ _; rw [sizeLine_eq]; decide)
  have h1 := Heap.get?_push_size s.heap (o := { cls := .type "tuple", data := .seq spans.toArray }) rfl
  refine h s.heap.objs.size _ _ (Heap.get?_push_of_some _ h1) (Heap.get?_push_size _ rfl) (fun b o e => Heap.get?_push_of_some _ (Heap.get?_push_of_some _ e)) ?_
  rw [Heap.size_push]
  cases e : s.heap.get? (s.heap.objs.size + 1) with
  | none => rfl
  | some o => exact absurd (Heap.lt_size e) (Nat.not_lt.mpr (Nat.le_succ _))
end
end PRs
section PSp
section
variable {w : World} {A : Around} {E : Value → Shared → Prop} {s : Shared}
theorem noBool_match : typeLookup (.type "re.Match") "__bool__" = pure none := by rw [typeLookup_type, builtinLookup_eq_fast]; kernel_rfl
theorem noLen_match : typeLookup (.type "re.Match") "__len__" = pure none := by rw [typeLookup_type, builtinLookup_eq_fast]; kernel_rfl

theorem truthy_match {r : Addr} {Q : Bool → Shared → Prop} (hT : s.TypeIs (.ref r) "re.Match") (h : Q true s) : wpAny (model P0 w) A (truthy (.ref r)) Q E s := by
  have a : typeLookup (.type "re.Match") (Str.ofString "__bool__") = pure none := noBool_match
  have b : typeLookup (.type "re.Match") (Str.ofString "__len__") = pure none := noLen_match
  wp_walk
  exact h

theorem pat_ip {h : Heap} (T : TopAt w h) : Pat h 123 122 Rx.C.toList 0 := by
  refine ⟨⟨_, _, _, T.kin _ _ (by k_is)⟩, _, 0, T.kin _ _ (by k_is), rfl⟩

theorem c_hdn (T : TopAt w s.heap) (R : Room A 1) (x : Str) (t : Tok) (hz : x.cps.size ≤ 1000) :
    wpAny (model P0 w) A (call (.ref 130) [.str x t]) (fun v s' => Keeps s s' ∧ v = .bool (!Rx.hdn x.cps)) E s := by
  have ho := Eq.refl ((Mine.K0 w.params).lookup 130)
  conv at ho => rhs; whnf
  conv at ho => rhs; pattern (paOf _); whnf
  conv at ho => rhs; pattern (boOf _); whnf
  conv at ho => rhs; pattern (scOf _); whnf
  refine enter (f := 130) (k := 0) (binds := [(Str.ofString "text", .str x t)]) T R ho (by k_is) rfl (locs rfl) (by decide) (fun L h₁ tk a R' => ?_)
  refine xs_if (isTrue_plain (Call_method1 rfl rfl rfl ?_))
  walk_at "nm"
  have X := pat_ip (a.top.keeps a.keep)
  obtain ⟨k, m', hk, hm, ho, _⟩ := Rx.search_ev x.cps
  have hk' : k ≤ 2 ^ 60 := by
    have : (x.cps.size + 1) * (2 * x.cps.size + 12) ≤ 1001 * 2012 := Nat.mul_le_mul (by omega) (by omega)
    omega
  refine ⟨"re.Pattern", "re.Pattern.search", plainAttrs_pat, slot_pat_search, type_pat_search, (let ⟨_, _, _, e⟩ := X.pat; ⟨_, e, rfl⟩), (fun b hb => by cases hb; obtain ⟨_, _, _, e⟩ := X.pat; exact ⟨_, e, rfl⟩), ?_⟩
  refine callWith_builtin rfl (evalArgs_plain (spliced_cons ?_))
  walk_at "nm"
  refine spliced_nil ?_
  dsimp only
  cases hb : Rx.hdn x.cps with
  | false =>
    rw [hb] at ho
    refine search_failed X (by omega) (by rw [← hm] at ho; exact ho) hk' (truthy_none (xs_nil (Nx.go ?_)))
    refine xs_ret ?_
    walk_at "k"
    exact ⟨⟨_, _, rfl, a.keep⟩, rfl⟩
  | true =>
    rw [hb] at ho
    refine search_matched X (by omega) hm ho hk' (spans := [rawInt m'.start, rawInt m'.handed]) rfl (by show 2 ≤ 1000; decide) (fun T r h' h1 h2 k2 _ => ?_)
    refine truthy_match ⟨_, h2, rfl⟩ ?_
    refine xs_ret ?_
    walk_at "k"
    exact Nx.out ⟨⟨_, _, rfl, a.keep.trans k2⟩, rfl⟩
end
end PSp
section PUp
open PySem.Builtin PySem.Builtin.Re
theorem plainAttrs_match : PlainAttrs "re.Match" :=
  ⟨⟨"object.__getattribute__", by rw [typeLookup_type, builtinLookup_eq_fast]; kernel_rfl, by decide +kernel⟩, by rw [typeLookup_type, builtinLookup_eq_fast]; kernel_rfl⟩
theorem slot_match_group : Slot "re.Match" "group" "re.Match.group" :=
  .of (owner := "re.Match") (n := "group") (by rw [typeLookup_type, builtinLookup_eq_fast]; kernel_rfl) (by decide +kernel) (by decide +kernel) (by decide +kernel)
    (by first | exact .inl (by decide +kernel) | exact .inr (by decide +kernel)) (by rw [isSubtype_type]; kernel_rfl)
theorem type_match_group : typeOf (.builtin "re.Match.group") = pure (.type "method_descriptor") := by show builtinType _ = _; rw [builtinType_eq_fast]; kernel_rfl
theorem entry_match_group : entryFor table "re.Match.group" = some Builtin.«re.Match.group» := entryFor_of_tree (by kernel_rfl)
theorem args_match_group (a b : Value) : argsOk "re.Match.group" ⟨[a, b], []⟩ := by unfold argsOk; kernel_rfl

section
variable {w : World} {A : Around} {E : Value → Shared → Prop} {s : Shared}
/-- a match of the whole pattern and of one group, from b to e -/
structure Mt (h : Heap) (r : Addr) (x : Str) (b e : Nat) : Prop where
  m : ∃ (t : Tok) (p n li : Value) (T : Addr), h.get? r = some { cls := .type "re.Match", dict := none, data := .fields #[.str x t, p, rawInt 0, n, li, .ref T] } ∧
    ∃ (o : Obj) (a c : Int) (k : Nat), h.get? T = some o ∧ o.data = .seq #[rawInt a, rawInt c, rawInt b, rawInt e] k
theorem group1 {r : Addr} {x : Str} {b e : Nat} {tk : Tok} {Q : Value → Shared → Prop} (X : Mt s.heap r x b e) (hl : x.cps.size ≤ 1000) (h : Q (.str ⟨x.cps.extract b e⟩ s.toks) { s with toks := s.toks + 1 }) :
    wpAny (model P0 w) A (call (.builtin "re.Match.group") [.ref r, .int 1 tk]) Q E s := by
  obtain ⟨t, p, n, li, T, h1, o, a, c, k, h2, hd⟩ := X.m
  refine wpAny_call_entry slot_match_group ⟨_, h1, rfl⟩ entry_match_group ?_ (args_match_group _ _)
  unfold Builtin.«re.Match.group»
  refine wpAny_bind (wpAny_pure ?_)
  unfold reFound
  refine wpAny_bind (wpAny_bind (wpAny_fieldsOf h1 rfl (wpAny_bind ?_)))
  unfold reRawItems
  refine wpAny_bind (wpAny_seqItems h2 hd (wpAny_pure (wpAny_pure ?_)))
  dsimp only
  unfold reGroupNumber
  refine wpAny_bind (wpAny_bind (wpAny_pure ?_))
  dsimp only
  rw [if_pos (show (some (1 : Int)).isSome = true from rfl)]
  refine wpAny_bind (wpAny_pure ?_)
  have hs : Array.map reRawOf ((some #[rawInt a, rawInt c, rawInt (b : Int), rawInt (e : Int)]).getD #[]) = #[a, c, (b : Int), (e : Int)] := by simp [rawInt, reRawOf]
  rw [hs]
  rw [if_neg (by simp)]
  refine wpAny_pure (wpAny_bind ?_)
  unfold reGroupText
  have e1 : (#[a, c, (b : Int), (e : Int)] : Array Int).getD (2 * (1 : Int).toNat) (-1) = (b : Int) := rfl
  have e2 : (#[a, c, (b : Int), (e : Int)] : Array Int).getD (2 * (1 : Int).toNat + 1) (-1) = (e : Int) := rfl
  dsimp only
  rw [e1, e2, if_neg (by simp)]
  unfold reTextOf
  refine wpAny_bind (wpAny_bind (wpAny_pure ?_))
  dsimp only
  refine wpAny_pure ?_
  dsimp only
  unfold reSlice
  rw [if_pos (show ((0 : Nat) == 0) = true from rfl), Int.toNat_natCast, Int.toNat_natCast]
  refine wpAny_mkStr (wpAny_pure ⟨_, rfl, h⟩) ?_
  show (x.cps.extract b e).size ≤ _
  rw [sizeLine_eq, Array.size_extract]
  omega

theorem mod_pct {y : Str} {t u : Tok} {Q : Value → Shared → Prop} (hy : y.length ≤ 1000000) (h : ∀ t' k, Q (.str (Str.ofString "%" ++ y) t') { s with toks := k }) :
    wpAny (model P0 w) A (binaryOp .Mod (.str (Str.ofString "%%%s") t) (.str y u)) Q E s := by
  refine KPc.mod_str (X' := Str.mk #[37, 37, 37, 115]) (T := fun z => Str.ofString "%" ++ z) (by decide +kernel) hy ?_ h
  kpc_run_s

theorem c_upper (T : TopAt w s.heap) (R : Room A 1) {r : Addr} {x : Str} {b e : Nat} (X : Mt s.heap r x b e) (hl : x.cps.size ≤ 1000) :
    wpAny (model P0 w) A (call (.ref 142) [.ref r]) (fun v s' => Keeps s s' ∧ ∃ t, v = .str (Str.ofString "%" ++ Txt.upper ⟨x.cps.extract b e⟩) t) E s := by
  have ho := Eq.refl ((Mine.K0 w.params).lookup 142)
  conv at ho => rhs; whnf
  conv at ho => rhs; pattern (paOf _); whnf
  conv at ho => rhs; pattern (boOf _); whnf
  conv at ho => rhs; pattern (scOf _); whnf
  refine enter (f := 142) (k := 0) (binds := [(Str.ofString "match", .ref r)]) T R ho (by k_is) rfl (locs rfl) (by decide) (fun L h₁ tk a R' => ?_)
  have X' : Mt h₁ r x b e := by
    obtain ⟨t, p, n, li, T, h1, o, a', c, k, h2, hd⟩ := X.m
    exact ⟨t, p, n, li, T, a.keep _ _ h1, o, a', c, k, a.keep _ _ h2, hd⟩
  have hx : (⟨x.cps.extract b e⟩ : Str).length ≤ 1000 := by
    show (x.cps.extract b e).size ≤ 1000
    rw [Array.size_extract]; omega
  refine xs_ret (wpAny_BinOp ?_)
  walk_at "k"
  refine Call_method0 rfl rfl (Call_method1 rfl rfl rfl ?_)
  walk_at "nm"
  refine ⟨"re.Match", "re.Match.group", plainAttrs_match, slot_match_group, type_match_group, (let ⟨_, _, _, _, _, e, _⟩ := X'.m; ⟨_, e, rfl⟩), (fun b hb => by cases hb; obtain ⟨_, _, _, _, _, e, _⟩ := X'.m; exact ⟨_, e, rfl⟩), ?_⟩
  refine callWith_builtin rfl (evalArgs_plain (spliced_cons ?_))
  walk_at "k"
  refine spliced_nil ?_
  refine group1 X' hl ?_
  have hu : (Txt.upper ⟨x.cps.extract b e⟩).length ≤ 3 * (⟨x.cps.extract b e⟩ : Str).length := len_upper _
  refine SB.upper (fit_upper (by omega)) ?_
  refine mod_pct (by omega) fun t' k => ?_
  exact ⟨⟨_, _, rfl, a.keep⟩, _, rfl⟩
end
end PUp
section PPc
/-- the pieces, as they are spelled and as they are told -/
noncomputable def spl (d : Nat) : Str := match d with
  | 0 => Str.ofString "." | 1 => Str.ofString "90" | 2 => Str.ofString "%2a" | 3 => Str.ofString "%2A" | 4 => Str.ofString "%3c"
  | 5 => Str.ofString "%cF" | 6 => Str.ofString "%g7a" | 7 => Str.ofString "\n" | 8 => Str.ofString "%7e" | _ => Str.ofString "٣"
noncomputable def tol (d : Nat) : Str := match d with
  | 0 => Str.ofString "." | 1 => Str.ofString "90" | 2 => Str.ofString "%2A" | 3 => Str.ofString "%2A" | 4 => Str.ofString "%3C"
  | 5 => Str.ofString "%CF" | 6 => Str.ofString "%g7a" | 7 => Str.ofString "\n" | 8 => Str.ofString "%7E" | _ => Str.ofString "٣"
namespace Rx
open PySem.Sre
noncomputable def C2 : List Nat := [14, 8, 1, 3, 3, 1, 1, 37, 0, 16, 37, 17, 0, 13, 11, 9, 0, 67043328, 126, 126, 0, 0, 0, 0, 0, 13, 11, 9, 0, 67043328, 126, 126, 0, 0, 0, 0, 0, 17, 1, 1]
/-- what the search of the escapes' pattern does on a text: nothing found -/
noncomputable def Fails (x : Str) : Prop := ∃ k, k ≤ 2 ^ 60 ∧ (it k (forSearch C2.toArray x.cps 1 0 x.cps.size false)).outcome = some .failed
/-- a match whose group lies from b to e -/
noncomputable def Finds (x : Str) (b e : Nat) : Prop := ∃ k, k ≤ 2 ^ 60 ∧ (it k (forSearch C2.toArray x.cps 1 0 x.cps.size false)).outcome = some .matched ∧
  ∀ p t, PySem.Builtin.Re.reNewMatch p (.str x t) 1 0 x.cps.size (it k (forSearch C2.toArray x.cps 1 0 x.cps.size false)) =
    (do newFields "re.Match" [.str x t, p, rawInt 0, rawInt x.cps.size, rawInt (it k (forSearch C2.toArray x.cps 1 0 x.cps.size false)).lastindex, ← newTuple [rawInt (it k (forSearch C2.toArray x.cps 1 0 x.cps.size false)).start, rawInt (it k (forSearch C2.toArray x.cps 1 0 x.cps.size false)).handed, rawInt b, rawInt e]])
theorem sp0 : Fails (spl 0) := ⟨100, by decide, by kernel_rfl⟩
theorem sp1 : Fails (spl 1) := ⟨100, by decide, by kernel_rfl⟩
theorem sp2 : Finds (spl 2) 1 3 := ⟨100, by decide, by kernel_rfl, fun p t => by kernel_rfl⟩
theorem sp3 : Finds (spl 3) 1 3 := ⟨100, by decide, by kernel_rfl, fun p t => by kernel_rfl⟩
theorem sp4 : Finds (spl 4) 1 3 := ⟨100, by decide, by kernel_rfl, fun p t => by kernel_rfl⟩
theorem sp5 : Finds (spl 5) 1 3 := ⟨100, by decide, by kernel_rfl, fun p t => by kernel_rfl⟩
theorem sp6 : Fails (spl 6) := ⟨100, by decide, by kernel_rfl⟩
theorem sp7 : Fails (spl 7) := ⟨100, by decide, by kernel_rfl⟩
theorem sp8 : Finds (spl 8) 1 3 := ⟨100, by decide, by kernel_rfl, fun p t => by kernel_rfl⟩
theorem sp9 : Fails (spl 9) := ⟨100, by decide, by kernel_rfl⟩
end Rx
theorem up2 : Str.ofString "%" ++ Txt.upper ⟨(spl 2).cps.extract 1 3⟩ = tol 2 := by decide +kernel
theorem up3 : Str.ofString "%" ++ Txt.upper ⟨(spl 3).cps.extract 1 3⟩ = tol 3 := by decide +kernel
theorem up4 : Str.ofString "%" ++ Txt.upper ⟨(spl 4).cps.extract 1 3⟩ = tol 4 := by decide +kernel
theorem up5 : Str.ofString "%" ++ Txt.upper ⟨(spl 5).cps.extract 1 3⟩ = tol 5 := by decide +kernel
theorem up8 : Str.ofString "%" ++ Txt.upper ⟨(spl 8).cps.extract 1 3⟩ = tol 8 := by decide +kernel
end PPc
section PGr
section
variable {w : World} {A : Around} {E : Value → Shared → Prop} {s : Shared}
theorem pat_esc {h : Heap} (T : TopAt w h) : Pat h 135 134 Rx.C2 1 := by
  refine ⟨⟨_, _, _, T.kin _ _ (by k_is)⟩, _, 0, T.kin _ _ (by k_is), rfl⟩

theorem c_great_gen (T : TopAt w s.heap) (R : Room A 2) (x y : Str) (t : Tok) (hz : x.cps.size ≤ 1000) (hf : (Rx.Fails x ∧ y = x) ∨ ∃ b e, Rx.Finds x b e ∧ Str.ofString "%" ++ Txt.upper ⟨x.cps.extract b e⟩ = y) :
    wpAny (model P0 w) A (call (.ref 171) [.str x t]) (fun v s' => Keeps s s' ∧ ∃ t', v = .str y t') E s := by
  have ho := Eq.refl ((Mine.K0 w.params).lookup 171)
  conv at ho => rhs; whnf
  conv at ho => rhs; pattern (paOf _); whnf
  conv at ho => rhs; pattern (boOf _); whnf
  conv at ho => rhs; pattern (scOf _); whnf
  refine enter (f := 171) (k := 1) (binds := [(Str.ofString "piece", .str x t)]) T R ho (by k_is) rfl (locs rfl) (by decide) (fun L h₁ tk a R' => ?_)
  refine xs_asg (Call_method1 rfl rfl rfl ?_)
  walk_at "nm"
  have X := pat_esc (a.top.keeps a.keep)
  refine ⟨"re.Pattern", "re.Pattern.search", plainAttrs_pat, slot_pat_search, type_pat_search, (let ⟨_, _, _, e⟩ := X.pat; ⟨_, e, rfl⟩), (fun b hb => by cases hb; obtain ⟨_, _, _, e⟩ := X.pat; exact ⟨_, e, rfl⟩), ?_⟩
  refine callWith_builtin rfl (evalArgs_plain (spliced_cons ?_))
  walk_at "nm"
  refine spliced_nil ?_
  dsimp only
  rcases hf with ⟨⟨k, hk, ho⟩, rfl⟩ | ⟨b, e, ⟨k, hk, ho, hn⟩, hy⟩
  · refine search_failed X (by omega) ho hk ?_
    walk_at "st"
    intro h₂ tk₂ a₂ k₂
    refine xs_if (wpAny_isTrue_Compare1 ?_)
    walk_at "nm"
    walk_at "k"
    walk_at "k"
    walk_at "k"
    simp only [if_true]
    refine xs_ret ?_
    walk_at "nm"
    exact Nx.out ⟨⟨_, _, rfl, a₂.keep⟩, _, rfl⟩
  · refine search_matched X (by omega) (m := _) rfl ho hk (hn _ _) (by show 4 ≤ 1000; decide) (fun Tt r h' h1 h2 k2 hr => ?_)
    have a1 := a.grow k2
    walk_at "st"
    intro h₂ tk₂ a₂ k₂
    have rL : ∀ b o, h'.get? b = some o → (∃ f, o.data = .fields f) ∨ (∃ i n, o.data = .seq i n) → h₂.get? b = some o := fun b o e hd => k₂ b o (by
      rintro rfl
      obtain ⟨m, ⟨oL, es, ep, eL, dL, _⟩, _⟩ := a1.loc
      rw [show oL = o from Option.some.inj (eL.symm.trans e)] at dL
      rcases hd with ⟨f, q⟩ | ⟨i, n, q⟩ <;> rw [q] at dL <;> cases dL) e
    have M : Mt h₂ r x b e := ⟨t, _, _, _, Tt, rL _ _ h2 (.inl ⟨_, rfl⟩), _, _, _, 0, rL _ _ h1 (.inr ⟨_, _, rfl⟩), rfl⟩
    refine xs_if (wpAny_isTrue_Compare1 ?_)
    walk_at "nm"
    walk_at "k"
    walk_at "k"
    walk_at "k"
    simp only [Bool.false_eq_true, if_false]
    refine xs_nil (Nx.go (xs_ret (Call_ ?_)))
    walk_at "nm"
    walk_at "cw"
    refine args_cons ?_
    walk_at "nm"
    refine args_nil ?_
    dsimp only
    refine ⟨a₂.top.keeps a₂.keep, by_con (fun E => c_upper (a₂.top.keeps a₂.keep) R' M hz) ?_⟩
    rintro v s' ⟨k3, t', rfl⟩
    exact ⟨keeps_trans ⟨_, _, rfl, a₂.keep⟩ k3, t', by rw [hy]; rfl⟩

theorem c_great (T : TopAt w s.heap) (R : Room A 2) (d : Nat) (hd : d < 10) (t : Tok) :
    wpAny (model P0 w) A (call (.ref 171) [.str (spl d) t]) (fun v s' => Keeps s s' ∧ ∃ t', v = .str (tol d) t') E s := by
  have z : ∀ d, d < 10 → (spl d).cps.size ≤ 1000 := by decide +kernel
  refine c_great_gen T R (spl d) (tol d) t (z d hd) ?_
  match d, hd with
  | 0, _ => exact .inl ⟨Rx.sp0, rfl⟩
  | 1, _ => exact .inl ⟨Rx.sp1, rfl⟩
  | 2, _ => exact .inr ⟨1, 3, Rx.sp2, up2⟩
  | 3, _ => exact .inr ⟨1, 3, Rx.sp3, up3⟩
  | 4, _ => exact .inr ⟨1, 3, Rx.sp4, up4⟩
  | 5, _ => exact .inr ⟨1, 3, Rx.sp5, up5⟩
  | 6, _ => exact .inl ⟨Rx.sp6, rfl⟩
  | 7, _ => exact .inl ⟨Rx.sp7, rfl⟩
  | 8, _ => exact .inr ⟨1, 3, Rx.sp8, up8⟩
  | 9, _ => exact .inl ⟨Rx.sp9, rfl⟩
end
end PGr
section PF1
section
variable {w : World} {A : Around} {E : Value → Shared → Prop} {s : Shared}
theorem c_isterm (T : TopAt w s.heap) (R : Room A 1) (x : Int) (t : Tok) :
    wpAny (model P0 w) A (call (.ref 152) [.int x t]) (fun v s' => Keeps s s' ∧ v = .bool (decide (x < 256))) E s := by
  have ho := Eq.refl ((Mine.K0 w.params).lookup 152)
  conv at ho => rhs; whnf
  conv at ho => rhs; pattern (paOf _); whnf
  conv at ho => rhs; pattern (boOf _); whnf
  conv at ho => rhs; pattern (scOf _); whnf
  refine enter (f := 152) (k := 0) (binds := [(Str.ofString "x", .int x t)]) T R ho (by k_is) rfl (locs rfl) (by decide) (fun L h₁ tk a R' => ?_)
  refine xs_ret (wpAny_Compare1 ?_)
  walk_at "nm"
  walk_at "nm"
  walk_at "k"
  exact ⟨⟨_, _, rfl, a.keep⟩, rfl⟩
end
end PF1
section PSq
section
variable {w : World} {A : Around} {E : Value → Shared → Prop} {s : Shared} {env : Env}

theorem mk_list {vs : List Value} {Q : Value → Shared → Prop} (hz : vs.length ≤ 10000) (h : ∀ D h', h'.PlainList D vs.toArray → Kp s.heap h' → s.heap.get? D = none → Q (.ref D) { s with heap := h' }) :
    wpAny (model P0 w) A (newList vs) Q E s :=
  wpAny_newObj_type (h _ _ ⟨0, Heap.get?_push_size _ rfl⟩ (fun _ _ e => Heap.get?_push_of_some _ e) (fresh_size _)) (by show vs.toArray.size ≤ sizeLine; rw [List.size_toArray, sizeLine_eq]; omega)
theorem mk_tuple {vs : List Value} {Q : Value → Shared → Prop} (hz : vs.length ≤ 10000) (h : ∀ D h', h'.IsTuple D vs.toArray → Kp s.heap h' → s.heap.get? D = none → Q (.ref D) { s with heap := h' }) :
    wpAny (model P0 w) A (newTuple vs) Q E s :=
  wpAny_newObj_type (h _ _ ⟨_, Heap.get?_push_size _ rfl, rfl, 0, rfl⟩ (fun _ _ e => Heap.get?_push_of_some _ e) (fresh_size _)) (by show vs.toArray.size ≤ sizeLine; rw [List.size_toArray, sizeLine_eq]; omega)

theorem tl_list {value slice : Expr} {l : Addr} {items : Array Value} {k : Int} {u : Tok} {x : Value} {Q : Value → Shared → Prop} (hl : s.heap.IsList l items)
    (h0 : 0 ≤ k) (hhi : k < 2 ^ 63) (hx : items[k.toNat]? = some x) (h : Q x s)
    (hs : subscripted slice false (.ref l) (.int k u) = operate [.ref l, .int k u] (getItem (.ref l) (.int k u)) := by with_unfolding_all rfl) :
    wpAny (model P0 w) A (subscriptTail value slice (.ref l) (.int k u)) Q E s :=
  tail_any hl.typeIs slot_list_getitem.lookup (wpAny_getItem_list hl h0 hhi hx h) hs
theorem tl_listn {value slice : Expr} {l : Addr} {items : Array Value} {k : Int} {u : Tok} {x : Value} {Q : Value → Shared → Prop} (hl : s.heap.IsList l items)
    (h0 : k < 0) (h1 : -(items.size : Int) ≤ k) (hhi : -(2 ^ 63) ≤ k) (hx : items[(k + items.size).toNat]? = some x) (h : Q x s)
    (hs : subscripted slice false (.ref l) (.int k u) = operate [.ref l, .int k u] (getItem (.ref l) (.int k u)) := by with_unfolding_all rfl) :
    wpAny (model P0 w) A (subscriptTail value slice (.ref l) (.int k u)) Q E s :=
  tail_any hl.typeIs slot_list_getitem.lookup (wpAny_getItem_list_neg hl h0 h1 hhi hx h) hs
theorem tl_tuple {value slice : Expr} {l : Addr} {items : Array Value} {k : Int} {u : Tok} {x : Value} {Q : Value → Shared → Prop} (hl : s.heap.IsTuple l items)
    (h0 : 0 ≤ k) (hhi : k < 2 ^ 63) (hx : items[k.toNat]? = some x) (h : Q x s)
    (hs : subscripted slice false (.ref l) (.int k u) = operate [.ref l, .int k u] (getItem (.ref l) (.int k u)) := by with_unfolding_all rfl) :
    wpAny (model P0 w) A (subscriptTail value slice (.ref l) (.int k u)) Q E s := by
  have hlt : k.toNat < items.size := by
    apply Nat.lt_of_not_le
    intro q
    rw [Array.getElem?_eq_none q] at hx; cases hx
  exact tail_any (T := "tuple") (by obtain ⟨o, e, c, _⟩ := hl; exact ⟨o, e, c⟩) slot_tuple_getitem.lookup (getItem_tuple (j := k.toNat) hl (by omega) hhi (by unfold seqIndex?; simp; omega) hx h) hs

theorem sl_list {value : Expr} {lower upper : Option Expr} {p pos : Pos} {Q : Value → Shared → Prop}
    (h : wpAny (model P0 w) A (eval value env) (fun o s₁ => wpAny (model P0 w) A (evalPart lower env) (fun vl s₂ => wpAny (model P0 w) A (evalPart upper env) (fun vu s₃ =>
      ∃ l items lo hi, o = .ref l ∧ s₃.heap.IsList l items ∧ items.size ≤ sizeLine ∧ IsPart vl lo ∧ IsPart vu hi ∧
        ∀ D h', s₃.heap.get? D = none → Kp s₃.heap h' → h'.PlainList D (slicePick items lo hi none) → Q (.ref D) { s₃ with heap := h' }) E s₂) E s₁) E s) :
    wpAny (model P0 w) A (eval (.Subscript value (.Slice lower upper none p) pos) env) Q E s := by
  refine Subscript_ (wpAny_mono h (fun o s₁ h₁ => wpAny_Slice (wpAny_mono h₁ (fun vl s₂ h₂ => wpAny_mono h₂ (fun vu s₃ h₃ => evalPart_none_step ?_) fun _ _ e => e) fun _ _ e => e)) fun _ _ e => e)
  obtain ⟨l, items, lo, hi, rfl, hl, hsz, pl, pu, hQ⟩ := h₃
  have hl' := hl.push { cls := .type "slice", data := .fields #[vl, vu, .none] }
  refine tail_any (s := { s₃ with heap := s₃.heap.push { cls := .type "slice", data := .fields #[vl, vu, .none] } }) (Heap.IsList.typeIs (s := { s₃ with heap := s₃.heap.push { cls := .type "slice", data := .fields #[vl, vu, .none] } }) hl') slot_list_getitem.lookup
    (wpAny_getItem_list_slice hl' (Heap.IsSliceOf.new ..) pl pu .none (by simp) ?_ hsz) (by rfl)
  refine hQ _ _ ?_ (fun b o e => Heap.get?_push_of_some _ (Heap.get?_push_of_some _ e)) ⟨0, Heap.get?_push_size _ rfl⟩
  cases e : s₃.heap.get? (s₃.heap.push { cls := .type "slice", data := .fields #[vl, vu, .none] }).objs.size with
  | none => rfl
  | some o =>
    have := Heap.lt_size e
    rw [Heap.size_push] at this
    exact absurd this (Nat.not_lt.mpr (Nat.le_succ _))

theorem first_places (b n : Nat) : (match Builtin.Slice.sliceAdjust none (some (b : Int)) 1 (n : Int) with | (lo, hi) => (lo, (1 : Int), Builtin.Slice.slicePlaces lo hi 1)) = ((0 : Int), (1 : Int), min b n) := by
  have e : Builtin.Slice.sliceAdjust none (some (b : Int)) 1 (n : Int) = (0, min (b : Int) n) := by
    simp [Builtin.Slice.sliceAdjust, show ¬ (b : Int) < 0 by omega]
    try omega
  rw [e]
  have e' : Builtin.Slice.slicePlaces 0 (min (b : Int) n) 1 = min b n := by
    simp [Builtin.Slice.slicePlaces]
    try omega
  dsimp only
  rw [e']
theorem sliceApplied_upto {sl : Addr} {b n : Nat} {u : Tok} {Q : Int × Int × Nat → Shared → Prop} (hs : s.heap.IsSliceOf sl .none (.int b u) .none) (h : Q (0, 1, min b n) s) :
    wpAny (model P0 w) A (Builtin.Slice.sliceApplied (.ref sl) (pure (n : Int))) Q E s := by
  obtain ⟨⟨_, dd, _, so⟩, hos, rfl, rfl⟩ := hs
  have part : ∀ Q E, Q (some (b : Int)) s → wpAny (model P0 w) A (Builtin.Slice.slicePartIndex (#[Value.none, Value.int b u, Value.none][1])) Q E s := fun _ _ q => slicePart_int q
  wp_walk using part
  have e := first_places b n
  rw [← e] at h
  exact h
theorem pick_upto (xs : Array Value) (a : Nat) (ha : a ≤ xs.size) : ((List.range a).filterMap fun (k : Nat) => xs[((0 : Int) + (k : Int) * 1).toNat]?).toArray = (xs.toList.take a).toArray := by
  congr 1
  have e : (fun (k : Nat) => xs[((0 : Int) + (k : Int) * 1).toNat]?) = fun k => xs[k]? := by
    funext k
    have : ((0 : Int) + (k : Int) * 1).toNat = k := by omega
    rw [this]
  rw [e]
  clear e
  induction a with
  | zero => simp
  | succ a ih =>
    rw [List.range_succ, List.filterMap_append, ih (by omega), List.take_add_one]
    have hx : xs[a]? = some xs[a] := Array.getElem?_eq_getElem (by omega)
    simp [hx, List.filterMap_cons]
theorem getItem_tuple_upto {t sl : Addr} {items : Array Value} {b : Nat} {u : Tok} {Q : Value → Shared → Prop} (ht : s.heap.IsTuple t items) (hs : s.heap.IsSliceOf sl .none (.int b u) .none)
    (hz : items.size ≤ 10000) (h : ∀ D h', h'.IsTuple D (items.toList.take b).toArray → Kp s.heap h' → Q (.ref D) { s with heap := h' }) : wpAny (model P0 w) A (getItem (.ref t) (.ref sl)) Q E s := by
  have htI : IsTup s.heap t items := ht
  have htake : sizeOk (.seq (items.toList.take (min b items.size)).toArray) := by
    show (items.toList.take _).toArray.size ≤ sizeLine
    rw [List.size_toArray, List.length_take, Array.length_toList, sizeLine_eq]
    omega
  obtain ⟨os, hos, hcs, hds⟩ := id hs
  have hTs : s.TypeIs (.ref sl) "slice" := ⟨os, hos, hcs⟩
  unfold getItem
  try with_reducible refine wpAny_holding ?_
  first | refine wpAny_bind (wpAny_pure ?_) | skip
  refine wpAny_bind (wpAny_sequenceKey htI.typeIs (by decide) ?_)
  refine wpAny_bind (wpAny_callSpecial?_slot (name := Str.ofString "__getitem__") htI.typeIs slot_tuple_getitem
    (wpAny_call_entry slot_tuple_getitem htI.typeIs entry_tuple_getitem ?_ (args_tuple_getitem _ _)))
  show wpAny _ _ (Builtin.Tuple.tupleItemsOf (.ref t) >>= _) _ _ s
  refine wpAny_bind (tupleItemsOf_ htI ?_)
  refine wpAny_bind (wpAny_typeOf hTs ?_)
  rw [if_pos (by decide)]
  refine wpAny_bind (sliceApplied_upto hs ?_)
  show wpAny _ _ (if ((0 : Int) == 0 && (1 : Int) == 1 && (min b items.size) == items.size) = true then _ else _) _ _ s
  split
  · rename_i hc
    have hb : items.size ≤ b := by
      simp only [Bool.and_eq_true, beq_iff_eq] at hc
      have := hc.2
      omega
    have e : (items.toList.take b).toArray = items := by rw [List.take_of_length_le (by simpa using hb)]
    have fin := h t s.heap (by rw [e]; exact ht) Kp.rfl
    refine wpAny_bind (wpAny_bind (wpAny_typeOf htI.typeIs (wpAny_pure ?_)))
    rw [if_pos (by decide)]
    exact wpAny_bind (wpAny_rule (wpAny_bind (wpAny_pure (wpAny_pure ⟨_, rfl, wpAny_pure fin⟩))))
  · rw [pick_upto items _ (Nat.min_le_right _ _)]
    have e : items.toList.take (min b items.size) = items.toList.take b := by
      rw [← Array.length_toList, ← List.take_eq_take_min]
    rw [e] at htake ⊢
    have fin := h s.heap.objs.size _ ⟨_, Heap.get?_push_size s.heap (o := { cls := .type "tuple", data := .seq (items.toList.take b).toArray }) rfl, rfl, 0, rfl⟩ (fun _ _ e => Heap.get?_push_of_some _ e)
    first
      | exact wpAny_bind (m := Builtin.Tuple.tupleExact _) (wpAny_newObj_type (wpAny_pure ⟨_, rfl, wpAny_pure fin⟩) htake)
      | exact wpAny_bind (m := Builtin.Tuple.tupleExact _) (wpAny_newObj_type (wpAny_bind (wpAny_pure (wpAny_pure ⟨_, rfl, wpAny_pure fin⟩))) htake)
      | exact wpAny_bind (wpAny_bind (m := Builtin.Tuple.tupleExact _) (wpAny_newObj_type (wpAny_pure (wpAny_pure ⟨_, rfl, wpAny_pure fin⟩)) htake))
      | exact wpAny_bind (wpAny_bind (m := Builtin.Tuple.tupleExact _) (wpAny_newObj_type (wpAny_pure ⟨_, rfl, wpAny_pure fin⟩) htake))
theorem sl_tuple {value : Expr} {upper : Expr} {p pos : Pos} {Q : Value → Shared → Prop}
    (h : wpAny (model P0 w) A (eval value env) (fun o s₁ => wpAny (model P0 w) A (eval upper env) (fun vu s₃ =>
      ∃ l items, ∃ (b : Nat) (u : Tok), o = .ref l ∧ vu = .int b u ∧ s₃.heap.IsTuple l items ∧ items.size ≤ 10000 ∧
        ∀ D h', Kp s₃.heap h' → h'.IsTuple D (items.toList.take b).toArray → Q (.ref D) { s₃ with heap := h' }) E s₁) E s) :
    wpAny (model P0 w) A (eval (.Subscript value (.Slice none (some upper) none p) pos) env) Q E s := by
  refine Subscript_ (wpAny_mono h (fun o s₁ h₁ => wpAny_Slice (evalPart_none_step (wpAny_mono h₁ (fun vu s₃ h₃ => evalPart_none_step ?_) fun _ _ e => e))) fun _ _ e => e)
  obtain ⟨l, items, b, u, rfl, rfl, hl, hz, hQ⟩ := h₃
  have hl' : (s₃.heap.push { cls := .type "slice", data := .fields #[.none, .int b u, .none] }).IsTuple l items := hl.at fun o e => Heap.get?_push_of_some _ e
  refine tail_any (s := { s₃ with heap := s₃.heap.push { cls := .type "slice", data := .fields #[.none, .int b u, .none] } }) (T := "tuple") (by obtain ⟨o, e, c, _⟩ := hl'; exact ⟨o, e, c⟩) slot_tuple_getitem.lookup
    (getItem_tuple_upto hl' (Heap.IsSliceOf.new ..) hz fun D h' ht k => hQ D h' (fun b o e => k b o (Heap.get?_push_of_some _ e)) ht) (by rfl)

theorem add_lst {l b : Addr} {xs ys : Array Value} {Q : Value → Shared → Prop} (hl : s.heap.IsList l xs) (hb : s.heap.IsList b ys) (hz : xs.size + ys.size ≤ 10000)
    (h : ∀ D h', s.heap.get? D = none → Kp s.heap h' → h'.PlainList D (xs ++ ys) → Q (.ref D) { s with heap := h' }) :
    wpAny (model P0 w) A (binaryOp .Add (.ref l) (.ref b)) Q E s := by
  obtain ⟨⟨cls, dd, data, sl⟩, ho, hc, n, hd⟩ := id hl
  obtain ⟨⟨cls2, dd2, data2, sl2⟩, ho2, hc2, n2, hd2⟩ := id hb
  simp only at hc hd hc2 hd2
  subst hc hd hc2 hd2
  refine concat_meets ⟨_, ho, rfl⟩ ⟨_, ho2, rfl⟩ noFill_list_add seq_list_add PySem.F.slot_list_add PySem.F.entry_list_add (PySem.F.args_list_add_2 _ _) (list_addW l b xs ys n n2 dd dd2 sl sl2 (by rw [sizeLine_eq]; omega)) ⟨ho, ho2, ?_⟩
  exact h _ _ (fresh_size _) (fun _ _ e => Heap.get?_push_of_some _ e) ⟨0, Heap.get?_push_size _ rfl⟩
end
end PSq
section PIt
section
variable {w : World} {A : Around} {E : Value → Shared → Prop} {s : Shared} {env : Env} {ρ : Str → Option Value} {B : Heap}
theorem ns_range : nsIn (Mine.K0 w.params) mainGlobals (Str.ofString "range") = some none := by k_is
theorem ns_len : nsIn (Mine.K0 w.params) mainGlobals (Str.ofString "len") = some none := by k_is

theorem it_range1 {e : Expr} {p1 p2 : Pos} {n : Nat} (a : At w env ρ B s.heap) (hh : A.handled = none) (hk : env.kindOf (Str.ofString "range") = some .globalImplicit) (hn : n < 1000000)
    (h : wpAny (model P0 w) A (eval e env) (fun v s₁ => Keeps s s₁ ∧ ∃ t, v = .int n t) E s)
    (he : starEach [e] env = (false, eval e env) :: starEach [] env := by rfl) :
    wpAny (model P0 w) A (eval (.Call (.Name (Str.ofString "range") p1) [e] [] p2) env) (fun xv s₁ => Keeps s s₁ ∧ Iters w A s₁.heap xv [] n (fun i v => ∃ t, v = .int i t)) E s := by
  refine Call_ ?_
  refine ld_boot a ns_range boot_range' (by decide) ?_ hk
  refine PyProof.Rows.callWith_type1 (args_cons (wpAny_mono h (fun v s₁ q => args_nil ?_) fun _ _ e => e) he) he
  obtain ⟨k, t, rfl⟩ := q
  refine call_range_1 ?_
  refine ⟨keeps_trans k ⟨_, _, rfl, fun _ _ e => Heap.get?_push_of_some _ e⟩, ?_⟩
  have := iters_range (w := w) (A := A) hh (IsRange.new s₁.heap 0 n 1 s₁.toks t (s₁.toks + 1)) (by omega) (by omega) (by omega) (by omega)
  simpa using this
theorem it_range2 {e1 e2 : Expr} {p1 p2 : Pos} {a0 b0 : Nat} (a : At w env ρ B s.heap) (hh : A.handled = none) (hk : env.kindOf (Str.ofString "range") = some .globalImplicit) (ha : a0 < 1000000) (hb : b0 < 1000000)
    (h : wpAny (model P0 w) A (eval e1 env) (fun v s₁ => (∃ t, v = .int a0 t) ∧ wpAny (model P0 w) A (eval e2 env) (fun u s₂ => Keeps s s₂ ∧ ∃ t, u = .int b0 t) E s₁) E s)
    (he : starEach [e1, e2] env = (false, eval e1 env) :: starEach [e2] env := by rfl) (he2 : starEach [e2] env = (false, eval e2 env) :: starEach [] env := by rfl) :
    wpAny (model P0 w) A (eval (.Call (.Name (Str.ofString "range") p1) [e1, e2] [] p2) env) (fun xv s₁ => Keeps s s₁ ∧ Iters w A s₁.heap xv [] (b0 - a0) (fun i v => ∃ t, v = .int (a0 + i : Nat) t)) E s := by
  refine Call_ ?_
  refine ld_boot a ns_range boot_range' (by decide) ?_ hk
  refine PyProof.Rows.callWith_type1 (args_cons (wpAny_mono h (fun v s₁ q => args_cons (wpAny_mono q.2 (fun u s₂ q₂ => args_nil ?_) fun _ _ e => e) he2) fun _ _ e => e) he) he (by rw [he2]; rfl)
  obtain ⟨t, rfl⟩ := q.1
  obtain ⟨k, t', rfl⟩ := q₂
  refine call_range_2 ?_
  refine ⟨keeps_trans k ⟨_, _, rfl, fun _ _ e => Heap.get?_push_of_some _ e⟩, ?_⟩
  have := iters_range (w := w) (A := A) hh (IsRange.new s₂.heap a0 b0 1 t t' s₂.toks) (by omega) (by omega) (by omega) (by omega)
  have e1 : ((b0 : Int) - (a0 : Int)).toNat = b0 - a0 := by omega
  rw [e1] at this
  simpa using this
theorem ev_len {e : Expr} {p1 p2 : Pos} {Q : Value → Shared → Prop} (a : At w env ρ B s.heap) (hk : env.kindOf (Str.ofString "len") = some .globalImplicit)
    (h : wpAny (model P0 w) A (eval e env) (fun v s₁ => ∃ l items, v = .ref l ∧ (s₁.heap.IsList l items ∨ s₁.heap.IsTuple l items) ∧ items.size < 1000000 ∧ ∀ t tk, Q (.int items.size t) { s₁ with toks := tk }) E s)
    (he : starEach [e] env = (false, eval e env) :: starEach [] env := by rfl) :
    wpAny (model P0 w) A (eval (.Call (.Name (Str.ofString "len") p1) [e] [] p2) env) Q E s := by
  refine Call_ ?_
  refine ld_boot a ns_len boot_len' (by decide) ?_ hk
  refine PyProof.Rows.callWith_builtin1 (args_cons (wpAny_mono h (fun v s₁ q => args_nil ?_) fun _ _ e => e) he) he
  obtain ⟨l, items, rfl, hl, hz, hQ⟩ := q
  rcases hl with hl | hl
  · exact call_len_list hl (by omega) (hQ _ _)
  · exact PyProof.Rows.len_tuple hl (by omega) (hQ _ _)
end
end PIt
section PSt
inductive AllP {α : Type} (P : α → Prop) : List α → Prop
  | nil : AllP P []
  | cons {a l} : P a → AllP P l → AllP P (a :: l)
theorem AllP.all {α : Type} {P : α → Prop} : ∀ {l : List α}, AllP P l → ∀ a ∈ l, P a
  | _, .cons h r, a, hm => by
    rcases List.mem_cons.mp hm with rfl | hm
    · exact h
    · exact AllP.all r a hm
theorem Static.of {env : Env} {scope : Scope} {x : Str} {cl : List (Str × Addr)} (clos : closureFor scope env = pure cl) (kind : scope.kind = .function)
    (own : ∀ y ∈ scope.names, y.2 = .local → scope.names.lookup y.1 = some .local)
    (nm : scope.names.all (fun p => p.2 != .local || p.1 == Str.ofString ".0" || p.1 == x) = true) (x0 : x ≠ Str.ofString ".0")
    (fr : AllP (fun p => p.2 = .free → (env.kindOf p.1 = some .cell ∨ env.kindOf p.1 = some .free) ∧ cl.lookup p.1 = env.cells.lookup p.1 ∧ p.1 ≠ Str.ofString ".0") scope.names)
    (clo : AllP (fun p => scope.names.lookup p.1 = some .free) cl) (N : Names scope x cl) : Static env scope x cl := by
  refine ⟨clos, kind, own, fun y hy => ?_, x0, fun y hy => fr.all _ (mem_of_lookup hy) rfl, fun y c hc => clo.all _ (mem_of_lookup hc), N⟩
  have := List.all_eq_true.mp nm _ (mem_of_lookup hy)
  simp only [Bool.or_eq_true, beq_iff_eq] at this
  rcases this with (h | h) | h
  · cases h
  · exact .inl h
  · exact .inr h
section
variable {w : World} {A : Around} {E : Value → Shared → Prop} {s : Shared}
theorem ints_at {vs : List Value} {ns : List Int} (h : IntsAre vs ns) {i : Nat} (hi : i < ns.length) : ∃ t, vs[i]? = some (.int ns[i] t) := by
  obtain ⟨t, e⟩ := h.get i ns[i] (by simp [hi])
  exact ⟨t, e⟩
theorem ints_set : ∀ {vs : List Value} {ns : List Int}, IntsAre vs ns → ∀ (i : Nat) (n : Int) (t : Tok), IntsAre (vs.set i (.int n t)) (ns.set i n)
  | _, _, .nil, _, _, _ => .nil
  | _, _, .cons _ _ h, 0, n, t => .cons n t h
  | _, _, .cons m u h, i + 1, n, t => .cons m u (ints_set h i n t)
theorem At.new {env : Env} {ρ : Str → Option Value} {B h : Heap} {D : Addr} (a : At w env ρ B h) (f : h.get? D = none) : B.get? D = none ∧ D ≠ env.locals ∧ ∀ y c, (env.kindOf y = some .cell ∨ env.kindOf y = some .free) → env.cells.lookup y = some c → D ≠ c := by
  refine ⟨?_, ?_, fun y c hk e => ?_⟩
  · cases q : B.get? D with
    | none => rfl
    | some o => rw [a.keep _ _ q] at f; cases f
  · rintro rfl
    obtain ⟨m, ⟨o, _, _, e, _⟩, _⟩ := a.loc
    rw [f] at e; cases e
  · rintro rfl
    obtain ⟨c', h1, ⟨o, h2, _⟩, _⟩ := a.cel y hk
    rw [e] at h1; cases h1
    rw [f] at h2; cases h2
theorem keeps_of {h' : Heap} {tk : Nat} (k : Kp s.heap h') : Keeps s { s with heap := h', toks := tk } := ⟨_, _, rfl, k⟩
/-- no test, one test -/
theorem test_none {env : Env} {s' : Shared} : TestP w A [] env true s' E := wpAny_tests_nil ⟨rfl, keeps_rfl⟩
theorem test_one {c : Expr} {env : Env} {p : Bool} {s' : Shared} (h : wpAny (model P0 w) A (isTrue c env (eval c env)) (fun ok s₃ => ok = p ∧ Keeps s' s₃) E s') : TestP w A [c] env p s' E := wpAny_tests_one h
/-- the numbers of a comprehension -/
theorem ints_paired {F : Nat → Int} {P : Nat → Value → Prop} (hP : ∀ i v, P i v → ∃ t, v = .int (F i) t) : ∀ {is : List Nat} {ys : List Value}, Paired P is ys → IntsAre ys (is.map F)
  | _, _, .nil => .nil
  | _, _, .cons h r => by
    obtain ⟨t, rfl⟩ := hP _ _ h
    exact .cons _ _ (ints_paired hP r)
theorem elem_none {h₀ h : Heap} {D : Addr} {f : Nat → Value → Prop} {i : Nat} {y : Value} (x : ElemF (fun i y o => o = none ∧ f i y) h₀ D h i y) : f i y := by
  rcases x with x | ⟨T, o, _, _, _, _, x⟩
  · exact x.2
  · cases x.1
theorem filter_true (n : Nat) : (List.range n).filter (fun _ => true) = List.range n := List.filter_eq_self.mpr fun _ _ => rfl
theorem map_range_getD {α : Type} (xs : List Int) (f : Int → α) {n : Nat} (hn : n = xs.length) : (List.range n).map (fun i => f (xs.getD i 0)) = xs.map f := by
  subst hn
  apply List.ext_getElem
  · simp
  · intro i h1 h2
    simp at h1 h2 ⊢
    rw [List.getElem?_eq_getElem h1]; rfl
end
end PSt
local macro_rules | `(tactic| walk_at "static") => `(tactic| (refine Static.of rfl rfl (by decide) (by decide) (by decide) ?fr ?clo ?nam; (case fr => repeat' (first | exact AllP.nil | (refine AllP.cons (fun e => by first | exact absurd e (by decide) | exact ⟨.inl rfl, rfl, by decide⟩ | exact ⟨.inr rfl, rfl, by decide⟩) ?_))); (case clo => repeat' (first | exact AllP.nil | (refine AllP.cons rfl ?_))); (case nam => first | exact .loc rfl (by decide) | exact .cell rfl (fun _ => rfl) (fun _ => rfl))))
section PCe
section
variable {w : World} {A : Around} {E : Value → Shared → Prop} {s : Shared}
theorem c_cells (T : TopAt w s.heap) (R : Room A 1) {l : Addr} {vs : List Value} {ns : List Int} (hl : s.heap.IsList l vs.toArray) (hi : IntsAre vs ns) (hn : ns.length ≤ 63) :
    wpAny (model P0 w) A (call (.ref 157) [.ref l]) (fun v s' => Keeps s s' ∧ ∃ D ys cs, v = .ref D ∧ s'.heap.IsList D (List.toArray ys) ∧ IntsAre ys cs ∧ cs.length = 5 ∧ ∀ c ∈ cs, 0 ≤ c ∧ c < 1000) E s := by
  have ho := Eq.refl ((Mine.K0 w.params).lookup 157)
  conv at ho => rhs; whnf
  conv at ho => rhs; pattern (paOf _); whnf
  conv at ho => rhs; pattern (boOf _); whnf
  conv at ho => rhs; pattern (scOf _); whnf
  refine enter (f := 157) (k := 0) (binds := [(Str.ofString "script", .ref l)]) T R ho (by k_is) rfl (locs rfl) (by decide) (fun L h₁ tk a R' => ?_)
  have hl₁ : h₁.IsList l vs.toArray := hl.at fun o e => a.keep _ _ e
  have hvn : vs.length = ns.length := hi.length
  refine xs_asg (List_ ?_)
  repeat walk_at "k"
  refine mk_list (by show 5 ≤ 10000; decide) (fun D h₂ hD k₂ fD => ?_)
  have a₂ := a.grow k₂
  have nD := a.new fD
  walk_at "st"
  intro h₃ tk₃ a₃ k₃
  have s₃ := off_seq a₂ k₃
  -- the loop
  refine xs_one (for_local a₃ R'.h rfl [D] (fun i ρ h => ∃ ys xs, h.IsList D (List.toArray ys) ∧ IntsAre ys xs ∧ xs.length = 5 ∧ ρ (Str.ofString "cells") = some (.ref D) ∧ ρ (Str.ofString "script") = some (.ref l) ∧ h.IsList l vs.toArray) (n := ns.length)
    (it_range1 a₃ R'.h rfl (by omega) (ev_len a₃ rfl ?_)) ?_ (by simp) ?_ ?_ ?_ ?_)
  · walk_at "nm"
    refine ⟨l, _, rfl, .inl (s₃.list (hl₁.at fun o e => k₂ _ _ e)), by simp; omega, fun t tk => ⟨⟨_, _, rfl, fun _ _ e => e⟩, t, ?_⟩⟩
    simp [hvn]
  · intro b hb
    rw [List.mem_singleton.mp hb]
    obtain ⟨n, e⟩ := s₃.plain hD
    exact ⟨_, e⟩
  · rintro i ρ₁ ρ₂ h h' k hρ ⟨ys, xs, h1, h2, h3, h4, h5, h6⟩
    exact ⟨ys, xs, k.list h1, h2, h3, (hρ _ (by decide)).symm.trans h4, (hρ _ (by decide)).symm.trans h5, k.list h6⟩
  · exact ⟨_, _, (s₃.plain hD).isList, .cons _ _ (.cons _ _ (.cons _ _ (.cons _ _ (.cons _ _ .nil)))), rfl, upd_same, (upd_ne (by decide)).trans rfl, s₃.list (hl₁.at fun o e => k₂ _ _ e)⟩
  · rintro i v ρ₁ s' hin ⟨t, rfl⟩ a' ⟨ys, xs, h1, h2, h3, h4, h5, h6⟩
    have hlD : ys.length = 5 := h2.length.trans h3
    have hm : (((i : Int).fmod 5).toNat) < xs.length := by
      have := Int.fmod_lt_of_pos (i : Int) (show (0 : Int) < 5 by decide)
      have := Int.fmod_nonneg_of_pos (i : Int) (show (0 : Int) < 5 by decide)
      omega
    obtain ⟨tx, ex⟩ := ints_at h2 hm
    obtain ⟨tn, en⟩ := ints_at hi hin
    refine xs_one (wpAny_AugAssign_Subscript_any ?_)
    walk_at "nm"
    refine wpAny_BinOp ?_
    walk_at "nm"
    walk_at "k"
    walk_at "k"
    refine wpAny_getItem_list h1 (Int.fmod_nonneg_of_pos _ (by decide)) (by have := Int.fmod_lt_of_pos (i : Int) (show (0 : Int) < 5 by decide); omega) (x := .int xs[((i : Int).fmod 5).toNat] tx) (by simpa using ex) ?_
    refine Subscript_ ?_
    walk_at "nm"
    walk_at "nm"
    refine tl_list h6 (by omega) (by omega) (x := .int ns[i] tn) (by simpa using en) ?_
    walk_at "k"
    refine wpAny_setItem_list h1 (Int.fmod_nonneg_of_pos _ (by decide)) (by have := Int.fmod_lt_of_pos (i : Int) (show (0 : Int) < 5 by decide); omega) (by rw [List.size_toArray]; omega) (fun h' hl' hs' => ?_)
    refine Nx.go (xs_nil ?_)
    have hk' : ∀ b o, b ∉ [D] → s'.heap.get? b = some o → h'.get? b = some o := fun b o hb e => (hs'.2 b (fun q => hb (by rw [q]; exact List.mem_singleton.mpr rfl))).trans e
    refine ⟨h', _, _, rfl, a'.off (U := [D]) (fun b hb => (List.mem_singleton.mp hb) ▸ nD) hk', ⟨_, _, by simpa using hl', ints_set h2 _ _ _, by simp [h3], h4, h5, h6.at fun o e => hk' _ _ (fun q => ?_) e⟩, fun b o _ _ hb e => hk' b o hb e⟩
    obtain ⟨o, e, _⟩ := id hl
    rw [List.mem_singleton.mp q, nD.1] at e; cases e
  · intro ρ₂ h' tk' a' ⟨ys, xs, h1, h2, h3, h4, h5, h6⟩ k'
    refine Nx.go (xs_ret (wpAny_mono (comp_eval (ρ := ρ₂) a' (by walk_at "static") (n := ys.length) (by rw [sizeLine_eq, h2.length, h3]; decide) (fun _ => true)
      (fun i y o => o = none ∧ ∃ t, y = .int ((xs.getD i 0).fmod 1000) t) (P := fun i v => List.toArray ys |>.toList[i]? = some v) (src := [D]) ?_ (fun _ _ _ _ _ _ _ _ _ _ _ => test_none) ?_) (fun v s₂ q => ?_) fun _ _ e => e))
    · walk_at "nm"
      exact ⟨keeps_rfl, by simpa using iters_list R'.h h1⟩
    · intro C cs B₂ i v s₃ E' kB hi' hv _ a₃
      obtain ⟨n, t, rfl, hn⟩ := h2.at i v (by simpa using hv)
      have hn' : n = xs.getD i 0 := by rw [List.getD_eq_getElem?_getD, hn]; rfl
      subst hn'
      refine wpAny_BinOp ?_
      walk_at "nm"
      walk_at "k"
      walk_at "k"
      exact ⟨keeps_of Kp.rfl, .inl ⟨rfl, _, rfl⟩⟩
    · obtain ⟨kq, D', ys', rfl, fD', hD', hp⟩ := q
      rw [filter_true] at hp
      have hI := ints_paired (F := fun i => (xs.getD i 0).fmod 1000) (fun i v x => elem_none (f := fun i v => ∃ t, v = .int ((xs.getD i 0).fmod 1000) t) x) hp
      rw [map_range_getD xs (fun x => x.fmod 1000) h2.length] at hI
      refine ⟨keeps_trans (keeps_of ?_) kq, D', ys'.toList, _, rfl, by simpa using hD'.isList, hI, by simpa using h3, fun c hc => ?_⟩
      · exact a'.keep
      · obtain ⟨x, _, rfl⟩ := List.mem_map.mp hc
        exact ⟨Int.fmod_nonneg_of_pos _ (by decide), Int.fmod_lt_of_pos _ (by decide)⟩
end
end PCe
section PSm
section
variable {w : World} {A : Around} {E : Value → Shared → Prop} {s : Shared} {env : Env}
theorem KpS.plainL {h h' : Heap} {l : Addr} {items : Array Value} (k : KpS h h') (x : PlainL h l items) : PlainL h' l items :=
  let ⟨o, n, e, c, d, q⟩ := x; ⟨o, n, k _ _ (notSeq_not q) e, c, d, q⟩
theorem plainL_of {h : Heap} {l : Addr} {items : Array Value} (x : h.PlainList l items) : PlainL h l items := let ⟨n, e⟩ := x; ⟨_, n, e, rfl, rfl, rfl⟩
/-- D.append(e) -/
theorem xs_append {o elt : Expr} {apos pos p2 : Pos} {rest : List Stmt} {D : Addr} {its : Array Value} {Q : Flow → Shared → Prop}
    (h : wpAny (model P0 w) A (eval o env) (fun ov s₁ => ov = .ref D ∧ PlainL s₁.heap D its ∧ wpAny (model P0 w) A (eval elt env) (fun y s₂ => ∃ its', PlainL s₂.heap D its' ∧ its'.size ≤ sizeLine ∧
      ∀ h', PlainL h' D (its'.push y) → Heap.SameBut D s₂.heap h' → wpAny (model P0 w) A (execs rest env) Q E { s₂ with heap := h' }) E s₁) E s)
    (hbase : attributeBase o "append" env (eval o env) = eval o env := by rfl)
    (hfew : ((backTo pos (starEach [elt] env)).all (fun x => !x.1) && (backToKw pos (keywordEach [] env)).all (fun x => x.1.isSome)
      && decide (([elt] : List Expr).length + ([] : List Keyword).length + (if ([] : List Keyword).isEmpty then 0 else 1) < 30)) = true := by rfl)
    (hline : (apos.endLine == pos.line) = true := by rfl)
    (htrees : backTo pos (starEach [elt] env) = [(false, eval elt env)] := by rfl) (hi : interactive env = false := by rfl) :
    wpAny (model P0 w) A (execs (.Expr (.Call (.Attribute o "append" apos) [elt] [] pos) p2 :: rest) env) Q E s := by
  refine xs_one (wpAny_Expr_any (wpAny_Call_append hbase hfew hline htrees (wpAny_mono h (fun ov s₁ q => ?_) fun _ _ e => e)) hi)
  obtain ⟨rfl, hl, q⟩ := q
  refine ⟨D, its, rfl, hl, wpAny_mono q (fun y s₂ q₂ => ?_) fun _ _ e => e⟩
  obtain ⟨its', hl', hz, hQ⟩ := q₂
  exact list_append_plainL hl' (fun h' h1 h2 => Nx.go (hQ h' h1 h2)) hz
/-- what a change of the one list leaves -/
theorem but_off {D : Addr} {h h' : Heap} (hs : Heap.SameBut D h h') : ∀ b o, b ∉ [D] → h.get? b = some o → h'.get? b = some o :=
  fun b o hb e => (hs.2 b (fun q => hb (by rw [q]; exact List.mem_singleton.mpr rfl))).trans e
theorem At.but {ρ : Str → Option Value} {B h h' : Heap} {D : Addr} (a : At w env ρ B h) (n : B.get? D = none ∧ D ≠ env.locals ∧ ∀ y c, (env.kindOf y = some .cell ∨ env.kindOf y = some .free) → env.cells.lookup y = some c → D ≠ c)
    (hs : Heap.SameBut D h h') : At w env ρ B h' := a.off (U := [D]) (fun b hb => (List.mem_singleton.mp hb) ▸ n) (but_off hs)
/-- a list of numbers -/
noncomputable def IsInts (h : Heap) (D : Addr) (r : List Int) (v : Value) : Prop := ∃ l vs, v = .ref l ∧ l ≠ D ∧ h.IsList l (List.toArray vs) ∧ IntsAre vs r
theorem IsInts.move {h h' : Heap} {D : Addr} {r : List Int} {v : Value} (x : IsInts h D r v) (k : KpS h h') : IsInts h' D r v := let ⟨l, vs, e, n, hl, hi⟩ := x; ⟨l, vs, e, n, k.list hl, hi⟩
theorem IsInts.but {h h' : Heap} {D : Addr} {r : List Int} {v : Value} (x : IsInts h D r v) (k : Heap.SameBut D h h') : IsInts h' D r v := let ⟨l, vs, e, n, hl, hi⟩ := x; ⟨l, vs, e, n, hl.at fun o e => (k.2 _ n).trans e, hi⟩
/-- a while loop that ends in one way -/
theorem while_end {test : Expr} {body : List Stmt} {pos : Pos} {Q : Flow → Shared → Prop} {ρ : Str → Option Value} {B : Heap}
    (a : At w env ρ B s.heap) (I : Nat → (Str → Option Value) → Heap → Prop) (F : (Str → Option Value) → Heap → Prop) (m₀ : Nat) (i0 : I m₀ ρ s.heap)
    (turn : ∀ m ρ₁ H tk, At w env ρ₁ B H → I m ρ₁ H →
      wpAny (model P0 w) A (isTrue test env (eval test env)) (fun b s₂ =>
        if b = true then wpAny (model P0 w) A (execs body env) (fun f s₃ => f = .next ∧ ∃ h' tk ρ₂ m', s₃ = { s with heap := h', toks := tk } ∧ At w env ρ₂ B h' ∧ m' < m ∧ I m' ρ₂ h') (fun _ _ => False) s₂
        else ∃ h' tk ρ₂, s₂ = { s with heap := h', toks := tk } ∧ At w env ρ₂ B h' ∧ F ρ₂ h') (fun _ _ => False) { s with heap := H, toks := tk })
    (done : ∀ ρ₂ h' tk, At w env ρ₂ B h' → F ρ₂ h' → Q .next { s with heap := h', toks := tk }) :
    wpAny (model P0 w) A (exec (.While test body [] pos) env) Q E s :=
  wpAny_mono (while_loop (Q := fun f s₂ => f = .next ∧ ∃ h' tk ρ₂, s₂ = { s with heap := h', toks := tk } ∧ At w env ρ₂ B h' ∧ F ρ₂ h') a I m₀ i0 (fun m ρ₁ H tk a' i' => wpAny_mono (turn m ρ₁ H tk a' i') (fun b s₂ q => by
    cases b with
    | true => simpa using q
    | false => simpa using q) fun _ _ e => e)) (fun f s₂ q => by obtain ⟨rfl, h', tk, ρ₂, rfl, a', f'⟩ := q; exact done _ _ _ a' f') fun _ _ e => e
theorem v_int {a b : Int} (e : a = b) (t : Tok) : Value.int a t = .int b t := e ▸ rfl
end
end PSm
section PRo
section
variable {w : World} {A : Around} {E : Value → Shared → Prop} {s : Shared}
noncomputable def GoodRow (r : List Int) : Prop := r.length ≤ 5 ∧ ∀ d ∈ r, 0 ≤ d ∧ d < 10
theorem paired_at {α β : Type} {F : α → β → Prop} : ∀ {l₁ : List α} {l₂ : List β}, Paired F l₁ l₂ → ∀ (i : Nat) (b : β), l₂[i]? = some b → ∃ a, l₁[i]? = some a ∧ F a b
  | _, _, .cons h r, 0, b, e => by cases e; exact ⟨_, rfl, h⟩
  | _, _, .cons h r, i + 1, b, e => by simpa using paired_at r i b (by simpa using e)
theorem c_rows (T : TopAt w s.heap) (R : Room A 1) {l : Addr} {vs : List Value} {cs : List Int} (hl : s.heap.IsList l vs.toArray) (hi : IntsAre vs cs) (hn : cs.length = 5) (hc : ∀ c ∈ cs, 0 ≤ c ∧ c < 1000) :
    wpAny (model P0 w) A (call (.ref 164) [.ref l]) (fun v s' => Keeps s s' ∧ ∃ D ys rows, v = .ref D ∧ s'.heap.IsList D (List.toArray ys) ∧ Paired (IsInts s'.heap D) rows ys ∧ rows.length = 5 ∧ ∀ r ∈ rows, GoodRow r) E s := by
  have ho := Eq.refl ((Mine.K0 w.params).lookup 164)
  conv at ho => rhs; whnf
  conv at ho => rhs; pattern (paOf _); whnf
  conv at ho => rhs; pattern (boOf _); whnf
  conv at ho => rhs; pattern (scOf _); whnf
  refine enter (f := 164) (k := 0) (binds := [(Str.ofString "cells", .ref l)]) T R ho (by k_is) rfl (locs rfl) (by decide) (fun L h₁ tk a R' => ?_)
  have hl₁ : h₁.IsList l vs.toArray := hl.at fun o e => a.keep _ _ e
  have hvn : vs.length = cs.length := hi.length
  refine xs_asg (List_ ?_)
  iterate 3 walk_at "k"
  refine mk_list (by simp) (fun D₀ h₂ hD₀ k₂ fD₀ => ?_)
  iterate 1 walk_at "k"
  refine mk_list (by simp) (fun D h₃ hD k₃ fD => ?_)
  have a₃ := a.grow (k₂.trans k₃)
  have nD : _ := (a.grow k₂).new fD
  walk_at "st"
  intro h₄ tk₄ a₄ k₄
  have s₄ := off_seq a₃ k₄
  refine xs_one (for_local a₄ R'.h rfl [D] (fun i ρ h => ∃ ys rows, PlainL h D (List.toArray ys) ∧ Paired (IsInts h D) rows ys ∧ rows.length = i + 1 ∧ (∀ r ∈ rows, GoodRow r) ∧ ρ (Str.ofString "rows") = some (.ref D) ∧ ρ (Str.ofString "cells") = some (.ref l) ∧ h.IsList l vs.toArray)
    (n := vs.length) (P := fun i v => (List.toArray vs).toList[i]? = some v) (src := [l]) ?_ ?_ ?_ ?_ ?_ ?_ ?_)
  · walk_at "nm"
    exact ⟨keeps_rfl, by simpa using iters_list R'.h (s₄.list (hl₁.at fun o e => k₃ _ _ (k₂ _ _ e)))⟩
  · intro b hb
    rw [List.mem_singleton.mp hb]
    obtain ⟨n, e⟩ := s₄.plain hD
    exact ⟨_, e⟩
  · intro b hb
    rw [List.mem_singleton.mp hb]
    obtain ⟨o, e, _⟩ := id hl
    refine ⟨?_, fun q => ?_⟩
    · rintro rfl; exact absurd (a.hid.symm.trans e) (by simp)
    · rw [List.mem_singleton.mp q, nD.1] at e; cases e
  · rintro i ρ₁ ρ₂ h h' k hρ ⟨ys, rows, h1, h2, h3, h4, h5, h6, h7⟩
    exact ⟨ys, rows, k.plainL h1, h2.mono fun _ _ x => x.move k, h3, h4, (hρ _ (by decide)).symm.trans h5, (hρ _ (by decide)).symm.trans h6, k.list h7⟩
  · have hne : D₀ ≠ D := by
      rintro rfl
      obtain ⟨o, e⟩ := hD₀
      rw [fD] at e; cases e
    refine ⟨[.ref D₀], [[]], s₄.plainL (plainL_of hD), .cons ⟨D₀, [], rfl, hne, s₄.list (hD₀.isList.at fun o e => k₃ _ _ e), .nil⟩ .nil, rfl, ?_, upd_same, (upd_ne (by decide)).trans rfl, s₄.list (hl₁.at fun o e => k₃ _ _ (k₂ _ _ e))⟩
    intro r hr
    rw [List.mem_singleton.mp hr]
    exact ⟨by simp, by simp⟩
  · rintro i v ρ₁ s' hin hv a' ⟨ys, rows, h1, h2, h3, h4, h5, h6, h7⟩
    obtain ⟨c, t, rfl, hci⟩ := hi.at i v (by simpa using hv)
    have hcb := hc c (List.mem_of_getElem? hci)
    refine xs_asg (wpAny_BinOp ?_)
    walk_at "nm"
    iterate 2 walk_at "k"
    walk_at "st"
    intro h₅ tk₅ a₅ k₅
    try dsimp only
    refine xs_asg (List_ ?_)
    walk_at "k"
    refine wpAny_BinOp (wpAny_BinOp ?_)
    walk_at "nm"
    iterate 4 walk_at "k"
    walk_at "k"
    refine wpAny_BinOp ?_
    walk_at "nm"
    iterate 2 walk_at "k"
    walk_at "k"
    refine mk_list (by simp) (fun F h₆ hF k₆ fF => ?_)
    try dsimp only
    have a₆ := a₅.grow k₆
    walk_at "st"
    intro h₇ tk₇ a₇ k₇
    try dsimp only
    have e₇ : KpS s'.heap h₇ := ((off_seq a' k₅).trans (Kp.s k₆)).trans (off_seq a₆ k₇)
    obtain ⟨fv, hfv, hF₇⟩ : ∃ fv, IntsAre fv [(c.fdiv 10).fmod 10, c.fdiv 100] ∧ h₇.PlainList F (List.toArray fv) := ⟨_, .cons _ _ (.cons _ _ .nil), (off_seq a₆ k₇).plain hF⟩
    have hfl : fv.length = 2 := hfv.length
    obtain ⟨y, r, hy, hr⟩ : ∃ y r, ys[ys.length - 1]? = some y ∧ IsInts s'.heap D r y ∧ r ∈ rows := by
      have hlen : ys.length = rows.length := (h2.length).symm
      have hlt : ys.length - 1 < ys.length := by omega
      obtain ⟨r, hr1, hr2⟩ := paired_at h2 _ _ (List.getElem?_eq_getElem hlt)
      exact ⟨_, r, List.getElem?_eq_getElem hlt, hr2, List.mem_of_getElem? hr1⟩
    obtain ⟨lr, rv, rfl, nr, hlr, hir'⟩ := hr.1
    have hir := And.intro hir' True.intro
    refine xs_append (D := D) (its := List.toArray ys) ?_
    walk_at "nm"
    refine ⟨rfl, e₇.plainL h1, wpAny_BinOp (sl_list (Subscript_ ?_))⟩
    walk_at "nm"
    iterate 3 walk_at "k"
    try dsimp only
    refine tl_listn ((e₇.plainL h1).isList) (by decide) (by rw [List.size_toArray]; have := h2.length; omega) (by decide) (x := .ref lr) ?_ ?_
    · rw [List.size_toArray, List.getElem?_toArray]
      have : ((-1 : Int) + (ys.length : Nat)).toNat = ys.length - 1 := by omega
      rw [this]; exact hy
    refine evalPart_none_step (evalPart_some_step ?_)
    refine wpAny_BinOp ?_
    walk_at "nm"
    walk_at "k"
    walk_at "k"
    try dsimp only
    obtain ⟨b1, hb1⟩ := Int.eq_ofNat_of_zero_le (show 0 ≤ (c.fmod 10).fmod 4 from Int.fmod_nonneg_of_pos _ (by decide))
    refine ⟨lr, List.toArray rv, none, some (b1 : Int), rfl, e₇.list hlr, ?_, .none, hb1 ▸ .int _ _, fun X h₈ fX k₈ hX => ?_⟩
    · rw [List.size_toArray, sizeLine_eq, hir.1.length]
      have := (h4 r hr.2).1
      omega
    rw [slicePick_upto'] at hX
    try dsimp only
    refine sl_list ?_
    have a₈ := a₇.grow k₈
    walk_at "nm"
    refine evalPart_none_step (evalPart_some_step (wpAny_BinOp ?_))
    walk_at "k"
    refine wpAny_BinOp ?_
    walk_at "nm"
    walk_at "k"
    walk_at "k"
    walk_at "k"
    try dsimp only
    obtain ⟨b2, hb2⟩ := Int.eq_ofNat_of_zero_le (show 0 ≤ 1 + (c.fmod 10).fdiv 5 by
      have h1 := Int.fmod_nonneg_of_pos c (show (0 : Int) < 10 by decide)
      rw [Int.fdiv_eq_ediv_of_nonneg _ (by decide)]
      have := Int.ediv_nonneg h1 (show (0 : Int) ≤ 5 by decide)
      omega)
    have hrl : rv.length ≤ 5 := hir.1.length ▸ (h4 r hr.2).1
    refine ⟨F, List.toArray fv, none, some (b2 : Int), rfl, hF₇.isList.at fun o e => k₈ _ _ e, by rw [List.size_toArray, sizeLine_eq, hfl]; decide, .none, hb2 ▸ .int _ _, fun Y h₉ fY k₉ hY => ?_⟩
    rw [slicePick_upto'] at hY
    try dsimp only
    refine add_lst (hX.isList.at fun o e => k₉ _ _ e) hY.isList ?_ (fun Z h₁₀ fZ k₁₀ hZ => ?_)
    · simp only [List.size_toArray, List.length_take]
      omega
    try dsimp only
    have p₁₀ : Kp h₇ h₁₀ := k₈.trans (k₉.trans k₁₀)
    refine ⟨List.toArray ys, (e₇.trans p₁₀.s).plainL h1, ?_, fun h₁₁ hl₁₁ hs₁₁ => xs_nil ?_⟩
    · rw [List.size_toArray, sizeLine_eq]
      have := h2.length
      omega
    have nZ : Z ≠ D := by
      rintro rfl
      obtain ⟨o, n, e, _⟩ := (e₇.trans (k₈.trans k₉).s).plainL h1
      rw [fZ] at e; cases e
    have hDl : l ≠ D := by
      rintro rfl
      obtain ⟨o, e, _⟩ := id hl
      rw [nD.1] at e; cases e
    refine ⟨h₁₁, _, _, rfl, (a₇.grow p₁₀).but nD hs₁₁, ⟨ys ++ [.ref Z], rows ++ [r.take b1 ++ List.take b2 [(c.fdiv 10).fmod 10, c.fdiv 100]], by simpa using hl₁₁,
      Paired.snoc (h2.mono fun _ _ x => (x.move (e₇.trans p₁₀.s)).but hs₁₁) ⟨Z, _, rfl, nZ, ?_, (hir.1.take b1).append (hfv.take b2)⟩, by simp [h3], ?_, ?_, ?_, ?_⟩, ?_⟩
    · refine Heap.IsList.at ?_ fun o e => (hs₁₁.2 Z nZ).trans e
      simpa using hZ.isList
    · intro q hq
      rcases List.mem_append.mp hq with hq | hq
      · exact h4 q hq
      · rw [List.mem_singleton.mp hq]
        have hb1' := Int.fmod_lt_of_pos (c.fmod 10) (show (0 : Int) < 4 by decide)
        refine ⟨?_, fun d hd => ?_⟩
        · rw [List.length_append, List.length_take, List.length_take]
          show _ + min b2 2 ≤ 5
          omega
        · rcases List.mem_append.mp hd with hd | hd
          · exact (h4 r hr.2).2 d (List.mem_of_mem_take hd)
          · have hd' := List.mem_of_mem_take hd
            rcases List.mem_cons.mp hd' with rfl | hd'
            · exact ⟨Int.fmod_nonneg_of_pos _ (by decide), Int.fmod_lt_of_pos _ (by decide)⟩
            · rw [List.mem_singleton.mp hd', Int.fdiv_eq_ediv_of_nonneg _ (by decide)]
              omega
    · exact (upd_ne (by decide)).trans ((upd_ne (by decide)).trans h5)
    · exact (upd_ne (by decide)).trans ((upd_ne (by decide)).trans h6)
    · exact ((e₇.trans p₁₀.s).list h7).at fun o e => (hs₁₁.2 l hDl).trans e
    · intro b o hb1 _ hb2 e
      exact but_off hs₁₁ b o hb2 (p₁₀ _ _ (k₇ b o hb1 (k₆ _ _ (k₅ b o hb1 e))))
  · intro ρ₂ h' tk' a' ⟨ys, rows, h1, h2, h3, h4, h5, h6, h7⟩ k'
    refine Nx.go (xs_ret (sl_list ?_))
    walk_at "nm"
    refine evalPart_some_step ?_
    walk_at "k"
    refine evalPart_none_step ?_
    refine ⟨D, List.toArray ys, some ((1 : Nat) : Int), none, rfl, h1.isList, ?_, .int _ _, .none, fun X h₈ fX k₈ hX => ?_⟩
    · rw [List.size_toArray, sizeLine_eq]
      have := h2.length
      omega
    rw [slicePick_from'] at hX
    have kX : Kp s.heap h₈ := a'.keep.trans k₈
    refine ⟨keeps_of kX, X, ys.drop 1, rows.drop 1, rfl, by simpa using hX.isList, ?_, by simp; omega, fun r hr => h4 r (List.mem_of_mem_drop hr)⟩
    cases h2 with
    | nil => exact .nil
    | cons x xs =>
      refine Paired.mono (fun r v z => ?_) xs
      obtain ⟨lr, rv, e, n, hlr, hir⟩ := z
      refine ⟨lr, rv, e, ?_, hlr.at fun o e => k₈ _ _ e, hir⟩
      rintro rfl
      obtain ⟨o, q, _⟩ := hlr
      rw [fX] at q; cases q
end
end PRo
section PFn
/-- the figures alone: where a front's row of nineties begins, what it is worth -/
noncomputable def nth (r : List Int) (i : Nat) : Int := r.getD i 0
noncomputable def back (r : List Int) : Nat → Nat
  | 0 => 0
  | p + 1 => if nth r p = 1 then back r p else p + 1
noncomputable def endOf (r : List Int) (size : Nat) : Nat := if nth r (size - 1) = 7 then size - 1 else size
noncomputable def isBound (r : List Int) (size : Nat) : Bool := decide (0 < back r (endOf r size) ∧ back r (endOf r size) < endOf r size ∧ nth r (back r (endOf r size) - 1) = 0)
noncomputable def wts : List Int := [23, 2, 16, 16, 20, 2, 2, 2, 31, 2]
noncomputable def front (r : List Int) (size : Nat) : Int := if isBound r size = true then 0 else wts.getD (nth r (size - 1)).toNat 0
noncomputable def fronts (r : List Int) : List Int := (List.range r.length).map fun i => front r (i + 1)
theorem back_le (r : List Int) : ∀ p, back r p ≤ p
  | 0 => Nat.le_refl _
  | p + 1 => by unfold back; split; exact Nat.le_succ_of_le (back_le r p); exact Nat.le_refl _
theorem endOf_le (r : List Int) (size : Nat) : endOf r size ≤ size := by unfold endOf; split <;> omega
section
variable {w : World} {A : Around} {E : Value → Shared → Prop} {s : Shared}
theorem ints_nth {vs : List Value} {r : List Int} (h : IntsAre vs r) {i : Nat} (hi : i < r.length) : ∃ t, vs[i]? = some (.int (nth r i) t) := by
  obtain ⟨t, e⟩ := ints_at h hi
  refine ⟨t, e.trans ?_⟩
  simp [nth, hi]
theorem c_fronts (T : TopAt w s.heap) (R : Room A 1) {l : Addr} {vs : List Value} {r : List Int} (hl : s.heap.IsList l vs.toArray) (hi : IntsAre vs r) (hg : GoodRow r) :
    wpAny (model P0 w) A (call (.ref 195) [.ref l]) (fun v s' => Keeps s s' ∧ ∃ D ys, v = .ref D ∧ s.heap.get? D = none ∧ s'.heap.IsList D (List.toArray ys) ∧ IntsAre ys (fronts r)) E s := by
  have ho := Eq.refl ((Mine.K0 w.params).lookup 195)
  conv at ho => rhs; whnf
  conv at ho => rhs; pattern (paOf _); whnf
  conv at ho => rhs; pattern (boOf _); whnf
  conv at ho => rhs; pattern (scOf _); whnf
  refine enter (f := 195) (k := 0) (binds := [(Str.ofString "row", .ref l)]) T R ho (by k_is) rfl (locs rfl) (by decide) (fun L h₁ tk a R' => ?_)
  have hl₁ : h₁.IsList l vs.toArray := hl.at fun o e => a.keep _ _ e
  have hvn : vs.length = r.length := hi.length
  have hr5 := hg.1
  refine xs_asg (List_ ?_)
  walk_at "k"
  refine mk_list (by simp) (fun D h₃ hD k₃ fD => ?_)
  try dsimp only
  have a₃ := a.grow k₃
  have nD : _ := a.new fD
  have hDl : l ≠ D := by
    rintro rfl
    obtain ⟨o, e, _⟩ := id hl
    rw [nD.1] at e; cases e
  walk_at "st"
  intro h₄ tk₄ a₄ k₄
  try dsimp only
  have s₄ := off_seq a₃ k₄
  refine xs_one (for_local a₄ R'.h rfl [D] (fun i ρ h => ∃ ys, PlainL h D (List.toArray ys) ∧ IntsAre ys ((List.range i).map fun j => front r (j + 1)) ∧ ρ (Str.ofString "worths") = some (.ref D) ∧ ρ (Str.ofString "row") = some (.ref l) ∧ h.IsList l vs.toArray)
    (n := r.length) (P := fun i v => ∃ t, v = .int ((1 + i : Nat) : Int) t) (src := []) ?_ ?_ (by simp) ?_ ?_ ?_ ?_)
  · refine wpAny_mono (it_range2 (a0 := 1) (b0 := r.length + 1) a₄ R'.h rfl (by decide) (by omega) ?_) (fun xv s₁ q => ⟨q.1, by simpa using q.2⟩) fun _ _ e => e
    walk_at "k"
    refine ⟨⟨_, rfl⟩, wpAny_BinOp (ev_len a₄ rfl ?_)⟩
    walk_at "nm"
    refine ⟨l, _, rfl, .inl (s₄.list (hl₁.at fun o e => k₃ _ _ e)), by simp; omega, fun t tk => ?_⟩
    walk_at "k"
    walk_at "k"
    simp only [List.size_toArray, hvn]
    exact ⟨keeps_of Kp.rfl, _, rfl⟩
  · intro b hb
    rw [List.mem_singleton.mp hb]
    obtain ⟨n, e⟩ := s₄.plain hD
    exact ⟨_, e⟩
  · rintro i ρ₁ ρ₂ h h' k hρ ⟨ys, h1, h2, h3, h4, h5⟩
    exact ⟨ys, k.plainL h1, h2, (hρ _ (by decide)).symm.trans h3, (hρ _ (by decide)).symm.trans h4, k.list h5⟩
  · exact ⟨[], s₄.plainL (plainL_of hD), .nil, upd_same, (upd_ne (by decide)).trans rfl, s₄.list (hl₁.at fun o e => k₃ _ _ e)⟩
  · rintro i v ρ₁ s' hin ⟨t, rfl⟩ a' ⟨ys, h1, h2, h3, h4, h5⟩
    obtain ⟨t1, e1⟩ := ints_nth hi hin
    have e1' : (List.toArray vs)[((1 + i : Nat) : Int) - 1 |>.toNat]? = some (.int (nth r i) t1) := by
      rw [List.getElem?_toArray]
      have : (((1 + i : Nat) : Int) - 1).toNat = i := by omega
      rw [this]; exact e1
    refine xs_asg (wpAny_mono (Q := fun v s'' => ∃ t tk, v = .int (endOf r (i + 1) : Nat) t ∧ s'' = { s' with toks := tk }) (wpAny_IfExp (wpAny_isTrue_Compare1 (Subscript_ ?_))) (fun v s'' q => ?_) fun _ _ e => e)
    · walk_at "nm"
      refine wpAny_BinOp ?_
      walk_at "nm"
      iterate 2 walk_at "k"
      refine tl_list h5 (by omega) (by omega) e1' ?_
      iterate 3 walk_at "k"
      split
      · rename_i hc
        refine wpAny_BinOp ?_
        walk_at "nm"
        iterate 2 walk_at "k"
        refine ⟨_, _, v_int ?_ _, rfl⟩
        have : nth r i = 7 := by simpa using hc
        have : endOf r (i + 1) = i := by unfold endOf; rw [if_pos (by simpa using this)]; omega
        rw [this]
        omega
      · rename_i hc
        walk_at "nm"
        refine ⟨_, _, v_int ?_ _, rfl⟩
        have : ¬ nth r i = 7 := by simpa using hc
        have : endOf r (i + 1) = 1 + i := by unfold endOf; rw [if_neg (by simpa using this)]; omega
        rw [this]
    obtain ⟨t2, tk2, rfl, rfl⟩ := q
    have hend : endOf r (i + 1) ≤ i + 1 := endOf_le _ _
    generalize hE : endOf r (i + 1) = en at hend
    walk_at "st"
    intro h₅ tk₅ a₅ k₅
    try dsimp only
    refine xs_asg ?_
    walk_at "nm"
    walk_at "st"
    intro h₆ tk₆ a₆ k₆
    try dsimp only
    have e₆ : KpS s'.heap h₆ := (off_seq a' k₅).trans (off_seq a₅ k₆)
    refine xs_one (while_end a₆ (fun m ρ₂ h => m ≤ en ∧ back r m = back r en ∧ (∃ t, ρ₂ (Str.ofString "place") = some (.int (m : Nat) t)) ∧ (∃ t, ρ₂ (Str.ofString "end") = some (.int (en : Nat) t)) ∧
        (∃ t, ρ₂ (Str.ofString "size") = some (.int ((1 + i : Nat) : Int) t)) ∧ ρ₂ (Str.ofString "row") = some (.ref l) ∧ ρ₂ (Str.ofString "worths") = some (.ref D) ∧ h.IsList l vs.toArray ∧ PlainL h D (List.toArray ys) ∧ ∀ b o, b ≠ L → h₆.get? b = some o → h.get? b = some o)
      (fun ρ₂ h => (∃ t, ρ₂ (Str.ofString "place") = some (.int (back r en : Nat) t)) ∧ (∃ t, ρ₂ (Str.ofString "end") = some (.int (en : Nat) t)) ∧
        (∃ t, ρ₂ (Str.ofString "size") = some (.int ((1 + i : Nat) : Int) t)) ∧ ρ₂ (Str.ofString "row") = some (.ref l) ∧ ρ₂ (Str.ofString "worths") = some (.ref D) ∧ h.IsList l vs.toArray ∧ PlainL h D (List.toArray ys) ∧ ∀ b o, b ≠ L → h₆.get? b = some o → h.get? b = some o) en ?_ ?_ ?_)
    · exact ⟨Nat.le_refl _, rfl, ⟨_, upd_same⟩, ⟨_, (upd_ne (by decide)).trans upd_same⟩, ⟨_, (upd_ne (by decide)).trans ((upd_ne (by decide)).trans upd_same)⟩,
        (upd_ne (by decide)).trans ((upd_ne (by decide)).trans h4), (upd_ne (by decide)).trans ((upd_ne (by decide)).trans h3), e₆.list h5, e₆.plainL h1, fun _ _ _ e => e⟩
    · rintro m ρ₂ H tk a₇ ⟨g1, g2, ⟨t3, g3⟩, g4, g5, g6, g7, g8, g9, g10⟩
      refine wpAny_isTrue_BoolOp (wpAny_allTrue_And_cons (wpAny_isTrue_Compare1 ?_))
      walk_at "nm"
      iterate 3 walk_at "k"
      split
      · rename_i hc
        have hm : 0 < m := by simpa using hc
        obtain ⟨t4, e4⟩ := ints_nth hi (i := m - 1) (by omega)
        refine wpAny_allTrue_And_cons (wpAny_isTrue_Compare1 (Subscript_ ?_))
        walk_at "nm"
        refine wpAny_BinOp ?_
        walk_at "nm"
        iterate 2 walk_at "k"
        refine tl_list g8 (by omega) (by omega) (x := .int (nth r (m - 1)) t4) ?_ ?_
        · rw [List.getElem?_toArray]
          have : (((m : Nat) : Int) - 1).toNat = m - 1 := by omega
          rw [this]; exact e4
        iterate 3 walk_at "k"
        split
        · rename_i hc'
          have h9 : nth r (m - 1) = 1 := by simpa using hc'
          refine wpAny_allTrue_And_nil ?_
          rw [if_pos rfl]
          refine xs_aug ?_
          refine ldn_var a₇ g3 ?_ rfl
          iterate 2 walk_at "k"
          walk_at "st"
          intro h₈ tk₈ a₈ k₈
          have hbk : back r (m - 1) = back r m := by
            obtain ⟨m', rfl⟩ : ∃ m', m = m' + 1 := ⟨m - 1, by omega⟩
            conv => rhs; unfold back
            rw [if_pos (by simpa using h9)]
            rfl
          have e₈ := off_seq a₇ k₈
          exact xs_nil ⟨rfl, _, _, _, m - 1, rfl, a₈, by omega, by omega, hbk.trans g2, ⟨_, upd_same.trans (congrArg some (v_int (by omega) _))⟩,
            (let ⟨t, g⟩ := g4; ⟨t, (upd_ne (by decide)).trans g⟩), (let ⟨t, g⟩ := g5; ⟨t, (upd_ne (by decide)).trans g⟩), (upd_ne (by decide)).trans g6, (upd_ne (by decide)).trans g7, e₈.list g8, e₈.plainL g9, fun b o n e => k₈ b o n (g10 b o n e)⟩
        · rename_i hc'
          have h9 : ¬ nth r (m - 1) = 1 := by simpa using hc'
          rw [if_neg Bool.false_ne_true]
          have : back r m = m := by
            obtain ⟨m', rfl⟩ : ∃ m', m = m' + 1 := ⟨m - 1, by omega⟩
            unfold back
            rw [if_neg (by simpa using h9)]
          exact ⟨_, _, _, rfl, a₇, ⟨_, by rw [← g2, this]; exact g3⟩, g4, g5, g6, g7, g8, g9, g10⟩
      · rename_i hc
        have hm : m = 0 := by
          have : ¬ (0 < m) := by simpa using hc
          omega
        rw [if_neg Bool.false_ne_true]
        have : back r m = m := by subst hm; rfl
        exact ⟨_, _, _, rfl, a₇, ⟨_, by rw [← g2, this]; exact g3⟩, g4, g5, g6, g7, g8, g9, g10⟩
    · rintro ρ₂ h₈ tk₈ a₈ ⟨⟨t3, g3⟩, ⟨t4, g4⟩, ⟨t5, g5⟩, g6, g7, g8, g9, g10⟩
      refine Nx.go ?_
      try dsimp only
      refine xs_asg (wpAny_mono (Q := fun v s'' => ∃ tk, v = .bool (isBound r (i + 1)) ∧ s'' = { s' with heap := h₈, toks := tk }) (BoolOp_and (Compare_chain ?_)) (fun v s'' q => ?_) fun _ _ e => e)
      · have hb : isBound r (i + 1) = decide (0 < back r en ∧ back r en < en ∧ nth r (back r en - 1) = 0) := by unfold isBound; rw [hE]
        walk_at "k"
        refine chain_link ?_
        walk_at "nm"
        iterate 2 walk_at "k"
        split
        · rename_i hc
          have h0 : 0 < back r en := by simpa using hc
          refine chain_last ?_
          walk_at "nm"
          iterate 2 walk_at "k"
          split
          · rename_i hc'
            have h1' : back r en < en := by simpa using hc'
            obtain ⟨t6, e6⟩ := ints_nth hi (i := back r en - 1) (by omega)
            refine BoolOp_one (wpAny_Compare1 (Subscript_ ?_))
            walk_at "nm"
            refine wpAny_BinOp ?_
            walk_at "nm"
            iterate 2 walk_at "k"
            refine tl_list g8 (by omega) (by omega) (x := .int (nth r (back r en - 1)) t6) ?_ ?_
            · rw [List.getElem?_toArray]
              have : (((back r en : Nat) : Int) - 1).toNat = back r en - 1 := by omega
              rw [this]; exact e6
            iterate 2 walk_at "k"
            refine ⟨_, ?_, rfl⟩
            rw [hb]
            simp only [h0, h1', true_and]
            rfl
          · rename_i hc'
            have h1' : ¬ back r en < en := by simpa using hc'
            refine ⟨_, ?_, rfl⟩
            rw [hb]
            simp [h1']
        · rename_i hc
          have h0 : ¬ 0 < back r en := by simpa using hc
          try dsimp only
          walk_at "k"
          split
          · rename_i hc'; exact absurd hc' (by simpa using h0)
          refine ⟨_, ?_, rfl⟩
          rw [hb]
          simp [h0]
      · obtain ⟨tk9, rfl, rfl⟩ := q
        walk_at "st"
        intro h₉ tk₉ a₉ k₉
        try dsimp only
        have e₉ := off_seq a₈ k₉
        refine xs_append (D := D) (its := List.toArray ys) ?_
        walk_at "nm"
        refine ⟨rfl, e₉.plainL g9, wpAny_mono (Q := fun v s'' => ∃ h tk t, v = .int (front r (i + 1)) t ∧ s'' = { s' with heap := h, toks := tk } ∧ Kp h₉ h) (wpAny_IfExp (isTrue_plain ?_)) (fun v s'' q => ?_) fun _ _ e => e⟩
        · walk_at "nm"
          walk_at "k"
          split
          · rename_i hc
            walk_at "k"
            refine ⟨_, _, _, v_int ?_ _, rfl, Kp.rfl⟩
            unfold front; rw [if_pos hc]
          · rename_i hc
            refine Subscript_ (List_ ?_)
            iterate 21 walk_at "k"
            refine mk_list (by simp) (fun W h₁₀ hW k₁₀ fW => ?_)
            try dsimp only
            obtain ⟨wv, hwv, hW⟩ : ∃ wv, IntsAre wv wts ∧ h₁₀.PlainList W (List.toArray wv) := by
              refine ⟨_, ?_, hW⟩
              repeat (first | exact IntsAre.nil | apply IntsAre.cons)
            have a₁₀ := a₉.grow k₁₀
            refine Subscript_ ?_
            walk_at "nm"
            refine wpAny_BinOp ?_
            walk_at "nm"
            iterate 2 walk_at "k"
            refine tl_list ((e₉.list g8).at fun o e => k₁₀ _ _ e) (by omega) (by omega) e1' ?_
            have hd := hg.2 (nth r i) (by
              have : nth r i = r[i] := by simp [nth, hin]
              rw [this]; exact List.getElem_mem _)
            obtain ⟨t7, e7⟩ := ints_nth hwv (i := (nth r i).toNat) (by show _ < 10; omega)
            refine tl_list hW.isList hd.1 (by omega) (x := .int (nth wts (nth r i).toNat) t7) (by rw [List.getElem?_toArray]; exact e7) ?_
            refine ⟨_, _, _, v_int ?_ _, rfl, k₁₀⟩
            unfold front; rw [if_neg hc]; rfl
        · obtain ⟨h₁₀, tk₁₀, t8, rfl, rfl, k₁₀⟩ := q
          refine ⟨List.toArray ys, (e₉.plainL g9).keeps k₁₀, ?_, fun h' hl' hs' => xs_nil ?_⟩
          · have := h2.length
            rw [List.size_toArray, sizeLine_eq, this]; simp; omega
          refine ⟨h', _, _, rfl, (a₉.grow k₁₀).but nD hs', ⟨ys ++ [.int (front r (i + 1)) t8], by simpa using hl', ?_, (upd_ne (by decide)).trans g7, (upd_ne (by decide)).trans g6, ((e₉.list g8).at fun o e => k₁₀ _ _ e).at fun o e => (hs'.2 l hDl).trans e⟩, fun b o hb1 _ hb2 e => ?_⟩
          · rw [List.range_succ, List.map_append]
            exact h2.append (.cons _ _ .nil)
          · exact but_off hs' b o hb2 (k₁₀ _ _ (k₉ b o hb1 (g10 b o hb1 (k₆ b o hb1 (k₅ b o hb1 e)))))
  · intro ρ₂ h' tk' a' ⟨ys, h1, h2, h3, h4, h5⟩ k'
    refine Nx.go (xs_ret ?_)
    walk_at "nm"
    exact ⟨keeps_of a'.keep, D, ys, rfl, nD.1, h1.isList, h2⟩
end
end PFn
section PMx
/-- one of the two orders, with the model's number for it -/
inductive Ord : CmpOp → Int → Prop
  | lt : Ord .Lt 0
  | gt : Ord .Gt 4
/-- a comparison of what is walked through, in every heap that keeps the one -/
noncomputable def CmpIn (w : World) (A : Around) (op : CmpOp) (B : Heap) (P : Nat → Value → Prop) (bt : Nat → Nat → Bool) : Prop :=
  ∀ i j vi vj (s : Shared) (Q : Value → Shared → Prop) (E : Value → Shared → Prop), Kp B s.heap → P i vi → P j vj → Q (.bool (bt i j)) s → wpAny (model P0 w) A (richCompare op vi vj) Q E s
/-- the model's row for the best so far: nothing yet, or twice the best of the first i -/
noncomputable def Champ (bt : Nat → Nat → Bool) (P : Nat → Value → Prop) (S : Addr) (i : Nat) (old : Array Value) (h : Heap) : Prop :=
  (∃ c, h.get? S = some { cls := .type "list", dict := none, data := .seq old c, slots := #[] }) ∧ (i = 0 ∧ old = #[] ∨ ∃ m v, old = #[v, v] ∧ m < i ∧ P m v ∧ ∀ j, j < i → bt j m = false)
theorem Champ.stay {bt : Nat → Nat → Bool} {P : Nat → Value → Prop} {S : Addr} {i : Nat} {old : Array Value} {h h' : Heap} (x : Champ bt P S i old h) (k : ∀ o, h.get? S = some o → h'.get? S = some o) : Champ bt P S i old h' :=
  let ⟨⟨c, e⟩, r⟩ := x; ⟨⟨c, k _ e⟩, r⟩
section
variable {w : World} {A : Around} {E : Value → Shared → Prop} {s : Shared} {S : Addr}
theorem best_read {prog : Program} {bt : Nat → Nat → Bool} {P : Nat → Value → Prop} {i : Nat} {old : Array Value} {Q : Option (Array Value) → Shared → Prop} (x : Champ bt P S i old s.heap) (q : Q (some old) s) : wpAny (model prog w) A (seqItems? (.ref S)) Q E s := by
  obtain ⟨⟨c, e⟩, _⟩ := x
  exact wpAny_seqItems e rfl q
theorem best_write {prog : Program} {bt : Nat → Nat → Bool} {P : Nat → Value → Prop} {i : Nat} {old new : Array Value} {Q : Unit → Shared → Prop} (x : Champ bt P S i old s.heap) (hz : new.size ≤ 2)
    (h : ∀ h', (∃ c, h'.get? S = some { cls := .type "list", dict := none, data := .seq new c, slots := #[] }) → (∀ b o, b ≠ S → s.heap.get? b = some o → h'.get? b = some o) → Q () { s with heap := h' }) :
    wpAny (model prog w) A (updateSeq S fun _ => new) Q E s := by
  obtain ⟨⟨c, e⟩, ho⟩ := x
  have hs : old.size ≤ sizeLine := by
    rcases ho with ⟨_, rfl⟩ | ⟨_, _, rfl, _⟩ <;> exact Nat.le_of_ble_eq_true rfl
  refine wpAny_updateSeq e rfl (h _ ⟨_, Heap.get?_update_self _ e rfl⟩ fun b o hb q => ?_) hs (Nat.le_trans hz (Nat.le_of_ble_eq_true rfl))
  rw [Heap.get?_update_other _ _ (Ne.symm hb)]; exact q
end
theorem caught {α : Type} {M : Model} {A : Around} {E : Value → Shared → Prop} {s : Shared} {m : Sem α} {k : Value → Sem α} {Q : α → Shared → Prop} (h : wpAny M A m Q (fun e s' => wpAny M A (k e) Q E s') s) : wpAny M A (Sem.tryCatch m k) Q E s := wpAny_tryCatch h
/-- the names of the loops -/
noncomputable abbrev extLoop (op : CmpOp) : String := match op with | .Gt => "max.loop" | _ => "min.loop"
noncomputable abbrev extName (op : CmpOp) : String := match op with | .Gt => "max" | _ => "min"
theorem ext_plain {op : CmpOp} {code : Int} (K : Ord op code) : plainId (extLoop op) = true := by cases K; exact F.plain_min_loop; exact F.plain_max_loop
theorem ext_entry {op : CmpOp} {code : Int} (K : Ord op code) : entryFor table (extLoop op) = some (match op with | .Gt => Builtin.«max.loop» | _ => Builtin.«min.loop») := by cases K; exact F.entry_min_loop; exact F.entry_max_loop
theorem ext_call {op : CmpOp} {code : Int} (K : Ord op code) (x : Value) : builtinKind (extName op) = none ∧ plainId (extName op) = true ∧ entryFor table (extName op) = some (match op with | .Gt => Builtin.«max» | _ => Builtin.«min») ∧ argsOk (extName op) ⟨[x], []⟩ := by
  cases K
  · exact ⟨F.kind_min, F.plain_min, F.entry_min, F.args_min1 _⟩
  · exact ⟨F.kind_max, F.plain_max, F.entry_max, F.args_max1 _⟩
section
variable {w : World} {A : Around} {I S : Addr} {fp wr : List Addr} {n : Nat} {P : Nat → Value → Prop} {St : Nat → Heap → Prop} {B : Heap} {op : CmpOp} {code : Int} {bt : Nat → Nat → Bool}
theorem ext_turns (K : Ord op code) (W : Walks P0 w A.in1 I fp wr n P St) (hcmp : CmpIn w A.in1 op B P bt) (irr : ∀ i, bt i i = false) (tr : ∀ a b c, bt a b = true → bt c a = true → bt c b = true)
    (hSf : S ∉ fp) (hSB : B.get? S = none) (hwB : ∀ b ∈ wr, B.get? b = none) (hn : 0 < n) : ∀ (k i : Nat) (old : Array Value) (s : Shared), i + k = n → St i s.heap → Kp B s.heap → Champ bt P S i old s.heap →
    codeAny (model P0 w) A (.builtin (extLoop op) ⟨[.ref I, .none, .ref S], []⟩) (fun r s' => ∃ v m h' tk', r = .ok (.ret v) ∧ m < n ∧ P m v ∧ (∀ j, j < n → bt j m = false) ∧ s' = { s with heap := h', toks := tk' } ∧ Kp B h') s := by
  have hSw : S ∉ wr := fun h => hSf (W.sub _ h)
  have away : ∀ {h h' : Heap}, Kp B h → (∀ b o, b ∉ wr → h.get? b = some o → h'.get? b = some o) → Kp B h' := fun k f b o e => f b o (fun m => by rw [hwB b m] at e; cases e) (k b o e)
  have aside : ∀ {h h' : Heap}, Kp B h → (∀ b o, b ≠ S → h.get? b = some o → h'.get? b = some o) → Kp B h' := fun k f b o e => f b o (fun m => by rw [m, hSB] at e; cases e) (k b o e)
  intro k
  induction k with
  | zero =>
    intro i old s hi st kB ch
    rcases ch.2 with ⟨h0, _⟩ | ⟨m, v, ho, h1, h2, h3⟩
    · omega
    · have st' : St n s.heap := by rw [← hi]; exact st
      subst ho
      have K' := K
      cases K
      all_goals
        refine codeAny_builtin (ext_entry K') ?_
        rw [Around.under_plainId (ext_plain K') _]
        wp_walk using best_read ch, caught, W.done _ _ _ st'
        intro h₁ tk₁ k₁
        wp_walk using best_write (s := { s with heap := h₁, toks := tk₁ }) (ch.stay fun o e => k₁ _ _ hSw e)
        case hz => exact Nat.zero_le _
        intro h₂ _ k₂
        wp_walk
        exact ⟨v, m, h₂, tk₁, rfl, by omega, h2, fun j hj => h3 j (by omega), rfl, aside (away kB k₁) k₂⟩
  | succ k ih =>
    intro i old s hi st kB ch
    have n1 : (toString "min" ++ toString ".loop" : String) = extLoop .Lt := by decide
    have n2 : (toString "max" ++ toString ".loop" : String) = extLoop .Gt := by decide
    have K' := K
    cases K
    all_goals
      refine codeAny_builtin (ext_entry K') ?_
      rw [Around.under_plainId (ext_plain K') _]
      wp_walk using best_read ch, caught, W.item i _ _ _ (by omega) st
      intro v h₁ tk₁ hv st₁ k₁
      have kB₁ := away kB k₁
      have ch₁ : Champ bt P S i old h₁ := ch.stay fun o e => k₁ _ _ hSw e
      have on := fun new h₂ tk₂ x y z => ih (i + 1) new { s with heap := h₂, toks := tk₂ } (by omega) x y z
      have moved : ∀ h₂ : Heap, (∀ b o, b ≠ S → h₁.get? b = some o → h₂.get? b = some o) → St (i + 1) h₂ := fun h₂ k₂ => W.frame _ _ _ st₁ fun b hb o e => k₂ b o (fun q => hSf (q ▸ hb)) e
      rcases ch.2 with ⟨h0, rfl⟩ | ⟨m, u, rfl, g1, g2, g3⟩
      · wp_walk using best_write (s := { s with heap := h₁, toks := tk₁ }) ch₁
        case hz => exact Nat.le_refl _
        intro h₂ c₂ k₂
        wp_walk
        try rw [n1]
        try rw [n2]
        refine ⟨plainId_quiet (ext_plain K') _, on #[v, v] h₂ tk₁ (moved h₂ k₂) (aside kB₁ k₂) ⟨c₂, .inr ⟨i, v, rfl, Nat.lt_succ_self _, hv, fun j hj => ?_⟩⟩⟩
        have : j = i := by omega
        rw [this]; exact irr i
      · have cmp := fun E Q => hcmp i m v u { s with heap := h₁, toks := tk₁ } Q E kB₁ hv g2
        wp_walk using caught, cmp, wpAny_truthy_bool
        cases hb : bt i m with
        | false =>
          rw [hb] at cmp
          wp_walk
          try rw [n1]
          try rw [n2]
          refine ⟨plainId_quiet (ext_plain K') _, on #[u, u] h₁ tk₁ st₁ kB₁ ⟨ch₁.1, .inr ⟨m, u, rfl, by omega, g2, fun j hj => ?_⟩⟩⟩
          by_cases hji : j = i
          · rw [hji]; exact hb
          · exact g3 j (by omega)
        | true =>
          wp_walk using best_write (s := { s with heap := h₁, toks := tk₁ }) ch₁
          case hz => exact Nat.le_refl _
          intro h₂ c₂ k₂
          wp_walk
          try rw [n1]
          try rw [n2]
          refine ⟨plainId_quiet (ext_plain K') _, on #[v, v] h₂ tk₁ (moved h₂ k₂) (aside kB₁ k₂) ⟨c₂, .inr ⟨i, v, rfl, Nat.lt_succ_self _, hv, fun j hj => ?_⟩⟩⟩
          by_cases hji : j = i
          · rw [hji]; exact irr i
          · cases q : bt j i with
            | false => rfl
            | true => exact (tr i m j hb q).symm.trans (g3 j (by omega))
end
section
variable {w : World} {A : Around} {E : Value → Shared → Prop} {s : Shared} {op : CmpOp} {code : Int}
/-- the least, the greatest of what can be walked through -/
theorem ev_ext (K : Ord op code) {x : Value} {src : List Addr} {n : Nat} {P : Nat → Value → Prop} {Q : Value → Shared → Prop} (bt : Nat → Nat → Bool) (hit : Iters w A.in1 s.heap x src n P) (hcmp : CmpIn w A.in1 op s.heap P bt)
    (irr : ∀ i, bt i i = false) (tr : ∀ a b c, bt a b = true → bt c a = true → bt c b = true) (hn : 0 < n)
    (hQ : ∀ v m s', m < n → P m v → (∀ j, j < n → bt j m = false) → Keeps s s' → Q v s') : wpAny (model P0 w) A (call (.builtin (extName op)) [x]) Q E s := by
  have n1 : (toString "min" ++ toString ".loop" : String) = extLoop .Lt := by decide
  have n2 : (toString "max" ++ toString ".loop" : String) = extLoop .Gt := by decide
  have it := fun Q E => hit s Q E Kp.rfl
  have K' := K
  cases K
  all_goals
    refine call_function_tree (ext_call K' x).1 (ext_call K' x).2.1 (ext_call K' x).2.2.1 (ext_call K' x).2.2.2 ?_
    wp_walk using it
    intro s₂ I fp wr St k₂ W st hfp hwr _ _
    obtain ⟨h₂, tk₂, rfl, kk⟩ := k₂
    have hSB : s.heap.get? h₂.objs.size = none := by
      cases q : s.heap.get? h₂.objs.size with
      | none => rfl
      | some o => exact absurd (Heap.lt_size (kk _ _ q)) (Nat.lt_irrefl _)
    wp_walk
    try rw [n1]
    try rw [n2]
    refine ⟨plainId_quiet (ext_plain K') _, codeAny_mono (ext_turns K' W hcmp irr tr (S := h₂.objs.size) (fun m => Nat.lt_irrefl _ (hfp _ m)) hSB hwr hn n 0 #[] _ (by omega)
      (W.frame _ _ _ st fun b _ o e => Heap.get?_push_of_some _ e) (fun b o e => Heap.get?_push_of_some _ (kk b o e)) ⟨⟨_, Heap.get?_push_size _ rfl⟩, .inl ⟨rfl, rfl⟩⟩) fun r s' z => ?_⟩
    obtain ⟨v, m, h', tk', rfl, g1, g2, g3, rfl, k'⟩ := z
    exact hQ v m _ g1 g2 g3 ⟨h', tk', rfl, k'⟩
end
end PMx
section PMm
open PySem.SeqAt
section
variable {w : World} {A : Around} {E : Value → Shared → Prop} {s : Shared} {l b : Addr} {vs us : List Value} {ns ms : List Int} {Q : Value → Shared → Prop}
theorem int_at (hi : IntsAre vs ns) : ∀ (i : Nat) (v : Value), vs.toArray[i]? = some v → ∃ t, v = .int (ns.getD i 0) t := fun i v e => by
  rw [List.getElem?_toArray] at e
  have hlt : i < ns.length := by rw [← hi.length]; exact (List.getElem?_eq_some_iff.mp e).1
  obtain ⟨t, e'⟩ := ints_at hi hlt
  rw [e] at e'
  refine ⟨t, ?_⟩
  rw [Option.some.inj e', List.getD_eq_getElem?_getD, List.getElem?_eq_getElem hlt]; rfl
theorem each_int {p : Int → Prop} (h : ∀ j, j < ns.length → p (ns.getD j 0)) : ∀ a ∈ ns, p a := fun a ha => by
  obtain ⟨j, hj, rfl⟩ := List.getElem_of_mem ha
  have := h j hj
  rwa [List.getD_eq_getElem?_getD, List.getElem?_eq_getElem hj] at this
theorem int_in {j : Nat} (h : j < ns.length) : ns.getD j 0 ∈ ns := by
  rw [List.getD_eq_getElem?_getD, List.getElem?_eq_getElem h]; exact List.getElem_mem h
theorem min_ints (hh : A.handled = none) (hl : s.heap.IsList l vs.toArray) (hi : IntsAre vs ns) (hne : 0 < ns.length)
    (h : ∀ h' M t tk, Kp s.heap h' → M ∈ ns → (∀ a ∈ ns, M ≤ a) → Q (.int M t) { s with heap := h', toks := tk }) : wpAny (model P0 w) A (call (.builtin "min") [.ref l]) Q E s := by
  have z : vs.toArray.size = ns.length := by rw [List.size_toArray, hi.length]
  refine ev_ext .lt (fun i j => decide (ns.getD i 0 < ns.getD j 0)) (iters_list (A := A.in1) hh hl) (fun i j vi vj s' Q' E' _ a b q => CmpOf.ints_lt (fun i => ns.getD i 0) (int_at hi) i j vi vj s' Q' E' a b q)
    (fun i => by simp) (fun a b c x y => by simp only [decide_eq_true_eq] at x y ⊢; omega) (by omega) fun v m s' hm hv best k => ?_
  obtain ⟨t, rfl⟩ := int_at hi m v hv
  obtain ⟨h', tk, rfl, kk⟩ := k
  exact h h' _ t tk kk (int_in (by omega)) (each_int fun j hj => by have := best j (by omega); simp only [decide_eq_false_iff_not] at this; omega)
theorem max_ints (hh : A.handled = none) (hl : s.heap.IsList l vs.toArray) (hi : IntsAre vs ns) (hne : 0 < ns.length)
    (h : ∀ h' M t tk, Kp s.heap h' → M ∈ ns → (∀ a ∈ ns, a ≤ M) → Q (.int M t) { s with heap := h', toks := tk }) : wpAny (model P0 w) A (call (.builtin "max") [.ref l]) Q E s := by
  have z : vs.toArray.size = ns.length := by rw [List.size_toArray, hi.length]
  refine ev_ext .gt (fun i j => decide (ns.getD i 0 > ns.getD j 0)) (iters_list (A := A.in1) hh hl) (fun i j vi vj s' Q' E' _ a b q => CmpOf.ints_gt (fun i => ns.getD i 0) (int_at hi) i j vi vj s' Q' E' a b q)
    (fun i => by simp) (fun a b c x y => by simp only [decide_eq_true_eq] at x y ⊢; omega) (by omega) fun v m s' hm hv best k => ?_
  obtain ⟨t, rfl⟩ := int_at hi m v hv
  obtain ⟨h', tk, rfl, kk⟩ := k
  exact h h' _ t tk kk (int_in (by omega)) (each_int fun j hj => by have := best j (by omega); simp only [decide_eq_false_iff_not] at this; omega)
theorem sum_intl (hh : A.handled = none) (hl : s.heap.IsList l vs.toArray) (hi : IntsAre vs ns) (h : ∀ h' tk t', Kp s.heap h' → Q (.int ns.sum t') { s with heap := h', toks := tk }) :
    wpAny (model P0 w) A (call (.builtin "sum") [.ref l]) Q E s := by
  obtain ⟨xs, e⟩ := hi.allInts.items
  have nums : xs.toList.map (·.1) = ns := by
    have a : numsOf vs.toArray.toList = ns := hi.numsOf
    rwa [e, nums_intItems] at a
  rw [e] at hl
  refine sum_intListG hh hl fun h' tk t' kk => ?_
  have all : (xs.toList.map (·.1)).take xs.size = xs.toList.map (·.1) := List.take_of_length_le (by simp)
  rw [preSum_eq, all, nums]
  exact h h' tk t' kk
/-- a list, and the empty one -/
theorem eq_empty {xs : Array Value} (hl : s.heap.IsList l xs) (hb : s.heap.IsList b #[]) (hu : A.units < cLine) (h : Q (.bool (decide (xs.size = 0))) s) :
    wpAny (model P0 w) A (compareOp .Eq (.ref l) (.ref b)) Q E s := by
  by_cases hz : xs.size = 0
  · refine eq_listAt (e := fun _ => true) hl hb hz hu (fun j h1 h2 => absurd h1 (by omega)) ?_
    rw [hz]
    simpa [hz] using h
  · refine eq_list_lengthsAt hl hb (by simpa using hz) hu ?_
    simpa [hz] using h
end
end PMm
section PAl
/-- a list of texts -/
noncomputable def IsStrs (h : Heap) (r : List Str) (v : Value) : Prop := ∃ l vs, v = .ref l ∧ h.IsList l (List.toArray vs) ∧ StrsAre vs r
theorem IsStrs.keeps {h h' : Heap} {r : List Str} {v : Value} (x : IsStrs h r v) (k : Kp h h') : IsStrs h' r v := let ⟨l, vs, e, hl, hi⟩ := x; ⟨l, vs, e, hl.at fun o e => k _ _ e, hi⟩
noncomputable def cell0 (r : List Str) (k : Nat) : Str := r.getD k Str.empty
noncomputable def same (rows : List (List Str)) (k : Nat) : Bool := rows.all fun r => decide (k < r.length) && decide (cell0 r k = cell0 (rows.headD []) k)
noncomputable def alikeGo (rows : List (List Str)) : Nat → Nat → Nat
  | 0, k => k
  | f + 1, k => if same rows k = true then alikeGo rows f (k + 1) else k
noncomputable def alike (rows : List (List Str)) : Nat := alikeGo rows 6 0
theorem strs_len : ∀ {vs : List Value} {r : List Str}, StrsAre vs r → vs.length = r.length
  | _, _, .nil => rfl
  | _, _, .cons _ _ h => by simp [strs_len h]
theorem strs_at : ∀ {vs : List Value} {r : List Str}, StrsAre vs r → ∀ {k : Nat}, k < r.length → ∃ t, vs[k]? = some (.str (cell0 r k) t)
  | _, _, .cons y t h, 0, _ => ⟨t, rfl⟩
  | _, _, .cons y t h, k + 1, hk => by simpa [cell0] using strs_at h (by simpa using hk)
theorem paired_to {α β : Type} {F : α → β → Prop} : ∀ {l₁ : List α} {l₂ : List β}, Paired F l₁ l₂ → ∀ (i : Nat) (a : α), l₁[i]? = some a → ∃ b, l₂[i]? = some b ∧ F a b
  | _, _, .cons h r, 0, b, e => by cases e; exact ⟨_, rfl, h⟩
  | _, _, .cons h r, i + 1, b, e => by simpa using paired_to r i b (by simpa using e)
section
variable {w : World} {A : Around} {E : Value → Shared → Prop} {s : Shared}
theorem none_ge {h : Heap} {b : Addr} (hb : h.objs.size ≤ b) : h.get? b = none := by
  cases q : h.get? b with
  | none => rfl
  | some o => exact absurd (Heap.lt_size q) (Nat.not_lt.mpr hb)
theorem ldn_cell {env : Env} {ρ : Str → Option Value} {B : Heap} {x : Str} {v : Value} {Q : Value → Shared → Prop} (a : At w env ρ B s.heap) (hv : ρ x = some v) (h : Q v s)
    (hk : env.kindOf x = some .cell) : wpAny (model P0 w) A (loadName env x) Q E s := by
  obtain ⟨c, h1, h2, _⟩ := a.cel x (.inl hk)
  exact wpAny_loadName_cell a.fn hk h1 (hv ▸ h2) h
theorem paired_len_filter {F : Nat → Value → Prop} {p : Nat → Bool} {n : Nat} {ys : List Value} (h : Paired F ((List.range n).filter p) ys) : ys.length = 0 ↔ ∀ i, i < n → p i = false := by
  rw [← h.length, List.length_eq_zero_iff, List.filter_eq_nil_iff]
  simp
theorem ns_min : nsIn (Mine.K0 w.params) mainGlobals (Str.ofString "min") = some none := by k_is
theorem c_alike (T : TopAt w s.heap) (R : Room A 3) {D : Addr} {ys : List Value} {rows : List (List Str)} (hD : s.heap.IsList D (List.toArray ys)) (hr : Paired (IsStrs s.heap) rows ys) (hne : rows ≠ []) (hz : rows.length ≤ 100)
    (h5 : ∀ r ∈ rows, r.length ≤ 5) :
    wpAny (model P0 w) A (call (.ref 188) [.ref D]) (fun v s' => Keeps s s' ∧ ∃ t, v = .int (alike rows : Nat) t) E s := by
  have ho := Eq.refl ((Mine.K0 w.params).lookup 188)
  conv at ho => rhs; whnf
  conv at ho => rhs; pattern (paOf _); whnf
  conv at ho => rhs; pattern (boOf _); whnf
  conv at ho => rhs; pattern (scOf _); whnf
  refine enterC (f := 188) (k := 2) (binds := [(Str.ofString "rows", .ref D)]) T R ho (by k_is) rfl rfl (by decide) (fun L h₁ tk hL a R' => ?_)
  have hlen := hr.length
  refine xs_asg ?_
  walk_at "k"
  refine st_cell a rfl (c := L + 2) rfl (none_ge (by rw [hL]; exact Nat.le_add_right _ _)) (fun h₂ tk₂ a₂ k₂ => ?_)
  try dsimp only
  refine xs_one (while_end a₂ (fun m ρ h => ∃ k, m = 6 - k ∧ k ≤ 5 ∧ alikeGo rows m k = alike rows ∧ (∃ t, ρ (Str.ofString "k") = some (.int (k : Nat) t)) ∧ ρ (Str.ofString "rows") = some (.ref D))
    (fun ρ h => (∃ t, ρ (Str.ofString "k") = some (.int (alike rows : Nat) t))) 6 ?_ ?_ ?_)
  · exact ⟨0, rfl, by decide, rfl, ⟨_, upd_same⟩, (upd_ne (by decide)).trans rfl⟩
  · rintro m ρ₁ H tk₃ a₃ ⟨k, rfl, hk5, hgo, ⟨t3, hk⟩, hrows⟩
    refine wpAny_isTrue_BoolOp (wpAny_allTrue_And_cons (wpAny_isTrue_Compare1 ?_))
    walk_at "nm"
    refine Call_ ?_
    refine ld_boot a₃ ns_min boot_min' (by decide) ?_ rfl
    refine PyProof.Rows.callWith_builtin1 (args_cons (wpAny_mono (comp_eval (ρ := ρ₁) a₃ (by walk_at "static") (n := ys.length) (by rw [sizeLine_eq]; omega) (fun _ => true)
      (fun i y o => o = none ∧ ∃ t, y = .int ((rows.getD i []).length : Nat) t) (P := fun i v => List.toArray ys |>.toList[i]? = some v) (src := [D]) ?_ (fun _ _ _ _ _ _ _ _ _ _ _ => test_none) ?_) (fun v s₂ q => args_nil ?_) fun _ _ e => e) rfl) rfl
    · walk_at "nm"
      exact ⟨keeps_rfl, by simpa using iters_list R'.h (hD.at fun o e => a₃.keep _ _ e)⟩
    · intro C cs B₂ i v s₃ E' kB hi' hv _ a₄
      obtain ⟨r, hri, lr, rv, rfl, hlr, hir⟩ := paired_at hr i v (by simpa using hv)
      refine ev_len a₄ rfl ?_
      walk_at "nm"
      refine ⟨lr, _, rfl, .inl ((hlr.at fun o e => a₃.keep _ _ e).at fun o e => a₄.keep _ _ (kB _ _ e)), ?_, fun t tk => ⟨keeps_of Kp.rfl, .inl ⟨rfl, t, ?_⟩⟩⟩
      · rw [List.size_toArray, strs_len hir]
        have := h5 r (List.mem_of_getElem? hri)
        omega
      · rw [List.getD_eq_getElem?_getD, hri, List.size_toArray, strs_len hir]; rfl
    obtain ⟨kq, D', ys', rfl, fD', hD', hp⟩ := q
    rw [filter_true] at hp
    have hI := ints_paired (F := fun i => ((rows.getD i []).length : Nat)) (fun i v x => elem_none (f := fun i v => ∃ t, v = .int ((rows.getD i []).length : Nat) t) x) hp
    have kq' := keeps_kp kq
    obtain ⟨h₃, tk₃', rfl, _⟩ := kq
    try dsimp only at kq' hD' ⊢
    have hpos : 0 < rows.length := by cases rows with | nil => exact absurd rfl hne | cons _ _ => simp
    refine min_ints R'.h (ns := (List.range ys.length).map fun i => ((rows.getD i []).length : Int)) (vs := ys'.toList) (by simpa using hD'.isList) hI (by simp; omega) (fun h₄ M t tk₄ k₄ hM1 hM2 => ?_)
    try dsimp only
    obtain ⟨i0, hi0, rfl⟩ := List.mem_map.mp hM1
    have a₄ := (a₃.grow kq').grow k₄
    iterate 2 walk_at "k"
    have hro : ∀ i, i < rows.length → rows.getD i [] ∈ rows := fun i hi => by
      rw [List.getD_eq_getElem?_getD, List.getElem?_eq_getElem hi]; exact List.getElem_mem _
    split
    · rename_i hc
      have hall : ∀ r ∈ rows, k < r.length := fun r hr' => by
        obtain ⟨j, hj, e⟩ := List.getElem_of_mem hr'
        have h1 := hM2 ((rows.getD j []).length : Int) (List.mem_map.mpr ⟨j, List.mem_range.mpr (by omega), rfl⟩)
        rw [List.getD_eq_getElem?_getD (l := rows) (i := j), List.getElem?_eq_getElem hj, e] at h1
        simp only [decide_eq_true_eq] at hc
        simp only [Option.getD_some] at h1
        omega
      refine wpAny_allTrue_And_cons (wpAny_isTrue_Compare1 (wpAny_mono (comp_eval (ρ := ρ₁) a₄ (by walk_at "static") (n := ys.length) (by rw [sizeLine_eq]; omega) (fun i => !decide (cell0 (rows.getD i []) k = cell0 (rows.headD []) k))
        (fun i y o => True) (P := fun i v => List.toArray ys |>.toList[i]? = some v) (src := [D]) ?_ ?_ ?_) (fun v s₂ q => ?_) fun _ _ e => e))
      · walk_at "nm"
        exact ⟨keeps_rfl, by simpa using iters_list R'.h (hD.at fun o e => a₄.keep _ _ e)⟩
      · intro C cs B₂ i v s₃ E' kB hi' hv a₅
        refine test_one (wpAny_isTrue_Compare1 (Subscript_ ?_))
        obtain ⟨r, hri, lr, rv, rfl, hlr, hir⟩ := paired_at hr i v (by simpa using hv)
        obtain ⟨v0, hv0, l0, rv0, rfl, hl0, hi0'⟩ := paired_to hr 0 (rows.headD []) (by cases rows with | nil => exact absurd rfl hne | cons _ _ => rfl)
        have g5 : ∀ b o, s.heap.get? b = some o → s₃.heap.get? b = some o := fun b o e => a₅.keep _ _ (kB _ _ (a₄.keep _ _ e))
        obtain ⟨u1, e1⟩ := strs_at hir (hall r (List.mem_of_getElem? hri))
        obtain ⟨u2, e2⟩ := strs_at hi0' (hall (rows.headD []) (by cases rows with | nil => exact absurd rfl hne | cons _ _ => exact List.mem_cons_self))
        walk_at "nm"
        walk_at "nm"
        refine tl_list (hlr.at fun o e => g5 _ _ e) (by omega) (by omega) (x := .str (cell0 r k) u1) (by rw [List.getElem?_toArray]; exact e1) ?_
        refine Subscript_ (Subscript_ ?_)
        walk_at "nm"
        walk_at "k"
        refine tl_list (hD.at fun o e => g5 _ _ e) (by decide) (by decide) (x := .ref l0) (by rw [List.getElem?_toArray]; exact hv0) ?_
        walk_at "nm"
        refine tl_list (hl0.at fun o e => g5 _ _ e) (by omega) (by omega) (x := .str (cell0 (rows.headD []) k) u2) (by rw [List.getElem?_toArray]; exact e2) ?_
        iterate 2 walk_at "k"
        have er : rows.getD i [] = r := by rw [List.getD_eq_getElem?_getD, hri]; rfl
        refine ⟨?_, keeps_of Kp.rfl⟩
        rw [er]
        by_cases hq : cell0 r k = cell0 (rows.headD []) k
        · rw [hq]; simp
        · rw [decide_eq_false hq]; simpa [bne_iff_ne] using hq
      · intro C cs B₂ i v s₃ E' kB hi' hv _ a₅
        walk_at "nm"
        exact ⟨keeps_rfl, .inl True.intro⟩
      · obtain ⟨kq2, D2, ys2, rfl, fD2, hD2, hp2⟩ := q
        have kp2 := keeps_kp kq2
        have hsame : same rows k = decide (ys2.size = 0) := by
          have e1 := paired_len_filter hp2
          rw [Array.length_toList] at e1
          unfold same
          rw [Bool.eq_iff_iff, List.all_eq_true, decide_eq_true_eq, e1]
          constructor
          · intro h i hi
            have := h _ (hro i (by omega))
            simp only [Bool.and_eq_true, decide_eq_true_eq] at this
            show (!decide _) = false
            rw [decide_eq_true this.2]; rfl
          · intro h r hr'
            obtain ⟨j, hj, e⟩ := List.getElem_of_mem hr'
            have := h j (by omega)
            rw [List.getD_eq_getElem?_getD (l := rows) (i := j), List.getElem?_eq_getElem hj, e] at this
            simp only [Option.getD_some, Bool.not_eq_false', decide_eq_true_eq] at this
            simp only [Bool.and_eq_true, decide_eq_true_eq]
            exact ⟨hall r hr', this⟩
        obtain ⟨h₅, tk₅, rfl, _⟩ := kq2
        try dsimp only at kp2 hD2 ⊢
        refine List_ ?_
        walk_at "k"
        refine mk_list (by simp) (fun X h₆ hX k₆ fX => ?_)
        try dsimp only
        refine eq_empty (hD2.isList.at fun o e => k₆ _ _ e) hX.isList (by have := R'.u; show _ < 9900; omega) ?_
        walk_at "k"
        rw [← hsame]
        have a₆ := (a₄.grow kp2).grow k₆
        obtain ⟨f, hf⟩ : ∃ f, 6 - k = f + 1 := ⟨5 - k, by omega⟩
        split
        · rename_i hsm
          refine wpAny_allTrue_And_nil ?_
          rw [if_pos rfl]
          refine xs_aug ?_
          refine ldn_cell a₆ hk ?_ rfl
          iterate 2 walk_at "k"
          refine st_cell a₆ rfl (c := L + 2) rfl (none_ge (by rw [hL]; exact Nat.le_add_right _ _)) (fun h₇ tk₇ a₇ k₇ => ?_)
          have hk5' : k < 5 := Nat.lt_of_lt_of_le (hall _ (hro 0 hpos)) (h5 _ (hro 0 hpos))
          refine xs_nil ⟨rfl, _, _, _, 6 - (k + 1), rfl, a₇, by omega, k + 1, rfl, by omega, ?_, ⟨_, upd_same.trans (congrArg some (v_int (by omega) _))⟩, (upd_ne (by decide)).trans hrows⟩
          rw [← hgo, hf]
          have : 6 - (k + 1) = f := by omega
          rw [this]
          conv => rhs; unfold alikeGo
          rw [if_pos hsm]
        · rename_i hsm
          rw [if_neg Bool.false_ne_true]
          refine ⟨_, _, _, rfl, a₆, _, hk.trans (congrArg some (v_int ?_ _))⟩
          rw [← hgo, hf]
          unfold alikeGo
          rw [if_neg hsm]
    · rename_i hc
      rw [if_neg Bool.false_ne_true]
      refine ⟨_, _, _, rfl, a₄, _, hk.trans (congrArg some (v_int ?_ _))⟩
      rw [← hgo]
      obtain ⟨f, hf⟩ : ∃ f, 6 - k = f + 1 := ⟨5 - k, by omega⟩
      rw [hf]
      unfold alikeGo
      rw [if_neg]
      intro hsm
      have := List.all_eq_true.mp hsm _ (hro i0 (by have := List.mem_range.mp hi0; omega))
      simp only [Bool.and_eq_true, decide_eq_true_eq] at this
      simp only [decide_eq_true_eq] at hc
      omega
  · rintro ρ₂ h' tk' a' ⟨t, hk⟩
    refine Nx.go (xs_ret ?_)
    walk_at "nm"
    exact ⟨keeps_of a'.keep, t, rfl⟩
end
end PAl
section POr
/-- the order of texts, of rows of texts -/
noncomputable abbrev sl (a b : Str) : Prop := a.cps.toList < b.cps.toList
theorem sl_trans {a b c : Str} (h : sl a b) (g : sl b c) : sl a c := List.lt_trans h g
theorem sl_irrefl (a : Str) : ¬ sl a a := List.lt_irrefl _
theorem sl_tri {a b : Str} (h : a ≠ b) : sl a b ∨ sl b a := by
  by_cases h1 : sl a b
  · exact .inl h1
  · refine .inr ?_
    by_cases h2 : sl b a
    · exact h2
    · refine absurd ?_ h
      have e : a.cps.toList = b.cps.toList := List.le_antisymm (List.not_lt.mp h2) (List.not_lt.mp h1)
      cases a; cases b
      simp only at e
      congr
      exact Array.ext' e
noncomputable def lexLt : List Str → List Str → Bool
  | [], [] => false
  | [], _ :: _ => true
  | _ :: _, [] => false
  | x :: xs, y :: ys => if x = y then lexLt xs ys else decide (sl x y)
theorem lexLt_trans : ∀ {a b c : List Str}, lexLt a b = true → lexLt b c = true → lexLt a c = true
  | [], [], _, h, _ => by simp [lexLt] at h
  | [], _ :: _, [], _, g => by simp [lexLt] at g
  | [], _ :: _, _ :: _, _, _ => rfl
  | _ :: _, [], _, h, _ => by simp [lexLt] at h
  | _ :: _, _ :: _, [], _, g => by simp [lexLt] at g
  | x :: xs, y :: ys, z :: zs, h, g => by
    unfold lexLt at h g ⊢
    by_cases hxy : x = y
    · subst hxy
      rw [if_pos rfl] at h
      by_cases hyz : x = z
      · subst hyz
        rw [if_pos rfl] at g ⊢
        exact lexLt_trans h g
      · rw [if_neg hyz] at g ⊢
        exact g
    · rw [if_neg hxy, decide_eq_true_eq] at h
      by_cases hyz : y = z
      · subst hyz
        rw [if_neg hxy]; exact decide_eq_true h
      · rw [if_neg hyz, decide_eq_true_eq] at g
        have := sl_trans h g
        have hne : x ≠ z := by rintro rfl; exact sl_irrefl _ this
        rw [if_neg hne]; exact decide_eq_true this
theorem lexLt_irrefl : ∀ (a : List Str), lexLt a a = false
  | [] => rfl
  | x :: xs => by unfold lexLt; rw [if_pos rfl]; exact lexLt_irrefl xs
/-- what stands between two rows begins as both do -/
theorem between : ∀ {a b c : List Str}, lexLt b a = false → lexLt c b = false → ∀ k, k ≤ a.length → k ≤ c.length → a.take k = c.take k → k ≤ b.length ∧ b.take k = a.take k
  | _, _, _, _, _, 0, _, _, _ => ⟨Nat.zero_le _, by simp⟩
  | x :: xs, b, z :: zs, h, g, k + 1, h1, h2, e => by
    simp only [List.take_succ_cons, List.cons.injEq] at e
    obtain ⟨rfl, e⟩ := e
    cases b with
    | nil => simp [lexLt] at h
    | cons y ys =>
      unfold lexLt at h g
      by_cases hxy : y = x
      · subst hxy
        rw [if_pos rfl] at h g
        obtain ⟨p, q⟩ := between h g k (by simpa using h1) (by simpa using h2) e
        exact ⟨by simpa using p, by simp [q]⟩
      · rw [if_neg hxy, decide_eq_false_iff_not] at h
        rw [if_neg (Ne.symm hxy), decide_eq_false_iff_not] at g
        rcases sl_tri hxy with q | q
        · exact absurd q h
        · exact absurd q g
/-- the one order, or the other, as a comparison tells it -/
noncomputable def ordB (op : CmpOp) (r q : List Str) : Bool := match op with | .Gt => lexLt q r | _ => lexLt r q
theorem ordB_irrefl (op : CmpOp) (r : List Str) : ordB op r r = false := by cases op <;> exact lexLt_irrefl r
theorem ordB_trans {op : CmpOp} {a b c : List Str} (h : ordB op a b = true) (g : ordB op b c = true) : ordB op a c = true := by
  cases op <;> first | exact lexLt_trans h g | exact lexLt_trans g h
theorem ordB_same (op : CmpOp) (x : Str) (r q : List Str) : ordB op (x :: r) (x :: q) = ordB op r q := by cases op <;> simp [ordB, lexLt]
theorem ordB_nil (op : CmpOp) (r q : List Str) (h : r = [] ∨ q = []) : ordB op r q = match op with | .Gt => decide (r.length > q.length) | _ => decide (r.length < q.length) := by
  rcases h with rfl | rfl <;> cases op <;> first | (cases q <;> simp [ordB, lexLt]) | (cases r <;> simp [ordB, lexLt])
noncomputable def pref : List Str → List Str → Nat
  | x :: xs, y :: ys => if x = y then pref xs ys + 1 else 0
  | _, _ => 0
theorem pref_take : ∀ (a c : List Str), pref a c ≤ a.length ∧ pref a c ≤ c.length ∧ a.take (pref a c) = c.take (pref a c)
  | [], _ => by simp [pref]
  | _ :: _, [] => by simp [pref]
  | x :: xs, y :: ys => by
    unfold pref
    by_cases h : x = y
    · rw [if_pos h]
      obtain ⟨p, q, r⟩ := pref_take xs ys
      exact ⟨by simpa using p, by simpa using q, by simp [h, r]⟩
    · rw [if_neg h]; simp
theorem pref_same : ∀ (a c : List Str) (j : Nat), j < pref a c → cell0 a j = cell0 c j
  | [], _, j, h => by simp [pref] at h
  | _ :: _, [], j, h => by simp [pref] at h
  | x :: xs, y :: ys, j, h => by
    unfold pref at h
    by_cases hxy : x = y
    · rw [if_pos hxy] at h
      cases j with
      | zero => simpa [cell0] using hxy
      | succ j => simpa [cell0] using pref_same xs ys j (by omega)
    · rw [if_neg hxy] at h; omega
theorem pref_diff : ∀ (a c : List Str), pref a c < a.length → pref a c < c.length → cell0 a (pref a c) ≠ cell0 c (pref a c)
  | [], _, h, _ => by simp at h
  | _ :: _, [], _, h => by simp at h
  | x :: xs, y :: ys, h, g => by
    unfold pref at h g ⊢
    by_cases hxy : x = y
    · rw [if_pos hxy] at h g ⊢
      simpa [cell0] using pref_diff xs ys (by simpa using h) (by simpa using g)
    · rw [if_neg hxy] at h g ⊢
      simpa [cell0] using hxy
theorem pref_in : ∀ (a c : List Str), lexLt c a = false → pref a c < a.length → pref a c < c.length
  | [], _, _, h => by simp at h
  | _ :: _, [], g, h => by simp [lexLt] at g
  | x :: xs, y :: ys, g, h => by
    unfold pref at h ⊢
    unfold lexLt at g
    by_cases hxy : x = y
    · rw [if_pos hxy.symm] at g
      rw [if_pos hxy] at h ⊢
      have := pref_in xs ys g (by simpa using h)
      simpa using this
    · rw [if_neg hxy]; simp
theorem alikeGo_eq (rows : List (List Str)) : ∀ f k K, k ≤ K → K < k + f → (∀ j, k ≤ j → j < K → same rows j = true) → same rows K = false → alikeGo rows f k = K
  | 0, k, K, h1, h2, _, _ => by omega
  | f + 1, k, K, h1, h2, h3, h4 => by
    unfold alikeGo
    by_cases hk : k = K
    · subst hk
      rw [if_neg (by rw [h4]; decide)]
    · rw [if_pos (h3 k (Nat.le_refl _) (by omega))]
      exact alikeGo_eq rows f (k + 1) K (by omega) (by omega) (fun j a b => h3 j (by omega) b) h4
theorem take_cell {a b : List Str} {k j : Nat} (h : a.take k = b.take k) (hj : j < k) : cell0 a j = cell0 b j := by
  have := congrArg (fun l => l.getD j Str.empty) h
  simpa [cell0, List.getD_eq_getElem?_getD, List.getElem?_take, hj] using this
/-- what all rows begin with, told by the least and the greatest -/
theorem alike_pref {rows : List (List Str)} {a c : List Str} (ha : a ∈ rows) (hc : c ∈ rows) (h5 : ∀ r ∈ rows, r.length ≤ 5) (hmin : ∀ r ∈ rows, lexLt r a = false) (hmax : ∀ r ∈ rows, lexLt c r = false) :
    alike rows = pref a c ∧ a.take (pref a c) = (rows.headD []).take (alike rows) := by
  obtain ⟨p1, p2, p3⟩ := pref_take a c
  have hall : ∀ r ∈ rows, pref a c ≤ r.length ∧ r.take (pref a c) = a.take (pref a c) := fun r hr => between (hmin r hr) (hmax r hr) _ p1 p2 p3
  have hhd : rows.headD [] ∈ rows := by cases rows with | nil => cases ha | cons _ _ => exact List.mem_cons_self
  have he : alike rows = pref a c := by
    refine alikeGo_eq rows 6 0 _ (Nat.zero_le _) (by have := h5 a ha; omega) (fun j _ hj => ?_) ?_
    · unfold same
      rw [List.all_eq_true]
      intro r hr
      obtain ⟨q1, q2⟩ := hall r hr
      obtain ⟨q3, q4⟩ := hall _ hhd
      simp only [Bool.and_eq_true, decide_eq_true_eq]
      exact ⟨by omega, take_cell (q2.trans q4.symm) hj⟩
    · rw [Bool.eq_false_iff]
      intro h
      unfold same at h
      rw [List.all_eq_true] at h
      have h1 := h a ha
      have h2 := h c hc
      simp only [Bool.and_eq_true, decide_eq_true_eq] at h1 h2
      exact pref_diff a c h1.1 h2.1 (h1.2.trans h2.2.symm)
  refine ⟨he, ?_⟩
  rw [he]
  exact (hall _ hhd).2.symm
end POr
section PLx
open PySem.SeqAt PySem.AutoSeq1 PySem.MeetsSeq PySem.MeetsSeq2 PySem.MeetsSeq3
/-- a comparison of two values, told in every world -/
noncomputable def RcBy (op : CmpOp) (A : Around) (s : Shared) (y x : Value) (b : Bool) : Prop :=
  ∀ (prog : Program) (w : World) (E Q : Value → Shared → Prop), Q (.bool b) s → wpAny (model prog w) A (richCompare op y x) Q E s
section
variable {A : Around} {s : Shared} {op : CmpOp} {code : Int}
theorem rc_str (O : Ord op code) {a b : Str} (h : a ≠ b) (t u : Tok) (r q : List Str) : RcBy op A s (.str a t) (.str b u) (ordB op (a :: r) (b :: q)) := fun prog w E Q hq => by
  cases O with
  | lt =>
    refine richCompare_gives (typeIs_str s a t) (typeIs_str s b u) F.slot_str_lt F.entry_str_lt (F.args_str_lt_2 _ _) (gives_str_lt a b t u) (by simp [Made.takes]) ?_
    simp only [ordB, lexLt, if_neg h] at hq
    exact hq
  | gt =>
    refine richCompare_gives (typeIs_str s a t) (typeIs_str s b u) F.slot_str_gt F.entry_str_gt (F.args_str_gt_2 _ _) (gives_str_gt a b t u) (by simp [Made.takes]) ?_
    simp only [ordB, lexLt, if_neg (Ne.symm h)] at hq
    exact hq
theorem items_of {prog : Program} {w : World} {E : Value → Shared → Prop} {l : Addr} {xs : Array Value} {Q : Array Value → Shared → Prop} (h : s.heap.IsList l xs) (q : Q xs s) : wpAny (model prog w) A (Builtin.List.listItems (.ref l)) Q E s := by
  obtain ⟨_, ho, _, _, hd⟩ := h
  exact wpAny_listItems ho hd q
/-- what the i-th place of a row of texts holds -/
theorem strs_nth : ∀ {vs : List Value} {r : List Str}, StrsAre vs r → ∀ i : Nat, (r.drop i = [] ∧ vs[i]? = none) ∨ ∃ x t, r.drop i = x :: r.drop (i + 1) ∧ vs[i]? = some (.str x t)
  | _, _, .nil, _ => .inl ⟨by simp, rfl⟩
  | _, _, .cons x t _, 0 => .inr ⟨x, t, rfl, rfl⟩
  | _, _, .cons _ _ h, i + 1 => strs_nth h i
theorem sizes_lt {r q : List Str} {i : Nat} (hi : i ≤ r.length) (hj : i ≤ q.length) (h : r.drop i = [] ∨ q.drop i = []) : ordB .Lt (r.drop i) (q.drop i) = decide (r.length < q.length) := by
  rw [ordB_nil _ _ _ h]; simp only [List.length_drop, decide_eq_decide]; omega
theorem sizes_gt {r q : List Str} {i : Nat} (hi : i ≤ r.length) (hj : i ≤ q.length) (h : r.drop i = [] ∨ q.drop i = []) : ordB .Gt (r.drop i) (q.drop i) = decide (r.length > q.length) := by
  rw [ordB_nil _ _ _ h]; simp only [List.length_drop, decide_eq_decide]; omega
/-- what a comparison's turn is to end in -/
noncomputable abbrev Turns (prog : Program) (w : World) (A : Around) (s : Shared) (R : Result → Shared → Prop) (tree : Sem Fin) : Prop :=
  wpAny (model prog w) A.in1 tree (fun fin s' => match fin with | .done f => R (.ok f) s' | .again c' => c'.quiet = true ∧ codeAny (model prog w) A c' R s') (fun e s' => R (.error e) s') s
noncomputable abbrev listTurn (l b : Addr) (i : Nat) (code : Int) : Sem Fin := Builtin.«list.__eq__.loop» ⟨[.ref l, .ref b, rawInt i, rawInt code], []⟩
section
variable {l b : Addr} {vs us : List Value} {r q : List Str} {prog : Program} {w : World} {R : Result → Shared → Prop}
theorem list_turn (O : Ord op code) (hl : s.heap.IsList l vs.toArray) (hb : s.heap.IsList b us.toArray) (h1 : StrsAre vs r) (h2 : StrsAre us q) {i : Nat} (hi : i ≤ r.length) (hj : i ≤ q.length)
    (hR : R (.ok (.ret (.bool (ordB op (r.drop i) (q.drop i))))) s)
    (next : ∀ x, r.drop i = x :: r.drop (i + 1) → q.drop i = x :: q.drop (i + 1) → Turns prog w A s R (listTurn l b (i + 1) code)) : Turns prog w A s R (listTurn l b i code) := by
  have z1 : vs.toArray.size = r.length := by simpa using strs_len h1
  have z2 : us.toArray.size = q.length := by simpa using strs_len h2
  unfold Turns listTurn
  rcases strs_nth h1 i with ⟨e1, g1⟩ | ⟨x, t, e1, g1⟩
  · cases O
    · rw [sizes_lt hi hj (.inl e1), ← z1, ← z2] at hR
      wp_walk using items_of hl, items_of hb
      simp only [Int.toNat_natCast, List.getElem?_toArray, g1]
      wp_walk using items_of hl, items_of hb
      exact hR
    · rw [sizes_gt hi hj (.inl e1), ← z1, ← z2] at hR
      wp_walk using items_of hl, items_of hb
      simp only [Int.toNat_natCast, List.getElem?_toArray, g1]
      wp_walk using items_of hl, items_of hb
      exact hR
  · rcases strs_nth h2 i with ⟨e2, g2⟩ | ⟨y, u, e2, g2⟩
    · cases O
      · rw [sizes_lt hi hj (.inr e2), ← z1, ← z2] at hR
        wp_walk using items_of hl, items_of hb
        simp only [Int.toNat_natCast, List.getElem?_toArray, g1, g2]
        wp_walk using items_of hl, items_of hb
        exact hR
      · rw [sizes_gt hi hj (.inr e2), ← z1, ← z2] at hR
        wp_walk using items_of hl, items_of hb
        simp only [Int.toNat_natCast, List.getElem?_toArray, g1, g2]
        wp_walk using items_of hl, items_of hb
        exact hR
    · rw [e1, e2] at hR
      by_cases hxy : x = y
      · subst hxy
        have go : codeAny (model prog w) A (.builtin "list.__eq__.loop" ⟨[.ref l, .ref b, rawInt (i + 1), rawInt code], []⟩) R s := codeAny_builtin entry_eq_loop (by rw [Around.under_plainId plain_eq_loop _]; exact next x e1 e2)
        cases O
        all_goals
          wp_walk using items_of hl, items_of hb
          simp only [Int.toNat_natCast, List.getElem?_toArray, g1, g2]
          refine wpAny_bind (EqAt.str_str x t x u prog w _ _ ?_)
          rw [beq_self_eq_true]
          wp_walk
          exact ⟨plainId_quiet plain_eq_loop _, go⟩
      · have st := rc_str (A := A.in1) (s := s) O hxy t u (r.drop (i + 1)) (q.drop (i + 1)) prog w (fun e s' => R (.error e) s')
        cases O
        all_goals
          wp_walk using items_of hl, items_of hb
          simp only [Int.toNat_natCast, List.getElem?_toArray, g1, g2]
          refine wpAny_bind (EqAt.str_str x t y u prog w _ _ ?_)
          rw [beq_false_of_ne hxy]
          wp_walk using items_of hl, items_of hb
          simp only [List.getElem?_toArray, g1, g2]
          refine wpAny_bind (st _ ?_)
          wp_walk
          exact hR
theorem list_turns (O : Ord op code) (hl : s.heap.IsList l vs.toArray) (hb : s.heap.IsList b us.toArray) (h1 : StrsAre vs r) (h2 : StrsAre us q) :
    ∀ n i : Nat, r.length - i ≤ n → i ≤ r.length → i ≤ q.length → R (.ok (.ret (.bool (ordB op (r.drop i) (q.drop i))))) s → Turns prog w A s R (listTurn l b i code) := by
  intro n
  induction n with
  | zero =>
    intro i hn hi hj hR
    refine list_turn O hl hb h1 h2 hi hj hR fun x e _ => ?_
    rw [List.drop_of_length_le (by omega)] at e; cases e
  | succ n ih =>
    intro i hn hi hj hR
    refine list_turn O hl hb h1 h2 hi hj hR fun x e g => ?_
    have e' := congrArg List.length e
    have g' := congrArg List.length g
    simp only [List.length_drop, List.length_cons] at e' g'
    rw [e, g, ordB_same] at hR
    exact ih (i + 1) (by omega) (by omega) (by omega) hR
end
theorem rc_lists (O : Ord op code) {l b : Addr} {vs us : List Value} {r q : List Str} (hl : s.heap.IsList l vs.toArray) (hb : s.heap.IsList b us.toArray) (h1 : StrsAre vs r) (h2 : StrsAre us q) (hu : A.units < cLine) :
    RcBy op A s (.ref l) (.ref b) (ordB op r q) := fun prog w E Q h => by
  have M : ∀ (prog : Program) (w : World) (A : Around) (R : Result → Shared → Prop) (s : Shared), s.heap.IsList l vs.toArray ∧ s.heap.IsList b us.toArray ∧ R (.ok (.ret (.bool (ordB op r q)))) s → codeAny (model prog w) A (.builtin "list.__eq__.loop" ⟨[.ref l, .ref b, rawInt (0 : Nat), rawInt code], []⟩) R s :=
    fun prog w A R s x => codeAny_builtin entry_eq_loop (by
      rw [Around.under_plainId plain_eq_loop _]
      exact list_turns O x.1 x.2.1 h1 h2 _ 0 (Nat.le_refl _) (Nat.zero_le _) (Nat.zero_le _) x.2.2)
  have sub := AutoSeq1.sub_list_list
  have t1 := hl.typeIs
  have t2 := hb.typeIs
  cases O
  · refine richCompare_meets_room (op := .Lt) (S := fun _ R s => s.heap.IsList l vs.toArray ∧ s.heap.IsList b us.toArray ∧ R (.ok (.ret (.bool (ordB .Lt r q)))) s) t1 t2 F.slot_list_lt F.entry_list_lt (F.args_list_lt_2 _ _) (fun prog w A R s x => ?_) ⟨hl, hb, (fun x => nomatch x), h⟩ hu
    have t2 := x.2.1.typeIs
    wp_walk
    exact ⟨plainId_quiet plain_eq_loop _, M prog w A R s x⟩
  · refine richCompare_meets_room (op := .Gt) (S := fun _ R s => s.heap.IsList l vs.toArray ∧ s.heap.IsList b us.toArray ∧ R (.ok (.ret (.bool (ordB .Gt r q)))) s) t1 t2 F.slot_list_gt F.entry_list_gt (F.args_list_gt_2 _ _) (fun prog w A R s x => ?_) ⟨hl, hb, (fun x => nomatch x), h⟩ hu
    have t2 := x.2.1.typeIs
    wp_walk
    exact ⟨plainId_quiet plain_eq_loop _, M prog w A R s x⟩
theorem tup_items {prog : Program} {w : World} {E : Value → Shared → Prop} {l : Addr} {xs : Array Value} {Q : Array Value → Shared → Prop} (h : s.heap.IsTuple l xs) (q : Q xs s) : wpAny (model prog w) A (Builtin.Tuple.tupleItemsOf (.ref l)) Q E s := by
  obtain ⟨_, ho, _, _, hd⟩ := h
  exact wpAny_tupleItemsOf ho hd q
/-- what is left of two rows, when the heads were alike so far -/
noncomputable def Left (op : CmpOp) (r q : List Str) (rest : List (Value × Value)) : Prop :=
  ∃ ps qs r' q', rest = ps.zip qs ∧ StrsAre ps r' ∧ StrsAre qs q' ∧ ordB op r q = ordB op r' q' ∧ r.length + q'.length = q.length + r'.length
theorem Left.over {r q : List Str} (h : Left op r q []) : ∃ r' q', ordB op r q = ordB op r' q' ∧ (r' = [] ∨ q' = []) ∧ r.length + q'.length = q.length + r'.length := by
  obtain ⟨ps, qs, r', q', e, g1, g2, e', hl⟩ := h
  refine ⟨r', q', e', ?_, hl⟩
  cases g1 with
  | nil => exact .inl rfl
  | cons => cases g2 with
    | nil => exact .inr rfl
    | cons => cases e
theorem Left.head {r q : List Str} {y x : Value} {rest : List (Value × Value)} (h : Left op r q ((y, x) :: rest)) :
    ∃ a t b u r' q', y = .str a t ∧ x = .str b u ∧ ordB op r q = ordB op (a :: r') (b :: q') ∧ (a = b → Left op r q rest) := by
  obtain ⟨ps, qs, r', q', e, g1, g2, e', hl⟩ := h
  cases g1 with
  | nil => cases e
  | cons a t g1 => cases g2 with
    | nil => cases e
    | cons b u g2 =>
      cases e
      exact ⟨a, t, b, u, _, _, rfl, rfl, e', fun h => ⟨_, _, _, _, rfl, g1, g2, by rw [e', h, ordB_same], by simp only [List.length_cons] at hl; omega⟩⟩
theorem rc_tups (O : Ord op code) {l b : Addr} {vs us : List Value} {r q : List Str} (hl : s.heap.IsTuple l vs.toArray) (hb : s.heap.IsTuple b us.toArray) (h1 : StrsAre vs r) (h2 : StrsAre us q) (hu : A.units < cLine) :
    RcBy op A s (.ref l) (.ref b) (ordB op r q) := fun prog w E Q h => by
  have sub := AutoSeq1.sub_tuple_tuple
  have t1 := hl.typeIs
  have t2 := hb.typeIs
  have z1 : vs.toArray.size = r.length := by simpa using strs_len h1
  have z2 : us.toArray.size = q.length := by simpa using strs_len h2
  have K := O
  cases O
  case' lt => refine richCompare_meets_room (op := .Lt) (S := fun _ R s => s.heap.IsTuple l vs.toArray ∧ s.heap.IsTuple b us.toArray ∧ R (.ok (.ret (.bool (ordB .Lt r q)))) s) t1 t2 F.slot_tuple_lt F.entry_tuple_lt (F.args_tuple_lt_2 _ _) (.of_wp fun prog w A R s x => ?_) ⟨hl, hb, (fun x => nomatch x), h⟩ hu
  case' gt => refine richCompare_meets_room (op := .Gt) (S := fun _ R s => s.heap.IsTuple l vs.toArray ∧ s.heap.IsTuple b us.toArray ∧ R (.ok (.ret (.bool (ordB .Gt r q)))) s) t1 t2 F.slot_tuple_gt F.entry_tuple_gt (F.args_tuple_gt_2 _ _) (.of_wp fun prog w A R s x => ?_) ⟨hl, hb, (fun x => nomatch x), h⟩ hu
  all_goals
    obtain ⟨hl, hb, hR⟩ := x
    have t2 := hb.typeIs
  case' lt => wp_walk using tup_items hl, tup_items hb, wpAny_forIn_list _ (fun rest v s' => v.1 = none ∧ s' = s ∧ Left .Lt r q rest) _
  case' gt => wp_walk using tup_items hl, tup_items hb, wpAny_forIn_list _ (fun rest v s' => v.1 = none ∧ s' = s ∧ Left .Gt r q rest) _
  case lt.h.h.h.h | gt.h.h.h.h => exact ⟨rfl, rfl, vs, us, r, q, rfl, h1, h2, rfl, Nat.add_comm _ _⟩
  case lt.h.h.h.fin | gt.h.h.h.fin =>
    rintro ⟨_, _⟩ _ ⟨rfl, rfl, o⟩
    obtain ⟨r', q', e, hn, hz⟩ := o.over
    rw [e, ordB_nil _ r' q' hn] at hR
    try rw [show decide (r'.length < q'.length) = decide (vs.toArray.size < us.toArray.size) by rw [z1, z2, decide_eq_decide]; omega] at hR
    try rw [show decide (r'.length > q'.length) = decide (vs.toArray.size > us.toArray.size) by rw [z1, z2, decide_eq_decide]; omega] at hR
    wp_walk
    exact ⟨_, rfl, hR⟩
  case lt.h.h.h.turn | gt.h.h.h.turn =>
    rintro ⟨y, x⟩ rest ⟨_, _⟩ s₁ ⟨rfl, rfl, o⟩
    obtain ⟨a, t, b, u, r', q', rfl, rfl, e, nx⟩ := o.head
    refine wpAny_bind (EqAt.str_str a t b u prog w _ _ ?_)
    by_cases hab : a = b
    · rw [hab, beq_self_eq_true]
      wp_walk
      exact ⟨rfl, rfl, nx hab⟩
    · rw [beq_false_of_ne hab]
      rw [e] at hR
      have st := fun E Q => rc_str (A := A.in1) (s := s₁) K hab t u r' q' prog w E Q
      wp_walk using st
      exact ⟨_, rfl, hR⟩
end
end PLx
section PEn
open PySem.AutoSeq1
section
variable {prog : Program} {w : World} {A : Around} {E : Value → Shared → Prop} {s : Shared}
/-- the next of a tuple's items: by the walker's own text -/
theorem by_next {it : Addr} {Q : Value → Shared → Prop} (hT : s.TypeIs (.ref it) "tuple_iterator")
    (h : wpAny (model prog w) A.in1 (Builtin.«tuple_iterator.__next__» ⟨[.ref it], []⟩) (fun fin s' => ∃ v, fin = .done (.ret v) ∧ Q v s') E s) : wpAny (model prog w) A (Builtin.SmallTypes.nextOf (.ref it)) Q E s := by
  have c := wpAny_callSpecial?_slot (args := []) (name := Str.ofString "__next__") (Q := fun r s' => ∃ v, r = some v ∧ Q v s') hT slot_tupleiter_next
    (wpAny_call_entry slot_tupleiter_next hT entry_tupleiter_next (wpAny_mono h (fun fin s' => fun ⟨v, e, q⟩ => ⟨v, e, v, rfl, q⟩) fun _ _ e => e) (args_tupleiter_next _))
  refine wpAny_bind (wpAny_mono c (fun r s' => fun ⟨v, e, q⟩ => ?_) fun _ _ e => e)
  subst e
  exact wpAny_pure q
theorem nextOf_tuple_item {it t : Addr} {i : Nat} {items : Array Value} {x : Value} {Q : Value → Shared → Prop} (hit : IsTupIter s.heap it t i) (ht : IsTup s.heap t items) (hx : items[i]? = some x)
    (hQ : ∀ h', IsTupIter h' it t (i + 1) → Heap.SameBut it s.heap h' → Q x { s with heap := h' }) : wpAny (model prog w) A (Builtin.SmallTypes.nextOf (.ref it)) Q E s := by
  refine by_next hit.typeIs ?_
  obtain ⟨⟨_, dd, _, sl⟩, ho, rfl, rfl⟩ := hit
  obtain ⟨⟨_, dt, _, st⟩, hol, rfl, n, rfl⟩ := ht
  wp_walk
  rw [Int.toNat_natCast, hx]
  wp_walk
  refine ⟨x, rfl, hQ _ ⟨_, Heap.get?_update_self _ ho rfl, rfl, ?_⟩ (Heap.SameBut.update ..)⟩
  simp [Obj.mapFields, rawInt]
theorem nextOf_tuple_end {it t : Addr} {i : Nat} {items : Array Value} {Q : Value → Shared → Prop} (hh : A.handled = none) (hit : IsTupIter s.heap it t i) (ht : IsTup s.heap t items) (hx : items[i]? = none)
    (hE : ∀ h' e, Heap.ExtBut it s.heap h' → (∃ o, h'.get? e = some o ∧ o.cls = .type "StopIteration") → E (.ref e) { s with heap := h' }) :
    wpAny (model prog w) A (Builtin.SmallTypes.nextOf (.ref it)) Q E s := by
  refine by_next hit.typeIs ?_
  obtain ⟨⟨_, dd, _, sl⟩, ho, rfl, rfl⟩ := hit
  obtain ⟨⟨_, dt, _, st⟩, hol, rfl, n, rfl⟩ := ht
  wp_walk
  rw [Int.toNat_natCast, hx]
  wp_walk
  have none : A.in1.handled = .none := hh
  unfold raiseNew
  wp_walk
  exact hE _ _ (((Heap.SameBut.update ..).extBut.push _).push _) ⟨_, Heap.get?_push_size _ rfl, rfl⟩
end
theorem tup_at {h h' : Heap} {a : Addr} {items : Array Value} (x : IsTup h a items) (k : ∀ o, h.get? a = some o → h'.get? a = some o) : IsTup h' a items := let ⟨o, e, r⟩ := x; ⟨o, k o e, r⟩
theorem tupit_at {h h' : Heap} {a t : Addr} {i : Nat} (x : IsTupIter h a t i) (k : ∀ o, h.get? a = some o → h'.get? a = some o) : IsTupIter h' a t i := let ⟨o, e, r⟩ := x; ⟨o, k o e, r⟩
theorem draws_tuple {prog : Program} {w : World} {A : Around} (hh : A.handled = none) (it l : Addr) (hne : l ≠ it) (items : Array Value) :
    Draws prog w A it [it, l] items.size (fun i v => items[i]? = some v) (fun i h => IsTupIter h it l i ∧ IsTup h l items) where
  live := fun _ _ st => let ⟨o, ho, _⟩ := st.1; ⟨o, ho⟩
  frame := fun _ _ _ st hk => ⟨tupit_at st.1 fun o e => hk it (by simp) o e, tup_at st.2 fun o e => hk l (by simp) o e⟩
  item := fun i s Q E hi st hQ => by
    refine nextOf_tuple_item st.1 st.2 (x := items[i]) (by simp [hi]) fun h' hit' hs' => ?_
    exact hQ _ h' s.toks (by simp [hi]) ⟨hit', tup_at st.2 fun o e => (hs'.2 l hne).trans e⟩ hs'
  done := fun s Q E st hE => nextOf_tuple_end hh st.1 st.2 (by simp) hE
/-- what enumerate makes of a tuple: the tuple's walker, and its own record behind it -/
noncomputable def enumHeap (h : Heap) (l : Addr) : Heap := (h.push { cls := .type "tuple_iterator", data := .fields #[.ref l, .int 0 0] }).push { cls := .type "enumerate", data := .fields #[.none, .bool false, .ref h.objs.size, rawInt 0, .none, .none] }
theorem enum_new (l : Addr) (items : Array Value) :
    Meets (Builtin.«enumerate.__new__» ⟨[.type "enumerate", .ref l], []⟩) (fun _ R s => IsTup s.heap l items ∧ R (.ok (.ret (.ref (s.heap.objs.size + 1)))) { s with heap := enumHeap s.heap l }) :=
  .of_wp fun prog w A R s h => by
    have sub := sub_enumerate
    have it := fun Q E => iter_tuple (prog := prog) (w := w) (A := A.in1) (Q := Q) (E := E) h.1
    have end_ := h.2
    rw [show s.heap.objs.size + 1 = (s.heap.push { cls := .type "tuple_iterator", data := .fields #[.ref l, .int 0 0] }).objs.size from (Heap.size_push ..).symm] at end_
    wp_walk using it
    refine wpAny_stack_any fun _ => wpAny_pure ?_
    split
    · next c _ _ _ _ _ =>
      cases c == Value.type "enumerate" <;> (wp_walk using it; exact ⟨_, rfl, end_⟩)
    · wp_walk using it
      exact ⟨_, rfl, end_⟩
/-- a list or a tuple -/
noncomputable def Sk (tp : Bool) (h : Heap) (l : Addr) (vs : List Value) : Prop := match tp with | true => IsTup h l vs.toArray | false => h.IsList l vs.toArray
section
variable {w : World} {A : Around} {E : Value → Shared → Prop} {s : Shared}
noncomputable def EnumAt (w : World) (A : Around) (h : Heap) (n : Nat) (P : Nat → Value → Prop) (l : Addr) (xv : Value) (s : Shared) : Prop :=
  ∃ e it fp St, xv = .ref e ∧ Draws P0 w A.in1 it fp n P St ∧ IsEnum s.heap e it 0 .none ∧ St 0 s.heap ∧ h.get? e = none ∧ h.get? it = none ∧ e ≠ it ∧ it ∈ fp ∧ e ∉ fp ∧ ∀ b ∈ fp, b = it ∨ b = l
theorem ev_enum {tp : Bool} {l : Addr} {vs : List Value} (hh : A.handled = none) (hS : Sk tp s.heap l vs) :
    wpAny (model P0 w) A (call (.type "enumerate") [.ref l]) (fun v s' => Keeps s s' ∧ EnumAt w A s.heap vs.length (fun i x => vs.toArray[i]? = some x) l v s') E s := by
  have nn : ∀ {b : Addr}, s.heap.objs.size ≤ b → s.heap.get? b = none := fun {b} hb => by
    cases q : s.heap.get? b with
    | none => rfl
    | some o => exact absurd (Heap.lt_size q) (Nat.not_lt.mpr hb)
  cases tp with
  | false =>
    have hl : s.heap.IsList l vs.toArray := hS
    have hlt : l < s.heap.objs.size := by obtain ⟨_, e, _⟩ := hl; exact Heap.lt_size e
    refine call_enumerate_list hl fun h' he hit hsz hk => ⟨⟨h', s.toks, rfl, hk⟩, s.heap.objs.size + 1, s.heap.objs.size, [s.heap.objs.size, l], _, rfl, Draws.list (A := A.in1) hh _ l (Nat.ne_of_lt hlt) vs.toArray, he, ⟨hit, hl.at fun o e => hk _ _ e⟩,
      nn (Nat.le_succ _), nn (Nat.le_refl _), Nat.succ_ne_self _, by simp, ?_, by simp⟩
    simp only [List.mem_cons, List.not_mem_nil, or_false, not_or]
    exact ⟨Nat.succ_ne_self _, Nat.ne_of_gt (Nat.lt_succ_of_lt hlt)⟩
  | true =>
    have hl : IsTup s.heap l vs.toArray := hS
    have hlt : l < s.heap.objs.size := by obtain ⟨_, e, _⟩ := hl; exact Heap.lt_size e
    have kp : Kp s.heap (enumHeap s.heap l) := fun _ _ e => Heap.get?_push_of_some _ (Heap.get?_push_of_some _ e)
    have he : IsEnum (enumHeap s.heap l) (s.heap.objs.size + 1) s.heap.objs.size 0 .none := by
      have z := Heap.size_push s.heap { cls := .type "tuple_iterator", data := .fields #[.ref l, .int 0 0] }
      unfold enumHeap
      rw [← z]
      exact Heap.get?_push_size _ rfl
    have hi : IsTupIter (enumHeap s.heap l) s.heap.objs.size l 0 := ⟨_, Heap.get?_push_of_some _ (Heap.get?_push_size _ rfl), rfl, rfl⟩
    refine callType_new F.called_enumerate (by decide) (F.typeCall_enumerate_1 _) (F.newCall_enumerate_1 _) (fun obj => F.args_object_init_2 obj _) F.entry_enumerate_new (enum_new l vs.toArray) ⟨hl, ⟨_, he, rfl⟩, ⟨_, s.toks, rfl, kp⟩, ?_⟩
    refine ⟨s.heap.objs.size + 1, s.heap.objs.size, [s.heap.objs.size, l], _, rfl, draws_tuple (A := A.in1) hh _ l (Nat.ne_of_lt hlt) vs.toArray, he, ⟨hi, tup_at hl fun _ e => kp _ _ e⟩, nn (Nat.le_succ _), nn (Nat.le_refl _), Nat.succ_ne_self _, by simp, ?_, by simp⟩
    simp only [List.mem_cons, List.not_mem_nil, or_false, not_or]
    exact ⟨Nat.succ_ne_self _, Nat.ne_of_gt (Nat.lt_succ_of_lt hlt)⟩
end
end PEn
section PFp
section
variable {w : World} {A : Around} {E : Value → Shared → Prop} {s : Shared} {env : Env} {ρ : Str → Option Value} {B : Heap}
/-- `for i, c in enumerate(..)` over a list or tuple that stands, in a def without cells; the body leaves the heap as it is -/
theorem for_pair {xi xc : Str} {pk pv pt pos : Pos} {x1 : Nat} {iter : Expr} {body : List Stmt} {n : Nat} {P : Nat → Value → Prop} {l : Addr} {Q : Flow → Shared → Prop}
    (a : At w env ρ B s.heap) (hh : A.handled = none) (hxi : env.kindOf xi = some .local) (hxc : env.kindOf xc = some .local) (hno : ∀ x, env.kindOf x ≠ some .cell ∧ env.kindOf x ≠ some .free) (hL : B.objs.size ≤ env.locals)
    (hlB : ∃ o, B.get? l = some o) (hne : xi ≠ xc) (I : Nat → (Str → Option Value) → Prop) (hI : ∀ i ρ₁ ρ₂, (∀ y, y ≠ xi → y ≠ xc → env.kindOf y = some .local → ρ₁ y = ρ₂ y) → I i ρ₁ → I i ρ₂)
    (hit : wpAny (model P0 w) A (eval iter env) (fun xv s₁ => Keeps s s₁ ∧ EnumAt w A s.heap n P l xv s₁) E s)
    (i0 : I 0 ρ)
    (turn : ∀ i v t ρ₁ s', i < n → P i v → At w env ρ₁ B s'.heap → I i ρ₁ → ρ₁ xi = some (.int i t) → ρ₁ xc = some v → (∃ h tk, s' = { s with heap := h, toks := tk }) →
      wpAny (model P0 w) A (execs body env) (fun f s₃ => match f with
        | .next => (∃ tk, s₃ = { s' with toks := tk }) ∧ I (i + 1) ρ₁
        | .ret v => Q (.ret v) s₃
        | _ => False) (fun _ _ => False) s')
    (done : ∀ ρ₁ h tk, At w env ρ₁ B h → I n ρ₁ → Q .next { s with heap := h, toks := tk })
    (hs : ∀ x, foldedSetIterable iter env x = pure x := by intro _; rfl) (hE : PassesOwn (model P0 w) A env E := by passes_own) :
    wpAny (model P0 w) A (exec (.For (.Tuple [.Name xi pk, .Name xc pv] x1 pt) iter body [] pos) env) Q E s := by
  have at_of : ∀ {h : Heap} {m : Str → Option Value}, Fr B env.locals h m → At w env m B h := fun {h m} F =>
    ⟨F.keep, a.top, a.fn, a.gl, a.bi, ⟨m, F.ns, fun _ _ => rfl⟩, a.hid, fun x hx => by rcases hx with hx | hx; exact absurd hx (hno x).1; exact absurd hx (hno x).2, a.inj⟩
  obtain ⟨m, hn, hm⟩ := a.loc
  have F0 : Fr B env.locals s.heap m := ⟨hn, a.keep, hL⟩
  have hp : (env.scope.kind == .class || (env.scope.kind == .module && env.locals != env.globals)) = false := by rw [a.fn]; rfl
  have loc_old : ∀ {b : Addr}, s.heap.get? b = none → b ≠ env.locals := fun {b} e q => by
    obtain ⟨o, _, _, e', _⟩ := id hn
    rw [q, e'] at e; cases e
  have oldB : ∀ {b : Addr}, s.heap.get? b = none → B.get? b = none := fun {b} e => by
    cases q : B.get? b with
    | none => rfl
    | some o => rw [a.keep _ _ q] at e; cases e
  have llo : l ≠ env.locals := by
    obtain ⟨o, e⟩ := hlB
    intro q
    rw [q, a.hid] at e; cases e
  refine For_pair3 B hh hxi hxc hp (wpAny_mono hit (fun xv s₁ q => ?_) fun _ _ e => e) hs hE
  obtain ⟨k, e, it, fp, St, rfl, D, he, hst, fe, fi, hei, hif, hef, hfp⟩ := q
  obtain ⟨h₁, tk₁, rfl, kk⟩ := k
  refine wpAny_pyIter_enum he ?_
  refine ⟨e, e :: fp, [e, it], n, _, _, _, fun i v0 v1 => P i v1 ∧ ∃ t, v0 = .int i t, m, [], fun i m₁ news => I i m₁ ∧ news = [], rfl, WalksT.enumerateD D e hei hef hif, ?_, ?_, ?_, ?_, ⟨⟨_, he⟩, hst⟩, F0.keeps kk, News.nil, ⟨hI 0 ρ m (fun y _ _ hy => (hm y hy).symm) i0, rfl⟩, ?_, ?_⟩
  · rintro i vals ⟨t, x, hx, rfl⟩
    exact ⟨_, _, rfl, hx, t, rfl⟩
  · intro hm'
    rcases List.mem_cons.mp hm' with q | q
    · exact loc_old fe q.symm
    · rcases hfp _ q with q | q
      · exact loc_old fi q.symm
      · exact llo q.symm
  · intro b hb
    rcases List.mem_cons.mp hb with rfl | hb
    · exact oldB fe
    · rw [List.mem_singleton.mp hb]; exact oldB fi
  · intro p hp; cases hp
  · rintro i v0 v1 m₁ news₁ s₂ own ⟨h₂, tk₂, rfl⟩ hi ⟨hP, t, rfl⟩ ⟨hI', rfl⟩ _ hown F N
    refine wpAny_mono (turn i v1 t _ _ hi hP (at_of F) (hI i _ _ (fun y h1 h2 _ => by simp [h1, h2]) hI') (by simp [hne]) (by simp) ⟨h₂, tk₂, rfl⟩) (fun f s₃ q => ?_) (fun _ _ e => e.elim)
    cases f with
    | next =>
      obtain ⟨⟨tk, rfl⟩, q⟩ := q
      exact ⟨rfl, h₂, tk, _, [], rfl, F, N, rfl, q, rfl⟩
    | ret v => exact q
    | brk => exact q.elim
    | cont => exact q.elim
  · rintro h' tk m' news' F N _ ⟨hI', _⟩
    exact done m' h' tk (at_of F) hI'
end
end PFp
section PCp
open PySem.SeqAt
section
variable {A : Around} {s : Shared}
theorem strs_item {vs : List Value} {r : List Str} (h : StrsAre vs r) {j : Nat} (hj : j < vs.toArray.size) : ∃ t, vs.toArray[j] = .str (cell0 r j) t := by
  obtain ⟨t, e⟩ := strs_at h (k := j) (by rw [← strs_len h]; simpa using hj)
  refine ⟨t, ?_⟩
  have : vs.toArray[j]? = some (.str (cell0 r j) t) := by rw [List.getElem?_toArray]; exact e
  rw [Array.getElem?_eq_getElem hj] at this
  exact Option.some.inj this
theorem rc_strs {op : CmpOp} {code : Int} (O : Ord op code) {tp : Bool} {l b : Addr} {vs us : List Value} {r q : List Str} (hl : Sk tp s.heap l vs) (hb : Sk tp s.heap b us) (h1 : StrsAre vs r) (h2 : StrsAre us q) (hu : A.units < cLine) :
    RcBy op A s (.ref l) (.ref b) (ordB op r q) := by
  cases tp with
  | false => exact rc_lists O hl hb h1 h2 hu
  | true => exact rc_tups O hl hb h1 h2 hu
end
noncomputable def IsSeqS (tp : Bool) (h : Heap) (r : List Str) (v : Value) : Prop := ∃ l vs, v = .ref l ∧ Sk tp h l vs ∧ StrsAre vs r
theorem Sk.keeps {tp : Bool} {h h' : Heap} {l : Addr} {vs : List Value} (x : Sk tp h l vs) (k : Kp h h') : Sk tp h' l vs := by
  cases tp with
  | false => exact Heap.IsList.at x fun o e => k _ _ e
  | true => exact tup_at x fun o e => k _ _ e
section
variable {w : World} {A : Around} {E : Value → Shared → Prop} {s : Shared} {env : Env}
theorem isi_seq {tp : Bool} {l D : Addr} {vs : List Value} {Q : Value → Shared → Prop} (hS : Sk tp s.heap l vs) (hD : s.heap.get? D = some { cls := .type "tuple", data := .seq #[.type "list", .type "tuple"] }) (h : ∀ tk, Q (.bool true) { s with toks := tk }) :
    wpAny (model P0 w) A (call (.builtin "isinstance") [.ref l, .ref D]) Q E s := by
  cases tp with
  | false =>
    exact IsiPair.tupleOfB (Tx := "list") (cs := [.type "list", .type "tuple"]) (vs := [true, false]) (by pv_isi_answers) (Heap.IsList.typeIs hS) hD rfl h
  | true =>
    exact IsiPair.tupleOfB (Tx := "tuple") (cs := [.type "list", .type "tuple"]) (vs := [false, true]) (by pv_isi_answers) (IsTup.typeIs hS) hD rfl h
end
end PCp
section PCq
section
variable {w : World} {A : Around} {E : Value → Shared → Prop} {s : Shared}
theorem mk_tuple' {vs : List Value} {Q : Value → Shared → Prop} (hz : vs.length ≤ 10000) (h : ∀ D h', h'.get? D = some { cls := .type "tuple", data := .seq vs.toArray } → Kp s.heap h' → s.heap.get? D = none → Q (.ref D) { s with heap := h' }) :
    wpAny (model P0 w) A (newTuple vs) Q E s :=
  wpAny_newObj_type (h _ _ (Heap.get?_push_size _ rfl) (fun _ _ e => Heap.get?_push_of_some _ e) (fresh_size _)) (by show vs.toArray.size ≤ sizeLine; rw [List.size_toArray, sizeLine_eq]; omega)
theorem no_cells {env : Env} (h : env.scope.names.all (fun p => p.2 != .cell && p.2 != .free) = true) : ∀ x, env.kindOf x ≠ some .cell ∧ env.kindOf x ≠ some .free :=
  fun x => ⟨fun e => absurd (List.all_eq_true.mp h (x, .cell) (mem_of_lookup e)) (by simp), fun e => absurd (List.all_eq_true.mp h (x, .free) (mem_of_lookup e)) (by simp)⟩
theorem strs_take : ∀ {vs : List Value} {r : List Str}, StrsAre vs r → ∀ k, StrsAre (vs.take k) (r.take k)
  | _, _, .nil, k => by simp only [List.take_nil]; exact .nil
  | _, _, .cons y t h, 0 => .nil
  | _, _, .cons y t h, k + 1 => .cons y t (strs_take h k)
theorem tl_seq {tp : Bool} {value slice : Expr} {l : Addr} {vs : List Value} {k : Int} {u : Tok} {x : Value} {Q : Value → Shared → Prop} (hl : Sk tp s.heap l vs)
    (h0 : 0 ≤ k) (hhi : k < 2 ^ 63) (hx : vs.toArray[k.toNat]? = some x) (h : Q x s)
    (hs : subscripted slice false (.ref l) (.int k u) = operate [.ref l, .int k u] (getItem (.ref l) (.int k u)) := by with_unfolding_all rfl) :
    wpAny (model P0 w) A (subscriptTail value slice (.ref l) (.int k u)) Q E s := by
  cases tp with
  | false => exact tl_list hl h0 hhi hx h hs
  | true => exact tl_tuple hl h0 hhi hx h hs
theorem sl_seq {tp : Bool} {env : Env} {value : Expr} {upper : Expr} {p pos : Pos} {Q : Value → Shared → Prop}
    (h : wpAny (model P0 w) A (eval value env) (fun o s₁ => wpAny (model P0 w) A (eval upper env) (fun vu s₃ =>
      ∃ l vs, ∃ (b : Nat) (u : Tok), o = .ref l ∧ vu = .int b u ∧ Sk tp s₃.heap l vs ∧ vs.length ≤ 10000 ∧
        ∀ D h', Kp s₃.heap h' → Sk tp h' D (vs.take b) → Q (.ref D) { s₃ with heap := h' }) E s₁) E s) :
    wpAny (model P0 w) A (eval (.Subscript value (.Slice none (some upper) none p) pos) env) Q E s := by
  cases tp with
  | false =>
    refine sl_list (wpAny_mono h (fun o s₁ q => evalPart_none_step (evalPart_some_step (wpAny_mono q (fun vu s₃ q₃ => ?_) fun _ _ e => e))) fun _ _ e => e)
    obtain ⟨l, vs, b, u, rfl, rfl, hl, hz, hQ⟩ := q₃
    refine ⟨l, List.toArray vs, none, some b, rfl, hl, by rw [List.size_toArray, sizeLine_eq]; omega, .none, .int _ _, fun D h' _ k hD => hQ D h' k ?_⟩
    rw [slicePick_upto'] at hD
    exact hD.isList
  | true =>
    refine sl_tuple (wpAny_mono h (fun o s₁ q => wpAny_mono q (fun vu s₃ q₃ => ?_) fun _ _ e => e) fun _ _ e => e)
    obtain ⟨l, vs, b, u, rfl, rfl, hl, hz, hQ⟩ := q₃
    exact ⟨l, List.toArray vs, b, u, rfl, rfl, hl, by rw [List.size_toArray]; exact hz, fun D h' k hD => hQ D h' k hD⟩
theorem ns_max : nsIn (Mine.K0 w.params) mainGlobals (Str.ofString "max") = some none := by k_is
theorem c_prefix {tp : Bool} (T : TopAt w s.heap) (R : Room A 3) {D : Addr} {ys : List Value} {rows : List (List Str)} (hD : s.heap.IsList D (List.toArray ys)) (hr : Paired (IsSeqS tp s.heap) rows ys) (hne : rows ≠ []) (hz : rows.length ≤ 100)
    (h5 : ∀ r ∈ rows, r.length ≤ 5) :
    wpAny (model P0 w) A (call (.ref 118) [.ref D]) (fun v s' => Keeps s s' ∧ IsSeqS tp s'.heap ((rows.headD []).take (alike rows)) v) E s := by
  have ho := Eq.refl ((Mine.K0 w.params).lookup 118)
  conv at ho => rhs; whnf
  conv at ho => rhs; pattern (paOf _); whnf
  conv at ho => rhs; pattern (boOf _); whnf
  conv at ho => rhs; pattern (scOf _); whnf
  refine enterC (f := 118) (k := 2) (binds := [(Str.ofString "m", .ref D)]) T R ho (by k_is) rfl rfl (by decide) (fun L h₁ tk hL a R' => ?_)
  have hlen := hr.length
  have hpos : 0 < rows.length := by cases rows with | nil => exact absurd rfl hne | cons _ _ => simp
  have hD₁ : h₁.IsList D (List.toArray ys) := hD.at fun o e => a.keep _ _ e
  refine xs_if (wpAny_isTrue_Not (isTrue_plain ?_))
  walk_at "nm"
  refine wpAny_truthy_list hD₁ (by simp; omega) ?_
  have hys : ys ≠ [] := by rintro rfl; rw [hlen] at hpos; exact absurd hpos (by simp)
  rw [if_neg (by simp [hys])]
  try dsimp only
  refine xs_nil (Nx.go (xs_if (wpAny_isTrue_Not (isTrue_plain (Call_ ?_)))))
  refine ld_boot a (by k_is) boot_isinstance' (by decide) ?_ rfl
  obtain ⟨v0, hv0, l0, rv0, rfl, hl0, hi0⟩ := paired_to hr 0 (rows.headD []) (by cases rows with | nil => exact absurd rfl hne | cons _ _ => rfl)
  refine PyProof.Rows.callWith_builtin1 (args_cons (Subscript_ ?_) rfl) rfl
  walk_at "nm"
  walk_at "k"
  refine tl_list hD₁ (by decide) (by decide) (x := .ref l0) (by rw [List.getElem?_toArray]; exact hv0) ?_
  refine args_cons ?_ rfl
  refine Tuple_ (args_cons ?_ rfl)
  walk_at "nm"
  refine args_cons ?_ rfl
  walk_at "nm"
  refine args_nil ?_
  refine mk_tuple' (by decide) (fun X h₂ hX k₂ fX => ?_)
  refine args_nil ?_
  have a₂ := a.grow k₂
  refine isi_seq (l := l0) (vs := rv0) (tp := tp) ((hl0.keeps a.keep).keeps k₂) hX (fun tk₂ => ?_)
  try dsimp only
  walk_at "k"
  refine xs_nil (Nx.go ?_)
  -- s1 = min(m)
  have rowOf : ∀ i v, (List.toArray ys)[i]? = some v → IsSeqS tp s.heap (rows.getD i []) v := fun i v e => by
    obtain ⟨r, e1, e2⟩ := paired_at hr i v (by rw [List.getElem?_toArray] at e; exact e)
    rw [List.getD_eq_getElem?_getD, e1]; exact e2
  have hro : ∀ i, i < rows.length → rows.getD i [] ∈ rows := fun i hi => by
    rw [List.getD_eq_getElem?_getD, List.getElem?_eq_getElem hi]; exact List.getElem_mem _
  refine xs_asg (Call_ ?_)
  refine ld_boot a₂ ns_min boot_min' (by decide) ?_ rfl
  refine PyProof.Rows.callWith_builtin1 (args_cons ?_ rfl) rfl
  walk_at "nm"
  refine args_nil ?_
  refine ev_ext .lt (n := (List.toArray ys).size) (fun i j => ordB .Lt (rows.getD i []) (rows.getD j [])) (iters_list (A := Around.in1 _) R'.h (hD₁.at fun o e => k₂ _ _ e)) (fun i j vi vj s' Q' E' k hi hj hq => ?_) (fun i => ordB_irrefl _ _) (fun _ _ _ x y => ordB_trans y x) (by rw [List.size_toArray]; omega) (fun v n1 s₃ hb1 hv hbest1 k₃ => ?_)
  · obtain ⟨l1, v1, rfl, g1, g2⟩ := rowOf i vi hi
    obtain ⟨l2, v2, rfl, g3, g4⟩ := rowOf j vj hj
    exact rc_strs .lt (((g1.keeps a.keep).keeps k₂).keeps k) (((g3.keeps a.keep).keeps k₂).keeps k) g2 g4 (by have := R'.u; show _ < 9900; show _ + 1 < _; omega) P0 w E' Q' hq
  obtain ⟨s1, v1, rfl, hs1, hi1⟩ := rowOf _ v hv
  have kp₃ := keeps_kp k₃
  obtain ⟨h₃, tk₃, rfl, _⟩ := k₃
  try dsimp only at kp₃ ⊢
  have a₃ := a₂.grow kp₃
  walk_at "st"
  intro h₄ tk₄ a₄ k₄
  try dsimp only
  refine xs_asg (Call_ ?_)
  refine ld_boot a₄ ns_max boot_max' (by decide) ?_ rfl
  refine PyProof.Rows.callWith_builtin1 (args_cons ?_ rfl) rfl
  walk_at "nm"
  refine args_nil ?_
  have hD₄ : h₄.IsList D (List.toArray ys) := hD.at fun o e => a₄.keep _ _ e
  refine ev_ext .gt (n := (List.toArray ys).size) (fun i j => ordB .Gt (rows.getD i []) (rows.getD j [])) (iters_list (A := Around.in1 _) R'.h hD₄) (fun i j vi vj s' Q' E' k hi hj hq => ?_) (fun i => ordB_irrefl _ _) (fun _ _ _ x y => ordB_trans y x) (by rw [List.size_toArray]; omega) (fun v n2 s₅ hb2 hv hbest2 k₅ => ?_)
  · obtain ⟨l1, v1, rfl, g1, g2⟩ := rowOf i vi hi
    obtain ⟨l2, v2, rfl, g3, g4⟩ := rowOf j vj hj
    exact rc_strs .gt ((g1.keeps a₄.keep).keeps k) ((g3.keeps a₄.keep).keeps k) g2 g4 (by have := R'.u; show _ < 9900; show _ + 1 < _; omega) P0 w E' Q' hq
  obtain ⟨s2, v2, rfl, hs2, hi2⟩ := rowOf _ v hv
  have kp₅ := keeps_kp k₅
  obtain ⟨h₅, tk₅, rfl, _⟩ := k₅
  try dsimp only at kp₅ ⊢
  have a₅ := a₄.grow kp₅
  walk_at "st"
  intro h₆ tk₆ a₆ k₆
  try dsimp only
  rw [List.size_toArray] at hb1 hb2 hbest1 hbest2
  have hmin : ∀ r ∈ rows, lexLt r (rows.getD n1 []) = false := fun r hr => by
    obtain ⟨j, hj, e⟩ := List.getElem_of_mem hr
    have h1 : lexLt (rows.getD j []) (rows.getD n1 []) = false := hbest1 j (by omega)
    rw [List.getD_eq_getElem?_getD (i := j), List.getElem?_eq_getElem hj, e] at h1
    exact h1
  have hmax : ∀ r ∈ rows, lexLt (rows.getD n2 []) r = false := fun r hr => by
    obtain ⟨j, hj, e⟩ := List.getElem_of_mem hr
    have h1 : lexLt (rows.getD n2 []) (rows.getD j []) = false := hbest2 j (by omega)
    rw [List.getD_eq_getElem?_getD (i := j), List.getElem?_eq_getElem hj, e] at h1
    exact h1
  have m1 : rows.getD n1 [] ∈ rows := hro n1 (by omega)
  have m2 : rows.getD n2 [] ∈ rows := hro n2 (by omega)
  obtain ⟨q1, q2⟩ := alike_pref m1 m2 h5 hmin hmax
  generalize rows.getD n1 [] = ra at *
  generalize rows.getD n2 [] = rc at *
  have hin := pref_in ra rc (hmax ra m1)
  have z1 := h5 ra m1
  have z2 := h5 rc m2
  have l1 := strs_len hi1
  have l2 := strs_len hi2
  refine xs_one (for_pair (n := (List.toArray v1).size) (P := fun i x => (List.toArray v1)[i]? = some x) (xi := Str.ofString "i") (xc := Str.ofString "c") a₆ R'.h rfl rfl (no_cells rfl) (by rw [← hL]; exact Nat.le_refl _) (l := s1) ?_ (by decide) (fun i ρ => i ≤ pref ra rc ∧ ρ (Str.ofString "s1") = some (.ref s1) ∧ ρ (Str.ofString "s2") = some (.ref s2)) ?_ (Call_ ?_) ?_ ?_ ?_)
  · cases tp with
    | false => obtain ⟨o, e, _⟩ := (hs1 : s.heap.IsList s1 (List.toArray v1)); exact ⟨o, e⟩
    | true => obtain ⟨o, e, _⟩ := (hs1 : IsTup s.heap s1 (List.toArray v1)); exact ⟨o, e⟩
  · rintro i ρ₁ ρ₂ hρ ⟨g1, g2, g3⟩
    exact ⟨g1, (hρ _ (by decide) (by decide) rfl).symm.trans g2, (hρ _ (by decide) (by decide) rfl).symm.trans g3⟩
  · refine ld_boot a₆ (by k_is) boot_enumerate' (by decide) ?_ rfl
    refine PyProof.Rows.callWith_type1 (args_cons ?_ rfl) rfl
    walk_at "nm"
    refine args_nil ?_
    exact ev_enum (tp := tp) R'.h (hs1.keeps a₆.keep)
  · exact ⟨Nat.zero_le _, (upd_ne (by decide)).trans upd_same, upd_same⟩
  · rintro i v t ρ₁ s' hi hv a₇ ⟨g1, g2, g3⟩ gi gc ⟨h, tk, rfl⟩
    have hi' : i < ra.length := by rw [← l1]; simpa using hi
    obtain ⟨u1, e1⟩ := strs_at hi1 hi'
    rw [List.getElem?_toArray, e1] at hv
    cases hv
    have hi2' : i < rc.length := by
      rcases Nat.lt_or_ge i (pref ra rc) with hlt | hge
      · have := (pref_take ra rc).2.1; omega
      · have : i = pref ra rc := by omega
        rw [this]; exact hin (by omega)
    obtain ⟨u2, e2⟩ := strs_at hi2 hi2'
    refine xs_if (wpAny_isTrue_Compare1 ?_)
    walk_at "nm"
    refine Subscript_ ?_
    walk_at "nm"
    walk_at "nm"
    refine tl_seq (tp := tp) (hs2.keeps a₇.keep) (by omega) (by omega) (x := .str (cell0 rc i) u2) (by rw [List.getElem?_toArray]; exact e2) ?_
    iterate 2 walk_at "k"
    split
    · rename_i hc
      have hne' : cell0 ra i ≠ cell0 rc i := by simpa [bne_iff_ne] using hc
      have hip : i = pref ra rc := by
        rcases Nat.lt_or_ge i (pref ra rc) with hlt | hge
        · exact absurd (pref_same ra rc i hlt) hne'
        · omega
      refine xs_ret (sl_seq (tp := tp) ?_)
      walk_at "nm"
      walk_at "nm"
      refine ⟨s1, v1, i, t, rfl, rfl, hs1.keeps a₇.keep, by omega, fun X h' kX hX => ?_⟩
      refine Nx.out (Nx.out ⟨keeps_of (a₇.keep.trans kX), X, _, rfl, hX, ?_⟩)
      rw [← q2, ← hip]
      exact strs_take hi1 i
    · rename_i hc
      have heq' : cell0 ra i = cell0 rc i := by
        by_cases q : cell0 ra i = cell0 rc i
        · exact q
        · exact absurd (by simpa [bne_iff_ne] using q) hc
      have hip : i < pref ra rc := by
        rcases Nat.lt_or_ge i (pref ra rc) with hlt | hge
        · exact hlt
        · have : i = pref ra rc := by omega
          exact absurd (this ▸ heq') (pref_diff ra rc (by omega) (by omega))
      exact xs_nil (Nx.go (xs_nil ⟨⟨_, rfl⟩, hip, g2, g3⟩))
  · rintro ρ₁ h tk a₇ ⟨g1, g2, g3⟩
    refine Nx.go (xs_ret ?_)
    walk_at "nm"
    have g1' : v1.length ≤ pref ra rc := by simpa using g1
    refine ⟨keeps_of a₇.keep, s1, v1, rfl, hs1.keeps a₇.keep, ?_⟩
    rw [← q2, List.take_of_length_le (by omega)]
    exact hi1
end
section
variable {w : World} {A : Around} {E : Value → Shared → Prop} {s : Shared}
/-- of no name at all: the empty text -/
theorem c_prefix0 (T : TopAt w s.heap) (R : Room A 3) {D : Addr} (hD : s.heap.IsList D #[]) :
    wpAny (model P0 w) A (call (.ref 118) [.ref D]) (fun v s' => Keeps s s' ∧ ∃ t, v = .str (Str.ofString "") t) E s := by
  have ho := Eq.refl ((Mine.K0 w.params).lookup 118)
  conv at ho => rhs; whnf
  conv at ho => rhs; pattern (paOf _); whnf
  conv at ho => rhs; pattern (boOf _); whnf
  conv at ho => rhs; pattern (scOf _); whnf
  refine enterC (f := 118) (k := 2) (binds := [(Str.ofString "m", .ref D)]) T R ho (by k_is) rfl rfl (by decide) (fun L h₁ tk hL a R' => ?_)
  have hD₁ : h₁.IsList D #[] := hD.at fun o e => a.keep _ _ e
  refine xs_if (wpAny_isTrue_Not (isTrue_plain ?_))
  walk_at "nm"
  refine wpAny_truthy_list hD₁ (by simp) ?_
  rw [if_pos (by simp)]
  refine xs_ret ?_
  walk_at "k"
  exact Nx.out ⟨keeps_of a.keep, _, rfl⟩
end
end PCq
section PWo
/-- the sign of a piece, its symbol -/
noncomputable def sg (d : Nat) : Str := match d with
  | 0 => Str.ofString "." | 1 => Str.ofString "90" | 2 => Str.ofString "*" | 3 => Str.ofString "*" | 4 => Str.ofString "<"
  | 5 => Str.ofString "Ï" | 6 => Str.ofString "%g7a" | 7 => Str.ofString "\n" | 8 => Str.ofString "~" | _ => Str.ofString "٣"
noncomputable def sy (d k : Nat) : Int := match d with | 0 => 23 | 2 => 16 | 3 => 16 | 4 => 20 | 8 => 31 | _ => 256 + 10 * k
noncomputable def joinS (ts : List Str) : Str := Txt.join (Str.ofString "") ts
noncomputable def wtH (ds : List Nat) (k : Nat) : Int := if Rx.hdn (joinS ((ds.map tol).take (k + 1))).cps = true then 0 else wts.getD (ds.getD k 0) 0
noncomputable def worthOf (ds : List Nat) : Int := ((List.range ds.length).map (wtH ds)).sum
section
variable {w : World} {A : Around} {E : Value → Shared → Prop} {s : Shared}
theorem xs_if_join {env : Env} {ρ : Str → Option Value} {B : Heap} {test : Expr} {body orelse rest : List Stmt} {pos : Pos} {Q : Flow → Shared → Prop} (_a : At w env ρ B s.heap) (F : (Str → Option Value) → Heap → Prop)
    (h : wpAny (model P0 w) A (isTrue test env (eval test env)) (fun b s₂ => wpAny (model P0 w) A (execs (if b = true then body else orelse) env) (fun f s₃ => f = .next ∧ ∃ h' tk ρ', s₃ = { s with heap := h', toks := tk } ∧ At w env ρ' B h' ∧ F ρ' h') E s₂) E s)
    (hn : ∀ h' tk ρ', At w env ρ' B h' → F ρ' h' → wpAny (model P0 w) A (execs rest env) Q E { s with heap := h', toks := tk }) :
    wpAny (model P0 w) A (execs (.If test body orelse pos :: rest) env) Q E s := by
  refine xs_if (wpAny_mono h (fun b s₂ q => wpAny_mono q (fun f s₃ q₃ => ?_) fun _ _ e => e) fun _ _ e => e)
  obtain ⟨rfl, h', tk, ρ', rfl, a', f'⟩ := q₃
  exact Nx.go (hn h' tk ρ' a' f')
theorem tab_mk {es : Array DictEntry} {n : Nat} (l : (Mine.K0 w.params).lookup 143 = some ⟨.type "dict", none, .dict es n, #[]⟩) (k : KeysLit w.params es.toList) :
    ∃ es n, (Mine.K0 w.params).lookup 143 = some ⟨.type "dict", none, .dict es n, #[]⟩ ∧ KeysLit w.params es.toList := ⟨_, _, l, k⟩
theorem tab_at : ∃ es n, (Mine.K0 w.params).lookup 143 = some ⟨.type "dict", none, .dict es n, #[]⟩ ∧ KeysLit w.params es.toList := by
  refine' tab_mk ?l ?k
  case l => k_is
  case k => k_keys
theorem tab_mk2 {x : Str} {n : Int} {v : Value} (l : nsIn (Mine.K0 w.params) 143 x = some (some v)) (k : ∃ t, v = .int n t) : ∃ t, nsIn (Mine.K0 w.params) 143 x = some (some (.int n t)) := by
  obtain ⟨t, rfl⟩ := k
  exact ⟨t, l⟩
theorem in_tab {x : Str} {t : Tok} {r : Option Value} {Q : Value → Shared → Prop} (T : TopAt w s.heap) (e : nsIn (Mine.K0 w.params) 143 x = some r)
    (h : Q (.bool r.isSome) { s with toks := s.toks + 1 }) : wpAny (model P0 w) A (compareOp .In (.str x t) (.ref 143)) Q E s := by
  obtain ⟨es, n, hl, hk⟩ := tab_at (w := w)
  exact wpAny_in_of (strKind_is P0 w x t) (by decide) (mapOf_K (prog := P0) T.kin hl hk) (by rw [find_K hl e]; exact h)
theorem item_tab {value slice : Expr} {x : Str} {t : Tok} {v : Value} {Q : Value → Shared → Prop} (T : TopAt w s.heap) (e : nsIn (Mine.K0 w.params) 143 x = some (some v))
    (h : Q v { s with toks := s.toks + 1 })
    (hs : subscripted slice false (.ref 143) (.str x t) = operate [.ref 143, .str x t] (getItem (.ref 143) (.str x t)) := by with_unfolding_all rfl) :
    wpAny (model P0 w) A (subscriptTail value slice (.ref 143) (.str x t)) Q E s := by
  obtain ⟨es, n, hl, hk⟩ := tab_at (w := w)
  have hm := mapOf_K (prog := P0) (w := w) T.kin hl hk
  exact tail_any hm.typeIs slot_dict_getitem.lookup (wpAny_getItem_of (strKind_is P0 w x t) hm (find_K hl e) h) hs
theorem tab_none {d : Nat} (hd : d < 10) (h : sy d 0 = 256) : nsIn (Mine.K0 w.params) 143 (sg d) = some none := by
  match d, hd with
  | 1, _ => show nsIn (Mine.K0 w.params) 143 (Str.ofString "90") = some none; k_is
  | 5, _ => show nsIn (Mine.K0 w.params) 143 (Str.ofString "Ï") = some none; k_is
  | 6, _ => show nsIn (Mine.K0 w.params) 143 (Str.ofString "%g7a") = some none; k_is
  | 7, _ => show nsIn (Mine.K0 w.params) 143 (Str.ofString "\n") = some none; k_is
  | 9, _ => show nsIn (Mine.K0 w.params) 143 (Str.ofString "٣") = some none; k_is
  | 0, _ => simp [sy] at h
  | 2, _ => simp [sy] at h
  | 3, _ => simp [sy] at h
  | 4, _ => simp [sy] at h
  | 8, _ => simp [sy] at h
theorem tab_some {d : Nat} (hd : d < 10) (h : sy d 0 ≠ 256) : ∃ t, nsIn (Mine.K0 w.params) 143 (sg d) = some (some (.int (sy d 0) t)) := by
  match d, hd with
  | 0, _ => refine' tab_mk2 (x := Str.ofString ".") ?l ?k; (case l => k_is); (case k => exact ⟨_, rfl⟩)
  | 2, _ => refine' tab_mk2 (x := Str.ofString "*") ?l ?k; (case l => k_is); (case k => exact ⟨_, rfl⟩)
  | 3, _ => refine' tab_mk2 (x := Str.ofString "*") ?l ?k; (case l => k_is); (case k => exact ⟨_, rfl⟩)
  | 4, _ => refine' tab_mk2 (x := Str.ofString "<") ?l ?k; (case l => k_is); (case k => exact ⟨_, rfl⟩)
  | 8, _ => refine' tab_mk2 (x := Str.ofString "~") ?l ?k; (case l => k_is); (case k => exact ⟨_, rfl⟩)
  | 1, _ => simp [sy] at h
  | 5, _ => simp [sy] at h
  | 6, _ => simp [sy] at h
  | 7, _ => simp [sy] at h
  | 9, _ => simp [sy] at h
end
end PWo
section PWp
section
variable {w : World} {A : Around} {E : Value → Shared → Prop} {s : Shared}
theorem tol_len (d : Nat) : (tol d).length = 3 ∨ (tol d).length ≠ 3 := by omega
noncomputable def figs : Str := Str.ofString "0123456789ABCDEF"
/-- the sign of an escape -/
theorem esc_sign {d : Nat} (hd : d < 10) (h : (tol d).length = 3) : ∃ i1 r1 i2 r2, PySem.Builtin.Str.occurrences figs (Txt.item (tol d) 1) 0 figs.length 1 = i1 :: r1 ∧ PySem.Builtin.Str.occurrences figs (Txt.item (tol d) 2) 0 figs.length 1 = i2 :: r2 ∧
    (⟨#[16 * i1 + i2]⟩ : Str) = sg d ∧ i1 < 16 ∧ i2 < 16 := by
  match d, hd with
  | 2, _ => exact ⟨2, [], 10, [], by decide +kernel, by decide +kernel, by decide +kernel, by decide, by decide⟩
  | 3, _ => exact ⟨2, [], 10, [], by decide +kernel, by decide +kernel, by decide +kernel, by decide, by decide⟩
  | 4, _ => exact ⟨3, [], 12, [], by decide +kernel, by decide +kernel, by decide +kernel, by decide, by decide⟩
  | 5, _ => exact ⟨12, [], 15, [], by decide +kernel, by decide +kernel, by decide +kernel, by decide, by decide⟩
  | 8, _ => exact ⟨7, [], 14, [], by decide +kernel, by decide +kernel, by decide +kernel, by decide, by decide⟩
  | 0, _ => exact absurd h (by decide +kernel)
  | 1, _ => exact absurd h (by decide +kernel)
  | 6, _ => exact absurd h (by decide +kernel)
  | 7, _ => exact absurd h (by decide +kernel)
  | 9, _ => exact absurd h (by decide +kernel)
theorem no_esc {d : Nat} (hd : d < 10) (h : (tol d).length ≠ 3) : sg d = tol d := by
  match d, hd with
  | 0, _ => rfl
  | 1, _ => rfl
  | 6, _ => rfl
  | 7, _ => rfl
  | 9, _ => rfl
  | 2, _ => exact absurd (by decide +kernel) h
  | 3, _ => exact absurd (by decide +kernel) h
  | 4, _ => exact absurd (by decide +kernel) h
  | 5, _ => exact absurd (by decide +kernel) h
  | 8, _ => exact absurd (by decide +kernel) h
theorem m_index {x : Str} {t : Tok} {pos : Pos} {m : Sem Value} {Q : Value → Shared → Prop}
    (h : wpAny (model P0 w) A m (fun v s₁ => ∃ y u i rest, v = .str y u ∧ PySem.Builtin.Str.occurrences x y 0 x.length 1 = i :: rest ∧ ∀ tk, Q (.int (i : Nat) tk) { s₁ with toks := s₁.toks + 1 }) E s) :
    MethodOnS P0 w A E (Str.ofString "index") (.str x t) pos [(false, m)] Q s := by
  refine ⟨"str", "str.index", F.plainAttrs_str, F.slot_str_index, F.type_str_index, typeIs_str _ _ _, (fun a h => by cases h), callWith_builtin rfl (evalArgs_plain (spliced_cons (wpAny_mono h (fun v s₁ q => spliced_nil ?_) fun _ _ e => e)))⟩
  obtain ⟨y, u, i, rest, rfl, ho, hQ⟩ := q
  exact PySem.SC.index ho (hQ _)
theorem m_join {x : Str} {t : Tok} {pos : Pos} {m : Sem Value} {Q : Value → Shared → Prop}
    (h : wpAny (model P0 w) A m (fun v s₁ => ∃ D items ys, v = .ref D ∧ IsTup s₁.heap D items ∧ StrsAre items.toList ys ∧ (ys.map (·.length)).sum + ys.length * x.length ≤ 16777216 ∧ ∀ t' tk, Q (.str (Txt.join x ys) t') { s₁ with toks := tk }) E s) :
    MethodOnS P0 w A E (Str.ofString "join") (.str x t) pos [(false, m)] Q s := by
  refine ⟨"str", "str.join", F.plainAttrs_str, F.slot_str_join, F.type_str_join, typeIs_str _ _ _, (fun a h => by cases h), callWith_builtin rfl (evalArgs_plain (spliced_cons (wpAny_mono h (fun v s₁ q => spliced_nil ?_) fun _ _ e => e)))⟩
  obtain ⟨D, items, ys, rfl, hD, hi, hz, hQ⟩ := q
  exact join_tuple hD hi hz hQ
theorem tol_small {d : Nat} : (tol d).length ≤ 4 := by
  unfold tol; split <;> decide +kernel
theorem joinS_cps : ∀ ys : List Str, (joinS ys).cps.toList = ys.flatMap fun y => y.cps.toList := by
  have h : ∀ ys : List Str, (Str.join (Str.ofString "") ys).cps.toList = ys.flatMap fun y => y.cps.toList := by
    intro ys
    induction ys with
    | nil => rfl
    | cons x r ih =>
      cases r with
      | nil => simp [Str.join]
      | cons y r =>
        have e : Str.join (Str.ofString "") (x :: y :: r) = x ++ Str.ofString "" ++ Str.join (Str.ofString "") (y :: r) := rfl
        have e2 : ∀ a b : Str, (a ++ b).cps.toList = a.cps.toList ++ b.cps.toList := fun a b => by
          show (a.cps ++ b.cps).toList = _
          simp
        have e3 : (Str.ofString "").cps.toList = [] := rfl
        rw [e, e2, e2, e3, ih]
        simp
  intro ys
  have e : joinS ys = Str.join (Str.ofString "") ys := StrLaws.glued_eq_join _ _
  rw [e]
  exact h ys
theorem tol_sum : ∀ ds : List Nat, ((ds.map tol).map (·.length)).sum ≤ 4 * ds.length
  | [] => by simp
  | d :: r => by
    have h1 := tol_sum r
    have h2 := tol_small (d := d)
    simp only [List.map_cons, List.sum_cons, List.length_cons]
    omega
theorem flat_len : ∀ ys : List Str, (ys.flatMap fun y => y.cps.toList).length = (ys.map (·.length)).sum
  | [] => rfl
  | y :: r => by
    rw [List.flatMap_cons, List.length_append, flat_len r]
    simp [Str.length]
theorem joinS_size (ds : List Nat) (h5 : ds.length ≤ 5) : (joinS (ds.map tol)).cps.size ≤ 1000 := by
  rw [← Array.length_toList, joinS_cps, flat_len]
  have := tol_sum ds
  omega
theorem sy_small {d : Nat} (k : Nat) (h : sy d 0 ≠ 256) : sy d k = sy d 0 ∧ 0 ≤ sy d 0 ∧ sy d 0 < 255 := by
  unfold sy at h ⊢
  split at h <;> first | exact ⟨rfl, by decide, by decide⟩ | exact absurd (by rfl) h
theorem sy_big {d : Nat} (k : Nat) (h : sy d 0 = 256) : sy d k = 256 + 10 * k := by
  unfold sy at h ⊢
  split at h <;> first | rfl | exact absurd h (by decide)
theorem wts_small {d : Nat} (h : sy d 0 ≠ 256) : wts.getD d 0 = sy d 0 := by
  unfold sy at h ⊢
  split at h <;> first | rfl | exact absurd (by rfl) h
theorem wts_big {d : Nat} (hd : d < 10) (h : sy d 0 = 256) : wts.getD d 0 = 2 := by
  match d, hd with
  | 1, _ => rfl
  | 5, _ => rfl
  | 6, _ => rfl
  | 7, _ => rfl
  | 9, _ => rfl
  | 0, _ => simp [sy] at h
  | 2, _ => simp [sy] at h
  | 3, _ => simp [sy] at h
  | 4, _ => simp [sy] at h
  | 8, _ => simp [sy] at h
theorem c_worth (T : TopAt w s.heap) (R : Room A 3) {D : Addr} {tv : List Value} {ds : List Nat} (hD : IsTup s.heap D tv.toArray) (hi : StrsAre tv (ds.map tol)) (hd : ∀ d ∈ ds, d < 10) (h5 : ds.length ≤ 5) :
    wpAny (model P0 w) A (call (.ref 178) [.ref D]) (fun v s' => Keeps s s' ∧ ∃ t, v = .int (worthOf ds) t) E s := by
  have ho := Eq.refl ((Mine.K0 w.params).lookup 178)
  conv at ho => rhs; whnf
  conv at ho => rhs; pattern (paOf _); whnf
  conv at ho => rhs; pattern (boOf _); whnf
  conv at ho => rhs; pattern (scOf _); whnf
  refine enter (f := 178) (k := 2) (binds := [(Str.ofString "row", .ref D)]) T R ho (by k_is) rfl (locs rfl) (by decide) (fun L h₁ tk a R' => ?_)
  have hlen : tv.length = ds.length := by simpa using strs_len hi
  have hD₁ : IsTup h₁ D tv.toArray := tup_at hD fun o e => a.keep _ _ e
  refine xs_asg ?_
  walk_at "k"
  walk_at "st"
  intro h₂ tk₂ a₂ k₂
  try dsimp only
  refine xs_asg ?_
  walk_at "k"
  walk_at "st"
  intro h₃ tk₃ a₃ k₃
  try dsimp only
  refine xs_one (for_local a₃ R'.h rfl [] (fun i ρ h => (∃ t, ρ (Str.ofString "worth") = some (.int (((List.range i).map (wtH ds)).sum) t)) ∧ ρ (Str.ofString "row") = some (.ref D) ∧ ∃ t, ρ (Str.ofString "figures") = some (.str figs t))
    (n := ds.length) (P := fun i v => ∃ t, v = .int (i : Nat) t) (src := []) ?_ (by simp) (by simp) ?_ ?_ ?_ ?_)
  · refine it_range1 a₃ R'.h rfl (by omega) (ev_len a₃ rfl ?_)
    walk_at "nm"
    refine ⟨D, _, rfl, .inr (tup_at hD fun o e => a₃.keep _ _ e), by simp; omega, fun t tk => ⟨keeps_of Kp.rfl, t, ?_⟩⟩
    simp [hlen]
  · rintro i ρ₁ ρ₂ h h' k hρ ⟨⟨t1, h1⟩, h2, t3, h3⟩
    exact ⟨⟨t1, (hρ _ (by decide)).symm.trans h1⟩, (hρ _ (by decide)).symm.trans h2, t3, (hρ _ (by decide)).symm.trans h3⟩
  · exact ⟨⟨_, (upd_ne (by decide)).trans upd_same⟩, (upd_ne (by decide)).trans ((upd_ne (by decide)).trans rfl), _, upd_same⟩
  · rintro i v ρ₁ s' hin ⟨t, rfl⟩ a' ⟨⟨t1, h1⟩, h2, t3, h3⟩
    obtain ⟨u, eu⟩ := strs_at hi (k := i) (by simpa using hin)
    have edi : cell0 (ds.map tol) i = tol (ds.getD i 0) := by simp [cell0, hin]
    rw [edi] at eu
    have hdi : ds.getD i 0 < 10 := hd _ (by rw [List.getD_eq_getElem?_getD, List.getElem?_eq_getElem hin]; exact List.getElem_mem _)
    generalize hdd : ds.getD i 0 = d at *
    refine xs_asg (Subscript_ ?_)
    walk_at "nm"
    walk_at "nm"
    refine tl_tuple (tup_at hD fun o e => a'.keep _ _ e) (by omega) (by omega) (x := .str (tol d) u) (by rw [List.getElem?_toArray]; exact eu) ?_
    walk_at "st"
    intro h₄ tk₄ a₄ k₄
    try dsimp only
    refine xs_if_join a₄ (fun ρ h => (∃ t, ρ (Str.ofString "sign") = some (.str (sg d) t)) ∧ (∃ t, ρ (Str.ofString "worth") = some (.int (((List.range i).map (wtH ds)).sum) t)) ∧ ρ (Str.ofString "row") = some (.ref D) ∧ (∃ t, ρ (Str.ofString "figures") = some (.str figs t)) ∧
      (∃ t, ρ (Str.ofString "k") = some (.int (i : Nat) t)) ∧ ∀ b o, b ≠ L → h₄.get? b = some o → h.get? b = some o) ?_ ?_
    · refine wpAny_isTrue_Compare1 (Call_ ?_)
      walk_at "nm"
      refine PyProof.Rows.callWith_builtin1 (args_cons ?_ rfl) rfl
      walk_at "nm"
      refine args_nil ?_
      have hz := tol_small (d := d)
      refine PySem.P.len_str (by omega) ?_
      iterate 3 walk_at "k"
      split
      · rename_i hc
        have hlen3 : (tol d).length = 3 := by
          have : (((tol d).length : Nat) : Int) = 3 := by simpa using hc
          omega
        obtain ⟨i1, r1, i2, r2, o1, o2, o3, b1, b2⟩ := esc_sign hdi hlen3
        refine xs_asg (Call_ ?_)
        walk_at "nm"
        refine PyProof.Rows.callWith_builtin1 (args_cons (wpAny_BinOp (wpAny_BinOp ?_)) rfl) rfl
        walk_at "k"
        refine Call_method1 rfl rfl rfl ?_
        walk_at "nm"
        refine m_index (Subscript_ ?_)
        walk_at "nm"
        walk_at "k"
        refine item_str (by decide) (by omega) (by omega) (fun _ => ⟨_, _, i1, r1, rfl, o1, fun tk => ?_⟩)
        try dsimp only
        walk_at "k"
        refine Call_method1 rfl rfl rfl ?_
        walk_at "nm"
        refine m_index (Subscript_ ?_)
        walk_at "nm"
        walk_at "k"
        refine item_str (by decide) (by omega) (by omega) (fun _ => ⟨_, _, i2, r2, rfl, o2, fun tk => ?_⟩)
        try dsimp only
        walk_at "k"
        refine args_nil ?_
        refine chr_of_range (by omega) (by omega) ?_
        have e16 : ((16 : Int) * (i1 : Nat) + (i2 : Nat)).toNat = 16 * i1 + i2 := by omega
        rw [e16, o3]
        try dsimp only
        walk_at "st"
        intro h₅ tk₅ a₅ k₅
        exact xs_nil ⟨rfl, _, _, _, rfl, a₅, ⟨_, upd_same⟩, ⟨_, (upd_ne (by decide)).trans ((upd_ne (by decide)).trans h1)⟩, (upd_ne (by decide)).trans ((upd_ne (by decide)).trans h2), ⟨_, (upd_ne (by decide)).trans ((upd_ne (by decide)).trans h3)⟩, ⟨_, (upd_ne (by decide)).trans ((upd_ne (by decide)).trans upd_same)⟩, k₅⟩
      · rename_i hc
        have hlen3 : (tol d).length ≠ 3 := fun e => hc (by simp [e])
        rw [no_esc hdi hlen3]
        exact xs_nil ⟨rfl, _, _, _, rfl, a₄, ⟨_, upd_same⟩, ⟨_, (upd_ne (by decide)).trans h1⟩, (upd_ne (by decide)).trans h2, ⟨_, (upd_ne (by decide)).trans h3⟩, ⟨_, (upd_ne (by decide)).trans upd_same⟩, fun _ _ _ e => e⟩
    · rintro h₅ tk₅ ρ₅ a₅ ⟨⟨t5, g1⟩, ⟨t6, g2⟩, g3, ⟨t7, g4⟩, ⟨t8, g5⟩, g6⟩
      try dsimp only
      refine xs_asg (wpAny_BinOp ?_)
      walk_at "k"
      refine wpAny_BinOp ?_
      walk_at "k"
      walk_at "nm"
      iterate 2 walk_at "k"
      walk_at "st"
      intro h₆ tk₆ a₆ k₆
      try dsimp only
      refine xs_if_join a₆ (fun ρ h => (∃ t, ρ (Str.ofString "symbol") = some (.int (sy d i) t)) ∧ (∃ t, ρ (Str.ofString "worth") = some (.int (((List.range i).map (wtH ds)).sum) t)) ∧ ρ (Str.ofString "row") = some (.ref D) ∧ (∃ t, ρ (Str.ofString "figures") = some (.str figs t)) ∧
        (∃ t, ρ (Str.ofString "k") = some (.int (i : Nat) t)) ∧ ∀ b o, b ≠ L → h₆.get? b = some o → h.get? b = some o) ?_ ?_
      · refine wpAny_isTrue_Compare1 ?_
        walk_at "nm"
        walk_at "nm"
        by_cases hsy : sy d 0 = 256
        · refine in_tab (a₆.top.keeps a₆.keep) (tab_none hdi hsy) ?_
          walk_at "k"
          split
          · rename_i hc; exact absurd hc Bool.false_ne_true
          refine xs_nil ⟨rfl, _, _, _, rfl, a₆, ⟨_, upd_same.trans (congrArg some (v_int ?_ _))⟩, ⟨_, (upd_ne (by decide)).trans g2⟩, (upd_ne (by decide)).trans g3, ⟨_, (upd_ne (by decide)).trans g4⟩, ⟨_, (upd_ne (by decide)).trans g5⟩, fun _ _ _ e => e⟩
          rw [sy_big i hsy]
        · obtain ⟨tt, ett⟩ := tab_some (w := w) hdi hsy
          refine in_tab (a₆.top.keeps a₆.keep) ett ?_
          walk_at "k"
          split
          · refine xs_asg (Subscript_ ?_)
            walk_at "nm"
            walk_at "nm"
            refine item_tab (a₆.top.keeps a₆.keep) ett ?_
            walk_at "st"
            intro h₇ tk₇ a₇ k₇
            refine xs_nil ⟨rfl, _, _, _, rfl, a₇, ⟨_, upd_same.trans (congrArg some (v_int ?_ _))⟩, ⟨_, (upd_ne (by decide)).trans ((upd_ne (by decide)).trans g2)⟩, (upd_ne (by decide)).trans ((upd_ne (by decide)).trans g3), ⟨_, (upd_ne (by decide)).trans ((upd_ne (by decide)).trans g4)⟩, ⟨_, (upd_ne (by decide)).trans ((upd_ne (by decide)).trans g5)⟩, k₇⟩
            rw [(sy_small i hsy).1]
          · rename_i hc; exact absurd rfl hc
      · rintro h₇ tk₇ ρ₇ a₇ ⟨⟨t9, f1⟩, ⟨t10, f2⟩, f3, ⟨t11, f4⟩, ⟨t12, f5⟩, f6⟩
        try dsimp only
        refine xs_asg (Call_ ?_)
        walk_at "nm"
        walk_at "cw"
        refine args_cons (Call_method1 rfl rfl rfl ?_) rfl
        walk_at "k"
        refine m_join (sl_tuple ?_)
        walk_at "nm"
        refine wpAny_BinOp ?_
        walk_at "nm"
        iterate 2 walk_at "k"
        refine ⟨D, tv.toArray, i + 1, _, rfl, rfl, tup_at hD fun o e => a₇.keep _ _ e, by simp; omega, fun X h₈ k₈ hX => ⟨X, _, (ds.map tol).take (i + 1), rfl, hX, by simpa using strs_take hi (i + 1), ?_, fun t' tk => ?_⟩⟩
        · have h1 := tol_sum (ds.take (i + 1))
          rw [List.map_take] at h1
          have h2 : (ds.take (i + 1)).length ≤ 5 := by rw [List.length_take]; omega
          have e0 : (Str.ofString "").length = 0 := rfl
          rw [e0]
          omega
        refine args_nil ?_
        try dsimp only
        have a₈ := a₇.grow k₈
        have hsz : (joinS ((ds.map tol).take (i + 1))).cps.size ≤ 1000 := by
          rw [← List.map_take]
          exact joinS_size _ (by rw [List.length_take]; omega)
        refine ⟨a₈.top.keeps a₈.keep, by_con (fun E => c_hdn (a₈.top.keeps a₈.keep) (R'.mono (by decide)) _ _ hsz) ?_⟩
        rintro v s₉ ⟨k₉, rfl⟩
        have kk₉ := keeps_kp k₉
        obtain ⟨h₉, tk₉, rfl, _⟩ := k₉
        try dsimp only at kk₉ ⊢
        have a₉ := a₈.grow kk₉
        walk_at "st"
        intro h₁₀ tk₁₀ a₁₀ k₁₀
        try dsimp only
        generalize hb : Rx.hdn (Txt.join (Str.ofString "") ((ds.map tol).take (i + 1))).cps = bd at *
        refine xs_if_join a₁₀ (fun ρ h => (∃ t, ρ (Str.ofString "symbol") = some (.int (if bd = true then 255 else sy d i) t)) ∧ (∃ t, ρ (Str.ofString "worth") = some (.int (((List.range i).map (wtH ds)).sum) t)) ∧ ρ (Str.ofString "row") = some (.ref D) ∧ (∃ t, ρ (Str.ofString "figures") = some (.str figs t)) ∧
          (∃ t, ρ (Str.ofString "k") = some (.int (i : Nat) t)) ∧ ∀ b o, b ≠ L → h₁₀.get? b = some o → h.get? b = some o) ?_ ?_
        · refine wpAny_isTrue_Compare1 ?_
          walk_at "nm"
          cases bd with
          | true =>
            iterate 3 walk_at "k"
            split
            · refine xs_asg (wpAny_IfExp (wpAny_isTrue_Compare1 ?_))
              walk_at "nm"
              iterate 3 walk_at "k"
              split
              · walk_at "k"
                walk_at "st"
                intro h₁₁ tk₁₁ a₁₁ k₁₁
                exact xs_nil ⟨rfl, _, _, _, rfl, a₁₁, ⟨_, upd_same⟩, ⟨_, (upd_ne (by decide)).trans ((upd_ne (by decide)).trans f2)⟩, (upd_ne (by decide)).trans ((upd_ne (by decide)).trans f3), ⟨_, (upd_ne (by decide)).trans ((upd_ne (by decide)).trans f4)⟩, ⟨_, (upd_ne (by decide)).trans ((upd_ne (by decide)).trans f5)⟩, k₁₁⟩
              · rename_i hc; exact absurd rfl hc
            · rename_i hc; exact absurd rfl hc
          | false =>
            iterate 3 walk_at "k"
            split
            · rename_i hc; exact absurd hc Bool.false_ne_true
            · exact xs_nil ⟨rfl, _, _, _, rfl, a₁₀, ⟨_, (upd_ne (by decide)).trans f1⟩, ⟨_, (upd_ne (by decide)).trans f2⟩, (upd_ne (by decide)).trans f3, ⟨_, (upd_ne (by decide)).trans f4⟩, ⟨_, (upd_ne (by decide)).trans f5⟩, fun _ _ _ e => e⟩
        · rintro h₁₁ tk₁₁ ρ₁₁ a₁₁ ⟨⟨t13, e1⟩, ⟨t14, e2⟩, e3, ⟨t15, e4⟩, ⟨t16, e5⟩, e6⟩
          try dsimp only
          refine xs_asg (Call_ ?_)
          walk_at "nm"
          walk_at "cw"
          refine args_cons ?_ rfl
          walk_at "nm"
          refine args_nil ?_
          refine ⟨a₁₁.top.keeps a₁₁.keep, by_con (fun E => c_isterm (a₁₁.top.keeps a₁₁.keep) (R'.mono (by decide)) _ _) ?_⟩
          rintro v s₁₂ ⟨k₁₂, rfl⟩
          have kk₁₂ := keeps_kp k₁₂
          obtain ⟨h₁₂, tk₁₂, rfl, _⟩ := k₁₂
          try dsimp only at kk₁₂ ⊢
          have a₁₂ := a₁₁.grow kk₁₂
          walk_at "st"
          intro h₁₃ tk₁₃ a₁₃ k₁₃
          try dsimp only
          refine xs_aug ?_
          refine ldn_var a₁₃ ((upd_ne (by decide)).trans e2) ?_ rfl
          have hwt : wtH ds i = if bd = true then 0 else wts.getD d 0 := by unfold wtH joinS; rw [hb, hdd]
          refine wpAny_mono (Q := fun v s'' => ∃ t tk, v = .int (wtH ds i) t ∧ s'' = { s' with heap := h₁₃, toks := tk }) (wpAny_IfExp (wpAny_isTrue_Compare1 ?_)) (fun v s'' q => ?_) fun _ _ e => e
          · walk_at "nm"
            iterate 3 walk_at "k"
            cases bd with
            | true =>
              rw [if_pos (by rw [if_pos rfl]; decide)]
              refine wpAny_BinOp ?_
              walk_at "nm"
              iterate 2 walk_at "k"
              exact ⟨_, _, v_int (by rw [hwt]; rfl) _, rfl⟩
            | false =>
              by_cases hsy : sy d 0 = 256
              · have hbig : ¬ (if false = true then (255 : Int) else sy d i) < 256 := by rw [if_neg Bool.false_ne_true, sy_big i hsy]; omega
                rw [if_neg (by rw [decide_eq_false hbig]; decide)]
                refine wpAny_IfExp (wpAny_isTrue_Compare1 ?_)
                walk_at "nm"
                iterate 3 walk_at "k"
                rw [if_pos (by rw [decide_eq_false hbig]; decide)]
                walk_at "k"
                exact ⟨_, _, v_int (by rw [hwt, if_neg Bool.false_ne_true, wts_big hdi hsy]) _, rfl⟩
              · obtain ⟨z1, z2, z3⟩ := sy_small i hsy
                have hsm : (if false = true then (255 : Int) else sy d i) < 256 := by rw [if_neg Bool.false_ne_true, z1]; omega
                rw [if_pos (by rw [decide_eq_true hsm]; decide)]
                refine wpAny_BinOp ?_
                walk_at "nm"
                iterate 2 walk_at "k"
                refine ⟨_, _, v_int ?_ _, rfl⟩
                rw [hwt, if_neg Bool.false_ne_true, if_neg Bool.false_ne_true, wts_small hsy, z1]
                rw [Int.fmod_eq_emod_of_nonneg _ (by decide)]
                omega
          · obtain ⟨t17, tk17, rfl, rfl⟩ := q
            walk_at "k"
            walk_at "st"
            intro h₁₄ tk₁₄ a₁₄ k₁₄
            refine xs_nil ⟨h₁₄, _, _, rfl, a₁₄, ⟨⟨_, upd_same.trans (congrArg some (v_int ?_ _))⟩, (upd_ne (by decide)).trans ((upd_ne (by decide)).trans e3), _, (upd_ne (by decide)).trans ((upd_ne (by decide)).trans e4)⟩, fun b o hb1 _ _ e => ?_⟩
            · rw [List.range_succ, List.map_append, List.sum_append]; simp
            · exact k₁₄ b o hb1 (k₁₃ b o hb1 (kk₁₂ b o (e6 b o hb1 (k₁₀ b o hb1 (kk₉ b o (k₈ b o (f6 b o hb1 (k₆ b o hb1 (g6 b o hb1 (k₄ b o hb1 e))))))))))
  · intro ρ₂ h' tk' a' ⟨⟨t1, h1⟩, h2, t3, h3⟩ k'
    refine Nx.go (xs_ret ?_)
    walk_at "nm"
    exact ⟨keeps_of a'.keep, t1, rfl⟩
end
end PWp
section PTp
section
variable {w : World} {A : Around} {E : Value → Shared → Prop} {s : Shared} {env : Env} {ρ : Str → Option Value} {B : Heap}
theorem unp2 {T : Addr} {u v : Value} {Q : List Value → Shared → Prop} (hh : A.handled = none) (ht : IsTup s.heap T #[u, v]) (h : ∀ h', Kp s.heap h' → Q [u, v] { s with heap := h' }) :
    wpAny (model P0 w) A (unpackItems (.ref T) 2 none) Q E s :=
  unpackItems_tuple (items := #[u, v]) hh ht fun h' he => h h' fun b o e => he b o (Nat.ne_of_lt (Heap.lt_size e)) e
/-- x, y = (e1, e2): stored from the left -/
theorem xs_pair {x y : Str} {px py tp tp2 pos : Pos} {k k2 : Nat} {e1 e2 : Expr} {rest : List Stmt} {Q : Flow → Shared → Prop} (hh : A.handled = none) (hx : env.kindOf x = some .local) (hy : env.kindOf y = some .local)
    (h : wpAny (model P0 w) A (eval e1 env) (fun u s₁ => wpAny (model P0 w) A (eval e2 env) (fun v s₂ => ∃ ρ, At w env ρ B s₂.heap ∧
      ∀ h' tk, At w env (upd (upd ρ x u) y v) B h' → (∀ b o, b ≠ env.locals → s₂.heap.get? b = some o → h'.get? b = some o) → wpAny (model P0 w) A (execs rest env) Q E { s₂ with heap := h', toks := tk }) E s₁) E s)
    (hs : swapsWithSole [.Tuple [.Name x px, .Name y py] k tp] (.Tuple [e1, e2] k2 tp2) pos.line env = pure false := by rfl)
    (hw : swappedStores [.Tuple [.Name x px, .Name y py] k tp] (.Tuple [e1, e2] k2 tp2) env = pure none := by rfl)
    (he : starEach [e1, e2] env = (false, eval e1 env) :: starEach [e2] env := by rfl) (he2 : starEach [e2] env = (false, eval e2 env) :: starEach [] env := by rfl) :
    wpAny (model P0 w) A (execs (.Assign [.Tuple [.Name x px, .Name y py] k tp] (.Tuple [e1, e2] k2 tp2) pos :: rest) env) Q E s := by
  refine xs_one (Assign_Tuple (Tuple_ (args_cons (wpAny_mono h (fun u s₁ q => args_cons (wpAny_mono q (fun v s₂ q₂ => args_nil ?_) fun _ _ e => e) he2) fun _ _ e => e) he)) hs hw)
  obtain ⟨ρ, a, hQ⟩ := q₂
  refine mk_tuple (by simp) (fun T h₁ hT k₁ fT => ?_)
  rw [assign_Tuple]
  refine wpAny_bind (wpAny_standAt ?_)
  show wpAny _ A (do assignInOrder [assign (.Name x px) env, assign (.Name y py) env] (← holding [.ref T] (unpackItems (.ref T) 2 none))) _ _ _
  refine wpAny_bind (wpAny_holding (unp2 hh hT fun h₂ k₂ => ?_))
  have a₂ := (a.grow k₁).grow k₂
  refine assignInOrder_cons (assign_Name (st_var a₂ hx fun h₃ tk₃ a₃ k₃ => ?_))
  refine assignInOrder_cons (assign_Name (st_var a₃ hy fun h₄ tk₄ a₄ k₄ => ?_))
  refine assignInOrder_nil (Nx.go ?_)
  exact hQ h₄ tk₄ a₄ fun b o n e => k₄ b o n (k₃ b o n (k₂ _ _ (k₁ _ _ e)))
/-- x, y = (e1, e2): stored from the right -/
theorem xs_pair' {x y : Str} {px py tp tp2 pos : Pos} {k k2 : Nat} {e1 e2 : Expr} {rest : List Stmt} {Q : Flow → Shared → Prop} (hh : A.handled = none) (hx : env.kindOf x = some .local) (hy : env.kindOf y = some .local)
    (h : wpAny (model P0 w) A (eval e1 env) (fun u s₁ => wpAny (model P0 w) A (eval e2 env) (fun v s₂ => ∃ ρ, At w env ρ B s₂.heap ∧
      ∀ h' tk, At w env (upd (upd ρ y v) x u) B h' → (∀ b o, b ≠ env.locals → s₂.heap.get? b = some o → h'.get? b = some o) → wpAny (model P0 w) A (execs rest env) Q E { s₂ with heap := h', toks := tk }) E s₁) E s)
    (hs : swapsWithSole [.Tuple [.Name x px, .Name y py] k tp] (.Tuple [e1, e2] k2 tp2) pos.line env = pure false := by rfl)
    (hw : swappedStores [.Tuple [.Name x px, .Name y py] k tp] (.Tuple [e1, e2] k2 tp2) env = pure (some [x, y]) := by rfl)
    (he : starEach [e1, e2] env = (false, eval e1 env) :: starEach [e2] env := by rfl) (he2 : starEach [e2] env = (false, eval e2 env) :: starEach [] env := by rfl) :
    wpAny (model P0 w) A (execs (.Assign [.Tuple [.Name x px, .Name y py] k tp] (.Tuple [e1, e2] k2 tp2) pos :: rest) env) Q E s := by
  refine xs_one (Assign_Tuple_swapped (names := [x, y]) (Tuple_ (args_cons (wpAny_mono h (fun u s₁ q => args_cons (wpAny_mono q (fun v s₂ q₂ => args_nil ?_) fun _ _ e => e) he2) fun _ _ e => e) he)) hs hw)
  obtain ⟨ρ, a, hQ⟩ := q₂
  refine mk_tuple (by simp) (fun T h₁ hT k₁ fT => ?_)
  refine unp2 hh hT fun h₂ k₂ => ?_
  have a₂ := (a.grow k₁).grow k₂
  show wpAny _ A (assignInOrder [fun v => bindName env y v, fun v => bindName env x v] [v, u]) _ _ _
  refine assignInOrder_cons (bindName_ (st_var a₂ hy fun h₃ tk₃ a₃ k₃ => ?_))
  refine assignInOrder_cons (bindName_ (st_var a₃ hx fun h₄ tk₄ a₄ k₄ => ?_))
  refine assignInOrder_nil (Nx.go ?_)
  exact hQ h₄ tk₄ a₄ fun b o n e => k₄ b o n (k₃ b o n (k₂ _ _ (k₁ _ _ e)))
end
end PTp
section PTn
/-- what names together are worth: the figures' rows -/
noncomputable def gOf (rs : List (List Nat)) (i j : Nat) : Int := worthOf ((rs.getD i []).take (alike [(rs.getD i []).map tol, (rs.getD j []).map tol]))
noncomputable def moreOf (g : Nat → Nat → Int) (tk : List Nat) (k : Nat) : Int := g k k - (tk.map (g k)).sum
/-- the turn's best -/
noncomputable def scan (g : Nat → Nat → Int) (b n : Nat) (tk : List Nat) : Nat → Option Nat × Int
  | 0 => (none, 0)
  | t + 1 =>
    if (b + t) % n ∈ tk then scan g b n tk t
    else if (scan g b n tk t).1 = none ∨ moreOf g tk ((b + t) % n) > (scan g b n tk t).2 then (some ((b + t) % n), moreOf g tk ((b + t) % n)) else scan g b n tk t
noncomputable def takenL (g : Nat → Nat → Int) (b n : Nat) : Nat → List Nat
  | 0 => []
  | i + 1 => takenL g b n i ++ [(scan g b n (takenL g b n i) n).1.getD 0]
noncomputable def worthL (g : Nat → Nat → Int) (b n : Nat) : Nat → Int
  | 0 => 0
  | i + 1 => worthL g b n i + (scan g b n (takenL g b n i) n).2
noncomputable def toInts (l : List Nat) : List Int := l.map fun (x : Nat) => (x : Int)
section
variable {w : World} {A : Around} {E : Value → Shared → Prop} {s : Shared} {env : Env} {ρ : Str → Option Value} {B : Heap}
/-- what a store of a cell leaves -/
theorem off_cell {h h' : Heap} {x : Str} {c : Addr} (a : At w env ρ B h) (hk : env.kindOf x = some .cell) (hc : env.cells.lookup x = some c) (k : ∀ b o, b ≠ c → h.get? b = some o → h'.get? b = some o) : KpS h h' := fun b o n e => by
  refine k b o ?_ e
  rintro rfl
  obtain ⟨c', h1, ⟨o', h2, d⟩, _⟩ := a.cel x (.inl hk)
  rw [hc] at h1; cases h1
  rw [e] at h2; cases h2
  exact n fun _ _ q => by rw [d] at q; cases q
theorem cell_obj {h : Heap} {x : Str} {c : Addr} (a : At w env ρ B h) (hk : env.kindOf x = some .cell) (hc : env.cells.lookup x = some c) : ∃ o, h.get? c = some o ∧ NotSeq o := by
  obtain ⟨c', h1, ⟨o', h2, d⟩, _⟩ := a.cel x (.inl hk)
  rw [hc] at h1; cases h1
  exact ⟨o', h2, fun _ _ q => by rw [d] at q; cases q⟩
theorem IsSeqS.move {tp : Bool} {h h' : Heap} {r : List Str} {v : Value} (x : IsSeqS tp h r v) (k : KpS h h') : IsSeqS tp h' r v := by
  obtain ⟨l, vs, e, hl, hi⟩ := x
  refine ⟨l, vs, e, ?_, hi⟩
  cases tp with
  | false => exact k.list hl
  | true => exact k.tuple hl
/-- a list of numbers -/
noncomputable def IsIs (h : Heap) (r : List Int) (v : Value) : Prop := ∃ l vs, v = .ref l ∧ h.IsList l (List.toArray vs) ∧ IntsAre vs r
theorem IsIs.move {h h' : Heap} {r : List Int} {v : Value} (x : IsIs h r v) (k : KpS h h') : IsIs h' r v := let ⟨l, vs, e, hl, hi⟩ := x; ⟨l, vs, e, k.list hl, hi⟩
/-- the elements of a comprehension that are made objects -/
theorem elems_of {α : Type} {G : Heap → α → Value → Prop} {f : Nat → α} {Rel : Nat → Value → Option Obj → Prop} {h₀ h : Heap} {D : Addr} (hG : ∀ i y T o, y = .ref T → h.get? T = some o → Rel i y (some o) → G h (f i) y) (hN : ∀ i y, ¬ Rel i y none) :
    ∀ {is : List Nat} {ys : List Value}, Paired (ElemF Rel h₀ D h) is ys → Paired (G h) (is.map f) ys
  | _, _, .nil => .nil
  | _, _, .cons x r => by
    refine .cons ?_ (elems_of hG hN r)
    rcases x with x | ⟨T, o, e1, _, _, e2, x⟩
    · exact absurd x (hN _ _)
    · exact hG _ _ T o e1 e2 x
end
theorem clo_one {env : Env} {c1 : Addr} (g1 : env.cells.lookup (Str.ofString "one") = some c1) : closureFor { kind := ScopeKind.function, names := [(Str.ofString ".0", NameKind.local), (Str.ofString "other", NameKind.local), (Str.ofString "_law_worth", NameKind.globalImplicit), (Str.ofString "commonprefix", NameKind.globalImplicit), (Str.ofString "one", NameKind.free)], isGenerator := false, isCoroutine := false } env = pure [(Str.ofString "one", c1)] := by
  have e : cellOf env (Str.ofString "one") = pure c1 := by unfold cellOf; rw [g1]
  unfold closureFor
  simp only [List.forIn_cons, List.forIn_nil, e]
  rfl
theorem scan_lt {g : Nat → Nat → Int} {b n : Nat} (hn : 0 < n) (tk : List Nat) : ∀ t k, (scan g b n tk t).1 = some k → k < n
  | 0, k, h => by simp [scan] at h
  | t + 1, k, h => by
    unfold scan at h
    split at h
    · exact scan_lt hn tk t k h
    · split at h
      · simp only [Option.some.injEq] at h
        rw [← h]; exact Nat.mod_lt _ hn
      · exact scan_lt hn tk t k h
theorem takenL_len (g : Nat → Nat → Int) (b n : Nat) : ∀ i, (takenL g b n i).length = i
  | 0 => rfl
  | i + 1 => by simp [takenL, takenL_len g b n i]
theorem takenL_lt {g : Nat → Nat → Int} {b n : Nat} (hn : 0 < n) : ∀ i, ∀ x ∈ takenL g b n i, x < n
  | 0, x, h => by simp [takenL] at h
  | i + 1, x, h => by
    unfold takenL at h
    rcases List.mem_append.mp h with h | h
    · exact takenL_lt hn i x h
    · rw [List.mem_singleton.mp h]
      cases e : (scan g b n (takenL g b n i) n).1 with
      | none => exact hn
      | some k => exact scan_lt hn _ _ _ e
theorem map_range_nat {α : Type} (xs : List Nat) (f : Nat → α) {n : Nat} (hn : n = xs.length) : (List.range n).map (fun i => f (xs.getD i 0)) = xs.map f := by
  subst hn
  apply List.ext_getElem
  · simp
  · intro i h1 h2
    simp at h1 h2 ⊢
    rw [List.getElem?_eq_getElem h1]; rfl
end PTn
section PTa
section
variable {w : World} {A : Around} {E : Value → Shared → Prop} {s : Shared}
noncomputable def optV (o : Option Nat) (v : Value) : Prop := match o with | none => v = .none | some k => ∃ t, v = .int (k : Nat) t
theorem names_txt {rs : List (List Nat)} (i : Nat) : ((rs.map (·.map tol)).getD i []) = (rs.getD i []).map tol := by
  rw [List.getD_eq_getElem?_getD, List.getD_eq_getElem?_getD, List.getElem?_map]
  cases rs[i]? <;> rfl
theorem c_taken (T : TopAt w s.heap) (R : Room A 5) {D : Addr} {ys : List Value} {rs : List (List Nat)} {b : Nat} {bt : Tok} (hD : s.heap.IsList D (List.toArray ys)) (hr : Paired (IsSeqS false s.heap) (rs.map (·.map tol)) ys)
    (hb : b < 1000) (hz : rs.length ≤ 100) (hg : ∀ r ∈ rs, r.length ≤ 5 ∧ ∀ d ∈ r, d < 10) (hsome : ∀ i, i < rs.length → (scan (gOf rs) b rs.length (takenL (gOf rs) b rs.length i) rs.length).1 ≠ none) :
    wpAny (model P0 w) A (call (.ref 183) [.ref D, .int b bt]) (fun v s' => Keeps s s' ∧ ∃ W wv, v = .ref W ∧ s'.heap.IsList W (List.toArray wv) ∧ IntsAre wv ((List.range rs.length).map fun i => worthL (gOf rs) b rs.length (i + 1))) E s := by
  have ho := Eq.refl ((Mine.K0 w.params).lookup 183)
  conv at ho => rhs; whnf
  conv at ho => rhs; pattern (paOf _); whnf
  conv at ho => rhs; pattern (boOf _); whnf
  conv at ho => rhs; pattern (scOf _); whnf
  refine enterC (f := 183) (k := 4) (binds := [(Str.ofString "names", .ref D), (Str.ofString "begin", .int b bt)]) T R ho (by k_is) rfl rfl (by decide) (fun L h₁ tk hL a R' => ?_)
  have hlen : ys.length = rs.length := by simpa using hr.length.symm
  have hD₁ : h₁.IsList D (List.toArray ys) := hD.at fun o e => a.keep _ _ e
  have hcell : ∀ k : Nat, s.heap.get? (L + k) = none := fun k => none_ge (by rw [hL]; exact Nat.le_add_right _ _)
  have hri5 : ∀ i, (rs.getD i []).length ≤ 5 ∧ ∀ d ∈ rs.getD i [], d < 10 := fun i => by
    rw [List.getD_eq_getElem?_getD]
    cases e : rs[i]? with
    | none => simp
    | some r => exact hg r (List.mem_of_getElem? e)
  -- rows
  refine xs_asg (wpAny_mono (comp_eval a (by walk_at "static") (n := ys.length) (by rw [sizeLine_eq]; omega) (fun _ => true)
    (fun i y o => ∃ x tv, o = some { cls := .type "tuple", data := .seq (List.toArray tv) } ∧ y = x ∧ StrsAre tv ((rs.getD i []).map tol)) (P := fun i v => List.toArray ys |>.toList[i]? = some v) (src := [D]) ?_ (fun _ _ _ _ _ _ _ _ _ _ _ => test_none) ?_) (fun v s₂ q => ?_) fun _ _ e => e)
  · walk_at "nm"
    exact ⟨keeps_rfl, by simpa using iters_list R'.h hD₁⟩
  · intro C cs B₂ i v s₃ E' kB hi' hv _ a₃
    obtain ⟨r, hri, lr, rv, rfl, hlr, hir⟩ := paired_at hr i v (by simpa using hv)
    have er : r = (rs.getD i []).map tol := by rw [← names_txt, List.getD_eq_getElem?_getD, hri]; rfl
    subst er
    refine Call_ ?_
    walk_at "nm"
    refine PyProof.Rows.callWith_type1 (args_cons ?_ rfl) rfl
    walk_at "nm"
    refine args_nil ?_
    have hl3 : s₃.heap.IsList lr (List.toArray rv) := Heap.IsList.at hlr fun o e => a₃.keep _ _ (kB _ _ (a.keep _ _ e))
    refine call_tuple_list hl3 (fun h' k => ?_) (by rw [List.size_toArray, sizeLine_eq, strs_len hir, List.length_map]; have := (hri5 i).1; omega)
    refine ⟨⟨_, _, rfl, fun b o e => Heap.get?_push_of_some _ (k _ _ e)⟩, .inr ⟨h'.objs.size, _, rfl, ?_, Heap.get?_push_size _ rfl, _, _, rfl, rfl, hir⟩⟩
    cases q : s₃.heap.get? h'.objs.size with
    | none => rfl
    | some o => exact absurd (Heap.lt_size (k _ _ q)) (Nat.lt_irrefl _)
  obtain ⟨kq, RA, rv0, rfl, fRA, hRA, hp⟩ := q
  rw [filter_true] at hp
  have hp1 := elems_of (G := fun h r v => IsSeqS true h r v) (f := fun i => (rs.getD i []).map tol) (fun i y T o e1 e2 ⟨x, tv, e3, e4, e5⟩ => by
    cases e3
    exact ⟨T, tv, e1, ⟨_, e2, rfl, 0, rfl⟩, e5⟩) (fun i y h => by obtain ⟨x, tv, e3, _⟩ := h; cases e3) hp
  have kp2 := keeps_kp kq
  obtain ⟨h₂, tk₂, rfl, _⟩ := kq
  try dsimp only at kp2 hRA hp1 ⊢
  have a₂ := a.grow kp2
  refine st_cell a₂ rfl (c := L + 1) rfl (hcell 1) (fun h₃ tk₃ a₃ k₃ => ?_)
  try dsimp only
  have e₃ := off_cell (x := Str.ofString "rows") (c := L + 1) a₂ rfl rfl k₃
  have hRA₃ : h₃.IsList RA (List.toArray rv0.toList) := e₃.list (by simpa using hRA.isList)
  have hp₃ := hp1.mono fun _ _ x => IsSeqS.move x e₃
  have hrl : rv0.toList.length = rs.length := by rw [← hp₃.length]; simp [hlen]
  -- shared
  refine xs_asg (wpAny_mono (comp_eval a₃ (by walk_at "static") (n := rv0.toList.length) (by rw [sizeLine_eq]; omega) (fun _ => true)
    (fun i y o => ∃ x tv n, o = some { cls := .type "list", data := .seq (List.toArray tv) n } ∧ y = x ∧ IntsAre tv ((List.range rs.length).map (gOf rs i))) (P := fun i v => rv0.toList[i]? = some v) (src := [RA]) ?_ (fun _ _ _ _ _ _ _ _ _ _ _ => test_none) ?_) (fun v s₂ q => ?_) fun _ _ e => e)
  · walk_at "nm"
    exact ⟨keeps_rfl, by simpa using iters_list R'.h hRA₃⟩
  · intro C cs B₂ i v s₃ E' kB hi' hv _ a₄
    obtain ⟨r, hri, hsq⟩ := paired_at hp₃ i v hv
    have er : r = (rs.getD i []).map tol := by
      rw [List.getElem?_map, List.getElem?_range (by omega)] at hri
      exact (Option.some.inj hri).symm
    subst er
    obtain ⟨c1, g1, _⟩ := a₄.cel (Str.ofString "one") (.inl rfl)
    refine wpAny_mono (comp_eval a₄ (cl := [(Str.ofString "one", c1)]) (Static.of ?_ rfl (by decide) (by decide) (by decide) ?_ (.cons rfl .nil) (.loc rfl (by decide))) (n := rv0.toList.length) (by rw [sizeLine_eq]; omega) (fun _ => true)
      (fun j y o => o = none ∧ ∃ t, y = .int (gOf rs i j) t) (P := fun i v => rv0.toList[i]? = some v) (src := [RA]) ?_ (fun _ _ _ _ _ _ _ _ _ _ _ => test_none) ?_) (fun v s₅ q => ?_) fun _ _ e => e
    · exact clo_one g1
    · refine .cons (fun e => absurd e (by decide)) (.cons (fun e => absurd e (by decide)) (.cons (fun e => absurd e (by decide)) (.cons (fun e => absurd e (by decide)) (.cons (fun e => ⟨.inl rfl, g1.symm, by decide⟩) .nil))))
    · walk_at "nm"
      exact ⟨keeps_rfl, by simpa using iters_list R'.h (hRA₃.at fun o e => a₄.keep _ _ (kB _ _ e))⟩
    · intro C2 cs2 B₃ j v' s₆ E2 kB2 hj hv' _ a₅
      obtain ⟨r', hrj, hsq'⟩ := paired_at hp₃ j v' hv'
      have er' : r' = (rs.getD j []).map tol := by
        rw [List.getElem?_map, List.getElem?_range (by omega)] at hrj
        exact (Option.some.inj hrj).symm
      subst er'
      refine Call_ ?_
      walk_at "nm"
      walk_at "cw"
      refine args_cons (Call_ ?_) rfl
      walk_at "nm"
      walk_at "cw"
      refine args_cons (List_ ?_) rfl
      refine args_cons ?_ rfl
      walk_at "nm"
      refine args_cons ?_ rfl
      walk_at "nm"
      refine args_nil ?_
      refine mk_list (by simp) (fun X h₇ hX k₇ fX => ?_)
      refine args_nil ?_
      try dsimp only
      have a₇ := a₅.grow k₇
      have T₇ := a₇.top.keeps a₇.keep
      have k37 : Kp h₃ h₇ := fun b o e => a₇.keep _ _ (kB2 _ _ (a₄.keep _ _ (kB _ _ e)))
      refine ⟨T₇, by_con (fun E => c_prefix (tp := true) (ys := [v, v']) (rows := [(rs.getD i []).map tol, (rs.getD j []).map tol]) T₇ (R'.mono (by decide)) hX.isList (.cons (IsSeqS.move hsq k37.s) (.cons (IsSeqS.move hsq' k37.s) .nil)) (by simp) (by simp) ?_) ?_⟩
      · intro r hr'
        rcases List.mem_cons.mp hr' with rfl | hr'
        · rw [List.length_map]; exact (hri5 i).1
        · rw [List.mem_singleton.mp hr', List.length_map]; exact (hri5 j).1
      · rintro u s₈ ⟨k₈, lp, pv, rfl, hlp, hpv⟩
        refine args_nil ?_
        have T₈ := T₇.keeps (keeps_kp k₈)
        have hpv' : StrsAre pv (((rs.getD i []).take (alike [(rs.getD i []).map tol, (rs.getD j []).map tol])).map tol) := by
          rw [List.map_take]; exact hpv
        refine ⟨T₈, by_con (fun E => c_worth T₈ (R'.mono (by decide)) hlp hpv' (fun d hd => (hri5 i).2 d (List.mem_of_mem_take hd)) ?_) ?_⟩
        · rw [List.length_take]; have := (hri5 i).1; omega
        · rintro u s₉ ⟨k₉, t9, rfl⟩
          exact ⟨keeps_trans (keeps_of k₇) (keeps_trans k₈ k₉), .inl ⟨rfl, t9, rfl⟩⟩
    · obtain ⟨kq, Z, zv, rfl, fZ, ⟨nz, eZ⟩, hpz⟩ := q
      rw [filter_true] at hpz
      have hI := ints_paired (F := fun j => gOf rs i j) (fun j v x => elem_none (f := fun j v => ∃ t, v = .int (gOf rs i j) t) x) hpz
      rw [hrl] at hI
      exact ⟨kq, .inr ⟨Z, _, rfl, fZ, eZ, _, zv.toList, nz, rfl, rfl, hI⟩⟩
  obtain ⟨kq, SA, sv0, rfl, fSA, hSA, hp5⟩ := q
  rw [filter_true] at hp5
  have hp6 := elems_of (G := IsIs) (f := fun i => (List.range rs.length).map (gOf rs i)) (fun i y T o e1 e2 ⟨x, tv, n, e3, e4, e5⟩ => by
    cases e3
    exact ⟨T, tv, e1, ⟨_, e2, rfl, n, rfl⟩, e5⟩) (fun i y h => by obtain ⟨x, tv, n, e3, _⟩ := h; cases e3) hp5
  have kp4 := keeps_kp kq
  obtain ⟨h₄, tk₄, rfl, _⟩ := kq
  try dsimp only at kp4 hSA hp6 ⊢
  have a₄ := a₃.grow kp4
  refine st_cell a₄ rfl (c := L + 2) rfl (hcell 2) (fun h₅ tk₅ a₅ k₅ => ?_)
  try dsimp only
  have e₅ := off_cell (x := Str.ofString "shared") (c := L + 2) a₄ rfl rfl k₅
  have hSA₅ : h₅.IsList SA (List.toArray sv0.toList) := e₅.list (by simpa using hSA.isList)
  rw [hrl] at hp6
  have hp₅ := hp6.mono fun _ _ x => IsIs.move x e₅
  generalize sv0.toList = sv at hSA₅ hp₅
  clear hp6 hp5 hp₃ hp1 hp
  -- taken, worths, worth
  refine xs_asg (List_ ?_)
  walk_at "k"
  refine mk_list (by simp) (fun TA h₆ hTA k₆ fTA => ?_)
  try dsimp only
  have a₆ := a₅.grow k₆
  have nTA := a₅.new fTA
  walk_at "st"
  intro h₇ tk₇ a₇ k₇
  try dsimp only
  have e₇ := (Kp.s k₆).trans (off_seq a₆ k₇)
  refine xs_asg (List_ ?_)
  walk_at "k"
  refine mk_list (by simp) (fun WA h₈ hWA k₈ fWA => ?_)
  try dsimp only
  have a₈ := a₇.grow k₈
  have nWA := a₇.new fWA
  walk_at "st"
  intro h₉ tk₉ a₉ k₉
  try dsimp only
  have e₉ := (Kp.s k₈).trans (off_seq a₈ k₉)
  refine xs_asg ?_
  walk_at "k"
  walk_at "st"
  intro h₁₀ tk₁₀ a₁₀ k₁₀
  try dsimp only
  have e₁₀ := off_seq a₉ k₁₀
  obtain ⟨oc, hoc, noc⟩ := cell_obj (x := Str.ofString "k") (c := L + 3) a₁₀ rfl rfl
  have hTA₁₀ : PlainL h₁₀ TA (List.toArray []) := e₁₀.plainL (e₉.plainL ((off_seq a₆ k₇).plainL (plainL_of hTA)))
  have hWA₁₀ : PlainL h₁₀ WA (List.toArray []) := e₁₀.plainL ((off_seq a₈ k₉).plainL (plainL_of hWA))
  have e510 : KpS h₅ h₁₀ := KpS.trans e₇ (KpS.trans e₉ e₁₀)
  have hTW : TA ≠ WA := by
    rintro rfl
    obtain ⟨o, n, e, _⟩ := (off_seq a₆ k₇).plainL (plainL_of hTA)
    rw [fWA] at e; cases e
  let Kk : Heap → Prop := fun h => ∀ b o, ¬ NotSeq o → b ≠ TA → b ≠ WA → h₁₀.get? b = some o → h.get? b = some o
  have old5 : ∀ {c : Addr} {o : Obj}, ¬ NotSeq o → h₅.get? c = some o → ∀ h, Kk h → h.get? c = some o := fun {c o} no e h kk => by
    refine kk c o no ?_ ?_ (e510 _ _ no e)
    · rintro rfl; rw [fTA] at e; cases e
    · rintro rfl
      have := e₇ _ _ no e
      rw [fWA] at this; cases this
  have hS : ∀ h, Kk h → h.IsList SA (List.toArray sv) ∧ ∀ i, i < rs.length → ∃ lr rv, sv[i]? = some (.ref lr) ∧ h.IsList lr (List.toArray rv) ∧ IntsAre rv ((List.range rs.length).map (gOf rs i)) := fun h kk => by
    refine ⟨?_, fun i hi => ?_⟩
    · obtain ⟨o, e, c, n, d⟩ := hSA₅
      exact ⟨o, old5 (notSeq_not d) e h kk, c, n, d⟩
    · obtain ⟨v, e1, lr, rv, rfl, ⟨o, e, c, n, d⟩, hir⟩ := paired_to hp₅ i ((List.range rs.length).map (gOf rs i)) (by rw [List.getElem?_map, List.getElem?_range hi]; rfl)
      exact ⟨lr, rv, e1, ⟨o, old5 (notSeq_not d) e h kk, c, n, d⟩, hir⟩
  have hgt : ∀ h, Kk h → ∀ i j, i < rs.length → j < rs.length → ∃ lr rv t, sv[i]? = some (.ref lr) ∧ h.IsList SA (List.toArray sv) ∧ h.IsList lr (List.toArray rv) ∧ (List.toArray rv)[((j : Nat) : Int).toNat]? = some (.int (gOf rs i j) t) := fun h kk i j hi hj => by
    obtain ⟨q1, q2⟩ := hS h kk
    obtain ⟨lr, rv, e1, e2, e3⟩ := q2 i hi
    obtain ⟨t, e4⟩ := e3.get j (gOf rs i j) (by rw [List.getElem?_map, List.getElem?_range hj]; rfl)
    exact ⟨lr, rv, t, e1, q1, e2, by rw [List.getElem?_toArray]; exact e4⟩
  have kkS : ∀ {h h'}, Kk h → KpS h h' → Kk h' := fun kk k b o no h1 h2 e => k _ _ no (kk b o no h1 h2 e)
  have kk0 : Kk h₁₀ := fun _ _ _ _ _ e => e
  have hys : h₁₀.IsList D (List.toArray ys) := hD.at fun o e => a₁₀.keep _ _ e
  refine xs_one (for_local a₁₀ R'.h rfl [TA, WA, L + 3] (fun i ρ h => ∃ tv wv, PlainL h TA (List.toArray tv) ∧ IntsAre tv (toInts (takenL (gOf rs) b rs.length i)) ∧ PlainL h WA (List.toArray wv) ∧
      IntsAre wv ((List.range i).map fun i => worthL (gOf rs) b rs.length (i + 1)) ∧ (∃ t, ρ (Str.ofString "worth") = some (.int (worthL (gOf rs) b rs.length i) t)) ∧ ρ (Str.ofString "taken") = some (.ref TA) ∧ ρ (Str.ofString "worths") = some (.ref WA) ∧
      ρ (Str.ofString "names") = some (.ref D) ∧ ρ (Str.ofString "begin") = some (.int b bt) ∧ ρ (Str.ofString "shared") = some (.ref SA) ∧ Kk h)
    (n := rs.length) (P := fun i v => ∃ t, v = .int (i : Nat) t) (src := []) ?_ ?_ (by simp) ?_ ?_ ?_ ?_)
  · refine it_range1 a₁₀ R'.h rfl (by omega) (ev_len a₁₀ rfl ?_)
    walk_at "nm"
    exact ⟨D, _, rfl, .inl hys, by simp; omega, fun t tk => ⟨keeps_of Kp.rfl, t, by simp [hlen]⟩⟩
  · intro b' hb'
    simp only [List.mem_cons, List.not_mem_nil, or_false] at hb'
    rcases hb' with rfl | rfl | rfl
    · obtain ⟨o, _, e, _⟩ := hTA₁₀; exact ⟨o, e⟩
    · obtain ⟨o, _, e, _⟩ := hWA₁₀; exact ⟨o, e⟩
    · exact ⟨oc, hoc⟩
  · rintro i ρ₁ ρ₂ h h' k hρ ⟨tv, wv, f1, f2, f3, f4, ⟨t, f5⟩, f6, f7, f8, f9, f10, f11⟩
    exact ⟨tv, wv, k.plainL f1, f2, k.plainL f3, f4, ⟨t, (hρ _ (by decide)).symm.trans f5⟩, (hρ _ (by decide)).symm.trans f6, (hρ _ (by decide)).symm.trans f7, (hρ _ (by decide)).symm.trans f8, (hρ _ (by decide)).symm.trans f9, (hρ _ (by decide)).symm.trans f10, kkS f11 k⟩
  · refine ⟨[], [], hTA₁₀, .nil, hWA₁₀, .nil, ⟨_, upd_same⟩, ?_, ?_, ?_, ?_, ?_, kk0⟩
    all_goals walk_at "rho"
  · rintro i v ρ₁ s' hin ⟨t, rfl⟩ a' ⟨tv, wv, f1, f2, f3, f4, ⟨t5, f5⟩, f6, f7, f8, f9, f10, f11⟩
    refine xs_pair (B := s.heap) R'.h rfl rfl ?_
    iterate 2 walk_at "k"
    refine ⟨_, a', fun h₁₁ tk₁₁ a₁₁ k₁₁ => ?_⟩
    try dsimp only
    have e₁₁ := off_seq a' k₁₁
    have hso := hsome i hin
    have tl1 := takenL_len (gOf rs) b rs.length i
    have tl2 := takenL_lt (g := gOf rs) (b := b) (n := rs.length) (by omega) i
    have htk1 : takenL (gOf rs) b rs.length (i + 1) = takenL (gOf rs) b rs.length i ++ [(scan (gOf rs) b rs.length (takenL (gOf rs) b rs.length i) rs.length).1.getD 0] := rfl
    have hwk1 : worthL (gOf rs) b rs.length (i + 1) = worthL (gOf rs) b rs.length i + (scan (gOf rs) b rs.length (takenL (gOf rs) b rs.length i) rs.length).2 := rfl
    generalize htl : takenL (gOf rs) b rs.length i = tkL at *
    have hfl : tv.length = tkL.length := by rw [f2.length]; simp [toInts]
    refine xs_one (for_local a₁₁ R'.h rfl [L + 3] (fun j ρ h => (∃ v, ρ (Str.ofString "best") = some v ∧ optV (scan (gOf rs) b rs.length tkL j).1 v) ∧ (∃ t, ρ (Str.ofString "most") = some (.int (scan (gOf rs) b rs.length tkL j).2 t)) ∧
        (∃ t, ρ (Str.ofString "worth") = some (.int (worthL (gOf rs) b rs.length i) t)) ∧ ρ (Str.ofString "taken") = some (.ref TA) ∧ ρ (Str.ofString "worths") = some (.ref WA) ∧
        ρ (Str.ofString "names") = some (.ref D) ∧ ρ (Str.ofString "begin") = some (.int b bt) ∧ ρ (Str.ofString "shared") = some (.ref SA) ∧ Kk h ∧ PlainL h TA (List.toArray tv) ∧ PlainL h WA (List.toArray wv))
      (n := rs.length) (P := fun i v => ∃ t, v = .int (i : Nat) t) (src := []) ?_ ?_ (by simp) ?_ ?_ ?_ ?_)
    · refine it_range1 a₁₁ R'.h rfl (by omega) (ev_len a₁₁ rfl ?_)
      walk_at "nm"
      exact ⟨D, _, rfl, .inl (hD.at fun o e => a₁₁.keep _ _ e), by simp; omega, fun t tk => ⟨keeps_of Kp.rfl, t, by simp [hlen]⟩⟩
    · intro b' hb'
      rw [List.mem_singleton.mp hb']
      obtain ⟨o, e, _⟩ := cell_obj (x := Str.ofString "k") (c := L + 3) a₁₁ rfl rfl
      exact ⟨o, e⟩
    · rintro j ρ₁ ρ₂ h h' k hρ ⟨⟨v, d1, d2⟩, ⟨t, d3⟩, ⟨t', d4⟩, d5, d6, d7, d8, d9, d10, d11, d12⟩
      exact ⟨⟨v, (hρ _ (by decide)).symm.trans d1, d2⟩, ⟨t, (hρ _ (by decide)).symm.trans d3⟩, ⟨t', (hρ _ (by decide)).symm.trans d4⟩, (hρ _ (by decide)).symm.trans d5, (hρ _ (by decide)).symm.trans d6, (hρ _ (by decide)).symm.trans d7, (hρ _ (by decide)).symm.trans d8, (hρ _ (by decide)).symm.trans d9, kkS d10 k, k.plainL d11, k.plainL d12⟩
    · refine ⟨⟨.none, ?_, rfl⟩, ⟨_, upd_same⟩, ⟨t5, ?_⟩, ?_, ?_, ?_, ?_, ?_, kkS f11 e₁₁, e₁₁.plainL f1, e₁₁.plainL f3⟩
      all_goals walk_at "rho"
    · rintro j v ρ₂ s₂ hj ⟨tj, rfl⟩ a₁₂ ⟨⟨v, d1, d2⟩, ⟨t6, d3⟩, ⟨t7, d4⟩, d5, d6, d7, d8, d9, d10, d11, d12⟩
      have hD₁₂ : s₂.heap.IsList D (List.toArray ys) := hD.at fun o e => a₁₂.keep _ _ e
      refine xs_asg (wpAny_BinOp (wpAny_BinOp ?_))
      walk_at "nm"
      walk_at "nm"
      walk_at "k"
      refine ev_len a₁₂ rfl ?_
      walk_at "nm"
      refine ⟨D, _, rfl, .inl hD₁₂, by simp; omega, fun t8 tk8 => ?_⟩
      refine mod_int' (by rw [List.size_toArray, hlen]; omega) ?_
      try dsimp only
      have hkx : (((b : Nat) : Int) + ((j : Nat) : Int)).fmod (((List.toArray ys).size : Nat) : Int) = (((b + j) % rs.length : Nat) : Int) := by
        rw [List.size_toArray, hlen, Int.fmod_eq_emod_of_nonneg _ (by omega)]
        push_cast
        rfl
      have hkl : (b + j) % rs.length < rs.length := Nat.mod_lt _ (by omega)
      rw [hkx]
      generalize hkk : (b + j) % rs.length = kx at *
      refine st_cell a₁₂ rfl (c := L + 3) rfl (hcell 3) (fun h₁₃ tk₁₃ a₁₃ k₁₃ => ?_)
      try dsimp only
      have e₁₃ := off_cell (x := Str.ofString "k") (c := L + 3) a₁₂ rfl rfl k₁₃
      have kk₁₃ := kkS d10 e₁₃
      have p11 := e₁₃.plainL d11
      have p12 := e₁₃.plainL d12
      have hscan : (scan (gOf rs) b rs.length tkL (j + 1)) = (if kx ∈ tkL then scan (gOf rs) b rs.length tkL j else if (scan (gOf rs) b rs.length tkL j).1 = none ∨ moreOf (gOf rs) tkL kx > (scan (gOf rs) b rs.length tkL j).2 then (some kx, moreOf (gOf rs) tkL kx) else scan (gOf rs) b rs.length tkL j) := by
        conv => lhs; unfold scan
        rw [hkk]
      have hany : ((toInts tkL).any (· == ((kx : Nat) : Int))) = decide (kx ∈ tkL) := by
        rw [Bool.eq_iff_iff, List.any_eq_true, decide_eq_true_eq]
        unfold toInts
        constructor
        · rintro ⟨x, hx, e⟩
          obtain ⟨y, hy, rfl⟩ := List.mem_map.mp hx
          have : (y : Int) = kx := by simpa using e
          have : y = kx := by omega
          exact this ▸ hy
        · intro h
          exact ⟨kx, List.mem_map.mpr ⟨kx, h, rfl⟩, by simp⟩
      refine xs_if_join a₁₃ (fun ρ h => ((∃ v, ρ (Str.ofString "best") = some v ∧ optV (scan (gOf rs) b rs.length tkL (j + 1)).1 v) ∧ (∃ t, ρ (Str.ofString "most") = some (.int (scan (gOf rs) b rs.length tkL (j + 1)).2 t)) ∧
        (∃ t, ρ (Str.ofString "worth") = some (.int (worthL (gOf rs) b rs.length i) t)) ∧ ρ (Str.ofString "taken") = some (.ref TA) ∧ ρ (Str.ofString "worths") = some (.ref WA) ∧
        ρ (Str.ofString "names") = some (.ref D) ∧ ρ (Str.ofString "begin") = some (.int b bt) ∧ ρ (Str.ofString "shared") = some (.ref SA) ∧ Kk h ∧ PlainL h TA (List.toArray tv) ∧ PlainL h WA (List.toArray wv)) ∧
        ∀ b o, b ≠ L → b ≠ L + 3 → h₁₃.get? b = some o → h.get? b = some o) ?_ ?_
      · refine wpAny_isTrue_Compare1 ?_
        walk_at "nm"
        walk_at "nm"
        refine notin_list_ints p11.isList f2 ?_
        walk_at "k"
        rw [hany]
        by_cases hkt : kx ∈ tkL
        · rw [decide_eq_true hkt, if_neg (by decide)]
          rw [if_pos hkt] at hscan
          rw [hscan]
          refine xs_nil ⟨rfl, _, _, _, rfl, a₁₃, ⟨⟨v, ?_, d2⟩, ⟨t6, ?_⟩, ⟨t7, ?_⟩, ?_, ?_, ?_, ?_, ?_, kk₁₃, p11, p12⟩, fun _ _ _ _ e => e⟩
          all_goals walk_at "rho"
        · rw [decide_eq_false hkt, if_pos (by decide)]
          rw [if_neg hkt] at hscan
          try dsimp only
          obtain ⟨lr, rv, tg, es, s1, s2, s3⟩ := hgt _ kk₁₃ kx kx hkl hkl
          refine xs_asg (wpAny_BinOp (Subscript_ (Subscript_ ?_)))
          walk_at "nm"
          walk_at "nm"
          refine tl_list s1 (by omega) (by omega) (x := .ref lr) (by rw [List.getElem?_toArray]; exact es) ?_
          walk_at "nm"
          refine tl_list s2 (by omega) (by omega) s3 ?_
          refine Call_ ?_
          walk_at "nm"
          refine PyProof.Rows.callWith_builtin1 (args_cons (wpAny_mono (comp_eval a₁₃ (by walk_at "static") (n := tv.length) (by rw [sizeLine_eq]; omega) (fun _ => true)
            (fun m y o => o = none ∧ ∃ t, y = .int (gOf rs kx (tkL.getD m 0)) t) (P := fun i v => (List.toArray tv).toList[i]? = some v) (src := [TA]) ?_ (fun _ _ _ _ _ _ _ _ _ _ _ => test_none) ?_) (fun v s₂ q => args_nil ?_) fun _ _ e => e) rfl) rfl
          · walk_at "nm"
            exact ⟨keeps_rfl, by simpa using iters_list R'.h p11.isList⟩
          · intro C cs B₂ m v s₃ E' kB hm hv _ a₁₄
            obtain ⟨nx, tx, rfl, hnx⟩ := f2.at m v (by simpa using hv)
            have hm' : m < tkL.length := by omega
            have hnx' : nx = ((tkL.getD m 0 : Nat) : Int) := by
              unfold toInts at hnx
              rw [List.getElem?_map] at hnx
              rw [List.getD_eq_getElem?_getD]
              cases e : tkL[m]? with
              | none => rw [e] at hnx; cases hnx
              | some y => rw [e] at hnx; exact (Option.some.inj hnx).symm
            subst hnx'
            have hjl : tkL.getD m 0 < rs.length := tl2 _ (by rw [List.getD_eq_getElem?_getD, List.getElem?_eq_getElem hm']; exact List.getElem_mem _)
            have k13 : Kp h₁₃ s₃.heap := fun b o e => a₁₄.keep _ _ (kB _ _ e)
            obtain ⟨lr2, rv2, tg2, es2, z1, z2, z3⟩ := hgt _ (kkS kk₁₃ k13.s) kx (tkL.getD m 0) hkl hjl
            refine Subscript_ (Subscript_ ?_)
            walk_at "nm"
            walk_at "nm"
            refine tl_list z1 (by omega) (by omega) (x := .ref lr2) (by rw [List.getElem?_toArray]; exact es2) ?_
            walk_at "nm"
            refine tl_list z2 (by omega) (by omega) z3 ?_
            exact ⟨keeps_of Kp.rfl, .inl ⟨rfl, tg2, rfl⟩⟩
          · obtain ⟨kq9, Z, zv, rfl, fZ, hZ, hpz⟩ := q
            rw [filter_true] at hpz
            have hI := ints_paired (F := fun m => gOf rs kx (tkL.getD m 0)) (fun j v x => elem_none (f := fun m v => ∃ t, v = .int (gOf rs kx (tkL.getD m 0)) t) x) hpz
            rw [map_range_nat tkL (gOf rs kx) hfl] at hI
            refine sum_intl (vs := zv.toList) R'.h (by simpa using hZ.isList) hI (fun h₁₅ tk₁₅ t15 k₁₅ => ?_)
            have kk9 := keeps_kp kq9
            obtain ⟨h₁₄, tk₁₄, rfl, _⟩ := kq9
            try dsimp only at kk9 k₁₅ ⊢
            walk_at "k"
            have a₁₅ := (a₁₃.grow kk9).grow k₁₅
            walk_at "st"
            intro h₁₆ tk₁₆ a₁₆ k₁₆
            try dsimp only
            have e₁₆ : KpS h₁₃ h₁₆ := ((kk9.trans k₁₅).s).trans (off_seq a₁₅ k₁₆)
            have kk₁₆ := kkS kk₁₃ e₁₆
            have hmore : gOf rs kx kx - (tkL.map (gOf rs kx)).sum = moreOf (gOf rs) tkL kx := rfl
            rw [hmore] at a₁₆
            have hk16 : ∀ b o, b ≠ L → b ≠ L + 3 → h₁₃.get? b = some o → h₁₆.get? b = some o := fun b o h1 _ e => k₁₆ b o h1 (k₁₅ _ _ (kk9 _ _ e))
            generalize hsc : scan (gOf rs) b rs.length tkL j = sc at *
            obtain ⟨so, sm⟩ := sc
            try dsimp only at hscan d2 d3
            refine xs_if (wpAny_isTrue_BoolOp (wpAny_allTrue_Or_cons (wpAny_isTrue_Compare1 ?_)))
            walk_at "nm"
            cases so with
            | none =>
              have hv0 : v = .none := d2
              subst hv0
              iterate 3 walk_at "k"
              try dsimp only
              rw [if_pos (Or.inl rfl)] at hscan
              refine xs_pair' (B := s.heap) R'.h rfl rfl ?_
              walk_at "nm"
              walk_at "nm"
              refine ⟨_, a₁₆, fun h₁₇ tk₁₇ a₁₇ k₁₇ => xs_nil (Nx.go (xs_nil ?_))⟩
              have e₁₇ := off_seq a₁₆ k₁₇
              rw [hscan]
              refine ⟨rfl, _, _, _, rfl, a₁₇, ⟨⟨_, upd_same, _, rfl⟩, ⟨_, (upd_ne (by decide)).trans upd_same⟩, ⟨t7, ?_⟩, ?_, ?_, ?_, ?_, ?_, kkS kk₁₆ e₁₇, e₁₇.plainL (e₁₆.plainL p11), e₁₇.plainL (e₁₆.plainL p12)⟩, fun b' o h1 h2 e => k₁₇ b' o h1 (hk16 b' o h1 h2 e)⟩
              all_goals walk_at "rho"
            | some kb =>
              obtain ⟨tb, hvb⟩ : ∃ t, v = .int (kb : Nat) t := d2
              subst hvb
              iterate 3 walk_at "k"
              try dsimp only
              rw [if_neg Bool.false_ne_true]
              refine wpAny_allTrue_Or_cons (wpAny_isTrue_Compare1 ?_)
              walk_at "nm"
              walk_at "nm"
              iterate 2 walk_at "k"
              by_cases hgt' : moreOf (gOf rs) tkL kx > sm
              · rw [if_pos (by simpa using hgt')]
                try dsimp only
                rw [if_pos (Or.inr hgt')] at hscan
                refine xs_pair' (B := s.heap) R'.h rfl rfl ?_
                walk_at "nm"
                walk_at "nm"
                refine ⟨_, a₁₆, fun h₁₇ tk₁₇ a₁₇ k₁₇ => xs_nil (Nx.go (xs_nil ?_))⟩
                have e₁₇ := off_seq a₁₆ k₁₇
                rw [hscan]
                refine ⟨rfl, _, _, _, rfl, a₁₇, ⟨⟨_, upd_same, _, rfl⟩, ⟨_, (upd_ne (by decide)).trans upd_same⟩, ⟨t7, ?_⟩, ?_, ?_, ?_, ?_, ?_, kkS kk₁₆ e₁₇, e₁₇.plainL (e₁₆.plainL p11), e₁₇.plainL (e₁₆.plainL p12)⟩, fun b' o h1 h2 e => k₁₇ b' o h1 (hk16 b' o h1 h2 e)⟩
                all_goals walk_at "rho"
              · rw [if_neg (by simpa using hgt')]
                refine wpAny_allTrue_Or_nil ?_
                try dsimp only
                rw [if_neg (by rintro (q | q); cases q; exact hgt' q)] at hscan
                refine xs_nil (Nx.go (xs_nil ?_))
                rw [hscan]
                refine ⟨rfl, _, _, _, rfl, a₁₆, ⟨⟨_, ?_, tb, rfl⟩, ⟨t6, ?_⟩, ⟨t7, ?_⟩, ?_, ?_, ?_, ?_, ?_, kk₁₆, e₁₆.plainL p11, e₁₆.plainL p12⟩, hk16⟩
                all_goals walk_at "rho"
      · rintro h₁₄ tk₁₄ ρ₄ a₁₄ ⟨q1, q2⟩
        exact xs_nil ⟨h₁₄, _, _, rfl, a₁₄, q1, fun b' o hb1 _ hb2 e => q2 b' o hb1 (fun q => hb2 (by rw [q]; exact List.mem_singleton.mpr rfl)) (k₁₃ b' o (fun q => hb2 (by rw [q]; exact List.mem_singleton.mpr rfl)) e)⟩
    · rintro ρ₂ h₂₀ tk₂₀ a₂₀ ⟨⟨v, d1, d2⟩, ⟨t6, d3⟩, ⟨t7, d4⟩, d5, d6, d7, d8, d9, d10, d11, d12⟩ k₂₀
      refine Nx.go ?_
      try dsimp only
      generalize hsc : scan (gOf rs) b rs.length tkL rs.length = sc at *
      obtain ⟨so, sm⟩ := sc
      try dsimp only at d2 d3 hso htk1 hwk1
      obtain ⟨kb, rfl⟩ : ∃ kb, so = some kb := by
        cases so with
        | none => exact absurd rfl hso
        | some kb => exact ⟨kb, rfl⟩
      obtain ⟨tb, rfl⟩ : ∃ t, v = .int (kb : Nat) t := d2
      refine xs_append (D := TA) (its := List.toArray tv) ?_
      walk_at "nm"
      refine ⟨rfl, d11, ?_⟩
      walk_at "nm"
      refine ⟨List.toArray tv, d11, by rw [List.size_toArray, sizeLine_eq]; omega, fun h₂₁ hl₂₁ hs₂₁ => ?_⟩
      try dsimp only
      have a₂₁ := a₂₀.but nTA hs₂₁
      have w21 : PlainL h₂₁ WA (List.toArray wv) := by
        obtain ⟨o, n, e, r⟩ := d12
        exact ⟨o, n, (hs₂₁.2 WA (Ne.symm hTW)).trans e, r⟩
      have kk21 : Kk h₂₁ := fun b' o no h1 h2 e => (hs₂₁.2 b' h1).trans (d10 b' o no h1 h2 e)
      refine xs_aug ?_
      refine ldn_var a₂₁ d4 ?_ rfl
      walk_at "nm"
      walk_at "k"
      walk_at "st"
      intro h₂₂ tk₂₂ a₂₂ k₂₂
      try dsimp only
      have e₂₂ := off_seq a₂₁ k₂₂
      have w22 := e₂₂.plainL w21
      refine xs_append (D := WA) (its := List.toArray wv) ?_
      walk_at "nm"
      refine ⟨rfl, w22, ?_⟩
      walk_at "nm"
      refine ⟨List.toArray wv, w22, by rw [List.size_toArray, sizeLine_eq, f4.length]; simp; omega, fun h₂₃ hl₂₃ hs₂₃ => xs_nil ?_⟩
      try dsimp only
      have a₂₃ := a₂₂.but nWA hs₂₃
      have t22 : PlainL h₂₂ TA (List.toArray (tv ++ [.int (kb : Nat) tb])) := e₂₂.plainL (by simpa using hl₂₁)
      have t23 : PlainL h₂₃ TA (List.toArray (tv ++ [.int (kb : Nat) tb])) := by
        obtain ⟨o, n, e, r⟩ := t22
        exact ⟨o, n, (hs₂₃.2 TA hTW).trans e, r⟩
      have kk23 : Kk h₂₃ := fun b' o no h1 h2 e => (hs₂₃.2 b' h2).trans (kkS kk21 e₂₂ b' o no h1 h2 e)
      refine ⟨h₂₃, _, _, rfl, a₂₃, ⟨_, wv ++ [.int (worthL (gOf rs) b rs.length i + sm) tk₂₀], t23, ?_, by simpa using hl₂₃, ?_, ⟨_, upd_same.trans (congrArg some (v_int hwk1.symm _))⟩, ?_, ?_, ?_, ?_, ?_, kk23⟩, fun b' o h1 _ h2 e => ?_⟩
      · rw [htk1]
        unfold toInts
        rw [List.map_append]
        exact IntsAre.append f2 (.cons _ _ .nil)
      · rw [List.range_succ, List.map_append]
        exact IntsAre.append f4 (by rw [List.map_singleton, hwk1]; exact .cons _ _ .nil)
      · walk_at "rho"
      · walk_at "rho"
      · walk_at "rho"
      · walk_at "rho"
      · walk_at "rho"
      · simp only [List.mem_cons, List.not_mem_nil, or_false, not_or] at h2
        refine (hs₂₃.2 b' h2.2.1).trans (k₂₂ b' o h1 ((hs₂₁.2 b' h2.1).trans (k₂₀ b' o h1 ?_ (k₁₁ b' o h1 e))))
        simp only [List.mem_singleton]; exact h2.2.2
  · rintro ρ₂ h' tk' a' ⟨tv, wv, f1, f2, f3, f4, ⟨t, f5⟩, f6, f7, f8, f9, f10, f11⟩ k'
    refine Nx.go (xs_ret ?_)
    walk_at "nm"
    exact ⟨keeps_of a'.keep, WA, wv, rfl, f3.isList, f4⟩
end
end PTa
section PBp
section
variable {w : World} {A : Around} {E : Value → Shared → Prop} {s : Shared} {t u : Tok}
theorem pow2 {j : Nat} {Q : Value → Shared → Prop} (hj : j ≤ 5) (h : Q (.int ((2 ^ j : Nat) : Int) s.toks) { s with toks := s.toks + 1 }) : wpAny (model P0 w) A (binaryOp .Pow (.int 2 t) (.int (j : Nat) u)) Q E s := by
  match j, hj with
  | 0, _ => exact PySem.AutoIntOps.pow_0 (by decide) (by decide) h
  | 1, _ => exact PySem.AutoIntOps.pow_4 (by decide) (by decide) (by decide) (by decide) (by decide +kernel) h
  | 2, _ => exact PySem.AutoIntOps.pow_4 (by decide) (by decide) (by decide) (by decide) (by decide +kernel) h
  | 3, _ => exact PySem.AutoIntOps.pow_4 (by decide) (by decide) (by decide) (by decide) (by decide +kernel) h
  | 4, _ => exact PySem.AutoIntOps.pow_4 (by decide) (by decide) (by decide) (by decide) (by decide +kernel) h
  | 5, _ => exact PySem.AutoIntOps.pow_4 (by decide) (by decide) (by decide) (by decide) (by decide +kernel) h
/-- a bit of a number -/
noncomputable def bitOf (m j : Nat) : Bool := decide (m / 2 ^ j % 2 = 1)
theorem ev_bit {env : Env} {e1 e2 : Expr} {p1 p2 p3 : Pos} {k1 : Nat} {m j : Nat} {Q : Value → Shared → Prop} (hm : m < 64) (hj : j ≤ 5)
    (h : wpAny (model P0 w) A (eval e1 env) (fun v s₁ => (∃ t, v = .int (m : Nat) t) ∧ wpAny (model P0 w) A (eval e2 env) (fun u s₂ => ∃ t, u = .int ((2 ^ j : Nat) : Int) t ∧ ∀ t' tk, Q (.int ((m / 2 ^ j % 2 : Nat) : Int) t') { s₂ with toks := tk }) E s₁) E s) :
    wpAny (model P0 w) A (eval (.BinOp (.BinOp e1 .FloorDiv e2 p1) .Mod (.Constant (.int 2) k1 p2) p3) env) Q E s := by
  refine wpAny_BinOp (wpAny_BinOp (wpAny_mono h (fun v s₁ q => wpAny_mono q.2 (fun x s₂ q₂ => ?_) fun _ _ e => e) fun _ _ e => e))
  obtain ⟨t, rfl⟩ := q.1
  obtain ⟨t', rfl, hQ⟩ := q₂
  have hpos : 0 < 2 ^ j := Nat.pos_of_ne_zero (by simp)
  have hz : ((2 ^ j : Nat) : Int) ≠ 0 := by omega
  refine PyProof.Rows.floordiv_int hz ?_ (Or.inl (PyProof.noPylong_small (by rw [Int.natAbs_natCast]; have := Nat.pow_le_pow_right (show 0 < 2 by decide) hj; omega)))
  try dsimp only
  walk_at "k"
  refine mod_int' (by decide) ?_
  have e : (((m : Nat) : Int).fdiv ((2 ^ j : Nat) : Int)).fmod 2 = ((m / 2 ^ j % 2 : Nat) : Int) := by
    rw [Int.fdiv_eq_ediv_of_nonneg _ (by omega), Int.fmod_eq_emod_of_nonneg _ (by decide)]
    push_cast
    rfl
  rw [e]
  exact hQ _ _
end
end PBp
section PBq
noncomputable def dueOf (rs : List (List Nat)) (i : Nat) : List Str := (rs.getD i []).map tol
noncomputable def frontsOf (rs : List (List Nat)) (k : Nat) : List Int := fronts (toInts (rs.getD k []))
noncomputable def commonL (rs : List (List Nat)) (k j : Nat) : Int := ((frontsOf rs k).take (alike [dueOf rs k, dueOf rs j])).sum
noncomputable def valuesL (rs : List (List Nat)) : Nat → List Int
  | 0 => [0]
  | k + 1 => valuesL rs k ++ (List.range (2 ^ k)).map fun m => (valuesL rs k).getD m 0 + (frontsOf rs k).sum - (((List.range k).filter (bitOf m)).map (commonL rs k)).sum
noncomputable def sizesL : Nat → List Int
  | 0 => [0]
  | k + 1 => sizesL k ++ (sizesL k).map (· + 1)
theorem valuesL_len (rs : List (List Nat)) : ∀ k, (valuesL rs k).length = 2 ^ k
  | 0 => rfl
  | k + 1 => by
    unfold valuesL
    rw [List.length_append, valuesL_len rs k, List.length_map, List.length_range, Nat.pow_succ]; omega
theorem sizesL_len : ∀ k, (sizesL k).length = 2 ^ k
  | 0 => rfl
  | k + 1 => by
    unfold sizesL
    rw [List.length_append, List.length_map, sizesL_len k, Nat.pow_succ]; omega
section
variable {w : World} {A : Around} {E : Value → Shared → Prop} {s : Shared} {env : Env} {ρ : Str → Option Value} {B : Heap}
/-- a for loop whose target is a cell of the def -/
theorem for_cell {x : Str} {px : Pos} {iter : Expr} {body : List Stmt} {pos : Pos} {src : List Addr} {n : Nat} {P : Nat → Value → Prop} {Q : Flow → Shared → Prop} {c : Addr}
    (a : At w env ρ B s.heap) (hh : A.handled = none) (hk : env.kindOf x = some .cell) (hc : env.cells.lookup x = some c) (hf : B.get? c = none) (mu : List Addr) (hmu : ∀ b ∈ mu, ∃ o, s.heap.get? b = some o) (I : Nat → (Str → Option Value) → Heap → Prop)
    (hit : wpAny (model P0 w) A (eval iter env) (fun xv s₁ => Keeps s s₁ ∧ Iters w A s₁.heap xv src n P) E s)
    (hsrc : src = [])
    (hI : ∀ i ρ₁ ρ₂ h h', KpS h h' → (∀ y, y ≠ x → ρ₁ y = ρ₂ y) → I i ρ₁ h → I i ρ₂ h')
    (i0 : I 0 ρ s.heap)
    (turn : ∀ i v ρ₁ (s' : Shared), i < n → P i v → At w env (upd ρ₁ x v) B s'.heap → I i (upd ρ₁ x v) s'.heap →
      wpAny (model P0 w) A (execs body env) (fun f s₃ => match f with
        | .next => ∃ h' tk ρ₂, s₃ = { s' with heap := h', toks := tk } ∧ At w env ρ₂ B h' ∧ I (i + 1) ρ₂ h' ∧ (∀ b o, b ≠ env.locals → b ≠ c → b ∉ mu → s'.heap.get? b = some o → h'.get? b = some o)
        | .ret v => ∃ h' tk, s₃ = { s' with heap := h', toks := tk } ∧ Q (.ret v) { s with heap := h', toks := tk }
        | _ => False) (fun _ _ => False) s')
    (done : ∀ ρ₂ h' tk, At w env ρ₂ B h' → I n ρ₂ h' → Q .next { s with heap := h', toks := tk })
    (hs : ∀ x, foldedSetIterable iter env x = pure x := by intro _; rfl) :
    wpAny (model P0 w) A (exec (.For (.Name x px) iter body [] pos) env) Q E s := by
  subst hsrc
  refine for_loop a hh c mu I hit (fun h ρ₁ a₁ => ?_) hmu (by simp) (fun s' ρ₁ v Q E' a₁ hQ => st_cell a₁ hk hc hf hQ) hI i0 turn (fun ρ₂ h' tk a' i' _ => done ρ₂ h' tk a' i') hs
  obtain ⟨o, e, no⟩ := cell_obj (x := x) (c := c) a₁ hk hc
  exact ⟨o, e, no⟩
end
theorem clo_cm {env : Env} {c1 c2 : Addr} (g1 : env.cells.lookup (Str.ofString "m") = some c1) (g2 : env.cells.lookup (Str.ofString "common") = some c2) :
    closureFor { kind := ScopeKind.function, names := [(Str.ofString ".0", NameKind.local), (Str.ofString "j", NameKind.local), (Str.ofString "common", NameKind.free), (Str.ofString "m", NameKind.free)], isGenerator := false, isCoroutine := false } env =
      pure [(Str.ofString "m", c1), (Str.ofString "common", c2)] := by
  have e1 : cellOf env (Str.ofString "m") = pure c1 := by unfold cellOf; rw [g1]
  have e2 : cellOf env (Str.ofString "common") = pure c2 := by unfold cellOf; rw [g2]
  unfold closureFor
  simp only [List.forIn_cons, List.forIn_nil, e1, e2]
  rfl
theorem clo_svs {env : Env} {c1 c2 c3 : Addr} (g1 : env.cells.lookup (Str.ofString "size") = some c1) (g2 : env.cells.lookup (Str.ofString "values") = some c2) (g3 : env.cells.lookup (Str.ofString "sizes") = some c3) :
    closureFor { kind := ScopeKind.function, names := [(Str.ofString ".0", NameKind.local), (Str.ofString "m", NameKind.local), (Str.ofString "size", NameKind.free), (Str.ofString "sizes", NameKind.free), (Str.ofString "values", NameKind.free)], isGenerator := false, isCoroutine := false } env =
      pure [(Str.ofString "values", c2), (Str.ofString "sizes", c3), (Str.ofString "size", c1)] := by
  have e1 : cellOf env (Str.ofString "size") = pure c1 := by unfold cellOf; rw [g1]
  have e2 : cellOf env (Str.ofString "values") = pure c2 := by unfold cellOf; rw [g2]
  have e3 : cellOf env (Str.ofString "sizes") = pure c3 := by unfold cellOf; rw [g3]
  unfold closureFor
  simp only [List.forIn_cons, List.forIn_nil, e1, e2, e3]
  rfl
theorem sizes_all : ∀ i, i < 5 → ∃ m, m < 32 ∧ (sizesL 5).getD m 0 = ((1 + i : Nat) : Int) := by
  intro i hi
  match i, hi with
  | 0, _ => exact ⟨1, by decide, by decide⟩
  | 1, _ => exact ⟨3, by decide, by decide⟩
  | 2, _ => exact ⟨7, by decide, by decide⟩
  | 3, _ => exact ⟨15, by decide, by decide⟩
  | 4, _ => exact ⟨31, by decide, by decide⟩
theorem ints_some {Φ : Nat → Int → Prop} : ∀ {is : List Nat} {ys : List Value}, Paired (fun i y => ∃ M t, y = Value.int M t ∧ Φ i M) is ys → ∃ bs, IntsAre ys bs ∧ Paired Φ is bs
  | _, _, .nil => ⟨[], .nil, .nil⟩
  | _, _, .cons h r => by
    obtain ⟨M, t, rfl, hΦ⟩ := h
    obtain ⟨bs, h1, h2⟩ := ints_some r
    exact ⟨M :: bs, .cons _ _ h1, .cons hΦ h2⟩
end PBq
section PBe
section
variable {w : World} {A : Around} {E : Value → Shared → Prop} {s : Shared}
theorem c_best (T : TopAt w s.heap) (R : Room A 5) {D U : Addr} {ys us : List Value} {rs : List (List Nat)} (hD : s.heap.IsList D (List.toArray ys)) (hr : Paired (IsIs s.heap) (rs.map toInts) ys)
    (hU : s.heap.IsList U (List.toArray us)) (hu : Paired (IsSeqS false s.heap) (rs.map (·.map tol)) us)
    (hn : rs.length = 5) (hg : ∀ r ∈ rs, r.length ≤ 5 ∧ ∀ d ∈ r, d < 10) :
    wpAny (model P0 w) A (call (.ref 200) [.ref D, .ref U]) (fun v s' => Keeps s s' ∧ ∃ W wv bs, v = .ref W ∧ s'.heap.IsList W (List.toArray wv) ∧ IntsAre wv bs ∧ bs.length = 5 ∧
      ∀ i, i < 5 → (∃ m, m < 32 ∧ (sizesL 5).getD m 0 = (i + 1 : Nat) ∧ (valuesL rs 5).getD m 0 = bs.getD i 0) ∧ ∀ m, m < 32 → (sizesL 5).getD m 0 = (i + 1 : Nat) → (valuesL rs 5).getD m 0 ≤ bs.getD i 0) E s := by
  have ho := Eq.refl ((Mine.K0 w.params).lookup 200)
  conv at ho => rhs; whnf
  conv at ho => rhs; pattern (paOf _); whnf
  conv at ho => rhs; pattern (boOf _); whnf
  conv at ho => rhs; pattern (scOf _); whnf
  refine enterC (f := 200) (k := 4) (binds := [(Str.ofString "rows", .ref D), (Str.ofString "due", .ref U)]) T R ho (by k_is) rfl rfl (by decide) (fun L h₁ tk hL a R' => ?_)
  have hlen : ys.length = 5 := by rw [← hn]; simpa using hr.length.symm
  have hulen : us.length = 5 := by rw [← hn]; simpa using hu.length.symm
  have hD₁ : h₁.IsList D (List.toArray ys) := hD.at fun o e => a.keep _ _ e
  have hcell : ∀ k : Nat, s.heap.get? (L + k) = none := fun k => none_ge (by rw [hL]; exact Nat.le_add_right _ _)
  have hri5 : ∀ i, (rs.getD i []).length ≤ 5 ∧ ∀ d ∈ rs.getD i [], d < 10 := fun i => by
    rw [List.getD_eq_getElem?_getD]
    cases e : rs[i]? with
    | none => simp
    | some r => exact hg r (List.mem_of_getElem? e)
  have hgood : ∀ i, GoodRow (toInts (rs.getD i [])) := fun i => ⟨by unfold toInts; rw [List.length_map]; exact (hri5 i).1, fun d hd => by
    unfold toInts at hd
    obtain ⟨x, hx, rfl⟩ := List.mem_map.mp hd
    have := (hri5 i).2 x hx
    omega⟩
  have rowD : ∀ i, i < 5 → ∃ lr rv, ys[i]? = some (.ref lr) ∧ s.heap.IsList lr (List.toArray rv) ∧ IntsAre rv (toInts (rs.getD i [])) := fun i hi => by
    obtain ⟨v, e1, lr, rv, rfl, e2, e3⟩ := paired_to hr i (toInts (rs.getD i [])) (by rw [List.getElem?_map, List.getD_eq_getElem?_getD, List.getElem?_eq_getElem (by omega)]; rfl)
    exact ⟨lr, rv, e1, e2, e3⟩
  have rowU : ∀ i, i < 5 → ∃ lr rv, us[i]? = some (.ref lr) ∧ s.heap.IsList lr (List.toArray rv) ∧ StrsAre rv (dueOf rs i) := fun i hi => by
    obtain ⟨v, e1, lr, rv, rfl, e2, e3⟩ := paired_to hu i (dueOf rs i) (by unfold dueOf; rw [List.getElem?_map, List.getD_eq_getElem?_getD, List.getElem?_eq_getElem (by omega)]; rfl)
    exact ⟨lr, rv, e1, e2, e3⟩
  refine xs_asg (List_ ?_)
  iterate 3 walk_at "k"
  refine mk_list (by simp) (fun V0 h₂ hV k₂ fV => ?_)
  try dsimp only
  have a₂ := a.grow k₂
  refine st_cell a₂ rfl (c := L + 3) rfl (hcell 3) (fun h₃ tk₃ a₃ k₃ => ?_)
  try dsimp only
  have e₃ := off_cell (x := Str.ofString "values") (c := L + 3) a₂ rfl rfl k₃
  refine xs_asg (List_ ?_)
  iterate 3 walk_at "k"
  refine mk_list (by simp) (fun S0 h₄ hS k₄ fS => ?_)
  try dsimp only
  have a₄ := a₃.grow k₄
  refine st_cell a₄ rfl (c := L + 4) rfl (hcell 4) (fun h₅ tk₅ a₅ k₅ => ?_)
  try dsimp only
  have e₅ := off_cell (x := Str.ofString "sizes") (c := L + 4) a₄ rfl rfl k₅
  refine xs_one (for_cell (c := L + 5) a₅ R'.h rfl rfl (hcell 5) [L + 3, L + 4, L + 6, L + 7] ?_ (fun i ρ h => ∃ VA vv SA sv, ρ (Str.ofString "values") = some (.ref VA) ∧ h.IsList VA (List.toArray vv) ∧ IntsAre vv (valuesL rs i) ∧
      ρ (Str.ofString "sizes") = some (.ref SA) ∧ h.IsList SA (List.toArray sv) ∧ IntsAre sv (sizesL i) ∧ ρ (Str.ofString "rows") = some (.ref D) ∧ ρ (Str.ofString "due") = some (.ref U))
    (n := 5) (P := fun i v => ∃ t, v = .int (i : Nat) t) ?_ rfl ?_ ?_ ?_ ?_)
  · intro b hb
    simp only [List.mem_cons, List.not_mem_nil, or_false] at hb
    rcases hb with rfl | rfl | rfl | rfl
    · obtain ⟨o, e, _⟩ := cell_obj (x := Str.ofString "values") (c := L + 3) a₅ rfl rfl; exact ⟨o, e⟩
    · obtain ⟨o, e, _⟩ := cell_obj (x := Str.ofString "sizes") (c := L + 4) a₅ rfl rfl; exact ⟨o, e⟩
    · obtain ⟨o, e, _⟩ := cell_obj (x := Str.ofString "fronts") (c := L + 6) a₅ rfl rfl; exact ⟨o, e⟩
    · obtain ⟨o, e, _⟩ := cell_obj (x := Str.ofString "common") (c := L + 7) a₅ rfl rfl; exact ⟨o, e⟩
  · refine it_range1 a₅ R'.h rfl (by omega) (ev_len a₅ rfl ?_)
    walk_at "nm"
    exact ⟨D, _, rfl, .inl (hD.at fun o e => a₅.keep _ _ e), by simp; omega, fun t tk => ⟨keeps_of Kp.rfl, t, by simp [hlen]⟩⟩
  · rintro i ρ₁ ρ₂ h h' k hρ ⟨VA, vv, SA, sv, f1, f2, f3, f4, f5, f6, f7, f8⟩
    exact ⟨VA, vv, SA, sv, (hρ _ (by decide)).symm.trans f1, k.list f2, f3, (hρ _ (by decide)).symm.trans f4, k.list f5, f6, (hρ _ (by decide)).symm.trans f7, (hρ _ (by decide)).symm.trans f8⟩
  · refine ⟨V0, _, S0, _, ?_, e₅.list ((e₃.list hV.isList).at fun o e => k₄ _ _ e), .cons _ _ .nil, ?_, e₅.list hS.isList, .cons _ _ .nil, ?_, ?_⟩
    all_goals walk_at "rho"
  · rintro i v ρ₁ s' hin ⟨t, rfl⟩ a' ⟨VA, vv, SA, sv, f1, f2, f3, f4, f5, f6, f7, f8⟩
    -- fronts
    obtain ⟨lr, rv, q1, q2, q3⟩ := rowD i hin
    refine xs_asg (Call_ ?_)
    walk_at "nm"
    walk_at "cw"
    refine args_cons (Subscript_ ?_) rfl
    walk_at "nm"
    walk_at "nm"
    refine tl_list (hD.at fun o e => a'.keep _ _ e) (by omega) (by omega) (x := .ref lr) (by rw [List.getElem?_toArray]; exact q1) ?_
    refine args_nil ?_
    refine ⟨a'.top.keeps a'.keep, by_con (fun E => c_fronts (a'.top.keeps a'.keep) (R'.mono (by decide)) (q2.at fun o e => a'.keep _ _ e) q3 (hgood i)) ?_⟩
    rintro v s₆ ⟨k₆, F, fv, rfl, fF, hF, hFi⟩
    have kp6 := keeps_kp k₆
    obtain ⟨h₆, tk₆, rfl, _⟩ := k₆
    try dsimp only at kp6 hF ⊢
    have a₆ := a'.grow kp6
    refine st_cell a₆ rfl (c := L + 6) rfl (hcell 6) (fun h₇ tk₇ a₇ k₇ => ?_)
    try dsimp only
    have e₇ := off_cell (x := Str.ofString "fronts") (c := L + 6) a₆ rfl rfl k₇
    have hF₇ := e₇.list hF
    -- common
    refine xs_asg (wpAny_mono (comp_eval a₇ (by walk_at "static") (n := i) (by rw [sizeLine_eq]; omega) (fun _ => true)
      (fun j y o => o = none ∧ ∃ t, y = .int (commonL rs i j) t) (P := fun i v => ∃ t, v = .int (i : Nat) t) (src := []) (it_range1 a₇ R'.h rfl (by omega) ?_) (fun _ _ _ _ _ _ _ _ _ _ _ => test_none) ?_) (fun v s₂ q => ?_) fun _ _ e => e)
    · walk_at "nm"
      exact ⟨keeps_rfl, _, rfl⟩
    · rintro C cs B₂ j v s₈ E' kB hj ⟨tj, rfl⟩ _ a₈
      obtain ⟨l1, v1, u1, u2, u3⟩ := rowU i hin
      obtain ⟨l2, v2, u4, u5, u6⟩ := rowU j (by omega)
      have g8 : Kp s.heap s₈.heap := fun b o e => a₈.keep _ _ (kB _ _ (a₇.keep _ _ e))
      refine Call_ ?_
      walk_at "nm"
      refine PyProof.Rows.callWith_builtin1 (args_cons (sl_list ?_) rfl) rfl
      walk_at "nm"
      refine evalPart_none_step (evalPart_some_step (Call_ ?_))
      walk_at "nm"
      walk_at "cw"
      refine args_cons (List_ (args_cons (Subscript_ ?_) rfl)) rfl
      walk_at "nm"
      walk_at "nm"
      refine tl_list (hU.at fun o e => g8 _ _ e) (by omega) (by omega) (x := .ref l1) (by rw [List.getElem?_toArray]; exact u1) ?_
      refine args_cons (Subscript_ ?_) rfl
      walk_at "nm"
      walk_at "nm"
      refine tl_list (hU.at fun o e => g8 _ _ e) (by omega) (by omega) (x := .ref l2) (by rw [List.getElem?_toArray]; exact u4) ?_
      refine args_nil ?_
      refine mk_list (by simp) (fun X h₉ hX k₉ fX => ?_)
      refine args_nil ?_
      try dsimp only
      have a₉ := a₈.grow k₉
      have T₉ := a₉.top.keeps a₉.keep
      have g9 : Kp s.heap h₉ := g8.trans k₉
      have w1 : IsStrs h₉ (dueOf rs i) (.ref l1) := ⟨l1, v1, rfl, u2.at fun o e => g9 _ _ e, u3⟩
      have w2 : IsStrs h₉ (dueOf rs j) (.ref l2) := ⟨l2, v2, rfl, u5.at fun o e => g9 _ _ e, u6⟩
      refine ⟨T₉, by_con (fun E => c_alike (ys := [.ref l1, .ref l2]) (rows := [dueOf rs i, dueOf rs j]) T₉ (R'.mono (by decide)) hX.isList (.cons w1 (.cons w2 .nil)) (by simp) (by simp) ?_) ?_⟩
      · intro r hr'
        unfold dueOf at hr'
        rcases List.mem_cons.mp hr' with rfl | hr'
        · rw [List.length_map]; exact (hri5 i).1
        · rw [List.mem_singleton.mp hr', List.length_map]; exact (hri5 j).1
      · rintro u s₁₀ ⟨k₁₀, t10, rfl⟩
        have kp10 := keeps_kp k₁₀
        obtain ⟨h₁₀, tk₁₀, rfl, _⟩ := k₁₀
        try dsimp only at kp10 ⊢
        have F8 : s₈.heap.IsList F (List.toArray fv) := hF₇.at fun o e => a₈.keep _ _ (kB _ _ e)
        have hfl : fv.length ≤ 5 := by rw [hFi.length]; unfold fronts; rw [List.length_map, List.length_range]; exact (hgood i).1
        refine ⟨F, List.toArray fv, none, some ((alike [dueOf rs i, dueOf rs j] : Nat) : Int), rfl, F8.at fun o e => kp10 _ _ (k₉ _ _ e), by rw [List.size_toArray, sizeLine_eq]; omega, .none, .int _ _, fun Y h₁₁ fY k₁₁ hY => ?_⟩
        rw [slicePick_upto'] at hY
        refine args_nil ?_
        try dsimp only
        refine sum_intl (vs := fv.take (alike [dueOf rs i, dueOf rs j])) R'.h (by simpa using hY.isList) (hFi.take _) (fun h₁₂ tk₁₂ t12 k₁₂ => ?_)
        exact ⟨keeps_of (k₉.trans (kp10.trans (k₁₁.trans k₁₂))), .inl ⟨rfl, t12, rfl⟩⟩
    obtain ⟨kq, CA, cv0, rfl, fCA, hCA, hpc⟩ := q
    rw [filter_true] at hpc
    have hIc := ints_paired (F := fun j => commonL rs i j) (fun j v x => elem_none (f := fun j v => ∃ t, v = .int (commonL rs i j) t) x) hpc
    have kp8 := keeps_kp kq
    obtain ⟨h₈, tk₈, rfl, _⟩ := kq
    try dsimp only at kp8 hCA ⊢
    have a₈ := a₇.grow kp8
    refine st_cell a₈ rfl (c := L + 7) rfl (hcell 7) (fun h₉ tk₉ a₉ k₉ => ?_)
    try dsimp only
    have e₉ := off_cell (x := Str.ofString "common") (c := L + 7) a₈ rfl rfl k₉
    have hC₉ : h₉.IsList CA (List.toArray cv0.toList) := e₉.list (by simpa using hCA.isList)
    have e79 : KpS h₇ h₉ := kp8.s.trans e₉
    have e69 : KpS s'.heap h₉ := (kp6.s.trans e₇).trans e79
    -- values
    have hVA₉ := e69.list f2
    have hSA₉ := e69.list f5
    have hF₉ := e79.list hF₇
    have hcl : cv0.toList.length = i := by rw [hIc.length]; simp
    have h2i : 2 ^ i ≤ 32 := Nat.pow_le_pow_right (show 0 < 2 by decide) (show i ≤ 5 by omega)
    have hvl : vv.length = 2 ^ i := by rw [f3.length, valuesL_len]
    refine xs_asg (wpAny_BinOp ?_)
    walk_at "nm"
    refine wpAny_mono (comp_eval a₉ (by walk_at "static") (n := 2 ^ i) (by rw [sizeLine_eq]; omega) (fun _ => true)
      (fun m y o => o = none ∧ ∃ t, y = .int ((valuesL rs i).getD m 0 + (frontsOf rs i).sum - (((List.range i).filter (bitOf m)).map (commonL rs i)).sum) t) (P := fun i v => ∃ t, v = .int (i : Nat) t) (src := []) (it_range1 a₉ R'.h rfl (by omega) (wpAny_BinOp ?_)) (fun _ _ _ _ _ _ _ _ _ _ _ => test_none) ?_) (fun v s₂ q => ?_) fun _ _ e => e
    · walk_at "k"
      walk_at "nm"
      exact pow2 (by omega) ⟨keeps_of Kp.rfl, _, rfl⟩
    · rintro C cs B₂ m v s₁₀ E' kB hm ⟨tm, rfl⟩ _ a₁₀
      have g10 : Kp h₉ s₁₀.heap := fun b o e => a₁₀.keep _ _ (kB _ _ e)
      obtain ⟨tv, etv⟩ := ints_nth f3 (i := m) (by rw [valuesL_len]; exact hm)
      refine wpAny_BinOp (wpAny_BinOp (Subscript_ ?_))
      walk_at "nm"
      walk_at "nm"
      refine tl_list (hVA₉.at fun o e => g10 _ _ e) (by omega) (by omega) (x := .int (nth (valuesL rs i) m) tv) (by rw [List.getElem?_toArray]; exact etv) ?_
      refine Call_ ?_
      walk_at "nm"
      refine PyProof.Rows.callWith_builtin1 (args_cons ?_ rfl) rfl
      walk_at "nm"
      refine args_nil ?_
      refine sum_intl (vs := fv) R'.h (hF₉.at fun o e => g10 _ _ e) hFi (fun h₁₁ tk₁₁ t11 k₁₁ => ?_)
      try dsimp only
      walk_at "k"
      have a₁₁ := a₁₀.grow k₁₁
      refine Call_ ?_
      walk_at "nm"
      obtain ⟨c1, g1, _⟩ := a₁₁.cel (Str.ofString "m") (.inl rfl)
      obtain ⟨c2, g2, _⟩ := a₁₁.cel (Str.ofString "common") (.inl rfl)
      have g11 : Kp h₉ h₁₁ := g10.trans k₁₁
      refine PyProof.Rows.callWith_builtin1 (args_cons (wpAny_mono (comp_eval a₁₁ (cl := [(Str.ofString "m", c1), (Str.ofString "common", c2)]) (Static.of (clo_cm g1 g2) rfl (by decide) (by decide) (by decide) ?_ (.cons rfl (.cons rfl .nil)) (.loc rfl (by decide)))
        (n := i) (by rw [sizeLine_eq]; omega) (bitOf m) (fun j y o => o = none ∧ ∃ t, y = .int (commonL rs i j) t) (P := fun i v => ∃ t, v = .int (i : Nat) t) (src := []) (it_range1 a₁₁ R'.h rfl (by omega) ?_) ?_ ?_) (fun v s₂ q => args_nil ?_) fun _ _ e => e) rfl) rfl
      · exact .cons (fun e => absurd e (by decide)) (.cons (fun e => absurd e (by decide)) (.cons (fun e => ⟨.inl rfl, g2.symm, by decide⟩) (.cons (fun e => ⟨.inl rfl, g1.symm, by decide⟩) .nil)))
      · walk_at "nm"
        exact ⟨keeps_rfl, _, rfl⟩
      · rintro C2 cs2 B₃ j v s₁₂ E2 kB2 hj ⟨tj, rfl⟩ a₁₂
        refine test_one (wpAny_isTrue_Compare1 (ev_bit (m := m) (j := j) (by omega) (by omega) ?_))
        walk_at "nm"
        refine ⟨⟨_, rfl⟩, wpAny_BinOp ?_⟩
        walk_at "k"
        walk_at "nm"
        refine pow2 (by omega) ⟨_, rfl, fun t' tk => ?_⟩
        iterate 3 walk_at "k"
        refine ⟨?_, keeps_of Kp.rfl⟩
        unfold bitOf
        rw [Bool.eq_iff_iff, decide_eq_true_eq, beq_iff_eq]
        omega
      · rintro C2 cs2 B₃ j v s₁₂ E2 kB2 hj ⟨tj, rfl⟩ hpj a₁₂
        have g12 : Kp h₉ s₁₂.heap := fun b o e => a₁₂.keep _ _ (kB2 _ _ (g11 _ _ e))
        obtain ⟨tc, etc⟩ := hIc.get j (commonL rs i j) (by rw [List.getElem?_map, List.getElem?_range hj]; rfl)
        refine Subscript_ ?_
        walk_at "nm"
        walk_at "nm"
        refine tl_list (hC₉.at fun o e => g12 _ _ e) (by omega) (by omega) (x := .int (commonL rs i j) tc) (by rw [List.getElem?_toArray]; exact etc) ?_
        exact ⟨keeps_of Kp.rfl, .inl ⟨rfl, tc, rfl⟩⟩
      · obtain ⟨kq, Z, zv, rfl, fZ, hZ, hpz⟩ := q
        have hI := ints_paired (F := fun j => commonL rs i j) (fun j v x => elem_none (f := fun j v => ∃ t, v = .int (commonL rs i j) t) x) hpz
        refine sum_intl (vs := zv.toList) R'.h (by simpa using hZ.isList) hI (fun h₁₅ tk₁₅ t15 k₁₅ => ?_)
        have kk9 := keeps_kp kq
        obtain ⟨h₁₄, tk₁₄, rfl, _⟩ := kq
        try dsimp only at kk9 k₁₅ ⊢
        walk_at "k"
        exact ⟨keeps_of (k₁₁.trans (kk9.trans k₁₅)), .inl ⟨rfl, _, rfl⟩⟩
    · obtain ⟨kq, NA, nv0, rfl, fNA, hNA, hpn⟩ := q
      rw [filter_true] at hpn
      have hIn := ints_paired (F := fun m => (valuesL rs i).getD m 0 + (frontsOf rs i).sum - (((List.range i).filter (bitOf m)).map (commonL rs i)).sum) (fun j v x => elem_none (f := fun m v => ∃ t, v = .int ((valuesL rs i).getD m 0 + (frontsOf rs i).sum - (((List.range i).filter (bitOf m)).map (commonL rs i)).sum) t) x) hpn
      have kp10 := keeps_kp kq
      obtain ⟨h₁₀, tk₁₀, rfl, _⟩ := kq
      try dsimp only at kp10 hNA ⊢
      have a₁₀ := a₉.grow kp10
      have hnl : nv0.size = 2 ^ i := by rw [← Array.length_toList, hIn.length]; simp
      refine add_lst (hVA₉.at fun o e => kp10 _ _ e) hNA.isList (by rw [List.size_toArray]; omega) (fun VB h₁₁ fVB k₁₁ hVB => ?_)
      try dsimp only
      have a₁₁ := a₁₀.grow k₁₁
      refine st_cell a₁₁ rfl (c := L + 3) rfl (hcell 3) (fun h₁₂ tk₁₂ a₁₂ k₁₂ => ?_)
      try dsimp only
      have e₁₂ := off_cell (x := Str.ofString "values") (c := L + 3) a₁₁ rfl rfl k₁₂
      have hVB₁₂ : h₁₂.IsList VB (List.toArray (vv ++ nv0.toList)) := e₁₂.list (by rw [show List.toArray (vv ++ nv0.toList) = List.toArray vv ++ nv0 from by apply Array.ext'; simp]; exact hVB.isList)
      have hSA₁₂ : h₁₂.IsList SA (List.toArray sv) := e₁₂.list ((hSA₉.at fun o e => kp10 _ _ e).at fun o e => k₁₁ _ _ e)
      have hsl : sv.length = 2 ^ i := by rw [f6.length, sizesL_len]
      -- sizes
      refine xs_asg (wpAny_BinOp ?_)
      walk_at "nm"
      refine wpAny_mono (comp_eval a₁₂ (by walk_at "static") (n := sv.length) (by rw [sizeLine_eq]; omega) (fun _ => true)
        (fun m y o => o = none ∧ ∃ t, y = .int ((sizesL i).getD m 0 + 1) t) (P := fun i v => (List.toArray sv).toList[i]? = some v) (src := [SA]) ?_ (fun _ _ _ _ _ _ _ _ _ _ _ => test_none) ?_) (fun v s₂ q => ?_) fun _ _ e => e
      · walk_at "nm"
        exact ⟨keeps_rfl, by simpa using iters_list R'.h hSA₁₂⟩
      · intro C cs B₂ m v s₁₃ E' kB hm hv _ a₁₃
        obtain ⟨nx, tx, rfl, hnx⟩ := f6.at m v (by simpa using hv)
        have hn' : nx = (sizesL i).getD m 0 := by rw [List.getD_eq_getElem?_getD, hnx]; rfl
        subst hn'
        refine wpAny_BinOp ?_
        walk_at "nm"
        iterate 2 walk_at "k"
        exact ⟨keeps_of Kp.rfl, .inl ⟨rfl, _, rfl⟩⟩
      · obtain ⟨kq, MA, mv0, rfl, fMA, hMA, hpm⟩ := q
        rw [filter_true] at hpm
        have hIm := ints_paired (F := fun m => (sizesL i).getD m 0 + 1) (fun j v x => elem_none (f := fun m v => ∃ t, v = .int ((sizesL i).getD m 0 + 1) t) x) hpm
        rw [map_range_getD (sizesL i) (fun x => x + 1) f6.length] at hIm
        have kp13 := keeps_kp kq
        obtain ⟨h₁₃, tk₁₃, rfl, _⟩ := kq
        try dsimp only at kp13 hMA ⊢
        have a₁₃ := a₁₂.grow kp13
        have hml : mv0.size = 2 ^ i := by rw [← Array.length_toList, hIm.length, List.length_map, sizesL_len]
        refine add_lst (hSA₁₂.at fun o e => kp13 _ _ e) hMA.isList (by rw [List.size_toArray]; omega) (fun SB h₁₄ fSB k₁₄ hSB => ?_)
        try dsimp only
        have a₁₄ := a₁₃.grow k₁₄
        refine st_cell a₁₄ rfl (c := L + 4) rfl (hcell 4) (fun h₁₅ tk₁₅ a₁₅ k₁₅ => ?_)
        have e₁₅ := off_cell (x := Str.ofString "sizes") (c := L + 4) a₁₄ rfl rfl k₁₅
        have hSB₁₅ : h₁₅.IsList SB (List.toArray (sv ++ mv0.toList)) := e₁₅.list (by rw [show List.toArray (sv ++ mv0.toList) = List.toArray sv ++ mv0 from by apply Array.ext'; simp]; exact hSB.isList)
        have hVB₁₅ : h₁₅.IsList VB (List.toArray (vv ++ nv0.toList)) := e₁₅.list ((hVB₁₂.at fun o e => kp13 _ _ e).at fun o e => k₁₄ _ _ e)
        refine xs_nil ⟨h₁₅, _, _, rfl, a₁₅, ⟨VB, _, SB, _, ?_, hVB₁₅, IntsAre.append f3 hIn, ?_, hSB₁₅, IntsAre.append f6 hIm, ?_, ?_⟩, fun b o h1 h2 h3 e => ?_⟩
        · walk_at "rho"
        · walk_at "rho"
        · walk_at "rho"
        · walk_at "rho"
        · simp only [List.mem_cons, List.not_mem_nil, or_false, not_or] at h3
          exact k₁₅ b o h3.2.1 (k₁₄ _ _ (kp13 _ _ (k₁₂ b o h3.1 (k₁₁ _ _ (kp10 _ _ (k₉ b o h3.2.2.2 (kp8 _ _ (k₇ b o h3.2.2.1 (kp6 _ _ e)))))))))
  · rintro ρ₂ h' tk' a' ⟨VA, vv, SA, sv, f1, f2, f3, f4, f5, f6, f7, f8⟩
    refine Nx.go (xs_ret ?_)
    have hvl : vv.length = 32 := by rw [f3.length, valuesL_len]
    have hsl : sv.length = 32 := by rw [f6.length, sizesL_len]
    refine wpAny_mono (comp_eval a' (by walk_at "static") (n := 5 + 1 - 1) (by rw [sizeLine_eq]; omega) (fun _ => true)
      (fun i y o => o = none ∧ ∃ M t, y = .int M t ∧ (∃ m, m < 32 ∧ (sizesL 5).getD m 0 = (i + 1 : Nat) ∧ (valuesL rs 5).getD m 0 = M) ∧ ∀ m, m < 32 → (sizesL 5).getD m 0 = (i + 1 : Nat) → (valuesL rs 5).getD m 0 ≤ M)
      (P := fun i v => ∃ t, v = .int ((1 + i : Nat) : Int) t) (src := []) (it_range2 (a0 := 1) (b0 := 5 + 1) a' R'.h rfl (by decide) (by decide) ?_) (fun _ _ _ _ _ _ _ _ _ _ _ => test_none) ?_) (fun v s₂ q => ?_) fun _ _ e => e
    · walk_at "k"
      refine ⟨⟨_, rfl⟩, wpAny_BinOp (ev_len a' rfl ?_)⟩
      walk_at "nm"
      refine ⟨D, _, rfl, .inl (hD.at fun o e => a'.keep _ _ e), by simp; omega, fun t tk => ?_⟩
      iterate 2 walk_at "k"
      simp only [List.size_toArray, hlen]
      exact ⟨keeps_of Kp.rfl, _, rfl⟩
    · rintro C cs B₂ i v s₃ E' kB hi ⟨ti, rfl⟩ _ a₃
      obtain ⟨c1, g1, _⟩ := a₃.cel (Str.ofString "size") (.inl rfl)
      obtain ⟨c2, g2, _⟩ := a₃.cel (Str.ofString "values") (.inl rfl)
      obtain ⟨c3, g3, _⟩ := a₃.cel (Str.ofString "sizes") (.inl rfl)
      refine Call_ ?_
      walk_at "nm"
      have g3' : Kp h' s₃.heap := fun b o e => a₃.keep _ _ (kB _ _ e)
      refine PyProof.Rows.callWith_builtin1 (args_cons (wpAny_mono (comp_eval a₃ (cl := [(Str.ofString "values", c2), (Str.ofString "sizes", c3), (Str.ofString "size", c1)]) (Static.of (clo_svs g1 g2 g3) rfl (by decide) (by decide) (by decide) ?_ (.cons rfl (.cons rfl (.cons rfl .nil))) (.loc rfl (by decide)))
        (n := 2 ^ 5) (by rw [sizeLine_eq]; decide) (fun m => decide ((sizesL 5).getD m 0 = ((1 + i : Nat) : Int))) (fun m y o => o = none ∧ ∃ t, y = .int ((valuesL rs 5).getD m 0) t) (P := fun i v => ∃ t, v = .int (i : Nat) t) (src := []) (it_range1 a₃ R'.h rfl (by decide) (wpAny_BinOp ?_)) ?_ ?_) (fun v s₂ q => args_nil ?_) fun _ _ e => e) rfl) rfl
      · exact .cons (fun e => absurd e (by decide)) (.cons (fun e => absurd e (by decide)) (.cons (fun e => ⟨.inl rfl, g1.symm, by decide⟩) (.cons (fun e => ⟨.inl rfl, g3.symm, by decide⟩) (.cons (fun e => ⟨.inl rfl, g2.symm, by decide⟩) .nil))))
      · walk_at "k"
        refine ev_len a₃ rfl ?_
        walk_at "nm"
        refine ⟨D, _, rfl, .inl (hD.at fun o e => g3' _ _ (a'.keep _ _ e)), by simp; omega, fun t tk => ?_⟩
        simp only [List.size_toArray, hlen]
        exact pow2 (j := 5) (by decide) ⟨keeps_of Kp.rfl, _, rfl⟩
      · rintro C2 cs2 B₃ m v s₄ E2 kB2 hm ⟨tm, rfl⟩ a₄
        have g4 : Kp h' s₄.heap := fun b o e => a₄.keep _ _ (kB2 _ _ (g3' _ _ e))
        obtain ⟨ts, ets⟩ := ints_nth f6 (i := m) (by rw [sizesL_len]; exact hm)
        refine test_one (wpAny_isTrue_Compare1 (Subscript_ ?_))
        walk_at "nm"
        walk_at "nm"
        refine tl_list (f5.at fun o e => g4 _ _ e) (by omega) (by omega) (x := .int (nth (sizesL 5) m) ts) (by rw [List.getElem?_toArray]; exact ets) ?_
        walk_at "nm"
        iterate 2 walk_at "k"
        refine ⟨?_, keeps_of Kp.rfl⟩
        rw [Bool.eq_iff_iff, decide_eq_true_eq, beq_iff_eq]
        rfl
      · rintro C2 cs2 B₃ m v s₄ E2 kB2 hm ⟨tm, rfl⟩ hpm a₄
        have g4 : Kp h' s₄.heap := fun b o e => a₄.keep _ _ (kB2 _ _ (g3' _ _ e))
        obtain ⟨ts, ets⟩ := ints_nth f3 (i := m) (by rw [valuesL_len]; exact hm)
        refine Subscript_ ?_
        walk_at "nm"
        walk_at "nm"
        refine tl_list (f2.at fun o e => g4 _ _ e) (by omega) (by omega) (x := .int (nth (valuesL rs 5) m) ts) (by rw [List.getElem?_toArray]; exact ets) ?_
        exact ⟨keeps_of Kp.rfl, .inl ⟨rfl, ts, rfl⟩⟩
      · obtain ⟨kq, Z, zv, rfl, fZ, hZ, hpz⟩ := q
        have hI := ints_paired (F := fun m => (valuesL rs 5).getD m 0) (fun j v x => elem_none (f := fun m v => ∃ t, v = .int ((valuesL rs 5).getD m 0) t) x) hpz
        obtain ⟨mx, hx1, hx2⟩ := sizes_all i (by omega)
        have hmem : ∀ m, m < 32 → (sizesL 5).getD m 0 = ((1 + i : Nat) : Int) → (valuesL rs 5).getD m 0 ∈ ((List.range (2 ^ 5)).filter (fun m => decide ((sizesL 5).getD m 0 = ((1 + i : Nat) : Int)))).map (fun m => (valuesL rs 5).getD m 0) := fun m hm hs =>
          List.mem_map.mpr ⟨m, List.mem_filter.mpr ⟨List.mem_range.mpr hm, decide_eq_true hs⟩, rfl⟩
        refine max_ints (vs := zv.toList) R'.h (by simpa using hZ.isList) hI (List.length_pos_of_mem (hmem mx hx1 hx2)) (fun h₅ M tM tk₅ k₅ hM1 hM2 => ?_)
        have e1i : ((1 + i : Nat) : Int) = ((i + 1 : Nat) : Int) := by omega
        obtain ⟨m0, hm0, rfl⟩ := List.mem_map.mp hM1
        obtain ⟨hm1, hm2⟩ := List.mem_filter.mp hm0
        refine ⟨keeps_trans kq (keeps_of k₅), .inl ⟨rfl, _, tM, rfl, ⟨m0, List.mem_range.mp hm1, e1i ▸ (by simpa using hm2), rfl⟩, fun m hm hs => hM2 _ (hmem m hm (e1i ▸ hs))⟩⟩
    · obtain ⟨kq, W, wv, rfl, fW, hW, hp⟩ := q
      rw [filter_true] at hp
      obtain ⟨bs, hb1, hb2⟩ := ints_some (Φ := fun i M => (∃ m, m < 32 ∧ (sizesL 5).getD m 0 = (i + 1 : Nat) ∧ (valuesL rs 5).getD m 0 = M) ∧ ∀ m, m < 32 → (sizesL 5).getD m 0 = (i + 1 : Nat) → (valuesL rs 5).getD m 0 ≤ M)
        (hp.mono fun i y x => elem_none (f := fun i y => ∃ M t, y = Value.int M t ∧ (∃ m, m < 32 ∧ (sizesL 5).getD m 0 = (i + 1 : Nat) ∧ (valuesL rs 5).getD m 0 = M) ∧ ∀ m, m < 32 → (sizesL 5).getD m 0 = (i + 1 : Nat) → (valuesL rs 5).getD m 0 ≤ M) x)
      refine ⟨keeps_trans (keeps_of a'.keep) kq, W, wv.toList, bs, rfl, by simpa using hW.isList, hb1, by rw [← hb2.length]; simp, fun i hi => ?_⟩
      obtain ⟨M, e1, e2⟩ := paired_to hb2 i i (by rw [List.getElem?_range (by omega)])
      have e3 : bs.getD i 0 = M := by rw [List.getD_eq_getElem?_getD, e1]; rfl
      rw [e3]
      exact e2
end
end PBe
section PPl
/-- what the names of a list are worth together, weights w, less what each two share -/
noncomputable def PER (g : Nat → Nat → Int) : (Nat → Int) → List Nat → Int
  | _, [] => 0
  | w, a :: l => w a + PER g (fun x => w x - g x a) l
theorem PER_mono (g : Nat → Nat → Int) : ∀ (l : List Nat) (w w' : Nat → Int), (∀ x ∈ l, w x ≤ w' x) → PER g w l ≤ PER g w' l
  | [], _, _, _ => Int.le_refl _
  | a :: l, w, w', h => by
    have h1 := h a List.mem_cons_self
    have h2 := PER_mono g l (fun x => w x - g x a) (fun x => w' x - g x a) (fun x hx => by have := h x (List.mem_cons_of_mem _ hx); show w x - g x a ≤ w' x - g x a; omega)
    show w a + _ ≤ w' a + _
    omega
theorem PER_perm {g : Nat → Nat → Int} (hs : ∀ i j, g i j = g j i) {l l' : List Nat} (p : l.Perm l') : ∀ w, PER g w l = PER g w l' := by
  induction p with
  | nil => intro w; rfl
  | cons a _ ih => intro w; show w a + _ = w a + _; rw [ih]
  | swap a b l =>
    intro w
    show w b + (w a - g a b + PER g (fun x => w x - g x b - g x a) l) = w a + (w b - g b a + PER g (fun x => w x - g x a - g x b) l)
    have e : (fun x => w x - g x b - g x a) = fun x => w x - g x a - g x b := funext fun x => by omega
    rw [e, hs a b]; omega
  | trans _ _ i1 i2 => intro w; rw [i1, i2]
/-- always the one that adds most -/
inductive Greedy (g : Nat → Nat → Int) : (Nat → Int) → List Nat → List Nat → Prop
  | nil {w E} : Greedy g w E []
  | cons {w E c cs} : c ∈ E → (∀ x ∈ E, w x ≤ w c) → Greedy g (fun x => w x - g x c) (E.erase c) cs → Greedy g w E (c :: cs)
theorem argmax (f : Nat → Int) : ∀ (l : List Nat), l ≠ [] → ∃ v ∈ l, ∀ x ∈ l, f x ≤ f v
  | [a], _ => ⟨a, List.mem_cons_self, fun x hx => by rw [List.mem_singleton.mp hx]; exact Int.le_refl _⟩
  | a :: b :: l, _ => by
    obtain ⟨v, hv, h⟩ := argmax f (b :: l) (by simp)
    by_cases q : f v ≤ f a
    · refine ⟨a, List.mem_cons_self, fun x hx => ?_⟩
      rcases List.mem_cons.mp hx with rfl | hx
      · exact Int.le_refl _
      · exact Int.le_trans (h x hx) q
    · refine ⟨v, List.mem_cons_of_mem _ hv, fun x hx => ?_⟩
      rcases List.mem_cons.mp hx with rfl | hx
      · omega
      · exact h x hx
/-- who always takes what adds most has the best of each size -/
theorem greedy_best {g : Nat → Nat → Int} (hs : ∀ i j, g i j = g j i) (hm : ∀ i j k, min (g i k) (g k j) ≤ g i j) :
    ∀ (cs : List Nat) (w : Nat → Int) (E A : List Nat), Greedy g w E cs → A.Nodup → (∀ x ∈ A, x ∈ E) → A.length = cs.length → PER g w A ≤ PER g w cs
  | [], w, E, A, _, _, _, hl => by
    have : A = [] := List.length_eq_zero_iff.mp hl
    subst this; exact Int.le_refl _
  | c :: cs, w, E, A, G, hn, hE, hl => by
    cases G with
    | cons hc hmax G' =>
      have hA : A ≠ [] := by rintro rfl; simp at hl
      -- the projection
      obtain ⟨v, hv, hvc, hproj⟩ : ∃ v ∈ A, (c ∈ A → v = c) ∧ ∀ x ∈ A.erase v, g x c ≤ g x v := by
        by_cases hcA : c ∈ A
        · exact ⟨c, hcA, fun _ => rfl, fun x _ => Int.le_refl _⟩
        · obtain ⟨v, hv, hmx⟩ := argmax (fun x => g c x) A hA
          refine ⟨v, hv, fun h => absurd h hcA, fun x hx => ?_⟩
          have h1 : g c x ≤ g c v := hmx x (List.mem_of_mem_erase hx)
          have h2 := hm x v c
          have h3 := hs x c
          omega
      have p : A.Perm (v :: A.erase v) := List.perm_cons_erase hv
      rw [PER_perm hs p w]
      show w v + PER g (fun x => w x - g x v) (A.erase v) ≤ w c + PER g (fun x => w x - g x c) cs
      have h1 := PER_mono g (A.erase v) (fun x => w x - g x v) (fun x => w x - g x c) (fun x hx => by have := hproj x hx; show w x - g x v ≤ w x - g x c; omega)
      have h2 := greedy_best hs hm cs (fun x => w x - g x c) (E.erase c) (A.erase v) G' (hn.erase v) (fun x hx => ?_) (by rw [List.length_erase_of_mem hv, hl]; rfl)
      · have h3 := hmax v (hE v hv)
        omega
      · have hxA := List.mem_of_mem_erase hx
        refine (List.mem_erase_of_ne ?_).mpr (hE x hxA)
        rintro rfl
        have := hvc hxA
        subst this
        exact (List.Nodup.not_mem_erase hn) hx
end PPl
section PPv
theorem PER_snoc (g : Nat → Nat → Int) : ∀ (l : List Nat) (w : Nat → Int) (x : Nat), PER g w (l ++ [x]) = PER g w l + w x - (l.map (g x)).sum
  | [], w, x => by simp [PER]
  | a :: l, w, x => by
    show w a + PER g (fun y => w y - g y a) (l ++ [x]) = w a + PER g (fun y => w y - g y a) l + w x - _
    rw [PER_snoc g l]
    simp only [List.map_cons, List.sum_cons]
    omega
/-- the values of the masks -/
noncomputable def Vals (g : Nat → Nat → Int) : Nat → List Int
  | 0 => [0]
  | k + 1 => Vals g k ++ (List.range (2 ^ k)).map fun m => (Vals g k).getD m 0 + g k k - (((List.range k).filter (bitOf m)).map (g k)).sum
theorem Vals_len (g : Nat → Nat → Int) : ∀ k, (Vals g k).length = 2 ^ k
  | 0 => rfl
  | k + 1 => by
    unfold Vals
    rw [List.length_append, Vals_len g k, List.length_map, List.length_range, Nat.pow_succ]; omega
theorem bit_low {m k : Nat} (h : m < 2 ^ k) : bitOf m k = false := by
  unfold bitOf
  rw [Nat.div_eq_of_lt h]; decide
theorem bit_add {m k : Nat} (h : m < 2 ^ k) : bitOf (2 ^ k + m) k = true := by
  unfold bitOf
  rw [Nat.add_div_left _ (Nat.pow_pos (by decide)), Nat.div_eq_of_lt h]; decide
theorem bit_add_low {m k j : Nat} (hj : j < k) : bitOf (2 ^ k + m) j = bitOf m j := by
  unfold bitOf
  obtain ⟨d, rfl⟩ : ∃ d, k = j + (d + 1) := ⟨k - j - 1, by omega⟩
  have e : 2 ^ (j + (d + 1)) + m = m + 2 ^ j * (2 * 2 ^ d) := by rw [Nat.pow_add, Nat.pow_succ]; rw [Nat.mul_comm (2 ^ d) 2]; omega
  rw [e, Nat.add_mul_div_left _ _ (Nat.pow_pos (by decide))]
  congr 1
  rw [Nat.add_mul_mod_self_left]
theorem Vals_PER (g : Nat → Nat → Int) : ∀ k m, m < 2 ^ k → (Vals g k).getD m 0 = PER g (fun x => g x x) ((List.range k).filter (bitOf m))
  | 0, m, h => by
    have : m = 0 := by simpa using h
    subst this; rfl
  | k + 1, m, h => by
    unfold Vals
    rw [List.range_succ, List.filter_append]
    by_cases hm : m < 2 ^ k
    · rw [List.getD_eq_getElem?_getD, List.getElem?_append_left (by rw [Vals_len]; exact hm), ← List.getD_eq_getElem?_getD, Vals_PER g k m hm]
      have : ([k].filter (bitOf m)) = [] := by simp [bit_low hm]
      rw [this, List.append_nil]
    · obtain ⟨m', rfl⟩ : ∃ m', m = 2 ^ k + m' := ⟨m - 2 ^ k, by omega⟩
      have hm' : m' < 2 ^ k := by rw [Nat.pow_succ] at h; omega
      have e1 : [k].filter (bitOf (2 ^ k + m')) = [k] := by simp [bit_add hm']
      have e2 : (List.range k).filter (bitOf (2 ^ k + m')) = (List.range k).filter (bitOf m') := List.filter_congr fun j hj => bit_add_low (List.mem_range.mp hj)
      rw [e1, e2, PER_snoc, List.getD_eq_getElem?_getD, List.getElem?_append_right (by rw [Vals_len]; omega), Vals_len, Nat.add_sub_cancel_left, List.getElem?_map, List.getElem?_range hm']
      show (Vals g k).getD m' 0 + g k k - _ = _
      rw [Vals_PER g k m' hm']
end PPv
section PPw
theorem Greedy.snoc {g : Nat → Nat → Int} : ∀ {cs : List Nat} {w : Nat → Int} {E : List Nat} {c : Nat}, Greedy g w E cs → E.Nodup → c ∈ E → c ∉ cs →
    (∀ x ∈ E, x ∉ cs → w x - (cs.map (g x)).sum ≤ w c - (cs.map (g c)).sum) → Greedy g w E (cs ++ [c])
  | [], w, E, c, _, _, hc, _, h => .cons hc (fun x hx => by have := h x hx (by simp); simpa using this) .nil
  | a :: cs, w, E, c, G, hn, hc, hnc, h => by
    cases G with
    | cons ha hmax G' =>
      have hca : c ≠ a := fun q => hnc (by rw [q]; exact List.mem_cons_self)
      refine .cons ha hmax (Greedy.snoc G' (hn.erase a) ((List.mem_erase_of_ne hca).mpr hc) (fun q => hnc (List.mem_cons_of_mem _ q)) fun x hx hxc => ?_)
      have hxE := List.mem_of_mem_erase hx
      have hxa : x ≠ a := by
        rintro rfl
        exact hn.not_mem_erase hx
      have := h x hxE (by simp [hxa, hxc])
      simp only [List.map_cons, List.sum_cons] at this
      show w x - g x a - _ ≤ w c - g c a - _
      omega
/-- the scan -/
theorem scan_inv (g : Nat → Nat → Int) (b n : Nat) (tk : List Nat) : ∀ t, ((scan g b n tk t).1 = none → ∀ t', t' < t → (b + t') % n ∈ tk) ∧
    (∀ k, (scan g b n tk t).1 = some k → k ∉ tk ∧ (scan g b n tk t).2 = moreOf g tk k ∧ ∀ t', t' < t → (b + t') % n ∉ tk → moreOf g tk ((b + t') % n) ≤ moreOf g tk k)
  | 0 => ⟨fun _ t' h => by omega, fun k h => by simp [scan] at h⟩
  | t + 1 => by
    obtain ⟨i1, i2⟩ := scan_inv g b n tk t
    unfold scan
    by_cases h1 : (b + t) % n ∈ tk
    · rw [if_pos h1]
      refine ⟨fun h t' ht => ?_, fun k h => ?_⟩
      · by_cases q : t' = t
        · subst q; exact h1
        · exact i1 h t' (by omega)
      · obtain ⟨j1, j2, j3⟩ := i2 k h
        refine ⟨j1, j2, fun t' ht hn => ?_⟩
        by_cases q : t' = t
        · subst q; exact absurd h1 hn
        · exact j3 t' (by omega) hn
    · rw [if_neg h1]
      by_cases h2 : (scan g b n tk t).1 = none ∨ moreOf g tk ((b + t) % n) > (scan g b n tk t).2
      · rw [if_pos h2]
        refine ⟨fun h => by simp at h, fun k h => ?_⟩
        simp only [Option.some.injEq] at h
        subst h
        refine ⟨h1, rfl, fun t' ht hn => ?_⟩
        by_cases q : t' = t
        · subst q; exact Int.le_refl _
        · cases e : (scan g b n tk t).1 with
          | none => exact absurd (i1 e t' (by omega)) hn
          | some k =>
            obtain ⟨j1, j2, j3⟩ := i2 k e
            have := j3 t' (by omega) hn
            rcases h2 with h2 | h2
            · rw [e] at h2; cases h2
            · omega
      · rw [if_neg h2]
        refine ⟨fun h => absurd (Or.inl h) h2, fun k h => ?_⟩
        obtain ⟨j1, j2, j3⟩ := i2 k h
        refine ⟨j1, j2, fun t' ht hn => ?_⟩
        by_cases q : t' = t
        · subst q
          have : ¬ moreOf g tk ((b + t') % n) > (scan g b n tk t').2 := fun z => h2 (Or.inr z)
          omega
        · exact j3 t' (by omega) hn
theorem cover (b n x : Nat) (hx : x < n) : ∃ t, t < n ∧ (b + t) % n = x := by
  refine ⟨(x + (n - b % n)) % n, Nat.mod_lt _ (by omega), ?_⟩
  have h1 : b % n < n := Nat.mod_lt _ (by omega)
  rw [Nat.add_mod_mod, ← Nat.mod_add_mod]
  have : b % n + (x + (n - b % n)) = x + n := by omega
  rw [this, Nat.add_mod_right, Nat.mod_eq_of_lt hx]
end PPw
section PPx
theorem left_over : ∀ (n : Nat) (tk : List Nat), tk.length < n → ∃ x, x < n ∧ x ∉ tk
  | 0, _, h => by omega
  | n + 1, tk, h => by
    by_cases hn : n ∈ tk
    · have hl := List.length_erase_of_mem hn
      have hp := List.length_pos_of_mem hn
      obtain ⟨x, h1, h2⟩ := left_over n (tk.erase n) (by omega)
      refine ⟨x, by omega, fun q => h2 ((List.mem_erase_of_ne (by omega)).mpr q)⟩
    · exact ⟨n, by omega, hn⟩
theorem scan_some (g : Nat → Nat → Int) (b n : Nat) {tk : List Nat} (h : tk.length < n) : (scan g b n tk n).1 ≠ none := by
  intro e
  obtain ⟨x, hx, hnx⟩ := left_over n tk h
  obtain ⟨t, ht, hc⟩ := cover b n x hx
  have := (scan_inv g b n tk n).1 e t ht
  rw [hc] at this
  exact hnx this
theorem taken_greedy (g : Nat → Nat → Int) (b n : Nat) : ∀ i, i ≤ n → Greedy g (fun x => g x x) (List.range n) (takenL g b n i) ∧ (takenL g b n i).Nodup ∧ worthL g b n i = PER g (fun x => g x x) (takenL g b n i)
  | 0, _ => ⟨.nil, List.nodup_nil, rfl⟩
  | i + 1, h => by
    obtain ⟨i1, i2, i3⟩ := taken_greedy g b n i (by omega)
    have hl := takenL_len g b n i
    have hlt := takenL_lt (g := g) (b := b) (n := n) (by omega) (i + 1)
    have hs := scan_some g b n (tk := takenL g b n i) (by omega)
    unfold takenL worthL
    unfold takenL at hlt
    cases e : (scan g b n (takenL g b n i) n).1 with
    | none => exact absurd e hs
    | some k =>
      rw [e] at hlt
      have hkn : k < n := hlt k (by simp)
      obtain ⟨j1, j2, j3⟩ := (scan_inv g b n (takenL g b n i) n).2 k e
      refine ⟨Greedy.snoc i1 List.nodup_range (List.mem_range.mpr hkn) j1 fun x hx hnx => ?_, ?_, ?_⟩
      · obtain ⟨t, ht, hc⟩ := cover b n x (List.mem_range.mp hx)
        have := j3 t ht (by rw [hc]; exact hnx)
        rw [hc] at this
        exact this
      · show (takenL g b n i ++ [k]).Nodup
        rw [List.nodup_append]
        exact ⟨i2, by simp, fun a ha b' hb' => by rw [List.mem_singleton.mp hb']; rintro rfl; exact j1 ha⟩
      · show _ = PER g _ (takenL g b n i ++ [k])
        rw [PER_snoc, ← i3, j2]
        unfold moreOf
        omega
end PPx
section PPy
theorem mask_of (p : Nat → Bool) : ∀ k, ∃ m, m < 2 ^ k ∧ ∀ j, j < k → bitOf m j = p j
  | 0 => ⟨0, by decide, fun j h => by omega⟩
  | k + 1 => by
    obtain ⟨m, h1, h2⟩ := mask_of p k
    cases e : p k with
    | false =>
      refine ⟨m, by rw [Nat.pow_succ]; omega, fun j hj => ?_⟩
      by_cases q : j = k
      · subst q; rw [bit_low h1, e]
      · exact h2 j (by omega)
    | true =>
      refine ⟨2 ^ k + m, by rw [Nat.pow_succ]; omega, fun j hj => ?_⟩
      by_cases q : j = k
      · subst q; rw [bit_add h1, e]
      · rw [bit_add_low (by omega)]; exact h2 j (by omega)
theorem sizes_bits : ∀ m, m < 32 → (sizesL 5).getD m 0 = (((List.range 5).filter (bitOf m)).length : Int) := by decide +kernel
theorem best_eq {g : Nat → Nat → Int} (hs : ∀ i j, g i j = g j i) (hm : ∀ i j k, min (g i k) (g k j) ≤ g i j) (b : Nat) {i : Nat} (hi : i < 5) {M : Int}
    (h1 : ∃ m, m < 32 ∧ (sizesL 5).getD m 0 = (i + 1 : Nat) ∧ (Vals g 5).getD m 0 = M) (h2 : ∀ m, m < 32 → (sizesL 5).getD m 0 = (i + 1 : Nat) → (Vals g 5).getD m 0 ≤ M) : worthL g b 5 (i + 1) = M := by
  obtain ⟨t1, t2, t3⟩ := taken_greedy g b 5 (i + 1) (by omega)
  have tl := takenL_len g b 5 (i + 1)
  have tlt := takenL_lt (g := g) (b := b) (n := 5) (by decide) (i + 1)
  refine Int.le_antisymm ?_ ?_
  · obtain ⟨m, m1, m2⟩ := mask_of (fun j => decide (j ∈ takenL g b 5 (i + 1))) 5
    have hp : ((List.range 5).filter (bitOf m)).Perm (takenL g b 5 (i + 1)) := by
      refine (List.perm_ext_iff_of_nodup (List.nodup_range.filter _) t2).mpr fun x => ?_
      rw [List.mem_filter, List.mem_range]
      constructor
      · rintro ⟨q1, q2⟩
        rw [m2 x q1] at q2
        simpa using q2
      · intro q
        have := tlt x q
        exact ⟨this, by rw [m2 x this]; simpa using q⟩
    have hz : (sizesL 5).getD m 0 = (i + 1 : Nat) := by rw [sizes_bits m m1, hp.length_eq, tl]
    have := h2 m m1 hz
    rw [Vals_PER g 5 m m1, PER_perm hs hp] at this
    rw [t3]; exact this
  · obtain ⟨m, m1, m2, rfl⟩ := h1
    rw [Vals_PER g 5 m m1, t3]
    refine greedy_best hs hm _ _ _ _ t1 (List.nodup_range.filter _) (fun x hx => (List.mem_filter.mp hx).1) ?_
    rw [sizes_bits m m1] at m2
    omega
end PPy
section PPz
theorem pref_comm : ∀ a b : List Str, pref a b = pref b a
  | [], [] => rfl
  | [], _ :: _ => rfl
  | _ :: _, [] => rfl
  | x :: xs, y :: ys => by
    unfold pref
    by_cases h : x = y
    · rw [if_pos h, if_pos h.symm, pref_comm xs ys]
    · rw [if_neg h, if_neg (Ne.symm h)]
theorem pref_ultra : ∀ a b c : List Str, min (pref a c) (pref c b) ≤ pref a b
  | [], _, _ => by simp [pref]
  | _ :: _, [], [] => by simp [pref]
  | _ :: _, [], _ :: _ => by simp [pref]
  | _ :: _, _ :: _, [] => by simp [pref]
  | x :: xs, y :: ys, z :: zs => by
    unfold pref
    have ih := pref_ultra xs ys zs
    by_cases h1 : x = z
    · by_cases h2 : z = y
      · rw [if_pos h1, if_pos h2, if_pos (h1.trans h2)]; omega
      · rw [if_neg h2]; omega
    · rw [if_neg h1]; omega
theorem alike_two (a b : List Str) (ha : a.length ≤ 5) (hb : b.length ≤ 5) : alike [a, b] = pref a b := by
  obtain ⟨p1, p2, p3⟩ := pref_take a b
  refine alikeGo_eq [a, b] 6 0 _ (Nat.zero_le _) (by omega) (fun j _ hj => ?_) ?_
  · have := pref_same a b j hj
    unfold same
    simp only [List.all_cons, List.all_nil, List.headD_cons, Bool.and_true, Bool.and_eq_true, decide_eq_true_eq]
    exact ⟨⟨by omega, trivial⟩, by omega, decide_eq_true this.symm⟩
  · rw [Bool.eq_false_iff]
    intro h
    unfold same at h
    simp only [List.all_cons, List.all_nil, List.headD_cons, Bool.and_true, Bool.and_eq_true, decide_eq_true_eq] at h
    exact pref_diff a b h.1.1 h.2.1 (of_decide_eq_true h.2.2).symm
/-- a text's worth, a front's -/
noncomputable def wS (x : Str) : Int := wts.getD (((List.range 10).find? fun d => decide (tol d = x)).getD 1) 0
theorem wS_tol : ∀ d, d < 10 → wS (tol d) = wts.getD d 0 := by decide +kernel
theorem wS_nn (x : Str) : 0 ≤ wS x := by
  unfold wS
  generalize (((List.range 10).find? fun d => decide (tol d = x)).getD 1) = n
  rw [List.getD_eq_getElem?_getD]
  cases e : wts[n]? with
  | none => decide
  | some v =>
    have := List.mem_of_getElem? e
    unfold wts at this
    simp only [List.mem_cons, List.not_mem_nil, or_false] at this
    rcases this with rfl | rfl | rfl | rfl | rfl | rfl | rfl | rfl | rfl | rfl <;> decide
noncomputable def wtT (ts : List Str) (p : Nat) : Int := if Rx.hdn (joinS (ts.take (p + 1))).cps = true then 0 else wS (cell0 ts p)
theorem wtT_nn (ts : List Str) (p : Nat) : 0 ≤ wtT ts p := by unfold wtT; split; exact Int.le_refl _; exact wS_nn _
noncomputable def upTo (f : Nat → Int) (K : Nat) : Int := ((List.range K).map f).sum
theorem upTo_succ (f : Nat → Int) (K : Nat) : upTo f (K + 1) = upTo f K + f K := by unfold upTo; rw [List.range_succ, List.map_append, List.sum_append]; simp
theorem upTo_congr {f f' : Nat → Int} : ∀ K, (∀ p, p < K → f p = f' p) → upTo f K = upTo f' K
  | 0, _ => rfl
  | K + 1, h => by rw [upTo_succ, upTo_succ, upTo_congr K (fun p hp => h p (by omega)), h K (by omega)]
theorem upTo_mono {f : Nat → Int} (hf : ∀ p, 0 ≤ f p) {K K' : Nat} (h : K ≤ K') : upTo f K ≤ upTo f K' := by
  induction h with
  | refl => exact Int.le_refl _
  | step _ ih => rw [upTo_succ]; have := hf ‹Nat›; rename_i m _; have := hf m; omega
noncomputable def G2 (a b : List Str) : Int := upTo (wtT a) (pref a b)
theorem wtT_same {a b : List Str} {p : Nat} (h : p < pref a b) : wtT a p = wtT b p := by
  obtain ⟨p1, p2, p3⟩ := pref_take a b
  have e : a.take (p + 1) = b.take (p + 1) := by
    have := congrArg (List.take (p + 1)) p3
    rwa [List.take_take, List.take_take, Nat.min_eq_left (by omega)] at this
  unfold wtT
  rw [e, pref_same a b p h]
theorem G2_comm (a b : List Str) : G2 a b = G2 b a := by
  unfold G2
  rw [pref_comm b a]
  exact upTo_congr _ fun p hp => wtT_same hp
theorem G2_ultra (a b c : List Str) : min (G2 a c) (G2 c b) ≤ G2 a b := by
  have h := pref_ultra a b c
  by_cases q : pref a c ≤ pref a b
  · have : G2 a c ≤ G2 a b := upTo_mono (wtT_nn a) q
    omega
  · have h' : pref b c ≤ pref b a := by rw [pref_comm b c, pref_comm b a]; omega
    have : G2 b c ≤ G2 b a := upTo_mono (wtT_nn b) h'
    rw [G2_comm b c, G2_comm b a] at this
    omega
end PPz
section PPu
theorem wtH_take {ds : List Nat} (hd : ∀ d ∈ ds, d < 10) {K p : Nat} (hp : p < K) (hK : K ≤ ds.length) : wtH (ds.take K) p = wtT (ds.map tol) p := by
  have e1 : ((ds.take K).map tol).take (p + 1) = (ds.map tol).take (p + 1) := by rw [List.map_take, List.take_take, Nat.min_eq_left (by omega)]
  have e2 : (ds.take K).getD p 0 = ds.getD p 0 := by
    rw [List.getD_eq_getElem?_getD, List.getD_eq_getElem?_getD, List.getElem?_take, if_pos hp]
  have e3 : cell0 (ds.map tol) p = tol (ds.getD p 0) := by simp [cell0, show p < ds.length by omega]
  have e4 : ds.getD p 0 < 10 := hd _ (by rw [List.getD_eq_getElem?_getD, List.getElem?_eq_getElem (by omega)]; exact List.getElem_mem _)
  unfold wtH wtT
  rw [e1, e2, e3, wS_tol _ e4]
theorem worth_take {ds : List Nat} (hd : ∀ d ∈ ds, d < 10) {K : Nat} (hK : K ≤ ds.length) : worthOf (ds.take K) = upTo (wtT (ds.map tol)) K := by
  unfold worthOf
  rw [List.length_take, Nat.min_eq_left hK]
  exact upTo_congr K fun p hp => wtH_take hd hp hK
theorem gOf_G2 {rs : List (List Nat)} (hg : ∀ i, (rs.getD i []).length ≤ 5 ∧ ∀ d ∈ rs.getD i [], d < 10) (i j : Nat) : gOf rs i j = G2 (dueOf rs i) (dueOf rs j) := by
  unfold gOf
  have e : alike [(rs.getD i []).map tol, (rs.getD j []).map tol] = pref (dueOf rs i) (dueOf rs j) := alike_two _ _ (by rw [List.length_map]; exact (hg i).1) (by rw [List.length_map]; exact (hg j).1)
  rw [e, worth_take (hg i).2 (by have := (pref_take (dueOf rs i) (dueOf rs j)).1; unfold dueOf at this ⊢; rw [List.length_map] at this; exact this)]
  rfl
theorem gOf_comm {rs : List (List Nat)} (hg : ∀ i, (rs.getD i []).length ≤ 5 ∧ ∀ d ∈ rs.getD i [], d < 10) (i j : Nat) : gOf rs i j = gOf rs j i := by
  rw [gOf_G2 hg, gOf_G2 hg, G2_comm]
theorem gOf_ultra {rs : List (List Nat)} (hg : ∀ i, (rs.getD i []).length ≤ 5 ∧ ∀ d ∈ rs.getD i [], d < 10) (i j k : Nat) : min (gOf rs i k) (gOf rs k j) ≤ gOf rs i j := by
  rw [gOf_G2 hg, gOf_G2 hg, gOf_G2 hg]
  exact G2_ultra _ _ _
end PPu
section PPh
namespace Rx
theorem drop_ch {t : Array Nat} {p : Nat} (h : p < t.size) : t.toList.drop p = ch t p :: t.toList.drop (p + 1) := by
  rw [List.drop_eq_getElem_cons (by simpa using h)]
  congr 1
  simp [ch, h]
theorem digs_list (t : Array Nat) : ∀ k p, t.size - p ≤ k → digs t k p = ((t.toList.drop p).takeWhile Sre.isDigit).length
  | 0, p, h => by
    rw [List.drop_of_length_le (by simp; omega)]; rfl
  | k + 1, p, h => by
    unfold digs
    by_cases hp : p < t.size
    · rw [drop_ch hp, List.takeWhile_cons]
      by_cases hd : Sre.isDigit (ch t p) = true
      · rw [if_pos hd, if_pos hd, digs_list t k (p + 1) (by omega)]; rfl
      · rw [if_neg hd, if_neg hd]; rfl
    · rw [List.drop_of_length_le (by simp; omega)]
      have : ch t p = 0 := by unfold ch; rw [Array.getElem?_eq_none (by omega)]; rfl
      rw [this]; rfl
/-- what may stand behind a dot -/
noncomputable def okT (l : List Nat) : Prop := (∃ c r, l = c :: r ∧ Sre.isDigit c = true) ∧ (l.dropWhile Sre.isDigit = [] ∨ l.dropWhile Sre.isDigit = [10])
theorem drop_takeWhile (p : Nat → Bool) : ∀ l : List Nat, l.drop (l.takeWhile p).length = l.dropWhile p
  | [] => rfl
  | a :: l => by
    rw [List.takeWhile_cons, List.dropWhile_cons]
    cases p a
    · rfl
    · exact drop_takeWhile p l
theorem hit_iff {t : Array Nat} (hz : t.size ≤ 4294967295) (s : Nat) : hit t s = true ↔ ∃ rest, t.toList.drop s = 46 :: rest ∧ okT rest := by
  unfold hit
  simp only [Bool.and_eq_true, decide_eq_true_eq, beq_iff_eq]
  have hdg : ∀ p, dg t p = ((t.toList.drop p).takeWhile Sre.isDigit).length := fun p => digs_list t _ p (by omega)
  have hat : ∀ p, p ≤ t.size → (atEnd t (p + dg t p) = true ↔ ((t.toList.drop p).dropWhile Sre.isDigit = [] ∨ (t.toList.drop p).dropWhile Sre.isDigit = [10])) := fun p hp => by
    have e : (t.toList.drop p).dropWhile Sre.isDigit = t.toList.drop (p + dg t p) := by rw [← drop_takeWhile, List.drop_drop, hdg p]
    have hq' : p + dg t p ≤ t.size := by
      have h1 := (List.takeWhile_sublist Sre.isDigit (l := t.toList.drop p)).length_le
      rw [← hdg p, List.length_drop, Array.length_toList] at h1
      omega
    rw [e]
    generalize p + dg t p = q at hq'
    unfold atEnd
    simp only [Bool.or_eq_true, Bool.and_eq_true, beq_iff_eq]
    rcases Nat.lt_or_ge q t.size with hq | hq
    · rw [drop_ch hq]
      constructor
      · rintro (h | ⟨h1, h2⟩)
        · omega
        · refine .inr ?_
          rw [h2, List.drop_of_length_le (by simp; omega)]
      · rintro (h | h)
        · cases h
        · injection h with h1 h2
          have := congrArg List.length h2
          simp only [List.length_drop, Array.length_toList, List.length_nil] at this
          exact .inr ⟨by omega, h1⟩
    · have : q = t.size := by omega
      rw [List.drop_of_length_le (by simp; omega)]
      exact ⟨fun _ => .inl rfl, fun _ => .inl this⟩
  constructor
  · rintro ⟨⟨⟨⟨h1, h2⟩, h3⟩, h4⟩, h5⟩
    refine ⟨t.toList.drop (s + 1), by rw [drop_ch h1, h2], ⟨_, _, drop_ch h3, h4⟩, (hat _ (by omega)).mp h5⟩
  · rintro ⟨rest, h1, ⟨c, r, rfl, h3⟩, h4⟩
    have hs : s < t.size := by
      rcases Nat.lt_or_ge s t.size with q | q
      · exact q
      · rw [List.drop_of_length_le (by simpa using q)] at h1; cases h1
    rw [drop_ch hs] at h1
    injection h1 with e1 e2
    have hs1 : s + 1 < t.size := by
      rcases Nat.lt_or_ge (s + 1) t.size with q | q
      · exact q
      · rw [List.drop_of_length_le (by simpa using q)] at e2; cases e2
    have e3 : ch t (s + 1) = c := by
      rw [drop_ch hs1] at e2; injection e2
    refine ⟨⟨⟨⟨hs, e1⟩, hs1⟩, by rw [e3]; exact h3⟩, (hat _ (by omega)).mpr (by rw [e2]; exact h4)⟩
end Rx
end PPh
section PPi
namespace Rx
noncomputable def HT (l : List Nat) : Prop := ∃ pre rest, l = pre ++ 46 :: rest ∧ okT rest
theorem hdn_iff {t : Array Nat} (hz : t.size ≤ 4294967295) : hdn t = true ↔ HT t.toList := by
  unfold hdn HT
  rw [List.any_eq_true]
  constructor
  · rintro ⟨s, _, h⟩
    obtain ⟨rest, h1, h2⟩ := (hit_iff hz s).mp h
    exact ⟨t.toList.take s, rest, by rw [← h1, List.take_append_drop], h2⟩
  · rintro ⟨pre, rest, h1, h2⟩
    have hl : pre.length < t.size := by
      have := congrArg List.length h1
      simp only [Array.length_toList, List.length_append, List.length_cons] at this
      omega
    refine ⟨pre.length, List.mem_range.mpr (by omega), (hit_iff hz _).mpr ⟨rest, ?_, h2⟩⟩
    rw [h1, List.drop_left]
theorem HT_nil : ¬ HT [] := by rintro ⟨pre, rest, h, _⟩; simp at h
theorem HT_cons (x : Nat) (l : List Nat) : HT (x :: l) ↔ (x = 46 ∧ okT l) ∨ HT l := by
  constructor
  · rintro ⟨pre, rest, h1, h2⟩
    cases pre with
    | nil =>
      simp only [List.nil_append, List.cons.injEq] at h1
      exact .inl ⟨h1.1, h1.2 ▸ h2⟩
    | cons y pre =>
      simp only [List.cons_append, List.cons.injEq] at h1
      exact .inr ⟨pre, rest, h1.2, h2⟩
  · rintro (⟨rfl, h⟩ | ⟨pre, rest, rfl, h⟩)
    · exact ⟨[], l, rfl, h⟩
    · exact ⟨x :: pre, rest, rfl, h⟩
theorem HT_skip : ∀ (c : List Nat) (l : List Nat), (∀ x ∈ c, x ≠ 46) → (HT (c ++ l) ↔ HT l)
  | [], l, _ => Iff.rfl
  | x :: c, l, h => by
    rw [List.cons_append, HT_cons, HT_skip c l fun y hy => h y (List.mem_cons_of_mem _ hy)]
    constructor
    · rintro (⟨q, _⟩ | q)
      · exact absurd q (h x List.mem_cons_self)
      · exact q
    · exact .inr
noncomputable def cd (d : Nat) : List Nat := (tol d).cps.toList
noncomputable def codes (ds : List Nat) : List Nat := ds.flatMap cd
theorem codes_cons (d : Nat) (ds : List Nat) : codes (d :: ds) = cd d ++ codes ds := by simp [codes]
theorem cd0 : cd 0 = [46] := by decide +kernel
theorem cd1 : cd 1 = [57, 48] := by decide +kernel
theorem cd7 : cd 7 = [10] := by decide +kernel
theorem cd_no : ∀ d, d < 10 → d ≠ 0 → ∀ x ∈ cd d, x ≠ 46 := by decide +kernel
theorem cd_head : ∀ d, d < 10 → d ≠ 1 → ∃ x ∈ [46, 37, 10, 1635], (cd d).head? = some x := by decide +kernel
theorem cd_ten : ∀ d, d < 10 → cd d ≠ [] ∧ (d ≠ 7 → (cd d).head? ≠ some 10) := by decide +kernel
noncomputable def okP (r : List Nat) : Prop := (∃ r', r = 1 :: r') ∧ (r.dropWhile (· == 1) = [] ∨ r.dropWhile (· == 1) = [7])
theorem head_cons {d : Nat} (hd : d < 10) (h1 : d ≠ 1) (ds : List Nat) : ∃ x l, codes (d :: ds) = x :: l ∧ Sre.isDigit x = false := by
  obtain ⟨x, hx, e⟩ := cd_head d hd h1
  rw [codes_cons]
  cases q : cd d with
  | nil => rw [q] at e; cases e
  | cons y l =>
    rw [q] at e
    simp only [List.head?_cons, Option.some.injEq] at e
    subst e
    refine ⟨y, l ++ codes ds, rfl, ?_⟩
    simp only [List.mem_cons, List.not_mem_nil, or_false] at hx
    rcases hx with rfl | rfl | rfl | rfl <;> decide
theorem codes_drop : ∀ ds : List Nat, (∀ d ∈ ds, d < 10) → (codes ds).dropWhile Sre.isDigit = codes (ds.dropWhile (· == 1))
  | [], _ => rfl
  | d :: ds, h => by
    by_cases h1 : d = 1
    · subst h1
      rw [codes_cons, cd1]
      show ((57 :: 48 :: codes ds).dropWhile Sre.isDigit) = codes (((1 : Nat) :: ds).dropWhile (· == 1))
      have e1 : ((1 : Nat) :: ds).dropWhile (· == 1) = ds.dropWhile (· == 1) := rfl
      rw [e1, ← codes_drop ds fun x hx => h x (List.mem_cons_of_mem _ hx)]
      rfl
    · obtain ⟨x, l, e, hx⟩ := head_cons (h d List.mem_cons_self) h1 ds
      have e2 : (d :: ds).dropWhile (· == 1) = d :: ds := by rw [List.dropWhile_cons, if_neg (by simpa using h1)]
      rw [e2, e, List.dropWhile_cons, hx]; rfl
theorem codes_nil {ds : List Nat} (h : ∀ d ∈ ds, d < 10) : codes ds = [] ↔ ds = [] := by
  cases ds with
  | nil => simp [codes]
  | cons d ds =>
    rw [codes_cons]
    have := (cd_ten d (h d List.mem_cons_self)).1
    simp [this]
theorem codes_ten {ds : List Nat} (h : ∀ d ∈ ds, d < 10) : codes ds = [10] ↔ ds = [7] := by
  cases ds with
  | nil => simp [codes]
  | cons d ds =>
    rw [codes_cons]
    obtain ⟨h1, h2⟩ := cd_ten d (h d List.mem_cons_self)
    by_cases hd : d = 7
    · subst hd
      rw [cd7]
      have := codes_nil (ds := ds) fun x hx => h x (List.mem_cons_of_mem _ hx)
      simp [this]
    · constructor
      · intro e
        exfalso
        refine h2 hd ?_
        cases q : cd d with
        | nil => exact absurd q h1
        | cons y l => rw [q] at e; simp only [List.cons_append, List.cons.injEq] at e; rw [e.1]; rfl
      · intro e
        injection e with e1 _
        exact absurd e1 hd
theorem okT_codes {ds : List Nat} (h : ∀ d ∈ ds, d < 10) : okT (codes ds) ↔ okP ds := by
  have hdw : ∀ d ∈ ds.dropWhile (· == 1), d < 10 := fun d hd => h d ((List.dropWhile_sublist _).mem hd)
  unfold okT okP
  rw [codes_drop ds h, codes_nil hdw, codes_ten hdw]
  have : (∃ c r, codes ds = c :: r ∧ Sre.isDigit c = true) ↔ ∃ r', ds = 1 :: r' := by
    cases ds with
    | nil => simp [codes]
    | cons d ds =>
      by_cases h1 : d = 1
      · subst h1
        rw [codes_cons, cd1]
        exact ⟨fun _ => ⟨_, rfl⟩, fun _ => ⟨57, _, rfl, by decide⟩⟩
      · obtain ⟨x, l, e, hx⟩ := head_cons (h d List.mem_cons_self) h1 ds
        rw [e]
        constructor
        · rintro ⟨c, r, e1, e2⟩
          injection e1 with e3 _
          rw [← e3, hx] at e2; cases e2
        · rintro ⟨r', e1⟩
          injection e1 with e3 _
          exact absurd e3 h1
  rw [this]
noncomputable def HP (l : List Nat) : Prop := ∃ pre rest, l = pre ++ 0 :: rest ∧ okP rest
theorem HP_cons (x : Nat) (l : List Nat) : HP (x :: l) ↔ (x = 0 ∧ okP l) ∨ HP l := by
  constructor
  · rintro ⟨pre, rest, h1, h2⟩
    cases pre with
    | nil =>
      simp only [List.nil_append, List.cons.injEq] at h1
      exact .inl ⟨h1.1, h1.2 ▸ h2⟩
    | cons y pre =>
      simp only [List.cons_append, List.cons.injEq] at h1
      exact .inr ⟨pre, rest, h1.2, h2⟩
  · rintro (⟨rfl, h⟩ | ⟨pre, rest, rfl, h⟩)
    · exact ⟨[], l, rfl, h⟩
    · exact ⟨x :: pre, rest, rfl, h⟩
theorem HT_codes : ∀ ds : List Nat, (∀ d ∈ ds, d < 10) → (HT (codes ds) ↔ HP ds)
  | [], _ => by
    constructor
    · intro h; exact absurd h HT_nil
    · rintro ⟨pre, rest, h, _⟩; simp at h
  | d :: ds, h => by
    have ih := HT_codes ds fun x hx => h x (List.mem_cons_of_mem _ hx)
    rw [HP_cons, ← okT_codes (fun x hx => h x (List.mem_cons_of_mem _ hx)), ← ih, codes_cons]
    by_cases h0 : d = 0
    · subst h0
      rw [cd0]
      show HT (46 :: codes ds) ↔ _
      rw [HT_cons]
      simp
    · rw [HT_skip _ _ (cd_no d (h d List.mem_cons_self) h0)]
      simp [h0]
end Rx
end PPi
section PPj
theorem back_spec (r : List Int) : ∀ e, (∀ q, back r e ≤ q → q < e → nth r q = 1)
  | 0, q, _, h => by omega
  | e + 1, q, h1, h2 => by
    unfold back at h1
    by_cases he : nth r e = 1
    · rw [if_pos he] at h1
      by_cases hq : q = e
      · rw [hq]; exact he
      · exact back_spec r e q h1 (by omega)
    · rw [if_neg he] at h1; omega
theorem back_eq (r : List Int) : ∀ e p, p ≤ e → (∀ q, p ≤ q → q < e → nth r q = 1) → (p = 0 ∨ nth r (p - 1) ≠ 1) → back r e = p
  | 0, p, h, _, _ => by have : p = 0 := by omega
                        subst this; rfl
  | e + 1, p, h, h1, h2 => by
    unfold back
    by_cases hp : p = e + 1
    · subst hp
      rw [if_neg]
      rcases h2 with h2 | h2
      · omega
      · exact h2
    · rw [if_pos (h1 e (by omega) (by omega))]
      exact back_eq r e p (by omega) (fun q a b => h1 q a (by omega)) h2
theorem split1 : ∀ l : List Nat, ∃ m s, l = List.replicate m 1 ++ s ∧ l.dropWhile (· == 1) = s
  | [] => ⟨0, [], rfl, rfl⟩
  | a :: l => by
    by_cases h : a = 1
    · subst h
      obtain ⟨m, s, h1, h2⟩ := split1 l
      refine ⟨m + 1, s, ?_, h2⟩
      rw [List.replicate_succ, List.cons_append, ← h1]
    · exact ⟨0, a :: l, rfl, by rw [List.dropWhile_cons, if_neg (by simpa using h)]⟩
theorem drop_ones : ∀ (m : Nat) (s : List Nat), (List.replicate m 1 ++ s).dropWhile (· == 1) = s.dropWhile (· == 1)
  | 0, s => rfl
  | m + 1, s => by rw [List.replicate_succ, List.cons_append]; exact drop_ones m s
theorem HP_bound {l : List Nat} {r : List Int} (hr : ∀ p, p < l.length → nth r p = (l.getD p 0 : Nat)) : Rx.HP l ↔ isBound r l.length = true := by
  unfold isBound
  rw [decide_eq_true_eq]
  constructor
  · rintro ⟨pre, rest, rfl, ⟨r', h1⟩, h2⟩
    obtain ⟨m, s, hs, hd⟩ := split1 rest
    rw [hd] at h2
    have hm : 1 ≤ m := by
      rcases Nat.eq_zero_or_pos m with q | q
      · subst q
        rw [List.replicate_zero, List.nil_append] at hs
        rw [← hs] at h2
        rcases h2 with h2 | h2
        · rw [h1] at h2; cases h2
        · rw [h1] at h2; cases h2
      · exact q
    subst hs
    have g0 : nth r pre.length = 0 := by
      rw [hr _ (by simp)]
      simp
    have g1 : ∀ j, j < m → nth r (pre.length + 1 + j) = 1 := fun j hj => by
      rw [hr _ (by simp; omega)]
      have e : (pre ++ 0 :: (List.replicate m 1 ++ s)).getD (pre.length + 1 + j) 0 = 1 := by
        rw [List.getD_eq_getElem?_getD, List.getElem?_append_right (by omega)]
        have : pre.length + 1 + j - pre.length = j + 1 := by omega
        rw [this, List.getElem?_cons_succ, List.getElem?_append_left (by simpa using hj), List.getElem?_replicate, if_pos hj]; rfl
      rw [e]; rfl
    have hE : endOf r (pre ++ 0 :: (List.replicate m 1 ++ s)).length = pre.length + 1 + m := by
      unfold endOf
      rcases h2 with rfl | rfl
      · have e : (pre ++ 0 :: (List.replicate m 1 ++ [])).length = pre.length + 1 + m := by simp; omega
        rw [e]
        have : pre.length + 1 + m - 1 = pre.length + 1 + (m - 1) := by omega
        rw [this, g1 (m - 1) (by omega), if_neg (by decide)]
      · have e : (pre ++ 0 :: (List.replicate m 1 ++ [7])).length = pre.length + 1 + m + 1 := by simp; omega
        have e7 : nth r (pre.length + 1 + m) = 7 := by
          rw [hr _ (by rw [e]; omega)]
          have e' : (pre ++ 0 :: (List.replicate m 1 ++ [7])).getD (pre.length + 1 + m) 0 = 7 := by
            rw [List.getD_eq_getElem?_getD, List.getElem?_append_right (by omega)]
            have : pre.length + 1 + m - pre.length = m + 1 := by omega
            rw [this, List.getElem?_cons_succ, List.getElem?_append_right (by simp)]
            simp
          rw [e']; rfl
        rw [e, Nat.add_sub_cancel, e7, if_pos rfl]
    have hB : back r (pre.length + 1 + m) = pre.length + 1 := by
      refine back_eq r _ _ (by omega) (fun q h1 h2 => ?_) (.inr ?_)
      · have := g1 (q - (pre.length + 1)) (by omega)
        rwa [show pre.length + 1 + (q - (pre.length + 1)) = q by omega] at this
      · rw [Nat.add_sub_cancel, g0]; decide
    rw [hE, hB]
    exact ⟨by omega, by omega, by rw [Nat.add_sub_cancel, g0]⟩
  · generalize hE : endOf r l.length = e
    rintro ⟨h1, h2, h3⟩
    have hel : e ≤ l.length := hE ▸ endOf_le _ _
    generalize hB : back r e = p at h1 h2 h3
    have hs : ∀ q, p ≤ q → q < e → l[q]? = some 1 := fun q a b => by
      have h := back_spec r e q (by rw [hB]; exact a) b
      have hql : q < l.length := by omega
      rw [hr q hql, List.getD_eq_getElem?_getD, List.getElem?_eq_getElem hql] at h
      rw [List.getElem?_eq_getElem hql]
      have : l[q] = 1 := by simp only [Option.getD_some] at h; omega
      rw [this]
    have hp1 : p - 1 < l.length := by omega
    have h30 : l[p - 1] = 0 := by
      rw [hr _ hp1, List.getD_eq_getElem?_getD, List.getElem?_eq_getElem hp1] at h3
      simp only [Option.getD_some] at h3; omega
    refine ⟨l.take (p - 1), l.drop p, ?_, ?_⟩
    · have : l.drop (p - 1) = 0 :: l.drop p := by
        rw [List.drop_eq_getElem_cons hp1, h30]
        congr 2; omega
      rw [← this, List.take_append_drop]
    · have hdr : l.drop p = List.replicate (e - p) 1 ++ l.drop e := by
        apply List.ext_getElem?
        intro j
        rw [List.getElem?_drop]
        by_cases hj : j < e - p
        · rw [List.getElem?_append_left (by simpa using hj), List.getElem?_replicate, if_pos hj, hs _ (by omega) (by omega)]
        · rw [List.getElem?_append_right (by simp; omega), List.getElem?_drop, List.length_replicate]
          congr 1; omega
      refine ⟨?_, ?_⟩
      · rw [hdr]
        obtain ⟨k, hk⟩ : ∃ k, e - p = k + 1 := ⟨e - p - 1, by omega⟩
        rw [hk, List.replicate_succ]
        exact ⟨_, rfl⟩
      · rw [hdr, drop_ones]
        unfold endOf at hE
        split at hE
        · rename_i h7
          have hlp : l.length - 1 < l.length := by omega
          have : l.drop e = [7] := by
            rw [← hE, List.drop_eq_getElem_cons hlp, List.drop_of_length_le (by omega)]
            rw [hr _ hlp, List.getD_eq_getElem?_getD, List.getElem?_eq_getElem hlp] at h7
            simp only [Option.getD_some] at h7
            have : l[l.length - 1] = 7 := by omega
            rw [this]
          rw [this]; exact .inr rfl
        · have : l.drop e = [] := List.drop_of_length_le (by omega)
          rw [this]; exact .inl rfl
end PPj
section PPk
theorem toInts_nth (ds : List Nat) (p : Nat) : nth (toInts ds) p = (ds.getD p 0 : Nat) := by
  unfold nth toInts
  rw [List.getD_eq_getElem?_getD, List.getD_eq_getElem?_getD, List.getElem?_map]
  cases ds[p]? <;> rfl
theorem join_codes (ds : List Nat) : (joinS (ds.map tol)).cps.toList = Rx.codes ds := by
  rw [joinS_cps, List.flatMap_map]; rfl
theorem front_wtT {ds : List Nat} (h5 : ds.length ≤ 5) (hd : ∀ d ∈ ds, d < 10) {k : Nat} (hk : k < ds.length) : front (toInts ds) (k + 1) = wtT (ds.map tol) k := by
  have e1 : (ds.map tol).take (k + 1) = (ds.take (k + 1)).map tol := by rw [List.map_take]
  have hl : (ds.take (k + 1)).length = k + 1 := by rw [List.length_take]; omega
  have hb : Rx.hdn (joinS ((ds.map tol).take (k + 1))).cps = isBound (toInts ds) (k + 1) := by
    rw [e1]
    have hs := joinS_size (ds.take (k + 1)) (by omega)
    have h1 := Rx.hdn_iff (t := (joinS ((ds.take (k + 1)).map tol)).cps) (by omega)
    rw [join_codes, Rx.HT_codes _ fun d q => hd d (List.mem_of_mem_take q)] at h1
    have h2 := HP_bound (l := ds.take (k + 1)) (r := toInts ds) fun p hp => by
      rw [toInts_nth, List.getD_eq_getElem?_getD, List.getD_eq_getElem?_getD, List.getElem?_take, if_pos (by omega)]
    rw [hl] at h2
    rw [Bool.eq_iff_iff]
    exact h1.trans h2
  have e4 : ds.getD k 0 < 10 := hd _ (by rw [List.getD_eq_getElem?_getD, List.getElem?_eq_getElem hk]; exact List.getElem_mem _)
  have e3 : cell0 (ds.map tol) k = tol (ds.getD k 0) := by simp [cell0, hk]
  unfold front wtT
  rw [hb, e3, wS_tol _ e4, Nat.add_sub_cancel, toInts_nth]
  rfl
theorem fronts_take {ds : List Nat} (h5 : ds.length ≤ 5) (hd : ∀ d ∈ ds, d < 10) {K : Nat} (hK : K ≤ ds.length) : ((fronts (toInts ds)).take K).sum = upTo (wtT (ds.map tol)) K := by
  have e : (fronts (toInts ds)).take K = (List.range K).map (wtT (ds.map tol)) := by
    unfold fronts
    rw [← List.map_take, List.take_range]
    have : min K (toInts ds).length = K := by unfold toInts; rw [List.length_map]; omega
    rw [this]
    exact List.map_congr_left fun k hk => front_wtT h5 hd (by have := List.mem_range.mp hk; omega)
  rw [e]; rfl
theorem pref_self : ∀ a : List Str, pref a a = a.length
  | [] => rfl
  | x :: xs => by unfold pref; rw [if_pos rfl, pref_self xs]; rfl
section
variable {rs : List (List Nat)} (hg : ∀ i, (rs.getD i []).length ≤ 5 ∧ ∀ d ∈ rs.getD i [], d < 10)
include hg
theorem common_g (k j : Nat) : commonL rs k j = gOf rs k j := by
  rw [gOf_G2 hg]
  unfold commonL frontsOf G2
  have e : alike [dueOf rs k, dueOf rs j] = pref (dueOf rs k) (dueOf rs j) := alike_two _ _ (by unfold dueOf; rw [List.length_map]; exact (hg k).1) (by unfold dueOf; rw [List.length_map]; exact (hg j).1)
  rw [e]
  exact fronts_take (hg k).1 (hg k).2 (by have := (pref_take (dueOf rs k) (dueOf rs j)).1; unfold dueOf at this ⊢; rw [List.length_map] at this; exact this)
theorem fronts_g (k : Nat) : (frontsOf rs k).sum = gOf rs k k := by
  rw [gOf_G2 hg]
  unfold G2
  rw [pref_self]
  have h := fronts_take (hg k).1 (hg k).2 (K := (rs.getD k []).length) (Nat.le_refl _)
  unfold frontsOf dueOf
  rw [List.length_map, ← h, List.take_of_length_le]
  unfold fronts toInts
  rw [List.length_map, List.length_range, List.length_map]
  exact Nat.le_refl _
theorem values_Vals : ∀ k, valuesL rs k = Vals (gOf rs) k
  | 0 => rfl
  | k + 1 => by
    unfold valuesL Vals
    rw [values_Vals k]
    congr 1
    refine List.map_congr_left fun m _ => ?_
    rw [fronts_g hg k]
    have : (commonL rs k) = gOf rs k := funext fun j => common_g hg k j
    rw [this]
/-- who takes one by one has the best of each size -/
theorem law_best (b : Nat) {bs : List Int} (hb : ∀ i, i < 5 → (∃ m, m < 32 ∧ (sizesL 5).getD m 0 = (i + 1 : Nat) ∧ (valuesL rs 5).getD m 0 = bs.getD i 0) ∧ ∀ m, m < 32 → (sizesL 5).getD m 0 = (i + 1 : Nat) → (valuesL rs 5).getD m 0 ≤ bs.getD i 0) :
    ∀ i, i < 5 → worthL (gOf rs) b 5 (i + 1) = bs.getD i 0 := fun i hi => by
  rw [values_Vals hg 5] at hb
  exact best_eq (gOf_comm hg) (gOf_ultra hg) b hi (hb i hi).1 (hb i hi).2
end
end PPk
section PLw
open PySem.SeqAt
section
variable {w : World} {A : Around} {E : Value → Shared → Prop} {s : Shared}
theorem eqs_same {vs us : List Value} {r : List Str} (h1 : StrsAre vs r) (h2 : StrsAre us r) (j : Nat) (g1 : j < vs.toArray.size) (g2 : j < us.toArray.size) : EqAt A s vs.toArray[j] us.toArray[j] true := by
  obtain ⟨t, e1⟩ := strs_item h1 g1
  obtain ⟨u, e2⟩ := strs_item h2 g2
  rw [e1, e2]
  have := EqAt.str_str (A := A) (s := s) (cell0 r j) t (cell0 r j) u
  rwa [beq_self_eq_true] at this
theorem all_true (n : Nat) : (List.range n).all (fun _ => true) = true := List.all_eq_true.mpr fun _ _ => rfl
theorem ne_same {l b : Addr} {vs us : List Value} {r : List Str} {Q : Value → Shared → Prop} (hl : s.heap.IsList l vs.toArray) (hb : s.heap.IsList b us.toArray) (h1 : StrsAre vs r) (h2 : StrsAre us r) (hu : A.units < cLine) (h : Q (.bool false) s) :
    wpAny (model P0 w) A (compareOp .NotEq (.ref l) (.ref b)) Q E s :=
  RcNeAt.lists (e := fun _ => true) hl hb (by rw [List.size_toArray, List.size_toArray, strs_len h1, strs_len h2]) hu (fun j g1 g2 => eqs_same h1 h2 j g1 g2) P0 w E Q (by rw [all_true]; exact h)
theorem eq_refs {l b : Addr} {vs us : List Value} {r : List Str} (hl : s.heap.IsList l vs.toArray) (hb : s.heap.IsList b us.toArray) (h1 : StrsAre vs r) (h2 : StrsAre us r) (hu : A.units < cLine) : EqAt A s (.ref l) (.ref b) true := by
  by_cases hlb : l = b
  · subst hlb; exact EqAt.same _
  · refine EqAt.of_refs hlb ?_
    have := RcAt.lists (e := fun _ => true) hl hb (by rw [List.size_toArray, List.size_toArray, strs_len h1, strs_len h2]) hu (fun j g1 g2 => eqs_same h1 h2 j g1 g2)
    rwa [all_true] at this
theorem ne_nested {l b : Addr} {vs us : List Value} {rows : List (List Str)} {Q : Value → Shared → Prop} (hl : s.heap.IsList l vs.toArray) (hb : s.heap.IsList b us.toArray) (h1 : Paired (IsSeqS false s.heap) rows vs) (h2 : Paired (IsSeqS false s.heap) rows us)
    (hu : A.units + 10 < cLine) (h : Q (.bool false) s) : wpAny (model P0 w) A (compareOp .NotEq (.ref l) (.ref b)) Q E s := by
  refine RcNeAt.lists (e := fun _ => true) hl hb (by rw [List.size_toArray, List.size_toArray, ← h1.length, ← h2.length]) (by omega) (fun j g1 g2 => ?_) P0 w E Q (by rw [all_true]; exact h)
  obtain ⟨r, e1, l1, v1, q1, q2, q3⟩ := paired_at h1 j vs.toArray[j] (by simp)
  obtain ⟨r', e2, l2, v2, q4, q5, q6⟩ := paired_at h2 j us.toArray[j] (by simp)
  rw [e1] at e2; cases e2
  rw [q1, q4]
  exact eq_refs q2 q5 q3 q6 (by show A.units + 1 < _; omega)
theorem eq_ints {l b : Addr} {vs us : List Value} {ns : List Int} {Q : Value → Shared → Prop} (hl : s.heap.IsList l vs.toArray) (hb : s.heap.IsList b us.toArray) (h1 : IntsAre vs ns) (h2 : IntsAre us ns) (hu : A.units < cLine) (h : Q (.bool true) s) :
    wpAny (model P0 w) A (compareOp .Eq (.ref l) (.ref b)) Q E s := by
  refine RcAt.lists (e := fun _ => true) hl hb (by rw [List.size_toArray, List.size_toArray, h1.length, h2.length]) hu (fun j g1 g2 => ?_) P0 w E Q (by rw [all_true]; exact h)
  obtain ⟨n, t, e1, q1⟩ := h1.at j vs.toArray[j] (by simp)
  obtain ⟨m, u, e2, q2⟩ := h2.at j us.toArray[j] (by simp)
  rw [q1] at q2; cases q2
  rw [e1, e2]
  have := EqAt.int_int (A := A.in1) (s := s) n t n u
  rwa [beq_self_eq_true] at this
end
theorem strs_paired {F : Nat → Str} {P : Nat → Value → Prop} (hP : ∀ i v, P i v → ∃ t, v = .str (F i) t) : ∀ {is : List Nat} {ys : List Value}, Paired P is ys → StrsAre ys (is.map F)
  | _, _, .nil => .nil
  | _, _, .cons h r => by
    obtain ⟨t, rfl⟩ := hP _ _ h
    exact .cons _ t (strs_paired hP r)
theorem clo_sp {env : Env} {c1 : Addr} (g1 : env.cells.lookup (Str.ofString "spelled") = some c1) : closureFor { kind := ScopeKind.function, names := [(Str.ofString ".0", NameKind.local), (Str.ofString "figure", NameKind.local), (Str.ofString "_law_great", NameKind.globalImplicit), (Str.ofString "spelled", NameKind.free)], isGenerator := false, isCoroutine := false } env = pure [(Str.ofString "spelled", c1)] := by
  have e : cellOf env (Str.ofString "spelled") = pure c1 := by unfold cellOf; rw [g1]
  unfold closureFor
  simp only [List.forIn_cons, List.forIn_nil, e]
  rfl
theorem clo_to {env : Env} {c1 : Addr} (g1 : env.cells.lookup (Str.ofString "told") = some c1) : closureFor { kind := ScopeKind.function, names := [(Str.ofString ".0", NameKind.local), (Str.ofString "figure", NameKind.local), (Str.ofString "told", NameKind.free)], isGenerator := false, isCoroutine := false } env = pure [(Str.ofString "told", c1)] := by
  have e : cellOf env (Str.ofString "told") = pure c1 := by unfold cellOf; rw [g1]
  unfold closureFor
  simp only [List.forIn_cons, List.forIn_nil, e]
  rfl
theorem rows_told (rs : List (List Nat)) : (List.range rs.length).map (fun i => (rs.getD i []).map tol) = rs.map (·.map tol) := by
  apply List.ext_getElem
  · simp
  · intro i h1 h2
    simp at h1 h2
    simp [h1]
theorem row_told (ds : List Nat) (f : Nat → Str) : (List.range ds.length).map (fun j => f (ds.getD j 0)) = ds.map f := by
  apply List.ext_getElem
  · simp
  · intro i h1 h2
    simp at h1 h2
    simp [h1]
theorem digit_of {ds : List Nat} {rv : List Value} (h : IntsAre rv (toInts ds)) {j : Nat} {v : Value} (e : rv[j]? = some v) : ∃ t, v = .int (ds.getD j 0 : Nat) t := by
  obtain ⟨n, t, rfl, hn⟩ := h.at j v e
  unfold toInts at hn
  rw [List.getElem?_map] at hn
  cases q : ds[j]? with
  | none => rw [q] at hn; cases hn
  | some d =>
    rw [q] at hn
    cases hn
    exact ⟨t, by rw [List.getD_eq_getElem?_getD, q]; rfl⟩
/-- expressions that are written texts -/
inductive AreStrs : List Expr → List Str → Prop
  | nil : AreStrs [] []
  | cons {x : Str} {k : Nat} {p : Pos} {es : List Expr} {xs : List Str} : AreStrs es xs → AreStrs (.Constant (.str x) k p :: es) (x :: xs)
theorem args_strs {w : World} {A : Around} {E : Value → Shared → Prop} {env : Env} {pos : Pos} : ∀ {es : List Expr} {xs : List Str}, AreStrs es xs → ∀ {s : Shared} {Q : List Value → Shared → Prop}, (∀ vs tk, StrsAre vs xs → Q vs { s with toks := tk }) →
    wpAny (model P0 w) A (spliced (backTo pos (starEach es env))) Q E s
  | _, _, .nil, s, Q, h => args_nil (h [] s.toks .nil)
  | _, _, .cons r, s, Q, h => args_cons (Constant_str (args_strs r fun vs tk hv => h (.str _ _ :: vs) tk (.cons _ _ hv))) rfl
theorem spl10 : (List.range 10).map spl = [Str.ofString ".", Str.ofString "90", Str.ofString "%2a", Str.ofString "%2A", Str.ofString "%3c", Str.ofString "%cF", Str.ofString "%g7a", Str.ofString "\n", Str.ofString "%7e", Str.ofString "٣"] := by
  simp only [List.range, List.range.loop, List.map_cons, List.map_nil, spl]
theorem tol10 : (List.range 10).map tol = [Str.ofString ".", Str.ofString "90", Str.ofString "%2A", Str.ofString "%2A", Str.ofString "%3C", Str.ofString "%CF", Str.ofString "%g7a", Str.ofString "\n", Str.ofString "%7E", Str.ofString "٣"] := by
  simp only [List.range, List.range.loop, List.map_cons, List.map_nil, tol]
end PLw
section PLa
open PySem.SeqAt
section
variable {w : World} {A : Around} {E : Value → Shared → Prop} {s : Shared}
theorem toNats {r : List Int} (h : GoodRow r) : toInts (r.map Int.toNat) = r := by
  unfold toInts
  rw [List.map_map]
  refine (List.map_congr_left (g := id) fun x hx => ?_).trans (List.map_id r)
  have := (h.2 x hx).1
  show ((x.toNat : Nat) : Int) = x
  omega
theorem c_law (T : TopAt w s.heap) (R : Room A 8) {l : Addr} {vs : List Value} {ns : List Int} (hl : s.heap.IsList l vs.toArray) (hi : IntsAre vs ns) (hn : ns.length ≤ 63) :
    wpAny (model P0 w) A (call (.ref 205) [.ref l]) (fun v s' => Keeps s s' ∧ v = .bool true) E s := by
  have ho := Eq.refl ((Mine.K0 w.params).lookup 205)
  conv at ho => rhs; whnf
  conv at ho => rhs; pattern (paOf _); whnf
  conv at ho => rhs; pattern (boOf _); whnf
  conv at ho => rhs; pattern (scOf _); whnf
  refine enterC (f := 205) (k := 7) (binds := [(Str.ofString "script", .ref l)]) T R ho (by k_is) rfl rfl (by decide) (fun L h₁ tk hL a R' => ?_)
  have hcell : ∀ k : Nat, s.heap.get? (L + k) = none := fun k => none_ge (by rw [hL]; exact Nat.le_add_right _ _)
  -- cells
  refine xs_asg (Call_ ?_)
  walk_at "nm"
  walk_at "cw"
  refine args_cons ?_ rfl
  walk_at "nm"
  refine args_nil ?_
  refine ⟨a.top.keeps a.keep, by_con (fun E => c_cells (a.top.keeps a.keep) (R'.mono (by decide)) (hl.at fun o e => a.keep _ _ e) hi hn) ?_⟩
  rintro v s₂ ⟨k₂, CA, cv, cs, rfl, hCA, hCi, hC5, hCb⟩
  have kp2 := keeps_kp k₂
  obtain ⟨h₂, tk₂, rfl, _⟩ := k₂
  try dsimp only at kp2 hCA ⊢
  have a₂ := a.grow kp2
  walk_at "st"
  intro h₃ tk₃ a₃ k₃
  try dsimp only
  have e₃ := off_seq a₂ k₃
  have hCA₃ := e₃.list hCA
  -- rows
  refine xs_asg (Call_ ?_)
  walk_at "nm"
  walk_at "cw"
  refine args_cons ?_ rfl
  walk_at "nm"
  refine args_nil ?_
  refine ⟨a₃.top.keeps a₃.keep, by_con (fun E => c_rows (a₃.top.keeps a₃.keep) (R'.mono (by decide)) hCA₃ hCi hC5 hCb) ?_⟩
  rintro v s₄ ⟨k₄, RA, rv, rows, rfl, hRA, hRp, hR5, hRg⟩
  have kp4 := keeps_kp k₄
  obtain ⟨h₄, tk₄, rfl, _⟩ := k₄
  try dsimp only at kp4 hRA hRp ⊢
  have a₄ := a₃.grow kp4
  walk_at "st"
  intro h₅ tk₅ a₅ k₅
  try dsimp only
  have e₅ := off_seq a₄ k₅
  have e45 : KpS h₄ h₅ := e₅
  obtain ⟨rs, hrs⟩ : ∃ rs : List (List Nat), rs = rows.map (·.map Int.toNat) := ⟨_, rfl⟩
  have hrows : rs.map toInts = rows := by
    rw [hrs, List.map_map]
    refine (List.map_congr_left (g := id) fun r hr => ?_).trans (List.map_id rows)
    exact toNats (hRg r hr)
  have hn5 : rs.length = 5 := by rw [hrs, List.length_map, hR5]
  have hg : ∀ r ∈ rs, r.length ≤ 5 ∧ ∀ d ∈ r, d < 10 := fun r hr => by
    rw [hrs] at hr
    obtain ⟨q, hq, rfl⟩ := List.mem_map.mp hr
    refine ⟨by rw [List.length_map]; exact (hRg q hq).1, fun d hd => ?_⟩
    obtain ⟨x, hx, rfl⟩ := List.mem_map.mp hd
    have := (hRg q hq).2 x hx
    omega
  have hri5 : ∀ i, (rs.getD i []).length ≤ 5 ∧ ∀ d ∈ rs.getD i [], d < 10 := fun i => by
    rw [List.getD_eq_getElem?_getD]
    cases e : rs[i]? with
    | none => simp
    | some r => exact hg r (List.mem_of_getElem? e)
  have hRA₅ : h₅.IsList RA (List.toArray rv) := e₅.list hRA
  have hRp₅ : Paired (IsIs h₅) (rs.map toInts) rv := by
    rw [hrows]
    exact hRp.mono fun r v x => let ⟨l, vs, e, _, hl, hi⟩ := x; ⟨l, vs, e, e₅.list hl, hi⟩
  have hrvl : rv.length = 5 := by rw [← hRp.length, hR5]
  -- spelled
  refine xs_asg ?_
  refine List_ ?_
  refine args_strs (xs := [Str.ofString ".", Str.ofString "90", Str.ofString "%2a", Str.ofString "%2A", Str.ofString "%3c", Str.ofString "%cF", Str.ofString "%g7a", Str.ofString "\n", Str.ofString "%7e", Str.ofString "٣"]) ?_ (fun sp tkS hsp => ?_)
  · exact .cons (.cons (.cons (.cons (.cons (.cons (.cons (.cons (.cons (.cons .nil)))))))))
  rw [← spl10] at hsp
  refine mk_list (by rw [strs_len hsp]; simp) (fun SP h₆ hSP k₆ fSP => ?_)
  try dsimp only
  have hSP := hSP.isList
  have a₆ := a₅.grow k₆
  refine st_cell a₆ rfl (c := L + 1) rfl (hcell 1) (fun h₇ tk₇ a₇ k₇ => ?_)
  try dsimp only
  have e₇ := off_cell (x := Str.ofString "spelled") (c := L + 1) a₆ rfl rfl k₇
  -- told
  refine xs_asg ?_
  refine List_ ?_
  refine args_strs (xs := [Str.ofString ".", Str.ofString "90", Str.ofString "%2A", Str.ofString "%2A", Str.ofString "%3C", Str.ofString "%CF", Str.ofString "%g7a", Str.ofString "\n", Str.ofString "%7E", Str.ofString "٣"]) ?_ (fun to tkT hto => ?_)
  · exact .cons (.cons (.cons (.cons (.cons (.cons (.cons (.cons (.cons (.cons .nil)))))))))
  rw [← tol10] at hto
  refine mk_list (by rw [strs_len hto]; simp) (fun TO h₈ hTO k₈ fTO => ?_)
  try dsimp only
  have hTO := hTO.isList
  have a₈ := a₇.grow k₈
  refine st_cell a₈ rfl (c := L + 2) rfl (hcell 2) (fun h₉ tk₉ a₉ k₉ => ?_)
  try dsimp only
  have e₉ := off_cell (x := Str.ofString "told") (c := L + 2) a₈ rfl rfl k₉
  have e59 : KpS h₅ h₉ := (k₆.s.trans e₇).trans (k₈.s.trans e₉)
  have hSP₉ : h₉.IsList SP (List.toArray sp) := e₉.list ((e₇.list hSP).at fun o e => k₈ _ _ e)
  have hTO₉ : h₉.IsList TO (List.toArray to) := e₉.list hTO
  have hRA₉ := e59.list hRA₅
  have hRp₉ := hRp₅.mono fun _ _ x => IsIs.move x e59
  have e39 : KpS h₃ h₉ := (kp4.s.trans e₅).trans e59
  have hCA₉ := e39.list hCA₃
  have rowA : ∀ i v, rv[i]? = some v → ∃ lr lv, v = .ref lr ∧ h₉.IsList lr (List.toArray lv) ∧ IntsAre lv (toInts (rs.getD i [])) := fun i v hv => by
    obtain ⟨r, hri, lr, lv, rfl, hlr, hir⟩ := paired_at hRp₉ i v hv
    have er : r = toInts (rs.getD i []) := by
      rw [List.getElem?_map] at hri
      cases q : rs[i]? with
      | none => rw [q] at hri; cases hri
      | some d => rw [q] at hri; cases hri; rw [List.getD_eq_getElem?_getD, q]; rfl
    subst er
    exact ⟨lr, lv, rfl, hlr, hir⟩
  have dig : ∀ i j, (rs.getD i []).getD j 0 < 10 := fun i j => by
    rw [List.getD_eq_getElem?_getD (i := j)]
    cases q : (rs.getD i [])[j]? with
    | none => simp
    | some d => exact (hri5 i).2 d (List.mem_of_getElem? q)
  have spAt : ∀ d, d < 10 → ∃ t, sp[d]? = some (.str (spl d) t) := fun d hd => by
    obtain ⟨t, e⟩ := strs_at hsp (k := d) (by simpa using hd)
    exact ⟨t, by rw [e]; simp [cell0, hd]⟩
  have toAt : ∀ d, d < 10 → ∃ t, to[d]? = some (.str (tol d) t) := fun d hd => by
    obtain ⟨t, e⟩ := strs_at hto (k := d) (by simpa using hd)
    exact ⟨t, by rw [e]; simp [cell0, hd]⟩
  -- names
  refine xs_one (comp_assign a₉ rfl rfl (by walk_at "static") (n := rv.length) (by rw [sizeLine_eq]; omega) (fun _ => true)
    (fun i y o => ∃ x tv n, o = some { cls := .type "list", data := .seq (List.toArray tv) n } ∧ y = x ∧ StrsAre tv ((rs.getD i []).map tol)) (P := fun i v => rv[i]? = some v) (src := [RA]) ?_ (fun _ _ _ _ _ _ _ _ _ _ _ => test_none) ?_ (fun NA nv0 h₁₀ tk₁₀ a₁₀ k₁₀ fNA hNA hNp => ?_))
  · walk_at "nm"
    exact ⟨keeps_rfl, by simpa using iters_list R'.h hRA₉⟩
  · intro C cs' B₂ i v s₁₁ E' kB hi' hv _ a₁₁
    obtain ⟨lr, lv, rfl, hlr, hir⟩ := rowA i v hv
    obtain ⟨c1, g1, _⟩ := a₁₁.cel (Str.ofString "spelled") (.inl rfl)
    have hll : lv.length = (rs.getD i []).length := by rw [hir.length]; unfold toInts; rw [List.length_map]
    refine wpAny_mono (comp_eval a₁₁ (cl := [(Str.ofString "spelled", c1)]) (Static.of (clo_sp g1) rfl (by decide) (by decide) (by decide) ?_ (.cons rfl .nil) (.loc rfl (by decide))) (n := lv.length) (by rw [sizeLine_eq]; have := (hri5 i).1; omega) (fun _ => true)
      (fun j y o => o = none ∧ ∃ t, y = .str (tol ((rs.getD i []).getD j 0)) t) (P := fun j v => lv[j]? = some v) (src := [lr]) ?_ (fun _ _ _ _ _ _ _ _ _ _ _ => test_none) ?_) (fun v s₁₃ q => ?_) fun _ _ e => e
    · exact .cons (fun e => absurd e (by decide)) (.cons (fun e => absurd e (by decide)) (.cons (fun e => absurd e (by decide)) (.cons (fun e => ⟨.inl rfl, g1.symm, by decide⟩) .nil)))
    · walk_at "nm"
      exact ⟨keeps_rfl, by simpa using iters_list R'.h (hlr.at fun o e => a₁₁.keep _ _ (kB _ _ e))⟩
    · intro C2 cs2 B₃ j v' s₁₂ E2 kB2 hj hv' _ a₁₂
      obtain ⟨td, rfl⟩ := digit_of hir hv'
      obtain ⟨ts, ets⟩ := spAt _ (dig i j)
      refine Call_ ?_
      walk_at "nm"
      walk_at "cw"
      refine args_cons (Subscript_ ?_) rfl
      walk_at "nm"
      walk_at "nm"
      refine tl_list (hSP₉.at fun o e => a₁₂.keep _ _ (kB2 _ _ (a₁₁.keep _ _ (kB _ _ e)))) (by omega) (by have := dig i j; omega) (x := .str (spl ((rs.getD i []).getD j 0)) ts) (by rw [List.getElem?_toArray]; exact ets) ?_
      refine args_nil ?_
      refine ⟨a₁₂.top.keeps a₁₂.keep, by_con (fun E => c_great (a₁₂.top.keeps a₁₂.keep) (R'.mono (by decide)) _ (dig i j) ts) ?_⟩
      rintro u s₁₄ ⟨k₁₄, t14, rfl⟩
      exact ⟨k₁₄, .inl ⟨rfl, t14, rfl⟩⟩
    · obtain ⟨kq, Z, zv, rfl, fZ, ⟨nz, eZ⟩, hpz⟩ := q
      rw [filter_true] at hpz
      have hI := strs_paired (F := fun j => tol ((rs.getD i []).getD j 0)) (fun j v x => elem_none (f := fun j v => ∃ t, v = .str (tol ((rs.getD i []).getD j 0)) t) x) hpz
      rw [hll, row_told] at hI
      exact ⟨kq, .inr ⟨Z, _, rfl, fZ, eZ, _, zv.toList, nz, rfl, rfl, hI⟩⟩
  rw [filter_true] at hNp
  have hN1 := elems_of (G := fun h r v => IsSeqS false h r v) (f := fun i => (rs.getD i []).map tol) (fun i y T o e1 e2 ⟨x, tv, n, e3, e4, e5⟩ => by
    cases e3
    exact ⟨T, tv, e1, ⟨_, e2, rfl, n, rfl⟩, e5⟩) (fun i y h => by obtain ⟨x, tv, n, e3, _⟩ := h; cases e3) hNp
  rw [hrvl, ← hn5, rows_told] at hN1
  clear hNp
  have e₁₀ := off_seq a₉ k₁₀
  try dsimp only
  refine Nx.go ?_
  have hTO₁₀ := e₁₀.list hTO₉
  have hRA₁₀ := e₁₀.list hRA₉
  -- due
  refine xs_one (comp_assign a₁₀ rfl rfl (by walk_at "static") (n := rv.length) (by rw [sizeLine_eq]; omega) (fun _ => true)
    (fun i y o => ∃ x tv n, o = some { cls := .type "list", data := .seq (List.toArray tv) n } ∧ y = x ∧ StrsAre tv ((rs.getD i []).map tol)) (P := fun i v => rv[i]? = some v) (src := [RA]) ?_ (fun _ _ _ _ _ _ _ _ _ _ _ => test_none) ?_ (fun UA uv0 h₂₀ tk₂₀ a₂₀ k₂₀ fUA hUA hUp => ?_))
  · walk_at "nm"
    exact ⟨keeps_rfl, by simpa using iters_list R'.h hRA₁₀⟩
  · intro C cs' B₂ i v s₁₁ E' kB hi' hv _ a₁₁
    obtain ⟨lr, lv, rfl, hlr, hir⟩ := rowA i v hv
    obtain ⟨c1, g1, _⟩ := a₁₁.cel (Str.ofString "told") (.inl rfl)
    have hll : lv.length = (rs.getD i []).length := by rw [hir.length]; unfold toInts; rw [List.length_map]
    refine wpAny_mono (comp_eval a₁₁ (cl := [(Str.ofString "told", c1)]) (Static.of (clo_to g1) rfl (by decide) (by decide) (by decide) ?_ (.cons rfl .nil) (.loc rfl (by decide))) (n := lv.length) (by rw [sizeLine_eq]; have := (hri5 i).1; omega) (fun _ => true)
      (fun j y o => o = none ∧ ∃ t, y = .str (tol ((rs.getD i []).getD j 0)) t) (P := fun j v => lv[j]? = some v) (src := [lr]) ?_ (fun _ _ _ _ _ _ _ _ _ _ _ => test_none) ?_) (fun v s₁₃ q => ?_) fun _ _ e => e
    · exact .cons (fun e => absurd e (by decide)) (.cons (fun e => absurd e (by decide)) (.cons (fun e => ⟨.inl rfl, g1.symm, by decide⟩) .nil))
    · walk_at "nm"
      exact ⟨keeps_rfl, by simpa using iters_list R'.h ((e₁₀.list hlr).at fun o e => a₁₁.keep _ _ (kB _ _ e))⟩
    · intro C2 cs2 B₃ j v' s₁₂ E2 kB2 hj hv' _ a₁₂
      obtain ⟨td, rfl⟩ := digit_of hir hv'
      obtain ⟨ts, ets⟩ := toAt _ (dig i j)
      refine Subscript_ ?_
      walk_at "nm"
      walk_at "nm"
      refine tl_list (hTO₁₀.at fun o e => a₁₂.keep _ _ (kB2 _ _ (a₁₁.keep _ _ (kB _ _ e)))) (by omega) (by have := dig i j; omega) (x := .str (tol ((rs.getD i []).getD j 0)) ts) (by rw [List.getElem?_toArray]; exact ets) ?_
      exact ⟨keeps_rfl, .inl ⟨rfl, ts, rfl⟩⟩
    · obtain ⟨kq, Z, zv, rfl, fZ, ⟨nz, eZ⟩, hpz⟩ := q
      rw [filter_true] at hpz
      have hI := strs_paired (F := fun j => tol ((rs.getD i []).getD j 0)) (fun j v x => elem_none (f := fun j v => ∃ t, v = .str (tol ((rs.getD i []).getD j 0)) t) x) hpz
      rw [hll, row_told] at hI
      exact ⟨kq, .inr ⟨Z, _, rfl, fZ, eZ, _, zv.toList, nz, rfl, rfl, hI⟩⟩
  rw [filter_true] at hUp
  have hU1 := elems_of (G := fun h r v => IsSeqS false h r v) (f := fun i => (rs.getD i []).map tol) (fun i y T o e1 e2 ⟨x, tv, n, e3, e4, e5⟩ => by
    cases e3
    exact ⟨T, tv, e1, ⟨_, e2, rfl, n, rfl⟩, e5⟩) (fun i y h => by obtain ⟨x, tv, n, e3, _⟩ := h; cases e3) hUp
  rw [hrvl, ← hn5, rows_told] at hU1
  clear hUp
  have e₂₀ := off_seq a₁₀ k₂₀
  try dsimp only
  refine Nx.go ?_
  have hNp := hN1.mono fun _ _ x => IsSeqS.move x e₂₀
  have hNA₂₀ : h₂₀.IsList NA (List.toArray nv0.toList) := e₂₀.list (by simpa using hNA.isList)
  have hUA₂₀ : h₂₀.IsList UA (List.toArray uv0.toList) := by simpa using hUA.isList
  have e920 : KpS h₉ h₂₀ := e₁₀.trans e₂₀
  have hRA₂₀ := e920.list hRA₉
  have hRp₂₀ := hRp₉.mono fun _ _ x => IsIs.move x e920
  have hCA₂₀ := e920.list hCA₉
  generalize nv0.toList = nv at hNA₂₀ hNp
  generalize uv0.toList = uv at hUA₂₀ hU1
  clear hN1 hNA hUA hRp₉ hRA₉ hCA₉ hRp₅ hRA₅ hRp hRA
  have hrne : rs.map (·.map tol) ≠ [] := fun q => by
    have := congrArg List.length q
    rw [List.length_map, hn5] at this
    exact absurd this (by decide)
  have hr100 : (rs.map (·.map tol)).length ≤ 100 := by rw [List.length_map, hn5]; decide
  have hr5 : ∀ r ∈ rs.map (·.map tol), r.length ≤ 5 := fun r hr => by
    obtain ⟨q, hq, rfl⟩ := List.mem_map.mp hr
    rw [List.length_map]; exact (hg q hq).1
  have T₂₀ := a₂₀.top.keeps a₂₀.keep
  -- commonprefix(names) != due[0][:_law_alike(due)]
  refine xs_if ?_
  refine wpAny_isTrue_BoolOp ?_
  refine wpAny_allTrue_Or_cons ?_
  refine wpAny_isTrue_Compare1 ?_
  refine Call_ ?_
  walk_at "nm"
  walk_at "cw"
  refine args_cons ?_ rfl
  walk_at "nm"
  refine args_nil ?_
  refine ⟨T₂₀, by_con (fun E => c_prefix (tp := false) T₂₀ (R'.mono (by decide)) hNA₂₀ hNp hrne hr100 hr5) ?_⟩
  rintro v s₂₁ ⟨k₂₁, PL, pv, rfl, hPL, hpv⟩
  have kp21 := keeps_kp k₂₁
  obtain ⟨h₂₁, tk₂₁, rfl, _⟩ := k₂₁
  try dsimp only at kp21 hPL ⊢
  have a₂₁ := a₂₀.grow kp21
  have T₂₁ := T₂₀.keeps kp21
  have hUA₂₁ : h₂₁.IsList UA (List.toArray uv) := hUA₂₀.at fun o e => kp21 _ _ e
  have hU₂₁ := hU1.mono fun _ _ x => IsSeqS.move x kp21.s
  obtain ⟨u0, hu0, lu, uv0, rfl, hlu, hiu⟩ := paired_to hU₂₁ 0 ((rs.map (·.map tol)).headD []) (by
    cases q : rs.map (·.map tol) with
    | nil => exact absurd q hrne
    | cons _ _ => rfl)
  refine sl_list ?_
  refine Subscript_ ?_
  walk_at "nm"
  walk_at "k"
  refine tl_list hUA₂₁ (by decide) (by decide) (x := .ref lu) (by rw [List.getElem?_toArray]; exact hu0) ?_
  refine evalPart_none_step (evalPart_some_step ?_)
  refine Call_ ?_
  walk_at "nm"
  walk_at "cw"
  refine args_cons ?_ rfl
  walk_at "nm"
  refine args_nil ?_
  try dsimp only
  refine ⟨T₂₁, by_con (fun E => c_alike T₂₁ (R'.mono (by decide)) hUA₂₁ (hU₂₁.mono fun _ _ x => x) hrne hr100 hr5) ?_⟩
  rintro u s₂₂ ⟨k₂₂, t22, rfl⟩
  have kp22 := keeps_kp k₂₂
  obtain ⟨h₂₂, tk₂₂, rfl, _⟩ := k₂₂
  try dsimp only at kp22 ⊢
  have hul : uv0.length ≤ 5 := by
    rw [strs_len hiu]
    refine hr5 _ ?_
    cases q : rs.map (·.map tol) with
    | nil => exact absurd q hrne
    | cons r _ => exact List.mem_cons_self ..
  refine ⟨lu, List.toArray uv0, none, some ((alike (rs.map (·.map tol)) : Nat) : Int), rfl, Heap.IsList.at (show h₂₁.IsList lu _ from hlu) fun o e => kp22 _ _ e, by rw [List.size_toArray, sizeLine_eq]; omega, .none, .int _ _, fun Y h₂₃ fY k₂₃ hY => ?_⟩
  rw [slicePick_upto'] at hY
  try dsimp only at k₂₃
  try dsimp only
  have k2023 : Kp h₂₀ h₂₃ := (kp21.trans kp22).trans k₂₃
  refine ne_same (l := PL) (b := Y) (vs := pv) (us := uv0.take (alike (rs.map (·.map tol)))) (r := ((rs.map (·.map tol)).headD []).take (alike (rs.map (·.map tol)))) (Heap.IsList.at (show h₂₁.IsList PL _ from hPL) fun o e => k₂₃ _ _ (kp22 _ _ e)) (by simpa using hY.isList) hpv (strs_take hiu _) (by have := R'.u; show _ < 9900; omega) ?_
  walk_at "k"
  simp only [Bool.false_eq_true, if_false]
  -- names != due
  have a₂₃ := a₂₀.grow k2023
  refine wpAny_allTrue_Or_cons ?_
  refine wpAny_isTrue_Compare1 ?_
  walk_at "nm"
  walk_at "nm"
  refine ne_nested (hNA₂₀.at fun o e => k2023 _ _ e) (hUA₂₀.at fun o e => k2023 _ _ e) (hNp.mono fun _ _ x => IsSeqS.move x k2023.s) (hU1.mono fun _ _ x => IsSeqS.move x k2023.s) (by have := R'.u; show _ + 10 < 9900; omega) ?_
  walk_at "k"
  simp only [Bool.false_eq_true, if_false]
  -- commonprefix([]) != ''
  refine wpAny_allTrue_Or_cons ?_
  refine wpAny_isTrue_Compare1 ?_
  refine Call_ ?_
  walk_at "nm"
  walk_at "cw"
  refine args_cons ?_ rfl
  refine List_ ?_
  refine args_nil ?_
  refine mk_list (by simp) (fun X h₂₄ hX k₂₄ fX => ?_)
  refine args_nil ?_
  try dsimp only
  have T₂₄ := (T₂₁.keeps kp22).keeps (k₂₃.trans k₂₄)
  refine ⟨T₂₄, by_con (fun E => c_prefix0 T₂₄ (R'.mono (by decide)) hX.isList) ?_⟩
  rintro v s₂₅ ⟨k₂₅, t25, rfl⟩
  have kp25 := keeps_kp k₂₅
  obtain ⟨h₂₅, tk₂₅, rfl, _⟩ := k₂₅
  try dsimp only at kp25 ⊢
  walk_at "k"
  iterate 2 walk_at "k"
  simp only [bne_self_eq_false, Bool.false_eq_true, if_false]
  refine wpAny_allTrue_Or_nil ?_
  simp only [Bool.false_eq_true, if_false]
  refine xs_nil (Nx.go ?_)
  -- the last line
  have k2025 : Kp h₂₀ h₂₅ := k2023.trans (k₂₄.trans kp25)
  have a₂₅ := a₂₀.grow k2025
  have T₂₅ := T₂₄.keeps kp25
  clear a₂₃ a₂₁ T₂₁ T₂₄
  refine xs_ret ?_
  refine wpAny_Compare1 ?_
  refine Call_ ?_
  walk_at "nm"
  walk_at "cw"
  refine args_cons ?_ rfl
  walk_at "nm"
  refine args_cons ?_ rfl
  refine wpAny_BinOp ?_
  refine Call_ ?_
  walk_at "nm"
  refine PyProof.Rows.callWith_builtin1 (args_cons ?_ rfl) rfl
  walk_at "nm"
  refine args_nil ?_
  refine sum_intl R'.h (hCA₂₀.at fun o e => k2025 _ _ e) hCi (fun h₂₆ tk₂₆ t26 k₂₆ => ?_)
  try dsimp only
  walk_at "k"
  refine mod_int' (by decide) ?_
  refine args_nil ?_
  try dsimp only
  obtain ⟨b, hb, hb5⟩ : ∃ b : Nat, cs.sum.fmod 5 = (b : Int) ∧ b < 5 := by
    have h1 := Int.fmod_nonneg_of_pos cs.sum (show (0 : Int) < 5 by decide)
    have h2 := Int.fmod_lt_of_pos cs.sum (show (0 : Int) < 5 by decide)
    exact ⟨(cs.sum.fmod 5).toNat, by omega, by omega⟩
  have T₂₆ := T₂₅.keeps k₂₆
  have k2026 : Kp h₂₀ h₂₆ := k2025.trans k₂₆
  rw [hb]
  have hsome : ∀ i, i < rs.length → (scan (gOf rs) b rs.length (takenL (gOf rs) b rs.length i) rs.length).1 ≠ none := fun i hi => scan_some (gOf rs) b rs.length (by rw [takenL_len]; exact hi)
  refine ⟨T₂₆, by_con (fun E => c_taken T₂₆ (R'.mono (by decide)) (hNA₂₀.at fun o e => k2026 _ _ e) (hNp.mono fun _ _ x => IsSeqS.move x k2026.s) (by omega) (by omega) hg hsome) ?_⟩
  rintro v s₂₇ ⟨k₂₇, W, wv, rfl, hW, hWi⟩
  have kp27 := keeps_kp k₂₇
  obtain ⟨h₂₇, tk₂₇, rfl, _⟩ := k₂₇
  try dsimp only at kp27 hW ⊢
  have T₂₇ := T₂₆.keeps kp27
  have k2027 : Kp h₂₀ h₂₇ := k2026.trans kp27
  have a₂₇ := a₂₀.grow k2027
  refine Call_ ?_
  walk_at "nm"
  walk_at "cw"
  refine args_cons ?_ rfl
  walk_at "nm"
  refine args_cons ?_ rfl
  walk_at "nm"
  refine args_nil ?_
  refine ⟨T₂₇, by_con (fun E => c_best T₂₇ (R'.mono (by decide)) (hRA₂₀.at fun o e => k2027 _ _ e) (hRp₂₀.mono fun _ _ x => IsIs.move x k2027.s) (hUA₂₀.at fun o e => k2027 _ _ e) (hU1.mono fun _ _ x => IsSeqS.move x k2027.s) hn5 hg) ?_⟩
  rintro v s₂₈ ⟨k₂₈, V, vv, bs, rfl, hV, hVi, hb5', hbest⟩
  have kp28 := keeps_kp k₂₈
  obtain ⟨h₂₈, tk₂₈, rfl, _⟩ := k₂₈
  try dsimp only at kp28 hV ⊢
  have hlaw := law_best hri5 b hbest
  have hsame : (List.range rs.length).map (fun i => worthL (gOf rs) b rs.length (i + 1)) = bs := by
    rw [hn5]
    refine List.ext_getElem (by simp [hb5']) fun i h1 h2 => ?_
    have hi5 : i < 5 := by simpa using h1
    rw [List.getElem_map, List.getElem_range, hlaw i hi5, List.getD_eq_getElem?_getD, List.getElem?_eq_getElem h2]
    rfl
  rw [hsame] at hWi
  refine eq_ints (Heap.IsList.at (show h₂₇.IsList W _ from hW) fun o e => kp28 _ _ e) hV hWi hVi (by have := R'.u; show _ < 9900; omega) ?_
  exact ⟨keeps_of (Kp.trans a₂₇.keep kp28), rfl⟩
end
end PLa
section PFi
-- These names are taken by nothing so that the kit lays no quick twins under Mine.hd (they made the compiled file larger than its lid): the kernel checks the head without them.
theorem hd.tw11754176132448286083 : True := trivial
theorem hd.tw15153279154761372571 : True := trivial
theorem hd.tw3039998526598829958 : True := trivial
theorem hd.tw2657338227538289237 : True := trivial
theorem hd.tw12109968657666201070 : True := trivial
theorem hd.tw3650960628870763488 : True := trivial
theorem hd.tw4551032450796863993 : True := trivial
theorem hd.tw3418944747029953165 : True := trivial
theorem hd.tw7022753741928958675 : True := trivial
theorem hd.tw17157681369570327122 : True := trivial
theorem hd.tw11631947586910100387 : True := trivial
theorem hd.tw18362790893298522503 : True := trivial
theorem hd.tw9386895884608548742 : True := trivial
theorem hd.tw11652457597714270106 : True := trivial
theorem hd.tw8674980644004459391 : True := trivial
theorem hd.tw16598086639473574507 : True := trivial
theorem hd.tw12583169130044498743 : True := trivial
theorem hd.tw1382963296337349011 : True := trivial
theorem hd.tw10424393626065333798 : True := trivial
theorem hd.tw1439246655266547700 : True := trivial
theorem hd.tw3452082135128663414 : True := trivial
theorem hd.tw14705683404202351889 : True := trivial
theorem hd.tw16904818350239718627 : True := trivial
theorem hd.tw5343241284826551009 : True := trivial
theorem hd.tw5190246844813560578 : True := trivial
theorem hd.tw9277588360372424766 : True := trivial
theorem hd.tw4086058157674990017 : True := trivial
theorem hd.tw2276098100821748038 : True := trivial
theorem hd.tw7515886511687920896 : True := trivial
theorem hd.tw6819123309680001836 : True := trivial
theorem hd.tw921402611603131450 : True := trivial
theorem hd.tw1129884963351977449 : True := trivial
theorem hd.tw15527848837575444561 : True := trivial
theorem hd.tw6291416237084387574 : True := trivial
theorem hd.tw6598312636042714100 : True := trivial
theorem hd.tw16477043939570097188 : True := trivial
theorem hd.tw7914949630228597729 : True := trivial
theorem hd.tw16970440968685349367 : True := trivial
theorem hd.tw15833661619300960221 : True := trivial
theorem hd.tw14353793391729792155 : True := trivial
theorem hd.tw2101469004524951375 : True := trivial
theorem hd.tw8716120427605611371 : True := trivial
theorem hd.tw1673930711015175961 : True := trivial
theorem hd.tw5961118342813265553 : True := trivial
theorem hd.tw6123773746684550334 : True := trivial
theorem hd.tw7762615721169606023 : True := trivial
theorem hd.tw12949589719889679912 : True := trivial
theorem hd.tw12936449754285732098 : True := trivial
theorem hd.tw10957212852122400357 : True := trivial
theorem hd.tw4706079058837389440 : True := trivial
theorem hd.tw1097998534492414930 : True := trivial
theorem hd.tw15411387601460861337 : True := trivial
theorem hd.tw16007149819294483003 : True := trivial
theorem hd.tw11117797201346649052 : True := trivial
theorem hd.tw7028611270464810887 : True := trivial
theorem hd.tw15416985209724490359 : True := trivial
theorem hd.tw10784824025267889561 : True := trivial
theorem hd.tw10111801491309104144 : True := trivial
theorem hd.tw17714235663813219645 : True := trivial
theorem hd.tw14530927132654537054 : True := trivial
theorem hd.tw2012604805713927918 : True := trivial
theorem hd.tw13828106393651249627 : True := trivial
theorem hd.tw9430268157657104642 : True := trivial
theorem hd.tw16432713993328977331 : True := trivial
theorem hd.tw12767517992797551901 : True := trivial
theorem hd.tw6529220759360494435 : True := trivial
theorem hd.tw16900609317406935518 : True := trivial
theorem hd.tw16091413853298234908 : True := trivial
theorem hd.tw4315991029959535628 : True := trivial
theorem hd.tw14620637471214046174 : True := trivial
theorem hd.tw10403243965636340961 : True := trivial
theorem hd.tw17087091549796120035 : True := trivial
theorem hd.tw1414735120719159333 : True := trivial
theorem hd.tw2323474266016966308 : True := trivial
theorem hd.tw5567388512258382067 : True := trivial
theorem hd.tw15615537253650120727 : True := trivial
theorem hd.tw12410138535482941034 : True := trivial
theorem hd.tw16211521421427940678 : True := trivial
theorem hd.tw2068664650715991707 : True := trivial
theorem hd.tw14400467628812073631 : True := trivial
theorem hd.tw3229955645248102723 : True := trivial
theorem hd.tw7082855905992002993 : True := trivial
theorem hd.tw18219297243305740317 : True := trivial
theorem hd.tw18293851220164018083 : True := trivial
theorem hd.tw16828841361933241965 : True := trivial
theorem hd.tw4377701919642642989 : True := trivial
theorem hd.tw1997569388931296116 : True := trivial
theorem hd.tw4390796290334881974 : True := trivial
theorem hd.tw7023726343779634624 : True := trivial
theorem hd.tw3008623586974134963 : True := trivial
theorem hd.tw1800889605409440832 : True := trivial
theorem hd.tw4494801613693538912 : True := trivial
theorem hd.tw6060742912462422084 : True := trivial
theorem hd.tw5978321128707920903 : True := trivial
theorem hd.tw9170477692918782315 : True := trivial
theorem hd.tw1865391376527767206 : True := trivial
theorem hd.tw5902613922787404954 : True := trivial
theorem hd.tw6196171512934965099 : True := trivial
theorem hd.tw12614811148066621264 : True := trivial
theorem hd.tw3381375190539634487 : True := trivial
theorem hd.tw1268587187398252353 : True := trivial
theorem hd.tw3759623122121258479 : True := trivial
theorem hd.tw1760603350576429475 : True := trivial
theorem hd.tw10170382586518783626 : True := trivial
theorem hd.tw14560493823538711346 : True := trivial
theorem hd.tw978945382295711627 : True := trivial
theorem hd.tw3493717111155160527 : True := trivial
theorem hd.tw11975651509544506050 : True := trivial
theorem hd.tw3109861748172591687 : True := trivial
theorem hd.tw18245042118932799458 : True := trivial
theorem hd.tw9741134391959003819 : True := trivial
theorem hd.tw5781342201191254626 : True := trivial
theorem hd.tw17672654358674132775 : True := trivial
theorem hd.tw18103342009636024947 : True := trivial
theorem hd.tw11917015161858427179 : True := trivial
theorem hd.tw8727321023445011275 : True := trivial
theorem hd.tw12901994302517312135 : True := trivial
theorem hd.tw5373601922739893978 : True := trivial
theorem hd.tw991583007596301734 : True := trivial
theorem hd.tw10246146449241189800 : True := trivial
theorem hd.tw4014540891139286612 : True := trivial
theorem hd.tw10603584201595350602 : True := trivial
theorem hd.tw189712035060473897 : True := trivial
theorem hd.tw10614716105012338702 : True := trivial
theorem hd.tw16634568088961857937 : True := trivial
theorem hd.tw6820862383352777685 : True := trivial
theorem hd.tw15529170255622000948 : True := trivial
theorem hd.tw6394381022753523788 : True := trivial
theorem hd.tw728884934406724761 : True := trivial
theorem hd.tw15759970867653108152 : True := trivial
theorem hd.tw15616948245753086127 : True := trivial
theorem hd.tw16540589490461094875 : True := trivial
theorem hd.tw18300207936620678264 : True := trivial
theorem hd.tw12070051907170230399 : True := trivial
theorem hd.tw8117029840178788049 : True := trivial
theorem hd.tw7366208706002141716 : True := trivial
theorem hd.tw4360684699965382250 : True := trivial
theorem hd.tw4172343393113369950 : True := trivial
theorem hd.tw15042006015671813226 : True := trivial
theorem hd.tw15595854959937240912 : True := trivial
theorem hd.tw6082411064634330575 : True := trivial
theorem hd.tw6924109203229866365 : True := trivial
theorem hd.tw2867327485932766208 : True := trivial
theorem hd.tw10601615944963115059 : True := trivial
theorem hd.tw6264232113106981867 : True := trivial
theorem hd.tw14246236162039180721 : True := trivial
theorem hd.tw4272726840584523970 : True := trivial
theorem hd.tw4297731678662094536 : True := trivial
theorem hd.tw6663896369628448293 : True := trivial
theorem hd.tw3219085151875037572 : True := trivial
theorem hd.tw17213754286329925777 : True := trivial
theorem hd.tw10258999931320997221 : True := trivial
theorem hd.tw17681399029576232318 : True := trivial
theorem hd.tw7296583596125217682 : True := trivial
theorem hd.tw2930668341846507884 : True := trivial
theorem hd.tw11402939732021071671 : True := trivial
theorem hd.tw17650839729002327288 : True := trivial
theorem hd.tw9499510787657705874 : True := trivial
theorem hd.tw16868993833207775613 : True := trivial
theorem hd.tw6982297934935202809 : True := trivial
theorem hd.tw16945582573551092051 : True := trivial
theorem hd.tw13181700845877081190 : True := trivial
theorem hd.tw6305734824756694309 : True := trivial
theorem hd.tw2391449824757734642 : True := trivial
theorem hd.tw11232374478483605306 : True := trivial
theorem hd.tw11918464104331161477 : True := trivial
theorem hd.tw4702841417184801058 : True := trivial
theorem hd.tw13995516892110514362 : True := trivial
theorem hd.tw3646829019195819677 : True := trivial
theorem hd.tw13866372431405929976 : True := trivial
theorem hd.tw8545014587354053640 : True := trivial
theorem hd.tw5148922909946612681 : True := trivial
theorem hd.tw16194383521188589630 : True := trivial
theorem hd.tw11136197038861592535 : True := trivial
theorem hd.tw2114630138375439770 : True := trivial
theorem hd.tw11210553801493137410 : True := trivial
theorem hd.tw2274498078352570744 : True := trivial
theorem hd.tw12399718760709695909 : True := trivial
theorem hd.tw8268277133935991078 : True := trivial
theorem hd.tw13770079208771991547 : True := trivial
theorem hd.tw6767318904944593275 : True := trivial
theorem hd.tw14168552714766633299 : True := trivial
theorem hd.tw5608270528595127837 : True := trivial
theorem hd.tw11319097763535126812 : True := trivial
theorem hd.tw15368132723985388332 : True := trivial
theorem hd.tw13790719812936386609 : True := trivial
theorem hd.tw8959176491354863721 : True := trivial
theorem hd.tw17177331786930743035 : True := trivial
theorem hd.tw17062030032774818151 : True := trivial
theorem hd.tw6019021122589006684 : True := trivial
theorem hd.tw4402725079659364252 : True := trivial
theorem hd.tw6276725880618359904 : True := trivial
theorem hd.tw16037735763661986305 : True := trivial
theorem hd.tw6293948785866598258 : True := trivial
theorem hd.tw4115565904173853331 : True := trivial
theorem hd.tw2888306203540662325 : True := trivial
theorem hd.tw16005092535978360704 : True := trivial
theorem hd.tw535892090144202126 : True := trivial
theorem hd.tw1789384378930872249 : True := trivial
theorem hd.tw16391229813045661084 : True := trivial
theorem hd.tw3143712602261400420 : True := trivial
theorem hd.tw13278266679757069043 : True := trivial
theorem hd.tw13577268844572318106 : True := trivial
theorem hd.tw12023040214023829324 : True := trivial
theorem hd.tw11893437276241958245 : True := trivial
theorem hd.tw15089522573102190283 : True := trivial
theorem hd.tw5657824000916062451 : True := trivial
theorem hd.tw7540655947842036084 : True := trivial
theorem hd.tw6830512106363814048 : True := trivial
theorem hd.tw9345676750909349944 : True := trivial
theorem hd.tw12598724348716800887 : True := trivial
theorem hd.tw1506431575118746342 : True := trivial
theorem hd.tw8025032847418708242 : True := trivial
theorem hd.tw1836080755315867724 : True := trivial
theorem hd.tw16722109127936396110 : True := trivial
theorem hd.tw6528754448969337418 : True := trivial
theorem hd.tw5130813555471234732 : True := trivial
theorem hd.tw11953376511379268794 : True := trivial
theorem hd.tw18093812233618175256 : True := trivial
theorem hd.tw18322514126500204803 : True := trivial
theorem hd.tw17574625026820762457 : True := trivial
theorem hd.tw5511420028821071320 : True := trivial
theorem hd.tw16056359734778111409 : True := trivial
theorem hd.tw8457440626546761165 : True := trivial
theorem hd.tw9673543361469618366 : True := trivial
theorem hd.tw5363564295841288755 : True := trivial
theorem hd.tw16259696140248634718 : True := trivial
theorem hd.tw5278057926702712004 : True := trivial
theorem hd.tw16345102440705955213 : True := trivial
theorem hd.tw10258225898301398825 : True := trivial
theorem hd.tw4225703048834024713 : True := trivial
theorem hd.tw6545403380812914513 : True := trivial
theorem hd.tw22551697357593593 : True := trivial
theorem hd.tw11054480109507316185 : True := trivial
theorem hd.tw1011335219593555734 : True := trivial
theorem hd.tw13483081372092288885 : True := trivial
theorem hd.tw5036846961687405229 : True := trivial
theorem hd.tw4851647983119433812 : True := trivial
theorem hd.tw18264374347568628810 : True := trivial
theorem hd.tw4971549296188076032 : True := trivial
theorem hd.tw9748044761591592747 : True := trivial
theorem hd.tw7289634563603522867 : True := trivial
theorem hd.tw17252143746492648416 : True := trivial
theorem hd.tw6411954120941647267 : True := trivial
theorem hd.tw922143313871775805 : True := trivial
theorem hd.tw13330244855972007585 : True := trivial
theorem hd.tw15166520500009309586 : True := trivial
theorem hd.tw10792051664901133789 : True := trivial
theorem hd.tw11660266114150955751 : True := trivial
theorem hd.tw701787995468756871 : True := trivial
theorem hd.tw5987830557187376847 : True := trivial
theorem hd.tw3259873300814134281 : True := trivial
theorem hd.tw1413172679324656950 : True := trivial
theorem hd.tw461538923250603899 : True := trivial
theorem hd.tw1580110805410547442 : True := trivial
theorem hd.tw14103535550066685397 : True := trivial
theorem hd.tw18166333605607142505 : True := trivial
theorem hd.tw8343274005884668182 : True := trivial
theorem hd.tw15837987909243819085 : True := trivial
theorem hd.tw13267510147771200024 : True := trivial
theorem hd.tw11032806212648032379 : True := trivial
theorem hd.tw11319892378374348655 : True := trivial
theorem hd.tw15790720579355451973 : True := trivial
theorem hd.tw13368278939475635651 : True := trivial
theorem hd.tw3451239065008710300 : True := trivial
theorem hd.tw8671608845466749128 : True := trivial
theorem hd.tw11513968764499736323 : True := trivial
theorem hd.tw9719896912496429819 : True := trivial
theorem hd.tw5174551420813472067 : True := trivial
theorem hd.tw3530705653197291679 : True := trivial
theorem hd.tw12173100003817136821 : True := trivial
theorem hd.tw7896837427191650641 : True := trivial
theorem hd.tw7240301041371478685 : True := trivial
set_option Elab.async true in
theorem hd : PySem.Challenge.rw_wa0014_01.Holds := by
  w_on
  o_law
  o_head (kHook Mine.K0 [3, 117, 118, 122, 123, 129, 130, 134, 135, 141, 142, 143, 151, 152, 156, 157, 163, 164, 170, 171, 177, 178, 182, 183, 187, 188, 194, 195, 199, 200, 204, 205] (fun _ => by kernel_rfl))
  (case hw => w_witness2)
  k_fill
  intro w s₀ s₁ mg mb G Y fa o pm cd doc dV kV ho hd hcd hD hmg hg args vals as hpre hlay hrd hwl hlo
  have KX := kIn_of Y
  refine Ground.open G ?_
  intro T B D TE TW
  have e : fa = 205 := by
    have h1 : mg (Str.ofString "law") = some (.ref 205) := mg_of KX T.g (by k_is)
    have h2 : mg (Str.ofString "law") = some (.ref fa) := hmg
    rw [h1] at h2; cases h2; rfl
  subst e
  have TT : TopAt w s₁.heap := ⟨KX, _, _, _, _, _, T⟩
  clear ho hd hcd hD hmg TW TE D B G Y T KX
  wrow_args hpre hlay hrd hwl hlo
  refine wpAny_mono (c_law (A := callerA) (E := fun _ _ => False) TT ⟨rfl, by decide, by decide⟩ (by assumption) (by assumption) (by omega)) (fun v s' q => ?_) (fun _ _ e => e.elim)
  obtain ⟨⟨h', tk', rfl, k⟩, rfl⟩ := q
  try dsimp only
  refine ⟨.inl ⟨.bool true, .bool true, [], rfl, ?_, .bool true, ?_, ?_⟩, .of_keep k, rfl, .of_eq hg⟩
  · intro cls; rfl
  · have e : ∀ c : WCtx, c.res = some (.bool true) → (WTm.eq .res (.lit (.bool true))).value [] c = some (.bool (true == true)) := fun c hc => w_eq_bool (by simp [WTm.value, hc]) (by simp [WTm.value])
    show (WShape.has [] (WData.bool true) .bool && WTm.holds [] (.eq .res (.lit (.bool true))) _) = true
    unfold WTm.holds
    rw [e _ rfl]
    simp [WShape.has, WShape.arms]
  · intro _; exact ⟨List.nodup_nil, by simp⟩
end PFi
end Mine
theorem PySem.Challenge.cw_wa0014_01_holds : PySem.Challenge.rw_wa0014_01.Holds :=
  Mine.hd
