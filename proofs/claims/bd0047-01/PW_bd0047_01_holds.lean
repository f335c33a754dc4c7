import PyProof.Rows.All
import Wide.All
import OpenK.AllK
import Wide.FinOn
import PySem.Challenge.RW_bd0047_01
set_option Elab.async false
set_option maxRecDepth 100000
set_option rowWalk.seconds 0
set_option linter.unusedVariables false
section
open PySem PySem.W PySem.Spec PySem.Calls PyProof.Rows
namespace Mine
/-- the text's statements, by number (of the given row's own term) -/
noncomputable def topSt (i : Nat) : Stmt := PySem.Challenge.pw_bd0047_01.main.body.getD i (.Pass ⟨0, 0, 0, 0⟩)
noncomputable def stBody : Stmt → List Stmt
  | .FunctionDef _ _ b _ _ _ _ _ _ _ => b
  | .ClassDef _ _ _ b _ _ _ _ _ _ _ => b
  | _ => []
noncomputable def clsFn (i j : Nat) : Stmt := (stBody (topSt i)).getD j (.Pass ⟨0, 0, 0, 0⟩)
noncomputable def fnBody (s : Stmt) : List Stmt := stBody s
noncomputable def fnParams : Stmt → Arguments
  | .FunctionDef _ a _ _ _ _ _ _ _ _ => a
  | _ => ⟨[], [], none, [], [], none, []⟩
noncomputable def fnScope : Stmt → Scope
  | .FunctionDef _ _ _ _ _ _ s _ _ _ => s
  | _ => ⟨.module, [], false, false, []⟩
noncomputable def fnDoc (s : Stmt) : Str := match stBody s with
  | .Expr (.Constant (.str x) _ _) _ :: _ => x
  | _ => Str.empty
noncomputable def o2 (P : Params) : Obj := let _ := P; ⟨.none, none, .dict #[] 0, #[]⟩
noncomputable def o3 (P : Params) : Obj := let _ := P; ⟨(.type "dict"), none, .dict #[⟨PyData.keyHash P (Str.ofString "__name__"), (.str (Str.ofString "__name__") 165), (.str (Str.ofString "law_bd0047_01") 680)⟩, ⟨PyData.keyHash P (Str.ofString "__doc__"), (.str (Str.ofString "__doc__") 166), (.none)⟩, ⟨PyData.keyHash P (Str.ofString "__package__"), (.str (Str.ofString "__package__") 167), (.none)⟩, ⟨PyData.keyHash P (Str.ofString "__loader__"), (.str (Str.ofString "__loader__") 168), (.builtin "__main__.__loader__#opaque")⟩, ⟨PyData.keyHash P (Str.ofString "__spec__"), (.str (Str.ofString "__spec__") 169), (.none)⟩, ⟨PyData.keyHash P (Str.ofString "__annotations__"), (.str (Str.ofString "__annotations__") 170), (.ref 6)⟩, ⟨PyData.keyHash P (Str.ofString "__builtins__"), (.str (Str.ofString "__builtins__") 171), (.ref 4)⟩, ⟨PyData.keyHash P (Str.ofString "__file__"), (.str (Str.ofString "__file__") 173), (.str (Str.ofString "/claim/cut.py") 172)⟩, ⟨PyData.keyHash P (Str.ofString "__cached__"), (.str (Str.ofString "__cached__") 174), (.none)⟩, ⟨PyData.keyHash P (Str.ofString "_wall"), (.str (Str.ofString "_wall") 193), (.ref 21)⟩, ⟨PyData.keyHash P (Str.ofString "_tuplegetter"), (.str (Str.ofString "_tuplegetter") 252), (.ref 60)⟩, ⟨PyData.keyHash P (Str.ofString "tokenize"), (.str (Str.ofString "tokenize") 294), (.ref 74)⟩, ⟨PyData.keyHash P (Str.ofString "keyword"), (.str (Str.ofString "keyword") 393), (.ref 110)⟩, ⟨PyData.keyHash P (Str.ofString "Token"), (.str (Str.ofString "Token") 547), (.ref 191)⟩, ⟨PyData.keyHash P (Str.ofString "KEYWORDS"), (.str (Str.ofString "KEYWORDS") 581), (.ref 195)⟩, ⟨PyData.keyHash P (Str.ofString "UNARY_OPERATORS"), (.str (Str.ofString "UNARY_OPERATORS") 587), (.ref 196)⟩, ⟨PyData.keyHash P (Str.ofString "ARITHMETIC_OP"), (.str (Str.ofString "ARITHMETIC_OP") 595), (.ref 197)⟩, ⟨PyData.keyHash P (Str.ofString "WS_OPTIONAL_OPERATORS"), (.str (Str.ofString "WS_OPTIONAL_OPERATORS") 609), (.ref 198)⟩, ⟨PyData.keyHash P (Str.ofString "WS_NEEDED_OPERATORS"), (.str (Str.ofString "WS_NEEDED_OPERATORS") 635), (.ref 199)⟩, ⟨PyData.keyHash P (Str.ofString "WHITESPACE"), (.str (Str.ofString "WHITESPACE") 639), (.ref 200)⟩, ⟨PyData.keyHash P (Str.ofString "SKIP_COMMENTS"), (.str (Str.ofString "SKIP_COMMENTS") 646), (.ref 201)⟩, ⟨PyData.keyHash P (Str.ofString "FSTRING_START"), (.str (Str.ofString "FSTRING_START") 649), (.int (-1) 648)⟩, ⟨PyData.keyHash P (Str.ofString "FSTRING_MIDDLE"), (.str (Str.ofString "FSTRING_MIDDLE") 650), (.int (-1) 648)⟩, ⟨PyData.keyHash P (Str.ofString "FSTRING_END"), (.str (Str.ofString "FSTRING_END") 651), (.int (-1) 648)⟩, ⟨PyData.keyHash P (Str.ofString "TSTRING_START"), (.str (Str.ofString "TSTRING_START") 654), (.int (-1) 653)⟩, ⟨PyData.keyHash P (Str.ofString "TSTRING_MIDDLE"), (.str (Str.ofString "TSTRING_MIDDLE") 655), (.int (-1) 653)⟩, ⟨PyData.keyHash P (Str.ofString "TSTRING_END"), (.str (Str.ofString "TSTRING_END") 656), (.int (-1) 653)⟩, ⟨PyData.keyHash P (Str.ofString "missing_whitespace"), (.str (Str.ofString "missing_whitespace") 679), (.ref 208)⟩, ⟨PyData.keyHash P (Str.ofString "_law_needing"), (.str (Str.ofString "_law_needing") 690), (.ref 209)⟩, ⟨PyData.keyHash P (Str.ofString "_law_free"), (.str (Str.ofString "_law_free") 696), (.ref 216)⟩, ⟨PyData.keyHash P (Str.ofString "_law_cell"), (.str (Str.ofString "_law_cell") 704), (.ref 223)⟩, ⟨PyData.keyHash P (Str.ofString "_law_kind"), (.str (Str.ofString "_law_kind") 711), (.ref 230)⟩, ⟨PyData.keyHash P (Str.ofString "_law_tokens"), (.str (Str.ofString "_law_tokens") 726), (.ref 237)⟩, ⟨PyData.keyHash P (Str.ofString "_law_all"), (.str (Str.ofString "_law_all") 732), (.ref 244)⟩, ⟨PyData.keyHash P (Str.ofString "_law_built"), (.str (Str.ofString "_law_built") 749), (.ref 251)⟩, ⟨PyData.keyHash P (Str.ofString "_law_due"), (.str (Str.ofString "_law_due") 765), (.ref 258)⟩, ⟨PyData.keyHash P (Str.ofString "law"), (.str (Str.ofString "law") 771), (.ref 263)⟩] 37, #[]⟩
noncomputable def o73 (P : Params) : Obj := let _ := P; ⟨(.type "dict"), none, .dict #[⟨PyData.keyHash P (Str.ofString "__module__"), (.str (Str.ofString "__module__") 260), (.str (Str.ofString "pycodestyle") 194)⟩, ⟨PyData.keyHash P (Str.ofString "__firstlineno__"), (.str (Str.ofString "__firstlineno__") 264), (.int (23) 263)⟩, ⟨PyData.keyHash P (Str.ofString "ENDMARKER"), (.str (Str.ofString "ENDMARKER") 266), (.int (0) 265)⟩, ⟨PyData.keyHash P (Str.ofString "NAME"), (.str (Str.ofString "NAME") 268), (.int (1) 267)⟩, ⟨PyData.keyHash P (Str.ofString "NUMBER"), (.str (Str.ofString "NUMBER") 270), (.int (2) 269)⟩, ⟨PyData.keyHash P (Str.ofString "STRING"), (.str (Str.ofString "STRING") 272), (.int (3) 271)⟩, ⟨PyData.keyHash P (Str.ofString "NEWLINE"), (.str (Str.ofString "NEWLINE") 274), (.int (4) 273)⟩, ⟨PyData.keyHash P (Str.ofString "INDENT"), (.str (Str.ofString "INDENT") 276), (.int (5) 275)⟩, ⟨PyData.keyHash P (Str.ofString "DEDENT"), (.str (Str.ofString "DEDENT") 278), (.int (6) 277)⟩, ⟨PyData.keyHash P (Str.ofString "OP"), (.str (Str.ofString "OP") 280), (.int (54) 279)⟩, ⟨PyData.keyHash P (Str.ofString "ERRORTOKEN"), (.str (Str.ofString "ERRORTOKEN") 282), (.int (60) 281)⟩, ⟨PyData.keyHash P (Str.ofString "COMMENT"), (.str (Str.ofString "COMMENT") 284), (.int (61) 283)⟩, ⟨PyData.keyHash P (Str.ofString "NL"), (.str (Str.ofString "NL") 286), (.int (62) 285)⟩, ⟨PyData.keyHash P (Str.ofString "__static_attributes__"), (.str (Str.ofString "__static_attributes__") 287), (.ref 72)⟩, ⟨PyData.keyHash P (Str.ofString "__dict__"), (.str (Str.ofString "__dict__") 289), (.ref 75)⟩, ⟨PyData.keyHash P (Str.ofString "__weakref__"), (.str (Str.ofString "__weakref__") 291), (.ref 76)⟩, ⟨PyData.keyHash P (Str.ofString "__doc__"), (.str (Str.ofString "__doc__") 292), (.none)⟩] 4, #[]⟩
noncomputable def o74 (P : Params) : Obj := let _ := P; ⟨(.type "type"), none, .cls { name := Str.ofString "tokenize", bases := [(.type "object")], mro := [(.ref 74), (.type "object")], ns := 73, qualname := Str.ofString "tokenize", hasDict := true }, #[none, none, some (.str (Str.ofString "tokenize") 253), some (.str (Str.ofString "tokenize") 261), some (.builtin "object.__new__"), some (.bool true)]⟩
noncomputable def o87 (P : Params) : Obj := let _ := P; ⟨(.type "tuple"), none, .seq #[(.str (Str.ofString "_") 343), (.str (Str.ofString "case") 344), (.str (Str.ofString "match") 345), (.str (Str.ofString "type") 346)] 0, #[]⟩
noncomputable def o103 (P : Params) : Obj := let _ := P; ⟨(.type "code"), none, .fields #[(.str (Str.ofString "issoftkeyword") 367), (.str (Str.ofString "keyword.issoftkeyword") 368), (.str (Str.ofString "/claim/cut.py") 369), (.int (43) 0), (.int (1) 0), (.int (0) 0), (.int (0) 0), (.int (3) 0), (.ref 98), (.bool true), (.int (181) 0), (.ref 99), (.none), (.ref 100), (.ref 101), (.ref 102), (.int (371) 0), (.int (43) 0), (.str (Str.ofString "/claim/cut.py") 372)], #[]⟩
noncomputable def o104 (P : Params) : Obj := let _ := P; ⟨(.type "function"), none, .func { name := Str.ofString "issoftkeyword", qualname := Str.ofString "keyword.issoftkeyword", params := fnParams (clsFn 4 3), body := .stmts (fnBody (clsFn 4 3)), scope := fnScope (clsFn 4 3), globals := 3, closure := [], defaults := (.none), kwdefaults := (.none), doc := (.none), pyModule := (.str (Str.ofString "pycodestyle") 194), annotations := some 107, code := (.ref 103), closureTuple := (.none), builtins := 0 }, #[]⟩
noncomputable def o106 (P : Params) : Obj := let _ := P; ⟨(.type "staticmethod"), some 105, .fields #[(.ref 104), (.bool false)], #[]⟩
noncomputable def o109 (P : Params) : Obj := let _ := P; ⟨(.type "dict"), none, .dict #[⟨PyData.keyHash P (Str.ofString "__module__"), (.str (Str.ofString "__module__") 302), (.str (Str.ofString "pycodestyle") 194)⟩, ⟨PyData.keyHash P (Str.ofString "__firstlineno__"), (.str (Str.ofString "__firstlineno__") 306), (.int (35) 305)⟩, ⟨PyData.keyHash P (Str.ofString "kwlist"), (.str (Str.ofString "kwlist") 342), (.ref 86)⟩, ⟨PyData.keyHash P (Str.ofString "softkwlist"), (.str (Str.ofString "softkwlist") 347), (.ref 87)⟩, ⟨PyData.keyHash P (Str.ofString "iskeyword"), (.str (Str.ofString "iskeyword") 366), (.ref 96)⟩, ⟨PyData.keyHash P (Str.ofString "issoftkeyword"), (.str (Str.ofString "issoftkeyword") 385), (.ref 106)⟩, ⟨PyData.keyHash P (Str.ofString "__static_attributes__"), (.str (Str.ofString "__static_attributes__") 386), (.ref 108)⟩, ⟨PyData.keyHash P (Str.ofString "__dict__"), (.str (Str.ofString "__dict__") 388), (.ref 111)⟩, ⟨PyData.keyHash P (Str.ofString "__weakref__"), (.str (Str.ofString "__weakref__") 390), (.ref 112)⟩, ⟨PyData.keyHash P (Str.ofString "__doc__"), (.str (Str.ofString "__doc__") 391), (.none)⟩] 4, #[]⟩
noncomputable def o110 (P : Params) : Obj := let _ := P; ⟨(.type "type"), none, .cls { name := Str.ofString "keyword", bases := [(.type "object")], mro := [(.ref 110), (.type "object")], ns := 109, qualname := Str.ofString "keyword", hasDict := true }, #[none, none, some (.str (Str.ofString "keyword") 295), some (.str (Str.ofString "keyword") 303), some (.builtin "object.__new__"), some (.bool true)]⟩
noncomputable def o131 (P : Params) : Obj := let _ := P; ⟨(.type "code"), none, .fields #[(.str (Str.ofString "__new__") 417), (.str (Str.ofString "Token.__new__") 418), (.str (Str.ofString "/claim/cut.py") 419), (.int (52) 0), (.int (6) 0), (.int (0) 0), (.int (0) 0), (.int (3) 0), (.ref 126), (.bool true), (.int (181) 0), (.ref 127), (.none), (.ref 128), (.ref 129), (.ref 130), (.int (426) 0), (.int (52) 0), (.str (Str.ofString "/claim/cut.py") 427)], #[]⟩
noncomputable def o132 (P : Params) : Obj := let _ := P; ⟨(.type "function"), none, .func { name := Str.ofString "__new__", qualname := Str.ofString "Token.__new__", params := fnParams (clsFn 5 4), body := .stmts (fnBody (clsFn 5 4)), scope := fnScope (clsFn 5 4), globals := 3, closure := [], defaults := (.none), kwdefaults := (.none), doc := .str (fnDoc (clsFn 5 4)) 428, pyModule := (.str (Str.ofString "pycodestyle") 194), annotations := none, code := (.ref 131), closureTuple := (.none), builtins := 0 }, #[]⟩
noncomputable def o190 (P : Params) : Obj := let _ := P; ⟨(.type "dict"), none, .dict #[⟨PyData.keyHash P (Str.ofString "__module__"), (.str (Str.ofString "__module__") 401), (.str (Str.ofString "pycodestyle") 194)⟩, ⟨PyData.keyHash P (Str.ofString "__firstlineno__"), (.str (Str.ofString "__firstlineno__") 405), (.int (46) 404)⟩, ⟨PyData.keyHash P (Str.ofString "__doc__"), (.str (Str.ofString "__doc__") 407), (.str (Str.ofString "Token(kind, string, start, end, line)") 406)⟩, ⟨PyData.keyHash P (Str.ofString "__slots__"), (.str (Str.ofString "__slots__") 409), (.ref 123)⟩, ⟨PyData.keyHash P (Str.ofString "_fields"), (.str (Str.ofString "_fields") 415), (.ref 124)⟩, ⟨PyData.keyHash P (Str.ofString "_field_defaults"), (.str (Str.ofString "_field_defaults") 416), (.ref 125)⟩, ⟨PyData.keyHash P (Str.ofString "__new__"), (.str (Str.ofString "__new__") 429), (.ref 192)⟩, ⟨PyData.keyHash P (Str.ofString "_make"), (.str (Str.ofString "_make") 451), (.ref 141)⟩, ⟨PyData.keyHash P (Str.ofString "_replace"), (.str (Str.ofString "_replace") 462), (.ref 150)⟩, ⟨PyData.keyHash P (Str.ofString "__replace__"), (.str (Str.ofString "__replace__") 463), (.ref 150)⟩, ⟨PyData.keyHash P (Str.ofString "__repr__"), (.str (Str.ofString "__repr__") 471), (.ref 157)⟩, ⟨PyData.keyHash P (Str.ofString "_asdict"), (.str (Str.ofString "_asdict") 478), (.ref 164)⟩, ⟨PyData.keyHash P (Str.ofString "__getnewargs__"), (.str (Str.ofString "__getnewargs__") 486), (.ref 171)⟩, ⟨PyData.keyHash P (Str.ofString "__match_args__"), (.str (Str.ofString "__match_args__") 492), (.ref 172)⟩, ⟨PyData.keyHash P (Str.ofString "kind"), (.str (Str.ofString "kind") 502), (.ref 174)⟩, ⟨PyData.keyHash P (Str.ofString "string"), (.str (Str.ofString "string") 512), (.ref 177)⟩, ⟨PyData.keyHash P (Str.ofString "start"), (.str (Str.ofString "start") 522), (.ref 180)⟩, ⟨PyData.keyHash P (Str.ofString "end"), (.str (Str.ofString "end") 532), (.ref 183)⟩, ⟨PyData.keyHash P (Str.ofString "line"), (.str (Str.ofString "line") 542), (.ref 186)⟩, ⟨PyData.keyHash P (Str.ofString "__static_attributes__"), (.str (Str.ofString "__static_attributes__") 543), (.ref 188)⟩] 2, #[]⟩
noncomputable def o191 (P : Params) : Obj := let _ := P; ⟨(.type "type"), none, .cls { name := Str.ofString "Token", bases := [(.type "tuple")], mro := [(.ref 191), (.type "tuple"), (.type "object")], ns := 190, qualname := Str.ofString "Token", hasDict := false }, #[some (.ref 115), none, some (.str (Str.ofString "Token") 394), some (.str (Str.ofString "Token") 402), some (.none), some (.bool false)]⟩
noncomputable def o192 (P : Params) : Obj := let _ := P; ⟨(.type "staticmethod"), none, .fields #[(.ref 132)], #[]⟩
noncomputable def o195 (P : Params) : Obj := let _ := P; ⟨(.type "tuple"), none, .seq #[(.str (Str.ofString "and") 548), (.str (Str.ofString "as") 549), (.str (Str.ofString "assert") 550), (.str (Str.ofString "async") 551), (.str (Str.ofString "await") 552), (.str (Str.ofString "break") 553), (.str (Str.ofString "class") 554), (.str (Str.ofString "continue") 555), (.str (Str.ofString "def") 556), (.str (Str.ofString "del") 557), (.str (Str.ofString "elif") 558), (.str (Str.ofString "else") 559), (.str (Str.ofString "except") 560), (.str (Str.ofString "finally") 561), (.str (Str.ofString "for") 562), (.str (Str.ofString "from") 563), (.str (Str.ofString "global") 564), (.str (Str.ofString "if") 565), (.str (Str.ofString "\x69mport") 566), (.str (Str.ofString "in") 567), (.str (Str.ofString "is") 568), (.str (Str.ofString "lambda") 569), (.str (Str.ofString "nonlocal") 570), (.str (Str.ofString "not") 571), (.str (Str.ofString "or") 572), (.str (Str.ofString "pass") 573), (.str (Str.ofString "raise") 574), (.str (Str.ofString "return") 575), (.str (Str.ofString "try") 576), (.str (Str.ofString "while") 577), (.str (Str.ofString "with") 578), (.str (Str.ofString "yield") 579), (.str (Str.ofString "print") 580)] 0, #[]⟩
noncomputable def o196 (P : Params) : Obj := let _ := P; ⟨(.type "tuple"), none, .seq #[(.str (Str.ofString ">>") 582), (.str (Str.ofString "**") 583), (.str (Str.ofString "*") 584), (.str (Str.ofString "+") 585), (.str (Str.ofString "-") 586)] 0, #[]⟩
noncomputable def o197 (P : Params) : Obj := let _ := P; ⟨(.type "tuple"), none, .seq #[(.str (Str.ofString "**") 588), (.str (Str.ofString "*") 589), (.str (Str.ofString "/") 590), (.str (Str.ofString "//") 591), (.str (Str.ofString "+") 592), (.str (Str.ofString "-") 593), (.str (Str.ofString "@") 594)] 0, #[]⟩
noncomputable def o198 (P : Params) : Obj := let _ := P; ⟨(.type "tuple"), none, .seq #[(.str (Str.ofString "**") 596), (.str (Str.ofString "*") 597), (.str (Str.ofString "/") 598), (.str (Str.ofString "//") 599), (.str (Str.ofString "+") 600), (.str (Str.ofString "-") 601), (.str (Str.ofString "@") 602), (.str (Str.ofString "^") 603), (.str (Str.ofString "&") 604), (.str (Str.ofString "|") 605), (.str (Str.ofString "<<") 606), (.str (Str.ofString ">>") 607), (.str (Str.ofString "%") 608)] 0, #[]⟩
noncomputable def o199 (P : Params) : Obj := let _ := P; ⟨(.type "tuple"), none, .seq #[(.str (Str.ofString "**=") 610), (.str (Str.ofString "*=") 611), (.str (Str.ofString "/=") 612), (.str (Str.ofString "//=") 613), (.str (Str.ofString "+=") 614), (.str (Str.ofString "-=") 615), (.str (Str.ofString "!=") 616), (.str (Str.ofString "<") 617), (.str (Str.ofString ">") 618), (.str (Str.ofString "%=") 619), (.str (Str.ofString "^=") 620), (.str (Str.ofString "&=") 621), (.str (Str.ofString "|=") 622), (.str (Str.ofString "==") 623), (.str (Str.ofString "<=") 624), (.str (Str.ofString ">=") 625), (.str (Str.ofString "<<=") 626), (.str (Str.ofString ">>=") 627), (.str (Str.ofString "=") 628), (.str (Str.ofString "and") 629), (.str (Str.ofString "in") 630), (.str (Str.ofString "is") 631), (.str (Str.ofString "or") 632), (.str (Str.ofString "->") 633), (.str (Str.ofString ":=") 634)] 0, #[]⟩
noncomputable def o200 (P : Params) : Obj := let _ := P; ⟨(.type "tuple"), none, .seq #[(.str (Str.ofString " ") 636), (.str (Str.ofString "\t") 637), (.str (Str.ofString " ") 638)] 0, #[]⟩
noncomputable def o201 (P : Params) : Obj := let _ := P; ⟨(.type "tuple"), none, .seq #[(.int (62) 640), (.int (4) 641), (.int (5) 642), (.int (6) 643), (.int (61) 644), (.int (60) 645)] 0, #[]⟩
noncomputable def o207 (P : Params) : Obj := let _ := P; ⟨(.type "code"), none, .fields #[(.str (Str.ofString "missing_whitespace") 657), (.str (Str.ofString "missing_whitespace") 658), (.str (Str.ofString "/claim/cut.py") 659), (.int (100) 0), (.int (2) 0), (.int (0) 0), (.int (0) 0), (.int (35) 0), (.ref 202), (.bool true), (.int (181) 0), (.ref 203), (.none), (.ref 204), (.ref 205), (.ref 206), (.int (676) 0), (.int (100) 0), (.str (Str.ofString "/claim/cut.py") 677)], #[]⟩
noncomputable def o208 (P : Params) : Obj := let _ := P; ⟨(.type "function"), none, .func { name := Str.ofString "missing_whitespace", qualname := Str.ofString "missing_whitespace", params := fnParams (topSt 15), body := .stmts (fnBody (topSt 15)), scope := fnScope (topSt 15), globals := 3, closure := [], defaults := (.none), kwdefaults := (.none), doc := .str (fnDoc (topSt 15)) 678, pyModule := (.str (Str.ofString "pycodestyle") 194), annotations := none, code := (.ref 207), closureTuple := (.none), builtins := 0 }, #[]⟩
noncomputable def o209 (P : Params) : Obj := let _ := P; ⟨(.type "list"), none, .seq #[(.str (Str.ofString "=") 682), (.str (Str.ofString "==") 683), (.str (Str.ofString "<=") 684), (.str (Str.ofString "and") 685), (.str (Str.ofString "in") 686), (.str (Str.ofString "+=") 687), (.str (Str.ofString "->") 688), (.str (Str.ofString "!=") 689)] 0, #[]⟩
noncomputable def o215 (P : Params) : Obj := let _ := P; ⟨(.type "code"), none, .fields #[(.str (Str.ofString "_law_free") 691), (.str (Str.ofString "_law_free") 692), (.str (Str.ofString "/claim/cut.py") 693), (.int (217) 0), (.int (0) 0), (.int (0) 0), (.int (0) 0), (.int (3) 0), (.ref 210), (.bool true), (.int (181) 0), (.ref 211), (.none), (.ref 212), (.ref 213), (.ref 214), (.int (694) 0), (.int (217) 0), (.str (Str.ofString "/claim/cut.py") 695)], #[]⟩
noncomputable def o216 (P : Params) : Obj := let _ := P; ⟨(.type "function"), none, .func { name := Str.ofString "_law_free", qualname := Str.ofString "_law_free", params := fnParams (topSt 18), body := .stmts (fnBody (topSt 18)), scope := fnScope (topSt 18), globals := 3, closure := [], defaults := (.none), kwdefaults := (.none), doc := (.none), pyModule := (.str (Str.ofString "law_bd0047_01") 680), annotations := none, code := (.ref 215), closureTuple := (.none), builtins := 0 }, #[]⟩
noncomputable def o222 (P : Params) : Obj := let _ := P; ⟨(.type "code"), none, .fields #[(.str (Str.ofString "_law_cell") 697), (.str (Str.ofString "_law_cell") 698), (.str (Str.ofString "/claim/cut.py") 699), (.int (219) 0), (.int (2) 0), (.int (0) 0), (.int (0) 0), (.int (3) 0), (.ref 217), (.bool true), (.int (181) 0), (.ref 218), (.none), (.ref 219), (.ref 220), (.ref 221), (.int (702) 0), (.int (219) 0), (.str (Str.ofString "/claim/cut.py") 703)], #[]⟩
noncomputable def o223 (P : Params) : Obj := let _ := P; ⟨(.type "function"), none, .func { name := Str.ofString "_law_cell", qualname := Str.ofString "_law_cell", params := fnParams (topSt 19), body := .stmts (fnBody (topSt 19)), scope := fnScope (topSt 19), globals := 3, closure := [], defaults := (.none), kwdefaults := (.none), doc := (.none), pyModule := (.str (Str.ofString "law_bd0047_01") 680), annotations := none, code := (.ref 222), closureTuple := (.none), builtins := 0 }, #[]⟩
noncomputable def o229 (P : Params) : Obj := let _ := P; ⟨(.type "code"), none, .fields #[(.str (Str.ofString "_law_kind") 705), (.str (Str.ofString "_law_kind") 706), (.str (Str.ofString "/claim/cut.py") 707), (.int (221) 0), (.int (1) 0), (.int (0) 0), (.int (0) 0), (.int (3) 0), (.ref 224), (.bool true), (.int (181) 0), (.ref 225), (.none), (.ref 226), (.ref 227), (.ref 228), (.int (709) 0), (.int (221) 0), (.str (Str.ofString "/claim/cut.py") 710)], #[]⟩
noncomputable def o230 (P : Params) : Obj := let _ := P; ⟨(.type "function"), none, .func { name := Str.ofString "_law_kind", qualname := Str.ofString "_law_kind", params := fnParams (topSt 20), body := .stmts (fnBody (topSt 20)), scope := fnScope (topSt 20), globals := 3, closure := [], defaults := (.none), kwdefaults := (.none), doc := (.none), pyModule := (.str (Str.ofString "law_bd0047_01") 680), annotations := none, code := (.ref 229), closureTuple := (.none), builtins := 0 }, #[]⟩
noncomputable def o236 (P : Params) : Obj := let _ := P; ⟨(.type "code"), none, .fields #[(.str (Str.ofString "_law_tokens") 712), (.str (Str.ofString "_law_tokens") 713), (.str (Str.ofString "/claim/cut.py") 714), (.int (227) 0), (.int (3) 0), (.int (0) 0), (.int (0) 0), (.int (3) 0), (.ref 231), (.bool true), (.int (181) 0), (.ref 232), (.none), (.ref 233), (.ref 234), (.ref 235), (.int (724) 0), (.int (227) 0), (.str (Str.ofString "/claim/cut.py") 725)], #[]⟩
noncomputable def o237 (P : Params) : Obj := let _ := P; ⟨(.type "function"), none, .func { name := Str.ofString "_law_tokens", qualname := Str.ofString "_law_tokens", params := fnParams (topSt 21), body := .stmts (fnBody (topSt 21)), scope := fnScope (topSt 21), globals := 3, closure := [], defaults := (.none), kwdefaults := (.none), doc := (.none), pyModule := (.str (Str.ofString "law_bd0047_01") 680), annotations := none, code := (.ref 236), closureTuple := (.none), builtins := 0 }, #[]⟩
noncomputable def o243 (P : Params) : Obj := let _ := P; ⟨(.type "code"), none, .fields #[(.str (Str.ofString "_law_all") 727), (.str (Str.ofString "_law_all") 728), (.str (Str.ofString "/claim/cut.py") 729), (.int (237) 0), (.int (0) 0), (.int (0) 0), (.int (0) 0), (.int (3) 0), (.ref 238), (.bool true), (.int (181) 0), (.ref 239), (.none), (.ref 240), (.ref 241), (.ref 242), (.int (730) 0), (.int (237) 0), (.str (Str.ofString "/claim/cut.py") 731)], #[]⟩
noncomputable def o244 (P : Params) : Obj := let _ := P; ⟨(.type "function"), none, .func { name := Str.ofString "_law_all", qualname := Str.ofString "_law_all", params := fnParams (topSt 22), body := .stmts (fnBody (topSt 22)), scope := fnScope (topSt 22), globals := 3, closure := [], defaults := (.none), kwdefaults := (.none), doc := (.none), pyModule := (.str (Str.ofString "law_bd0047_01") 680), annotations := none, code := (.ref 243), closureTuple := (.none), builtins := 0 }, #[]⟩
noncomputable def o250 (P : Params) : Obj := let _ := P; ⟨(.type "code"), none, .fields #[(.str (Str.ofString "_law_built") 733), (.str (Str.ofString "_law_built") 734), (.str (Str.ofString "/claim/cut.py") 735), (.int (239) 0), (.int (1) 0), (.int (0) 0), (.int (0) 0), (.int (3) 0), (.ref 245), (.bool true), (.int (181) 0), (.ref 246), (.none), (.ref 247), (.ref 248), (.ref 249), (.int (747) 0), (.int (239) 0), (.str (Str.ofString "/claim/cut.py") 748)], #[]⟩
noncomputable def o251 (P : Params) : Obj := let _ := P; ⟨(.type "function"), none, .func { name := Str.ofString "_law_built", qualname := Str.ofString "_law_built", params := fnParams (topSt 23), body := .stmts (fnBody (topSt 23)), scope := fnScope (topSt 23), globals := 3, closure := [], defaults := (.none), kwdefaults := (.none), doc := (.none), pyModule := (.str (Str.ofString "law_bd0047_01") 680), annotations := none, code := (.ref 250), closureTuple := (.none), builtins := 0 }, #[]⟩
noncomputable def o257 (P : Params) : Obj := let _ := P; ⟨(.type "code"), none, .fields #[(.str (Str.ofString "_law_due") 750), (.str (Str.ofString "_law_due") 751), (.str (Str.ofString "/claim/cut.py") 752), (.int (266) 0), (.int (4) 0), (.int (0) 0), (.int (0) 0), (.int (3) 0), (.ref 252), (.bool true), (.int (181) 0), (.ref 253), (.none), (.ref 254), (.ref 255), (.ref 256), (.int (763) 0), (.int (266) 0), (.str (Str.ofString "/claim/cut.py") 764)], #[]⟩
noncomputable def o258 (P : Params) : Obj := let _ := P; ⟨(.type "function"), none, .func { name := Str.ofString "_law_due", qualname := Str.ofString "_law_due", params := fnParams (topSt 24), body := .stmts (fnBody (topSt 24)), scope := fnScope (topSt 24), globals := 3, closure := [], defaults := (.none), kwdefaults := (.none), doc := (.none), pyModule := (.str (Str.ofString "law_bd0047_01") 680), annotations := none, code := (.ref 257), closureTuple := (.none), builtins := 0 }, #[]⟩
noncomputable def o262 (P : Params) : Obj := let _ := P; ⟨(.type "code"), none, .fields #[(.str (Str.ofString "law") 766), (.str (Str.ofString "law") 767), (.str (Str.ofString "/claim/cut.py") 768), (.int (283) 0), (.int (1) 0), (.int (0) 0), (.int (0) 0), (.int (3) 0), (.ref 259), (.bool true), (.int (181) 0), (.ref 260), (.none), (.none), (.none), (.ref 261), (.int (769) 0), (.int (283) 0), (.str (Str.ofString "/claim/cut.py") 770)], #[]⟩
noncomputable def o263 (P : Params) : Obj := let _ := P; ⟨(.type "function"), none, .func { name := Str.ofString "law", qualname := Str.ofString "law", params := fnParams (topSt 25), body := .stmts (fnBody (topSt 25)), scope := fnScope (topSt 25), globals := 3, closure := [], defaults := (.none), kwdefaults := (.none), doc := (.none), pyModule := (.str (Str.ofString "law_bd0047_01") 680), annotations := none, code := (.ref 262), closureTuple := (.none), builtins := 0 }, #[]⟩
noncomputable def frag (P : Params) : Frag := (nat_lit 2, o2 P) :: (nat_lit 3, o3 P) :: (nat_lit 73, o73 P) :: (nat_lit 74, o74 P) :: (nat_lit 87, o87 P) :: (nat_lit 103, o103 P) :: (nat_lit 104, o104 P) :: (nat_lit 106, o106 P) :: (nat_lit 109, o109 P) :: (nat_lit 110, o110 P) :: (nat_lit 131, o131 P) :: (nat_lit 132, o132 P) :: (nat_lit 190, o190 P) :: (nat_lit 191, o191 P) :: (nat_lit 192, o192 P) :: (nat_lit 195, o195 P) :: (nat_lit 196, o196 P) :: (nat_lit 197, o197 P) :: (nat_lit 198, o198 P) :: (nat_lit 199, o199 P) :: (nat_lit 200, o200 P) :: (nat_lit 201, o201 P) :: (nat_lit 207, o207 P) :: (nat_lit 208, o208 P) :: (nat_lit 209, o209 P) :: (nat_lit 215, o215 P) :: (nat_lit 216, o216 P) :: (nat_lit 222, o222 P) :: (nat_lit 223, o223 P) :: (nat_lit 229, o229 P) :: (nat_lit 230, o230 P) :: (nat_lit 236, o236 P) :: (nat_lit 237, o237 P) :: (nat_lit 243, o243 P) :: (nat_lit 244, o244 P) :: (nat_lit 250, o250 P) :: (nat_lit 251, o251 P) :: (nat_lit 257, o257 P) :: (nat_lit 258, o258 P) :: (nat_lit 262, o262 P) :: (nat_lit 263, o263 P) :: []
noncomputable def fragAs : List Addr := nat_lit 2 :: nat_lit 3 :: nat_lit 73 :: nat_lit 74 :: nat_lit 87 :: nat_lit 103 :: nat_lit 104 :: nat_lit 106 :: nat_lit 109 :: nat_lit 110 :: nat_lit 131 :: nat_lit 132 :: nat_lit 190 :: nat_lit 191 :: nat_lit 192 :: nat_lit 195 :: nat_lit 196 :: nat_lit 197 :: nat_lit 198 :: nat_lit 199 :: nat_lit 200 :: nat_lit 201 :: nat_lit 207 :: nat_lit 208 :: nat_lit 209 :: nat_lit 215 :: nat_lit 216 :: nat_lit 222 :: nat_lit 223 :: nat_lit 229 :: nat_lit 230 :: nat_lit 236 :: nat_lit 237 :: nat_lit 243 :: nat_lit 244 :: nat_lit 250 :: nat_lit 251 :: nat_lit 257 :: nat_lit 258 :: nat_lit 262 :: nat_lit 263 :: []
end Mine
namespace Mine
example : (match clsFn 5 4 with | .FunctionDef n .. => n.toString | _ => "") = "__new__" := by decide +kernel
example : (match clsFn 4 3 with | .FunctionDef n .. => n.toString | _ => "") = "issoftkeyword" := by decide +kernel
example : (match topSt 25 with | .FunctionDef n .. => n.toString | _ => "") = "law" := by decide +kernel
end Mine
end
section
open PySem PySem.W PySem.Spec PySem.Calls PyProof.Rows
namespace Mine
abbrev Led := List (Addr × Obj)
noncomputable abbrev MM (w : World) : Model := model PySem.Challenge.rw_bd0047_01.row.prog w
/-- the bundle of what is the same through all calls -/
structure Cx where
  w : World
  p : Program
  loose : List Str
  mean : ExcName → Option Value
  mg : Str → Option Value
  mb : Str → Option Value
/-- what a call of the text's own function f does: it makes the objects `own` (told by R) and gives back v (told by R); all else is as it was -/
noncomputable def Tells (c : Cx) (base : Heap) (news : Led) (f : Addr) (vals : List Value) (deep units : Nat) (R : Value → Led → Prop) : Prop :=
  ∀ (dp un : Nat) (gd : Option (List Code)) (cn : Str) (cs : Scope) (a : Addr) (ccd : Value) (cl : List (Str × Addr)) (outer : List Env) (A₀ : Around) (h₀ : Heap) (L : Addr) (m : Str → Option Value) (s : Shared) (Q E : Value → Shared → Prop),
    Below A₀ base outer h₀ → Fr h₀ L s.heap m → (frag c.w.params).In h₀ → News h₀ L s.heap news → Top c.p c.loose c.mean c.mg c.mb h₀ → cs.kind = .function → dp + deep < recursionLimit → un + units < cLine →
    (∀ (v : Value) (own : Led) (h' : Heap) (tk' : Nat), Fr h₀ L h' m → News h₀ L h' (own ++ news) → R v own → Q v { s with heap := h', toks := tk' }) →
    wpAny (MM c.w) (ktrTop dp un gd cn cs L a ccd cl outer) (call (.ref f) vals) Q E s
theorem Tells.use {c : Cx} {base : Heap} {news : Led} {f : Addr} {vals : List Value} {deep units : Nat} {R : Value → Led → Prop} (C : Tells c base news f vals deep units R)
    {dp un : Nat} {gd : Option (List Code)} {cn : Str} {cs : Scope} {a : Addr} {ccd : Value} {cl : List (Str × Addr)} {outer : List Env} {A₀ : Around} {h₀ : Heap} {L : Addr} {m : Str → Option Value} {s : Shared} {Q E : Value → Shared → Prop}
    (B : Below A₀ base outer h₀) (F : Fr h₀ L s.heap m) (X : (frag c.w.params).In h₀) (N : News h₀ L s.heap news) (T : Top c.p c.loose c.mean c.mg c.mb h₀) (hk : cs.kind = .function) (hd : dp + deep < recursionLimit) (hu : un + units < cLine)
    (ret : ∀ (v : Value) (own : Led) (h' : Heap) (tk' : Nat), Fr h₀ L h' m → News h₀ L h' (own ++ news) → R v own → Q v { s with heap := h', toks := tk' }) :
    wpAny (MM c.w) (ktrTop dp un gd cn cs L a ccd cl outer) (call (.ref f) vals) Q E s := C _ _ _ _ _ _ _ _ _ _ _ _ _ _ _ _ B F X N T hk hd hu ret
noncomputable def cellv (ns : List Int) (i : Int) : Int := if i < ns.length then ((ns.getD i.toNat 0).natAbs : Int) else 7 * i + 3
theorem cellv_nonneg (ns : List Int) (i : Int) (h : 0 ≤ i) : 0 ≤ cellv ns i := by unfold cellv; split <;> omega
end Mine
end
section
open PySem PySem.W PySem.Spec PySem.Calls PyProof.Rows
set_option maxHeartbeats 8000000
namespace Mine
/-- a place where a walk is to stop -/
structure Stop (P : Prop) : Prop where
  go : P
theorem stop {P : Prop} (h : Stop P) : P := h.go
theorem intOk {a b : Int} {t : Tok} (h : a = b) : ∃ t', Value.int a t = Value.int b t' := ⟨t, by rw [h]⟩
theorem drop_news {h₀ h : Heap} {L : Addr} {a b : Led} (N : News h₀ L h b) (hs : ∀ p ∈ a, p ∈ b) : News h₀ L h a := fun p hp => N p (hs p hp)
theorem news_head {h₀ h : Heap} {L : Addr} {p : Addr × Obj} {more news : Led} (N : News h₀ L h (p :: more)) (hs : ∀ q ∈ news, q ∈ more) : News h₀ L h ([p] ++ news) := fun q hq => by
  rcases List.mem_cons.mp hq with rfl | hq
  · exact N _ (.head _)
  · exact N _ (.tail _ (hs _ hq))
theorem cellv_in {ns : List Int} {i : Int} (h : i < ns.length) : cellv ns i = ((ns.getD i.toNat 0).natAbs : Int) := if_pos h
theorem cellv_out {ns : List Int} {i : Int} (h : ¬ i < ns.length) : cellv ns i = 7 * i + 3 := if_neg h
/-- the script stands in the heap below all calls -/
structure Scr (base : Heap) (l : Addr) (vs : List Value) (ns : List Int) : Prop where
  isl : base.IsList l vs.toArray
  iar : IntsAre vs ns
  few : ns.length ≤ 63
theorem cellT {c : Cx} {base : Heap} {news : Led} {l : Addr} {vs : List Value} {ns : List Int} {i : Int} {tk : Tok} (hS : Scr base l vs ns) (h0 : 0 ≤ i) (h1 : i < 100) :
    Tells c base news 223 [.ref l, .int i tk] 1 8 (fun v own => own = [] ∧ ∃ t, v = .int (cellv ns i) t) := by
  obtain ⟨hl, hi, hfit⟩ := hS
  unfold Tells MM
  k_fill
  intro dp un gd cn cs a ccd cl outer A₀ h₀ L m s Q E B F X N T hk hd hu hret
  refine wpAny_call ?_
  k_dflt cell_enter
  k_steps
  · refine hret _ [] _ _ (by assumption) (by assumption) ⟨rfl, intOk ?_⟩
    rw [cellv_in (by assumption)]; split <;> omega
  · refine hret _ [] _ _ (by assumption) (by assumption) ⟨rfl, intOk ?_⟩
    rw [cellv_out (by assumption)]
noncomputable def kindv (x : Str) : Int :=
  if (Txt.item x 0 == Str.ofString "#") = true then 61
  else if Txt.isalpha (Txt.item x 0) = true then 1
  else if (Txt.item x 0 == Str.ofString "_") = true then 1
  else if Txt.isdigit (Txt.item x 0) = true then 2 else 54
theorem kindT {c : Cx} {base : Heap} {news : Led} {x : Str} {tk : Tok} (hx : 0 < x.length ∧ x.length < 20) :
    Tells c base news 230 [.str x tk] 1 8 (fun v own => own = [] ∧ ∃ t, v = .int (kindv x) t) := by
  unfold Tells MM
  k_fill
  intro dp un gd cn cs a ccd cl outer A₀ h₀ L m s Q E B F X N T hk hd hu hret
  refine wpAny_call ?_
  k_dflt cell_enter
  k_steps
  all_goals (refine hret _ [] _ _ (by assumption) (by assumption) ⟨rfl, intOk ?_⟩)
  all_goals (unfold kindv; simp only [*, if_true, if_false, Bool.false_eq_true])
noncomputable def freeS : List Str := ["+", "-", "*", "/", "//", "%", "**", "@", "|", "<<", "&", ">>"]
noncomputable def allS : List Str := ["=", "==", "<=", "and", "in", "+=", "->", "!=", "+", "-", "*", "/", "//", "%", "**", ",", "@", "|", "<<", "&", ">>"]
theorem freeT {c : Cx} {base : Heap} {news : Led} :
    Tells c base news 216 [] 1 8 (fun v own => ∃ x t1 t2 t3 t4 t5 t6 t7 t8 t9 t10 t11 t12, v = .ref x ∧ own = [(x, listOf ([.str "+" t1, .str "-" t2, .str "*" t3, .str "/" t4, .str "//" t5, .str "%" t6, .str "**" t7, .str "@" t8, .str "|" t9, .str "<<" t10, .str "&" t11, .str ">>" t12] : List Value).toArray 0)] ∧ AllLt x news) := by
  unfold Tells MM
  k_fill
  intro dp un gd cn cs a ccd cl outer A₀ h₀ L m s Q E B F X N T hk hd hu hret
  refine wpAny_call ?_
  k_dflt cell_enter
  k_steps
  exact hret _ [(_, _)] _ _ (by assumption) (by assumption) ⟨_, _, _, _, _, _, _, _, _, _, _, _, _, rfl, rfl, by first | assumption | exact allLt_of (by assumption)⟩
local macro_rules | `(tactic| walk_at "call ref") => `(tactic| ((with_reducible show wpAny _ _ (call (Value.ref 216) _) _ _ _); refine stop ?_))
local macro_rules | `(tactic| walk_at "binaryOp Add ref ref") => `(tactic| (k_here; (with_reducible show wpAny _ _ (binaryOp _ (Value.ref 209) (Value.ref _)) _ _ _); k_dflt (refine' kmk_add_lit ?F ?N ?a ?b ?e ?_ ?z; (case F => k_asm); (case N => k_asm); (case a => exact lstK (by k_in) (by k_is)); (case b => kmk_list); (case e => kl_lit); (case z => kl_room)); intro D' h' F' N' l1; (try k_lt l1); (try k_sweep)))
theorem allT {c : Cx} {base : Heap} {news : Led} :
    Tells c base news 244 [] 2 16 (fun v own => ∃ x lv, v = .ref x ∧ own = [(x, listOf lv.toArray 0)] ∧ StrsAre lv allS ∧ AllLt x news) := by
  unfold Tells MM
  k_fill
  intro dp un gd cn cs a ccd cl outer A₀ h₀ L m s Q E B F X N T hk hd hu hret
  refine wpAny_call ?_
  k_dflt cell_enter
  k_steps
  constructor
  (refine' (freeT (c := _) (base := _) (news := _)).use ?k1 ?k2 ?k3 ?k4 ?k5 ?kK ?kd ?ku ?_; (case k1 => k_asm); (case k2 => k_asm); (case k3 => k_asm); (case k4 => k_asm); (case k5 => k_asm); (case kK => first | exact rfl | assumption); (case kd => ktr_room); (case ku => ktr_units))
  intro v9 own9 h9 tk9 F9 N9 hR9
  obtain ⟨x9, t1, t2, t3, t4, t5, t6, t7, t8, t9, t10, t11, t12, rfl, rfl, hA9⟩ := hR9
  (try simp only [AllLt, and_true] at hA9)
  simp only [List.cons_append, List.nil_append] at N9
  clear F N
  k_steps
  constructor
  (refine' (freeT (c := _) (base := _) (news := _)).use ?k1 ?k2 ?k3 ?k4 ?k5 ?kK ?kd ?ku ?_; (case k1 => k_asm); (case k2 => k_asm); (case k3 => k_asm); (case k4 => k_asm); (case k5 => k_asm); (case kK => first | exact rfl | assumption); (case kd => ktr_room); (case ku => ktr_units))
  intro v9 own9 h9 tk9 F9 N9 hR9
  obtain ⟨x9, t1, t2, t3, t4, t5, t6, t7, t8, t9, t10, t11, t12, rfl, rfl, hA9⟩ := hR9
  (try simp only [AllLt, and_true] at hA9)
  simp only [List.cons_append, List.nil_append] at N9
  k_steps
  refine hret _ [(_, _)] _ _ (by assumption) (news_head (by assumption) ?_) ⟨_, _, rfl, rfl, ?_, ?_⟩
  · intro q hq; repeat (first | exact hq | apply List.Mem.tail)
  · repeat constructor
  · first
      | assumption
      | exact (‹_ ∧ AllLt _ _›).2
      | exact (‹_ ∧ _ ∧ AllLt _ _›).2.2
      | exact (‹_ ∧ _ ∧ _ ∧ AllLt _ _›).2.2.2
      | exact (‹_ ∧ _ ∧ _ ∧ _ ∧ AllLt _ _›).2.2.2.2
      | exact (‹_ ∧ _ ∧ _ ∧ _ ∧ _ ∧ AllLt _ _›).2.2.2.2.2
      | exact (‹_ ∧ _ ∧ _ ∧ _ ∧ _ ∧ _ ∧ AllLt _ _›).2.2.2.2.2.2
      | exact (‹_ ∧ _ ∧ _ ∧ _ ∧ _ ∧ _ ∧ _ ∧ AllLt _ _›).2.2.2.2.2.2.2
      | exact (‹_ ∧ _ ∧ _ ∧ _ ∧ _ ∧ _ ∧ _ ∧ _ ∧ AllLt _ _›).2.2.2.2.2.2.2.2
end Mine
end
section
open PySem PySem.W PySem.Spec PySem.Calls PyProof.Rows PyProof.V
set_option maxHeartbeats 4000000
namespace Mine
/-- all addresses of the ledger's tail lie below B -/
structure Bel (B : Nat) (news : Led) : Prop where
  all : ∀ p ∈ news, @LT.lt Nat _ p.1 B
theorem Bel.ne {B d : Nat} {news : Led} (h : Bel B news) (hd : B ≤ d) : ∀ p ∈ news, p.1 ≠ d := fun p hp => Nat.ne_of_lt (Nat.lt_of_lt_of_le (h.all p hp) hd)
theorem Bel.mono {B d : Nat} {news : Led} (h : Bel B news) (hd : B ≤ d) : Bel d news := ⟨fun p hp => Nat.lt_of_lt_of_le (h.all p hp) hd⟩
theorem kstB_self (ps : List (Str × Value)) (m : Str → Option Value) (h : ∀ p ∈ ps, m p.1 = some p.2) : kstB m ps = m := funext fun _ => kstB_eq h fun _ => rfl
theorem fr_named {h₀ h : Heap} {L : Addr} {m : Str → Option Value} {ps : List (Str × Value)} (F : Fr h₀ L h m) (h1 : ∀ p ∈ ps, m p.1 = some p.2) : Fr h₀ L h (kstB m ps) := by
  rw [kstB_self ps m h1]; exact F
theorem fr_named1 {h₀ h : Heap} {L : Addr} {m : Str → Option Value} {x : Str} {v : Value} {ps : List (Str × Value)} (F : Fr h₀ L h (fun y => if y = x then some v else m y)) (h1 : ∀ p ∈ ps, m p.1 = some p.2) :
    Fr h₀ L h (fun y => if y = x then some v else kstB m ps y) := by
  rw [kstB_self ps m h1]; exact F

section
variable {prog : Program} {w : World} {A : Around} {E : Value → Shared → Prop} {s : Shared} {env : Env} {h₀ : Heap} {x : Str} {body : List Stmt} {Q : Flow → Shared → Prop}
/-- the end of a loop's turn -/
noncomputable def TurnEnd {σ : Type} (h₀ : Heap) (L : Addr) (Ld : σ → Led) (ps : σ → List (Str × Value)) (P : Nat → σ → Prop) (I : Addr) (io : Obj) (i : Nat) (s₁ : Shared) (f : Flow) (s₂ : Shared) : Prop :=
  f = .next ∧ ∃ c h' tk' m', s₂ = { s₁ with heap := h', toks := tk' } ∧ Fr h₀ L h' m' ∧ News h₀ L h' ((I, io) :: Ld c) ∧ (∀ p ∈ Ld c, p.1 ≠ I) ∧ (∀ p ∈ ps c, m' p.1 = some p.2) ∧ P (i + 1) c
theorem range_any {σ : Type} {r : Addr} {a₀ b₀ : Int} {t₀ u₀ v₀ : Tok} {n : Nat} {m₀ : Str → Option Value} (Ld : σ → Led) (ps : σ → List (Str × Value)) (P : Nat → σ → Prop) (c₀ : σ)
    (hh : A.handled = none) (hr : IsRange s.heap r a₀ b₀ 1 t₀ u₀ v₀) (hsmall : Builtin.Range.small a₀ b₀ 1 = true) (hn : Builtin.Range.rangeSize a₀ b₀ 1 = (n : Int)) (F : Fr h₀ env.locals s.heap m₀) (N : News h₀ env.locals s.heap (Ld c₀)) (hk : ∀ p ∈ ps c₀, m₀ p.1 = some p.2) (hp : P 0 c₀)
    (turn : ∀ (c : σ) (i : Nat) t (u : Str → Option Value) h tk I io, i < n → (∀ p ∈ Ld c₀, p.1 < I) → (∀ p ∈ Ld c, p.1 ≠ I) → P i c →
      Fr h₀ env.locals h (fun y => if y = x then some (.int (a₀ + (i : Int)) t) else kstB u (ps c) y) → News h₀ env.locals h ((I, io) :: Ld c) →
      wpAny (model prog w) A (execs body env) (TurnEnd h₀ env.locals Ld ps P I io i { s with heap := h, toks := tk }) E { s with heap := h, toks := tk })
    (done : ∀ (c : σ) (u : Str → Option Value) h tk, P n c → Fr h₀ env.locals h (kstB u (ps c)) → News h₀ env.locals h (Ld c) → Q .next { s with heap := h, toks := tk }) :
    wpAny (model prog w) A (pyIter (.ref r)) (fun it s₂ => LoopAtV prog w A h₀ env x body Q E it s₂) E s := by
  refine wpAny_pyIter_range hr hsmall ?_
  have W : Walks prog w A s.heap.objs.size [s.heap.objs.size] [s.heap.objs.size] n (fun i v => i < n ∧ ∃ t, v = .int (a₀ + i * 1) t)
      (fun i h => IsRangeIter h s.heap.objs.size (a₀ + (i : Nat) * 1) ((n : Int) - (i : Nat)) 1) := (Walks.range hh _ a₀ 1 n).bound
  have hlt : ∀ p ∈ Ld c₀, p.1 < s.heap.objs.size := fun p hp => Heap.lt_size (N p hp).1
  have hIn : h₀.get? s.heap.objs.size = none := next_is_new F
  have hLI : env.locals ≠ s.heap.objs.size := Nat.ne_of_lt F.ns.lt
  refine ⟨_, _, _, n, _, _, m₀, Ld c₀, fun i m nx => ∃ c, nx = Ld c ∧ (∀ p ∈ ps c, m p.1 = some p.2) ∧ P i c, rfl, W, ?_, ?_, ?_, ?_, F.push _, (fun p hp => ⟨Heap.get?_push_of_some _ (N p hp).1, (N p hp).2⟩), ⟨c₀, rfl, hk, hp⟩, ?_, ?_⟩
  · intro hm
    exact hLI (List.mem_singleton.mp hm)
  · intro b hb
    rw [List.mem_singleton.mp hb]
    exact hIn
  · intro p hp hI
    exact absurd (hlt p hp) ((List.mem_singleton.mp hI) ▸ Nat.lt_irrefl _)
  · show IsRangeIter _ _ _ _ _
    rw [hn]; simpa using Heap.get?_push_size _ rfl
  · rintro i v m₁ news₁ s₁ own ⟨hh', tk', rfl⟩ hin ⟨_, t, rfl⟩ ⟨c, rfl, h1, hp'⟩ hoff hsub hget hall hst F₁ N₁
    have hne : ∀ p ∈ Ld c, p.1 ≠ s.heap.objs.size := fun p hp e => hoff p hp (e ▸ List.mem_singleton.mpr rfl)
    have e1 : a₀ + (i : Int) * 1 = a₀ + (i : Int) := by omega
    rw [e1] at F₁
    have hio : hh'.get? s.heap.objs.size = some _ := hst
    have hmem := hall s.heap.objs.size (List.mem_singleton.mpr rfl) hIn _ hio
    have N₂ : News h₀ env.locals hh' ((s.heap.objs.size, _) :: Ld c) := fun p hp => (List.mem_cons.mp hp).elim (fun e => e ▸ N₁ _ (List.mem_append_left _ hmem)) fun hp => N₁ p (List.mem_append_right _ hp)
    refine wpAny_mono (turn c i t m₁ hh' tk' _ _ hin hlt hne hp' (fr_named1 F₁ h1) N₂) (fun f s₂ p => ?_) fun _ _ e => e
    obtain ⟨rfl, c', h', tk'', m', rfl, F', N', hne', hps, hP⟩ := p
    refine .next ⟨rfl, h', tk'', m', Ld c', rfl, F', ?_, fun p hp hI => hne' p hp (List.mem_singleton.mp hI), c', rfl, hps, hP⟩
    intro p hp
    rcases List.mem_append.mp hp with hp | hp
    · have e2 : p.1 = s.heap.objs.size := List.mem_singleton.mp (hsub p hp)
      obtain ⟨pa, po⟩ := p
      dsimp only at e2
      subst e2
      have e4 := hget _ hp
      dsimp only at e4
      rw [hio] at e4
      cases e4
      exact N' _ (.head _)
    · exact N' _ (.tail _ hp)
  · rintro h' tk' m' news' F' N' _ ⟨c, rfl, h1, hp'⟩
    exact done c m' h' tk' hp' (fr_named F' h1) N'
end
end Mine
end
section
namespace Mine
local macro_rules | `(tactic| walk_at "zz0") => `(tactic| fail)
local macro_rules | `(tactic| walk_at "zz1") => `(tactic| fail)
open PySem PySem.W PySem.Spec PySem.Calls PyProof.Rows PyProof.V
set_option maxHeartbeats 8000000
noncomputable def forBody : Stmt → List Stmt
  | .For _ _ b _ _ => b
  | _ => []
noncomputable def passS : Stmt := .Pass ⟨0, 0, 0, 0⟩
structure BS where
  ws : List Str
  gs : List Int
  ss : List Int
  ah : Int
structure BC where
  W : Nat
  G : Nat
  S : Nat
  wv : List Value
  gv : List Value
  sv : List Value
  nW : Nat
  nG : Nat
  nS : Nat
  b : BS
  ta : Tok
noncomputable def bLd (news : Led) (c : BC) : Led := (c.W, listOf c.wv.toArray c.nW) :: (c.G, listOf c.gv.toArray c.nG) :: (c.S, listOf c.sv.toArray c.nS) :: news
noncomputable def bPs (l : Addr) (isc : Bool) (c : BC) : List (Str × Value) := [(Str.ofString "words", .ref c.W), (Str.ofString "gaps", .ref c.G), (Str.ofString "spots", .ref c.S), (Str.ofString "ahead", .int c.b.ah c.ta), (Str.ofString "is_call", .bool isc), (Str.ofString "script", .ref l)]
noncomputable def bPsN (l : Addr) (isc : Bool) (i : Nat) (t : Tok) (num : Int) (tn : Tok) (c : BC) : List (Str × Value) := (Str.ofString "number", .int num tn) :: (Str.ofString "at", .int (0 + (i : Int)) t) :: bPs l isc c
structure BOk (B I : Nat) (n : Nat) (c : BC) : Prop where
  h1 : c.W ≠ I
  h2 : c.G ≠ I
  h3 : c.S ≠ I
  h4 : c.W ≠ c.G
  h5 : c.W ≠ c.S
  h6 : c.G ≠ c.S
  h7 : B ≤ c.W
  h8 : B ≤ c.G
  h9 : B ≤ c.S
  hw : StrsAre c.wv c.b.ws
  hg : IntsAre c.gv c.b.gs
  hs : IntsAre c.sv c.b.ss
  hwl : c.wv.length ≤ n
  hgl : c.gv.length ≤ n
  hsl : c.sv.length ≤ n
/-- behind a statement of the turn -/
noncomputable def BMid (h₀ : Heap) (L : Addr) (news : Led) (l : Addr) (isc : Bool) (B I : Nat) (io : Obj) (i : Nat) (t : Tok) (num : Int) (n : Nat) (goal : BS) (s₁ : Shared) (f : Flow) (s₂ : Shared) : Prop :=
  f = .next ∧ ∃ c tn h' tk' m', s₂ = { s₁ with heap := h', toks := tk' } ∧ Fr h₀ L h' m' ∧ News h₀ L h' ((I, io) :: bLd news c) ∧ (∀ p ∈ bPsN l isc i t num tn c, m' p.1 = some p.2) ∧ BOk B I n c ∧ c.b = goal
theorem bmid_end {h₀ : Heap} {L : Addr} {news : Led} {l : Addr} {isc : Bool} {B I : Nat} {io : Obj} {i : Nat} {t : Tok} {num : Int} {tn : Tok} {n : Nat} {goal : BS} {s₁ : Shared} {h' : Heap} {tk' : Nat} {m' : Str → Option Value} {full : Led}
    {W G S : Nat} {wv gv sv : List Value} {nW nG nS : Nat} {ws : List Str} {gs ss : List Int} {ah : Int} {ta : Tok} (F : Fr h₀ L h' m') (N : News h₀ L h' full)
    (e1 : m' (Str.ofString "words") = some (.ref W)) (e2 : m' (Str.ofString "gaps") = some (.ref G)) (e3 : m' (Str.ofString "spots") = some (.ref S)) (e4 : m' (Str.ofString "ahead") = some (.int ah ta)) (e5 : m' (Str.ofString "is_call") = some (.bool isc)) (e6 : m' (Str.ofString "script") = some (.ref l))
    (e7 : m' (Str.ofString "number") = some (.int num tn)) (e8 : m' (Str.ofString "at") = some (.int (0 + (i : Int)) t))
    (mI : (I, io) ∈ full) (mW : (W, listOf wv.toArray nW) ∈ full) (mG : (G, listOf gv.toArray nG) ∈ full) (mS : (S, listOf sv.toArray nS) ∈ full) (mn : ∀ p ∈ news, p ∈ full)
    (h1 : W ≠ I ∧ G ≠ I ∧ S ≠ I ∧ W ≠ G ∧ W ≠ S ∧ G ≠ S ∧ B ≤ W ∧ B ≤ G ∧ B ≤ S) (hw : StrsAre wv ws) (hg : IntsAre gv gs) (hs : IntsAre sv ss) (hl : wv.length ≤ n ∧ gv.length ≤ n ∧ sv.length ≤ n) (hb : goal = ⟨ws, gs, ss, ah⟩) :
    BMid h₀ L news l isc B I io i t num n goal s₁ .next { s₁ with heap := h', toks := tk' } := by
  obtain ⟨a1, a2, a3, a4, a5, a6, a7, a8, a9⟩ := h1
  obtain ⟨l1, l2, l3⟩ := hl
  refine ⟨rfl, ⟨W, G, S, wv, gv, sv, nW, nG, nS, ⟨ws, gs, ss, ah⟩, ta⟩, tn, h', tk', m', rfl, F, ?_, ?_, ⟨a1, a2, a3, a4, a5, a6, a7, a8, a9, hw, hg, hs, l1, l2, l3⟩, hb.symm⟩
  · intro p hp
    unfold bLd at hp
    rcases List.mem_cons.mp hp with rfl | hp
    · exact N _ mI
    rcases List.mem_cons.mp hp with rfl | hp
    · exact N _ mW
    rcases List.mem_cons.mp hp with rfl | hp
    · exact N _ mG
    rcases List.mem_cons.mp hp with rfl | hp
    · exact N _ mS
    · exact N _ (mn _ hp)
  · intro p hp
    unfold bPsN bPs at hp
    simp only [List.mem_cons, List.not_mem_nil, or_false] at hp
    rcases hp with rfl | rfl | rfl | rfl | rfl | rfl | rfl | rfl <;> assumption
theorem strs_snoc {vs : List Value} {ss : List Str} {x : Str} {t : Tok} (h : StrsAre vs ss) : StrsAre (vs ++ [.str x t]) (ss ++ [x]) := StrsAre.append' h (.cons _ _ .nil)
theorem strs_snoc3 {vs : List Value} {ss : List Str} {x y z : Str} {t u v : Tok} (h : StrsAre vs ss) : StrsAre (vs ++ [.str x t, .str y u, .str z v]) (ss ++ [x, y, z]) := StrsAre.append' h (.cons _ _ (.cons _ _ (.cons _ _ .nil)))
theorem ints_snoc {vs : List Value} {ss : List Int} {x : Int} {t : Tok} (h : IntsAre vs ss) : IntsAre (vs ++ [.int x t]) (ss ++ [x]) := IntsAre.append h (.cons _ _ .nil)
theorem ints_snoc3 {vs : List Value} {ss : List Int} {x y z : Int} {t u v : Tok} (h : IntsAre vs ss) : IntsAre (vs ++ [.int x t, .int y u, .int z v]) (ss ++ [x, y, z]) := IntsAre.append h (.cons _ _ (.cons _ _ (.cons _ _ .nil)))
theorem fm_nonneg (x m : Int) (hm : 0 < m) : 0 ≤ x.fmod m := Int.fmod_nonneg_of_pos _ hm
theorem fm_lt (x m : Int) (hm : 0 < m) : x.fmod m < m := Int.fmod_lt_of_pos _ hm
theorem strs_get : ∀ {lv : List Value} {ss : List Str}, StrsAre lv ss → ∀ (i : Nat), i < ss.length → ∃ t, lv[i]? = some (.str (ss.getD i Str.empty) t)
  | _, _, .nil, i, h => by simp at h
  | _, _, .cons y t _, 0, _ => ⟨t, rfl⟩
  | _, _, .cons _ _ h, i + 1, hi => by
    obtain ⟨t, e⟩ := strs_get h i (by simpa using hi)
    exact ⟨t, by simpa using e⟩
section
variable {prog : Program} {w : World} {A : Around} {E : Value → Shared → Prop} {s : Shared} {h₀ : Heap} {L l D a b : Addr} {m : Str → Option Value} {news news' : Led} {lv lw : List Value} {n n' : Nat} {Q : Value → Shared → Prop}
theorem item_strs {value slice : Expr} {ss : List Str} {k : Int} {u : Tok} (N : News h₀ L s.heap news) (hm : (l, listOf lv.toArray n) ∈ news) (hS : StrsAre lv ss) (h0 : 0 ≤ k) (h1 : k < ss.length) (h2 : ss.length < 1000) (h : ∀ t, Q (.str (ss.getD k.toNat Str.empty) t) s)
    (hs : subscripted slice false (.ref l) (.int k u) = operate [.ref l, .int k u] (getItem (.ref l) (.int k u))) :
    wpAny (model prog w) A (subscriptTail value slice (.ref l) (.int k u)) Q E s := by
  obtain ⟨t, e⟩ := strs_get hS k.toNat (by omega)
  have hL : s.heap.IsList l lv.toArray := ⟨_, (N _ hm).1, rfl, _, rfl⟩
  exact tail_any hL.typeIs slot_list_getitem.lookup (wpAny_getItem_list hL h0 (by omega) (by simpa using e) (h t)) hs
theorem append_L {x : Value} (F : Fr h₀ L s.heap m) (N : News h₀ L s.heap news) (U : Upd D (listOf lv.toArray n) (listOf (lv ++ [x]).toArray (n + 1)) news news') (hz : lv.length ≤ 1000)
    (h : ∀ h', Fr h₀ L h' m → News h₀ L h' news' → Q .none { s with heap := h' }) : wpAny (model prog w) A (call (.builtin "list.append") [.ref D, x]) Q E s := by
  have e : lv.toArray.push x = (lv ++ [x]).toArray := by simp
  refine append_K (its := lv.toArray) (n := n) F N (by rw [e]; exact U) h ?_
  rw [sizeLine_eq, List.size_toArray]; omega
theorem add_L (F : Fr h₀ L s.heap m) (N : News h₀ L s.heap news) (ha : (a, listOf lv.toArray n) ∈ news) (hb : (b, listOf lw.toArray n') ∈ news) (hz : lv.length + lw.length ≤ 1000)
    (h : ∀ D h', Fr h₀ L h' m → News h₀ L h' ((D, listOf (lv ++ lw).toArray 0) :: news) → (∀ p ∈ news, p.1 < D) → Q (.ref D) { s with heap := h' }) : wpAny (model prog w) A (binaryOp .Add (.ref a) (.ref b)) Q E s :=
  kmk_add_lit F N (its := lv.toArray) (its2 := lw.toArray) (zs := lv ++ lw) ⟨_, (N _ ha).1, rfl, _, rfl⟩ ⟨_, (N _ hb).1, rfl, _, rfl⟩ (by simp) h (by rw [sizeLine_eq]; simpa using Nat.le_trans hz (by omega))
theorem len_L (N : News h₀ L s.heap news) (hm : (l, listOf lv.toArray n) ∈ news) (hz : lv.length ≤ 1000) (h : Q (.int (lv.length : Int) (s.toks + 1)) { s with toks := s.toks + 1 + 1 }) : wpAny (model prog w) A (call (.builtin "len") [.ref l]) Q E s :=
  len_list (items := lv.toArray) ⟨_, (N _ hm).1, rfl, _, rfl⟩ (by rw [List.size_toArray]; omega) (by rw [List.size_toArray]; exact h)
end
local macro_rules | `(tactic| walk_at "call ref") => `(tactic| (k_here; k_dflt (refine' (cellT (c := _) (base := _) (news := _) (by assumption) (by first | decide | omega) (by first | decide | omega)).use ?k1 ?k2 ?k3 ?k4 ?k5 ?kK ?kd ?ku ?_; (case k1 => k_asm); (case k2 => k_asm); (case k3 => k_asm); (case k4 => k_asm); (case k5 => k_asm); (case kK => first | exact rfl | assumption); (case kd => ktr_room); (case ku => ktr_units)); intro v9 own9 h9 tk9 F9 N9 hR9; obtain ⟨ho9, t9, hv9⟩ := hR9; subst hv9; subst ho9; (try simp only [List.cons_append, List.nil_append] at N9)))
local macro_rules | `(tactic| walk_at "call ref") => `(tactic| (k_here; k_dflt (refine' (allT (c := _) (base := _) (news := _)).use ?k1 ?k2 ?k3 ?k4 ?k5 ?kK ?kd ?ku ?_; (case k1 => k_asm); (case k2 => k_asm); (case k3 => k_asm); (case k4 => k_asm); (case k5 => k_asm); (case kK => first | exact rfl | assumption); (case kd => ktr_room); (case ku => ktr_units)); intro v9 own9 h9 tk9 F9 N9 hR9; obtain ⟨x9, lv9, hv9, ho9, hS9, hA9⟩ := hR9; subst hv9; subst ho9; (try simp only [AllLt, and_true] at hA9); (try simp only [List.cons_append, List.nil_append] at N9)))
local macro_rules | `(tactic| k_all) => `(tactic| exact Bel.ne (by assumption) (by omega))
local macro_rules | `(tactic| walk_at "subscriptTail") => `(tactic| (k_here; (with_reducible show wpAny _ _ (subscriptTail _ _ (Value.ref _) (Value.int (Int.fmod _ _) _)) _ _ _); k_dflt (refine' item_strs ?N ?m ?S ?a ?b ?c ?_ ?hs; (case N => k_asm); (case m => k_mem); (case S => first | assumption | (repeat constructor)); (case a => exact fm_nonneg _ _ (by decide)); (case b => exact fm_lt _ _ (by decide)); (case c => decide); (case hs => with_unfolding_all rfl)); intro t9))
local macro_rules | `(tactic| walk_at "call builtin:list.append") => `(tactic| (k_here; (with_reducible show wpAny _ _ (call (Value.builtin _) [Value.ref _, _]) _ _ _); k_dflt (refine' append_L ?k1 ?k2 ?k3 ?z ?_; (case k1 => k_asm); (case k2 => k_asm); (case k3 => k_upd); (case z => ((try simp only [List.length_append, List.length_cons, List.length_nil]); omega)); k_whole); intro h' F' N'; (try k_sweep)))
local macro_rules | `(tactic| walk_at "binaryOp Add ref ref") => `(tactic| (k_here; (with_reducible show wpAny _ _ (binaryOp _ (Value.ref _) (Value.ref _)) _ _ _); k_dflt (refine' add_L ?k1 ?k2 ?a ?b ?z ?_; (case k1 => k_asm); (case k2 => k_asm); (case a => k_mem); (case b => k_mem); (case z => ((try simp only [List.length_append, List.length_cons, List.length_nil]); omega)); k_whole); intro D' h' F' N' l1; (try k_lt l1); (try k_sweep)))
local macro_rules | `(tactic| walk_at "call builtin:len") => `(tactic| (k_here; (with_reducible show wpAny _ _ (call (Value.builtin "len") [Value.ref _]) _ _ _); k_dflt (refine' len_L ?k1 ?a ?z ?_; (case k1 => k_asm); (case a => k_mem); (case z => ((try simp only [List.length_append, List.length_cons, List.length_nil]); omega)); k_whole)))
noncomputable def unS : List Str := ["-", "+", "~", "*"]
noncomputable def moS : List Str := ["a", "x1", "12", "b"]
noncomputable def signv (ns : List Int) (i : Nat) : Str := allS.getD ((cellv ns (3 * (0 + (i : Int)))).fmod 21).toNat Str.empty
noncomputable def sidesv (ns : List Int) (i : Nat) : Int := if (([Str.ofString "and", Str.ofString "in"].any fun x => x == signv ns i) = true) then 3 else (cellv ns (1 + 3 * (0 + (i : Int)))).fmod 4
noncomputable def numv (ns : List Int) (i : Nat) : Int := cellv ns (2 + 3 * (0 + (i : Int)))
noncomputable def bSign (ns : List Int) (i : Nat) (b : BS) : BS := if 0 < (0 + (i : Int)) then ⟨b.ws ++ [signv ns i], b.gs ++ [(sidesv ns i).fmod 2], b.ss ++ [(b.ws.length : Int)], (sidesv ns i).fdiv 2⟩ else b
noncomputable def bUn (ns : List Int) (i : Nat) (b : BS) : BS := if (numv ns i).fmod 3 = 1 then ⟨b.ws ++ [unS.getD (((numv ns i).fdiv 3).fmod 4).toNat Str.empty], b.gs ++ [b.ah], b.ss, 0⟩ else b
noncomputable def bMore (ns : List Int) (i : Nat) (b : BS) : BS := ⟨b.ws ++ [moS.getD (((numv ns i).fdiv 12).fmod 4).toNat Str.empty], b.gs ++ [b.ah], b.ss, 0⟩
noncomputable def bPar (ns : List Int) (i : Nat) (b : BS) : BS := if ((numv ns i).fdiv 144).fmod 4 = 1 then ⟨b.ws ++ ([Str.ofString "(", Str.ofString "c", Str.ofString ")"] : List Str), b.gs ++ [0, 0, 0], b.ss, b.ah⟩ else b
noncomputable def bStep (ns : List Int) (i : Nat) (b : BS) : BS := bPar ns i (bMore ns i (bUn ns i (bSign ns i b)))
section
variable {c : Cx} {base : Heap} {news : Led} {l : Addr} {vs : List Value} {ns : List Int} {B : Nat} {isc : Bool}
  {dp un : Nat} {gd : Option (List Code)} {cn : Str} {cs : Scope} {a : Addr} {ccd : Value} {cl : List (Str × Addr)} {outer : List Env} {L₀ : Addr} {h₀ : Heap} {L : Addr} {s : Shared} {E : Value → Shared → Prop}
  {bc : BC} {n i : Nat} {t tn : Tok} {u : Str → Option Value} {I : Nat} {io : Obj}
theorem bS0 (hS : Scr base l vs ns) (hB : Bel B news) (B' : Below (ktrTop dp un gd cn cs L₀ a ccd cl outer) base (envX cn cs L₀ a ccd cl :: outer) h₀) (X : (frag c.w.params).In h₀) (T : Top c.p c.loose c.mean c.mg c.mb h₀) (hk : cs.kind = .function) (hd : dp + 4 < recursionLimit) (hu : un + 32 < cLine)
    (hi6 : i < 6) (hIB : B ≤ I) (hOk : BOk B I n bc) (hn : n ≤ 60) (F : Fr h₀ L s.heap (kstB u ((Str.ofString "at", .int (0 + (i : Int)) t) :: bPs l isc bc))) (N : News h₀ L s.heap ((I, io) :: bLd news bc)) :
    wpAny (MM c.w) ((ktrTop dp un gd cn cs L₀ a ccd cl outer).deeper (envOf (Str.ofString "_law_built") (fnScope (topSt 23)) L 251 (.ref 250))) (exec ((forBody ((fnBody (topSt 23)).getD 3 passS)).getD 0 passS) (envOf (Str.ofString "_law_built") (fnScope (topSt 23)) L 251 (.ref 250)))
      (BMid h₀ L news l isc B I io i t (numv ns i) (n + 0) (bc.b) s) E s := by
  obtain ⟨h1, h2, h3, h4, h5, h6, h7, h8, h9, hw, hg, hs, hwl, hgl, hsl⟩ := hOk
  have hwe := hw.length
  unfold MM
  revert X; k_fill; intro X
  unfold bLd at N
  unfold bPs at F
  conv in exec _ _ => arg 1; whnf
  k_steps
  all_goals ((try dsimp only); refine' bmid_end ?qF ?qN ?q1 ?q2 ?q3 ?q4 ?q5 ?q6 ?q7 ?q8 ?qI ?qW ?qG ?qS ?qn ?qh ?qw ?qg ?qs ?ql ?qb; (case qF => assumption); (case qN => assumption); (case q1 => with_unfolding_all rfl); (case q2 => with_unfolding_all rfl); (case q3 => with_unfolding_all rfl); (case q4 => with_unfolding_all rfl); (case q5 => with_unfolding_all rfl); (case q6 => with_unfolding_all rfl); (case q7 => with_unfolding_all rfl); (case q8 => with_unfolding_all rfl); (case qI => k_mem); (case qW => k_mem); (case qG => k_mem); (case qS => k_mem); (case qn => (intro q hq; repeat (first | exact hq | apply List.Mem.tail))); (case qh => (refine ⟨by omega, by omega, by omega, by omega, by omega, by omega, by omega, by omega, by omega⟩)); (case qw => first | assumption | exact strs_snoc (by assumption) | exact strs_snoc3 (by assumption)); (case qg => first | assumption | exact ints_snoc (by assumption) | exact ints_snoc3 (by assumption)); (case qs => first | assumption | exact ints_snoc (by assumption) | exact ints_snoc3 (by assumption)); (case ql => ((try simp only [List.length_append, List.length_cons, List.length_nil]); (refine ⟨by omega, by omega, by omega⟩))); (case qb => (rfl)))
theorem bIf1 (hS : Scr base l vs ns) (hB : Bel B news) (B' : Below (ktrTop dp un gd cn cs L₀ a ccd cl outer) base (envX cn cs L₀ a ccd cl :: outer) h₀) (X : (frag c.w.params).In h₀) (T : Top c.p c.loose c.mean c.mg c.mb h₀) (hk : cs.kind = .function) (hd : dp + 4 < recursionLimit) (hu : un + 32 < cLine)
    (hi6 : i < 6) (hIB : B ≤ I) (hOk : BOk B I n bc) (hn : n ≤ 60) (F : Fr h₀ L s.heap (kstB u (bPsN l isc i t (numv ns i) tn bc))) (N : News h₀ L s.heap ((I, io) :: bLd news bc)) :
    wpAny (MM c.w) ((ktrTop dp un gd cn cs L₀ a ccd cl outer).deeper (envOf (Str.ofString "_law_built") (fnScope (topSt 23)) L 251 (.ref 250))) (exec ((forBody ((fnBody (topSt 23)).getD 3 passS)).getD 1 passS) (envOf (Str.ofString "_law_built") (fnScope (topSt 23)) L 251 (.ref 250)))
      (BMid h₀ L news l isc B I io i t (numv ns i) (n + 1) (bSign ns i bc.b) s) E s := by
  obtain ⟨h1, h2, h3, h4, h5, h6, h7, h8, h9, hw, hg, hs, hwl, hgl, hsl⟩ := hOk
  have hwe := hw.length
  unfold MM
  revert X; k_fill; intro X
  unfold bLd at N
  unfold bPsN bPs at F
  conv in exec _ _ => arg 1; whnf
  k_steps
  all_goals ((try dsimp only); refine' bmid_end ?qF ?qN ?q1 ?q2 ?q3 ?q4 ?q5 ?q6 ?q7 ?q8 ?qI ?qW ?qG ?qS ?qn ?qh ?qw ?qg ?qs ?ql ?qb; (case qF => assumption); (case qN => assumption); (case q1 => with_unfolding_all rfl); (case q2 => with_unfolding_all rfl); (case q3 => with_unfolding_all rfl); (case q4 => with_unfolding_all rfl); (case q5 => with_unfolding_all rfl); (case q6 => with_unfolding_all rfl); (case q7 => with_unfolding_all rfl); (case q8 => with_unfolding_all rfl); (case qI => k_mem); (case qW => k_mem); (case qG => k_mem); (case qS => k_mem); (case qn => (intro q hq; repeat (first | exact hq | apply List.Mem.tail))); (case qh => (refine ⟨by omega, by omega, by omega, by omega, by omega, by omega, by omega, by omega, by omega⟩)); (case qw => first | assumption | exact strs_snoc (by assumption) | exact strs_snoc3 (by assumption)); (case qg => first | assumption | exact ints_snoc (by assumption) | exact ints_snoc3 (by assumption)); (case qs => first | assumption | exact ints_snoc (by assumption) | exact ints_snoc3 (by assumption)); (case ql => ((try simp only [List.length_append, List.length_cons, List.length_nil]); (refine ⟨by omega, by omega, by omega⟩))); (case qb => (unfold bSign sidesv signv; simp only [*, if_true, if_false, Bool.false_eq_true])))
theorem bIf2 (hS : Scr base l vs ns) (hB : Bel B news) (B' : Below (ktrTop dp un gd cn cs L₀ a ccd cl outer) base (envX cn cs L₀ a ccd cl :: outer) h₀) (X : (frag c.w.params).In h₀) (T : Top c.p c.loose c.mean c.mg c.mb h₀) (hk : cs.kind = .function) (hd : dp + 4 < recursionLimit) (hu : un + 32 < cLine)
    (hi6 : i < 6) (hIB : B ≤ I) (hOk : BOk B I n bc) (hn : n ≤ 60) (F : Fr h₀ L s.heap (kstB u (bPsN l isc i t (numv ns i) tn bc))) (N : News h₀ L s.heap ((I, io) :: bLd news bc)) :
    wpAny (MM c.w) ((ktrTop dp un gd cn cs L₀ a ccd cl outer).deeper (envOf (Str.ofString "_law_built") (fnScope (topSt 23)) L 251 (.ref 250))) (exec ((forBody ((fnBody (topSt 23)).getD 3 passS)).getD 2 passS) (envOf (Str.ofString "_law_built") (fnScope (topSt 23)) L 251 (.ref 250)))
      (BMid h₀ L news l isc B I io i t (numv ns i) (n + 1) (bUn ns i bc.b) s) E s := by
  obtain ⟨h1, h2, h3, h4, h5, h6, h7, h8, h9, hw, hg, hs, hwl, hgl, hsl⟩ := hOk
  have hwe := hw.length
  unfold MM
  revert X; k_fill; intro X
  unfold bLd at N
  unfold bPsN bPs at F
  conv in exec _ _ => arg 1; whnf
  k_steps
  all_goals ((try dsimp only); refine' bmid_end ?qF ?qN ?q1 ?q2 ?q3 ?q4 ?q5 ?q6 ?q7 ?q8 ?qI ?qW ?qG ?qS ?qn ?qh ?qw ?qg ?qs ?ql ?qb; (case qF => assumption); (case qN => assumption); (case q1 => with_unfolding_all rfl); (case q2 => with_unfolding_all rfl); (case q3 => with_unfolding_all rfl); (case q4 => with_unfolding_all rfl); (case q5 => with_unfolding_all rfl); (case q6 => with_unfolding_all rfl); (case q7 => with_unfolding_all rfl); (case q8 => with_unfolding_all rfl); (case qI => k_mem); (case qW => k_mem); (case qG => k_mem); (case qS => k_mem); (case qn => (intro q hq; repeat (first | exact hq | apply List.Mem.tail))); (case qh => (refine ⟨by omega, by omega, by omega, by omega, by omega, by omega, by omega, by omega, by omega⟩)); (case qw => first | assumption | exact strs_snoc (by assumption) | exact strs_snoc3 (by assumption)); (case qg => first | assumption | exact ints_snoc (by assumption) | exact ints_snoc3 (by assumption)); (case qs => first | assumption | exact ints_snoc (by assumption) | exact ints_snoc3 (by assumption)); (case ql => ((try simp only [List.length_append, List.length_cons, List.length_nil]); (refine ⟨by omega, by omega, by omega⟩))); (case qb => (unfold bUn unS; simp only [*, if_true, if_false, Bool.false_eq_true])))
theorem bS34 (hS : Scr base l vs ns) (hB : Bel B news) (B' : Below (ktrTop dp un gd cn cs L₀ a ccd cl outer) base (envX cn cs L₀ a ccd cl :: outer) h₀) (X : (frag c.w.params).In h₀) (T : Top c.p c.loose c.mean c.mg c.mb h₀) (hk : cs.kind = .function) (hd : dp + 4 < recursionLimit) (hu : un + 32 < cLine)
    (hi6 : i < 6) (hIB : B ≤ I) (hOk : BOk B I n bc) (hn : n ≤ 60) (F : Fr h₀ L s.heap (kstB u (bPsN l isc i t (numv ns i) tn bc))) (N : News h₀ L s.heap ((I, io) :: bLd news bc)) :
    wpAny (MM c.w) ((ktrTop dp un gd cn cs L₀ a ccd cl outer).deeper (envOf (Str.ofString "_law_built") (fnScope (topSt 23)) L 251 (.ref 250))) (execs [(forBody ((fnBody (topSt 23)).getD 3 passS)).getD 3 passS, (forBody ((fnBody (topSt 23)).getD 3 passS)).getD 4 passS] (envOf (Str.ofString "_law_built") (fnScope (topSt 23)) L 251 (.ref 250)))
      (BMid h₀ L news l isc B I io i t (numv ns i) (n + 1) (bMore ns i bc.b) s) E s := by
  obtain ⟨h1, h2, h3, h4, h5, h6, h7, h8, h9, hw, hg, hs, hwl, hgl, hsl⟩ := hOk
  have hwe := hw.length
  unfold MM
  revert X; k_fill; intro X
  unfold bLd at N
  unfold bPsN bPs at F
  conv in execs _ _ => arg 1; (arg 1; whnf)
  conv in execs _ _ => arg 1; arg 2; (arg 1; whnf)
  k_steps
  all_goals ((try dsimp only); refine' bmid_end ?qF ?qN ?q1 ?q2 ?q3 ?q4 ?q5 ?q6 ?q7 ?q8 ?qI ?qW ?qG ?qS ?qn ?qh ?qw ?qg ?qs ?ql ?qb; (case qF => assumption); (case qN => assumption); (case q1 => with_unfolding_all rfl); (case q2 => with_unfolding_all rfl); (case q3 => with_unfolding_all rfl); (case q4 => with_unfolding_all rfl); (case q5 => with_unfolding_all rfl); (case q6 => with_unfolding_all rfl); (case q7 => with_unfolding_all rfl); (case q8 => with_unfolding_all rfl); (case qI => k_mem); (case qW => k_mem); (case qG => k_mem); (case qS => k_mem); (case qn => (intro q hq; repeat (first | exact hq | apply List.Mem.tail))); (case qh => (refine ⟨by omega, by omega, by omega, by omega, by omega, by omega, by omega, by omega, by omega⟩)); (case qw => first | assumption | exact strs_snoc (by assumption) | exact strs_snoc3 (by assumption)); (case qg => first | assumption | exact ints_snoc (by assumption) | exact ints_snoc3 (by assumption)); (case qs => first | assumption | exact ints_snoc (by assumption) | exact ints_snoc3 (by assumption)); (case ql => ((try simp only [List.length_append, List.length_cons, List.length_nil]); (refine ⟨by omega, by omega, by omega⟩))); (case qb => (rfl)))
theorem bIf5 (hS : Scr base l vs ns) (hB : Bel B news) (B' : Below (ktrTop dp un gd cn cs L₀ a ccd cl outer) base (envX cn cs L₀ a ccd cl :: outer) h₀) (X : (frag c.w.params).In h₀) (T : Top c.p c.loose c.mean c.mg c.mb h₀) (hk : cs.kind = .function) (hd : dp + 4 < recursionLimit) (hu : un + 32 < cLine)
    (hi6 : i < 6) (hIB : B ≤ I) (hOk : BOk B I n bc) (hn : n ≤ 60) (F : Fr h₀ L s.heap (kstB u (bPsN l isc i t (numv ns i) tn bc))) (N : News h₀ L s.heap ((I, io) :: bLd news bc)) :
    wpAny (MM c.w) ((ktrTop dp un gd cn cs L₀ a ccd cl outer).deeper (envOf (Str.ofString "_law_built") (fnScope (topSt 23)) L 251 (.ref 250))) (exec ((forBody ((fnBody (topSt 23)).getD 3 passS)).getD 5 passS) (envOf (Str.ofString "_law_built") (fnScope (topSt 23)) L 251 (.ref 250)))
      (BMid h₀ L news l isc B I io i t (numv ns i) (n + 3) (bPar ns i bc.b) s) E s := by
  obtain ⟨h1, h2, h3, h4, h5, h6, h7, h8, h9, hw, hg, hs, hwl, hgl, hsl⟩ := hOk
  have hwe := hw.length
  unfold MM
  revert X; k_fill; intro X
  unfold bLd at N
  unfold bPsN bPs at F
  conv in exec _ _ => arg 1; whnf
  k_steps
  all_goals ((try dsimp only); refine' bmid_end ?qF ?qN ?q1 ?q2 ?q3 ?q4 ?q5 ?q6 ?q7 ?q8 ?qI ?qW ?qG ?qS ?qn ?qh ?qw ?qg ?qs ?ql ?qb; (case qF => assumption); (case qN => assumption); (case q1 => with_unfolding_all rfl); (case q2 => with_unfolding_all rfl); (case q3 => with_unfolding_all rfl); (case q4 => with_unfolding_all rfl); (case q5 => with_unfolding_all rfl); (case q6 => with_unfolding_all rfl); (case q7 => with_unfolding_all rfl); (case q8 => with_unfolding_all rfl); (case qI => k_mem); (case qW => k_mem); (case qG => k_mem); (case qS => k_mem); (case qn => (intro q hq; repeat (first | exact hq | apply List.Mem.tail))); (case qh => (refine ⟨by omega, by omega, by omega, by omega, by omega, by omega, by omega, by omega, by omega⟩)); (case qw => first | assumption | exact strs_snoc (by assumption) | exact strs_snoc3 (by assumption)); (case qg => first | assumption | exact ints_snoc (by assumption) | exact ints_snoc3 (by assumption)); (case qs => first | assumption | exact ints_snoc (by assumption) | exact ints_snoc3 (by assumption)); (case ql => ((try simp only [List.length_append, List.length_cons, List.length_nil]); (refine ⟨by omega, by omega, by omega⟩))); (case qb => (unfold bPar; simp only [*, if_true, if_false, Bool.false_eq_true])))
end
open PySem PySem.W PySem.Spec PySem.Calls PyProof.Rows PyProof.V
set_option maxHeartbeats 8000000
structure BOk0 (B : Nat) (n : Nat) (c : BC) : Prop where
  h4 : c.W ≠ c.G
  h5 : c.W ≠ c.S
  h6 : c.G ≠ c.S
  h7 : B ≤ c.W
  h8 : B ≤ c.G
  h9 : B ≤ c.S
  hw : StrsAre c.wv c.b.ws
  hg : IntsAre c.gv c.b.gs
  hs : IntsAre c.sv c.b.ss
  hwl : c.wv.length ≤ n
  hgl : c.gv.length ≤ n
  hsl : c.sv.length ≤ n
noncomputable def bIter (ns : List Int) (b : BS) : Nat → BS
  | 0 => b
  | i + 1 => bStep ns i (bIter ns b i)
theorem BOk.drop {B I n n' : Nat} {c : BC} (h : BOk B I n c) (e : n ≤ n') : BOk0 B n' c := ⟨h.h4, h.h5, h.h6, h.h7, h.h8, h.h9, h.hw, h.hg, h.hs, Nat.le_trans h.hwl e, Nat.le_trans h.hgl e, Nat.le_trans h.hsl e⟩
theorem BOk0.with {B I n : Nat} {c : BC} {news : Led} (h : BOk0 B n c) (hI : ∀ p ∈ bLd news c, p.1 ≠ I) : BOk B I n c :=
  ⟨hI _ (.head _), hI _ (.tail _ (.head _)), hI _ (.tail _ (.tail _ (.head _))), h.h4, h.h5, h.h6, h.h7, h.h8, h.h9, h.hw, h.hg, h.hs, h.hwl, h.hgl, h.hsl⟩
theorem BOk.off {B I n : Nat} {c : BC} {news : Led} (h : BOk B I n c) (hB : Bel B news) (hI : B ≤ I) : ∀ p ∈ bLd news c, p.1 ≠ I := by
  intro p hp
  unfold bLd at hp
  rcases List.mem_cons.mp hp with rfl | hp
  · exact h.h1
  rcases List.mem_cons.mp hp with rfl | hp
  · exact h.h2
  rcases List.mem_cons.mp hp with rfl | hp
  · exact h.h3
  · exact Bel.ne hB hI p hp
noncomputable abbrev bBody : List Stmt := forBody ((fnBody (topSt 23)).getD 3 passS)
noncomputable abbrev bEnv (L : Addr) : Env := envOf (Str.ofString "_law_built") (fnScope (topSt 23)) L 251 (.ref 250)
theorem bBody_eq : bBody = bBody.getD 0 passS :: bBody.getD 1 passS :: bBody.getD 2 passS :: ([bBody.getD 3 passS, bBody.getD 4 passS] ++ [bBody.getD 5 passS]) := rfl
theorem wpAny_execs_app {M : Model} {A : Around} {E : Value → Shared → Prop} {env : Env} {rest : List Stmt} {Q : Flow → Shared → Prop} (as : List Stmt) {s : Shared}
    (h : wpAny M A (execs as env) (fun f s' => match f with | .next => wpAny M A (execs rest env) Q E s' | f => Q f s') E s) : wpAny M A (execs (as ++ rest) env) Q E s := by
  intro Γ p hΓ
  have h' := h Γ p hΓ
  clear h
  induction as generalizing p s with
  | nil => exact h' Γ p hΓ
  | cons a as ih =>
    rw [execs_cons, Sem.wp_bind'] at h'
    rw [List.cons_append, execs_cons, Sem.wp_bind']
    refine Sem.wp_mono _ Γ _ (fun f p' s' hf => ?_) (fun _ _ _ x => x) p s h'
    cases f with
    | next => exact ih p' hf
    | _ => exact hf
theorem builtTurn {c : Cx} {base : Heap} {news : Led} {l : Addr} {vs : List Value} {ns : List Int} {B : Nat} {isc : Bool}
  {dp un : Nat} {gd : Option (List Code)} {cn : Str} {cs : Scope} {a : Addr} {ccd : Value} {cl : List (Str × Addr)} {outer : List Env} {L₀ : Addr} {h₀ : Heap} {L : Addr} {s : Shared} {E : Value → Shared → Prop}
  {bc : BC} {i : Nat} {t : Tok} {u : Str → Option Value} {I : Nat} {io : Obj} {b0 : BS} (hS : Scr base l vs ns) (hB : Bel B news) (B' : Below (ktrTop dp un gd cn cs L₀ a ccd cl outer) base (envX cn cs L₀ a ccd cl :: outer) h₀) (X : (frag c.w.params).In h₀) (T : Top c.p c.loose c.mean c.mg c.mb h₀) (hk : cs.kind = .function) (hd : dp + 4 < recursionLimit) (hu : un + 32 < cLine)
    (hi6 : i < 6) (hIB : B ≤ I) (hI : ∀ p ∈ bLd news bc, p.1 ≠ I) (hOk : BOk0 B (2 + 6 * i) bc) (hb : bc.b = bIter ns b0 i) (F : Fr h₀ L s.heap (fun y => if y = Str.ofString "at" then some (.int (0 + (i : Int)) t) else kstB u (bPs l isc bc) y)) (N : News h₀ L s.heap ((I, io) :: bLd news bc)) :
    wpAny (MM c.w) ((ktrTop dp un gd cn cs L₀ a ccd cl outer).deeper (bEnv L)) (execs bBody (bEnv L))
      (TurnEnd h₀ L (bLd news) (bPs l isc) (fun i c => BOk0 B (2 + 6 * i) c ∧ c.b = bIter ns b0 i) I io i s) E s := by
  rw [bBody_eq]
  refine wpAny_execs_cons (wpAny_mono (bS0 (u := u) (t := t) (isc := isc) (l := l) (ns := ns) (news := news) hS hB B' X T hk hd hu hi6 hIB (hOk.with hI) (by omega) F N) (fun f s₁ h => ?_) fun _ _ x => x)
  obtain ⟨rfl, c1, tn1, h1, tk1, m1, rfl, F1, N1, nm1, ok1, e1⟩ := h
  refine wpAny_execs_cons (wpAny_mono (bIf1 (news := news) hS hB B' X T hk hd hu hi6 hIB ok1 (by omega) (fr_named F1 nm1) N1) (fun f s₁ h => ?_) fun _ _ x => x)
  obtain ⟨rfl, c2, tn2, h2, tk2, m2, rfl, F2, N2, nm2, ok2, e2⟩ := h
  refine wpAny_execs_cons (wpAny_mono (bIf2 (news := news) hS hB B' X T hk hd hu hi6 hIB ok2 (by omega) (fr_named F2 nm2) N2) (fun f s₁ h => ?_) fun _ _ x => x)
  obtain ⟨rfl, c3, tn3, h3, tk3, m3, rfl, F3, N3, nm3, ok3, e3⟩ := h
  refine wpAny_execs_app _ (wpAny_mono (bS34 (news := news) hS hB B' X T hk hd hu hi6 hIB ok3 (by omega) (fr_named F3 nm3) N3) (fun f s₁ h => ?_) fun _ _ x => x)
  obtain ⟨rfl, c4, tn4, h4, tk4, m4, rfl, F4, N4, nm4, ok4, e4⟩ := h
  refine wpAny_execs_cons (wpAny_mono (bIf5 (news := news) hS hB B' X T hk hd hu hi6 hIB ok4 (by omega) (fr_named F4 nm4) N4) (fun f s₁ h => ?_) fun _ _ x => x)
  obtain ⟨rfl, c5, tn5, h5, tk5, m5, rfl, F5, N5, nm5, ok5, e5⟩ := h
  refine wpAny_execs_nil ⟨rfl, c5, h5, tk5, m5, rfl, F5, N5, ok5.off hB hIB, fun p hp => nm5 p (.tail _ (.tail _ hp)), ok5.drop (by omega), ?_⟩
  rw [e5, e4, e3, e2, e1, hb]
  rfl
theorem built_loop {c : Cx} {base : Heap} {news full : Led} {l r : Addr} {vs : List Value} {ns : List Int} {B : Nat} {isc : Bool}
  {dp un : Nat} {gd : Option (List Code)} {cn : Str} {cs : Scope} {a : Addr} {ccd : Value} {cl : List (Str × Addr)} {outer : List Env} {L₀ : Addr} {h₀ : Heap} {L : Addr} {s : Shared} {E : Value → Shared → Prop} {Q : Flow → Shared → Prop}
  {m₀ : Str → Option Value} {W G S : Nat} {wv gv sv : List Value} {nW nG nS : Nat} {ws : List Str} {gs ss : List Int} {ah : Int} {ta t₀ u₀ v₀ : Tok}
  (hS : Scr base l vs ns) (B' : Below (ktrTop dp un gd cn cs L₀ a ccd cl outer) base (envX cn cs L₀ a ccd cl :: outer) h₀) (X : (frag c.w.params).In h₀) (T : Top c.p c.loose c.mean c.mg c.mb h₀) (hk : cs.kind = .function) (hd : dp + 4 < recursionLimit) (hu : un + 32 < cLine)
  (F : Fr h₀ L s.heap m₀) (N : News h₀ L s.heap full) (hB : Bel B news) (hr : IsRange s.heap r 0 (1 + (cellv ns 0).fmod 6) 1 t₀ u₀ v₀)
  (e1 : m₀ (Str.ofString "words") = some (.ref W)) (e2 : m₀ (Str.ofString "gaps") = some (.ref G)) (e3 : m₀ (Str.ofString "spots") = some (.ref S)) (e4 : m₀ (Str.ofString "ahead") = some (.int ah ta)) (e5 : m₀ (Str.ofString "is_call") = some (.bool isc)) (e6 : m₀ (Str.ofString "script") = some (.ref l))
  (mW : (W, listOf wv.toArray nW) ∈ full) (mG : (G, listOf gv.toArray nG) ∈ full) (mS : (S, listOf sv.toArray nS) ∈ full) (mn : ∀ p ∈ news, p ∈ full)
  (h1 : W ≠ G ∧ W ≠ S ∧ G ≠ S ∧ B ≤ W ∧ B ≤ G ∧ B ≤ S) (hw : StrsAre wv ws) (hg : IntsAre gv gs) (hs : IntsAre sv ss) (hl : wv.length ≤ 2 ∧ gv.length ≤ 2 ∧ sv.length ≤ 2)
  (done : ∀ (bc : BC) (u : Str → Option Value) h tk, BOk0 B 38 bc → bc.b = bIter ns ⟨ws, gs, ss, ah⟩ (1 + (cellv ns 0).fmod 6).toNat → Fr h₀ L h (kstB u (bPs l isc bc)) → News h₀ L h (bLd news bc) → Q .next { s with heap := h, toks := tk }) :
  wpAny (MM c.w) ((ktrTop dp un gd cn cs L₀ a ccd cl outer).deeper (bEnv L)) (pyIter (.ref r)) (fun it s₂ => LoopAtV PySem.Challenge.rw_bd0047_01.row.prog c.w ((ktrTop dp un gd cn cs L₀ a ccd cl outer).deeper (bEnv L)) h₀ (bEnv L) (Str.ofString "at") bBody Q E it s₂) E s := by
  obtain ⟨a4, a5, a6, a7, a8, a9⟩ := h1
  obtain ⟨l1, l2, l3⟩ := hl
  have f0 := Int.fmod_nonneg_of_pos (cellv ns 0) (show (0 : Int) < 6 by decide)
  have f1 := Int.fmod_lt_of_pos (cellv ns 0) (show (0 : Int) < 6 by decide)
  have N₀ : News h₀ L s.heap (bLd news ⟨W, G, S, wv, gv, sv, nW, nG, nS, ⟨ws, gs, ss, ah⟩, ta⟩) := by
    intro p hp
    unfold bLd at hp
    rcases List.mem_cons.mp hp with rfl | hp
    · exact N _ mW
    rcases List.mem_cons.mp hp with rfl | hp
    · exact N _ mG
    rcases List.mem_cons.mp hp with rfl | hp
    · exact N _ mS
    · exact N _ (mn _ hp)
  refine range_any (n := (1 + (cellv ns 0).fmod 6).toNat) (m₀ := m₀) (bLd news) (bPs l isc) (fun i c => BOk0 B (2 + 6 * i) c ∧ c.b = bIter ns ⟨ws, gs, ss, ah⟩ i) ⟨W, G, S, wv, gv, sv, nW, nG, nS, ⟨ws, gs, ss, ah⟩, ta⟩ rfl hr ?_ ?_ F N₀ ?_ ?_ ?_ ?_
  · exact small_one (by omega) (by omega) (by omega) (by omega)
  · exact (rangeSize_nat _ _).trans (by simp)
  · intro p hp
    unfold bPs at hp
    simp only [List.mem_cons, List.not_mem_nil, or_false] at hp
    rcases hp with rfl | rfl | rfl | rfl | rfl | rfl <;> assumption
  · exact ⟨⟨a4, a5, a6, a7, a8, a9, hw, hg, hs, l1, l2, l3⟩, rfl⟩
  · intro bc i t u h tk I io hi hlt hne hP F₁ N₁
    refine builtTurn (isc := isc) (l := l) (ns := ns) hS hB B' X T hk hd hu (by omega) ?_ hne hP.1 hP.2 F₁ N₁
    have := hlt _ (.head _)
    exact Nat.le_of_lt (Nat.lt_of_le_of_lt a7 this)
  · intro bc u h tk hP F₁ N₁
    have h38 : BOk0 B 38 bc := ⟨hP.1.h4, hP.1.h5, hP.1.h6, hP.1.h7, hP.1.h8, hP.1.h9, hP.1.hw, hP.1.hg, hP.1.hs, Nat.le_trans hP.1.hwl (by omega), Nat.le_trans hP.1.hgl (by omega), Nat.le_trans hP.1.hsl (by omega)⟩
    exact done bc u h tk h38 hP.2 F₁ N₁
open PySem PySem.W PySem.Spec PySem.Calls PyProof.Rows PyProof.V
set_option maxHeartbeats 8000000
local macro_rules | `(tactic| walk_at "call type:range") => `(tactic| ((with_reducible show wpAny _ _ (call _ [_]) _ _ _); (rename Fr _ _ _ _ => F'); (rename News _ _ _ _ => N'); (with_unfolding_all refine range1_rows F' N' ?_); intro _ _ _ _ _ hR' F' N' _; (try k_sweep)))
local macro_rules | `(tactic| walk_at "pyIter ref") => `(tactic| ((with_reducible show wpAny _ _ (pyIter (Value.ref _)) (fun it s₂ => LoopAtV _ _ _ _ _ _ _ _ _ it s₂) _ _); refine stop ?_))
noncomputable def b00 (ns : List Int) : BS := if (cellv ns 1).fmod 2 = 1 then ⟨[Str.ofString "f", Str.ofString "("], [0, 0], [], 0⟩ else if ((cellv ns 2).fdiv 48).fmod 3 = 1 then ⟨[Str.ofString "return"], [0], [], 1⟩ else ⟨[], [], [], 0⟩
noncomputable def builtIs (ns : List Int) : Bool := (cellv ns 1).fmod 2 == 1
noncomputable def bFin (ns : List Int) (b : BS) : BS := if (cellv ns 1).fmod 2 = 1 then ⟨b.ws ++ [Str.ofString ")"], b.gs ++ [0], b.ss, b.ah⟩ else b
noncomputable def builtB (ns : List Int) : BS := bFin ns (bIter ns (b00 ns) (1 + (cellv ns 0).fmod 6).toNat)
theorem isc_is {m : Str → Option Value} {b b' : Bool} (h : m (Str.ofString "is_call") = some (.bool b)) (e : b = b') : m (Str.ofString "is_call") = some (.bool b') := e ▸ h
noncomputable def BR (ns : List Int) (v : Value) (own : Led) : Prop := ∃ (T W G S : Addr) (wv gv sv : List Value) (nW nG nS : Nat), v = .ref T ∧ own = [(T, ({ cls := .type "tuple", data := .seq #[.ref W, .ref G, .ref S, .bool (builtIs ns)] } : Obj)), (W, listOf wv.toArray nW), (G, listOf gv.toArray nG), (S, listOf sv.toArray nS)] ∧ StrsAre wv (builtB ns).ws ∧ IntsAre gv (builtB ns).gs ∧ IntsAre sv (builtB ns).ss ∧ wv.length ≤ 40 ∧ gv.length ≤ 40 ∧ sv.length ≤ 40
theorem built_ret {ns : List Int} {news full : Led} {T W G S : Addr} {wv gv sv : List Value} {nW nG nS : Nat} {b : BS} {isc : Bool} {h₀ h' : Heap} {L : Addr} {m : Str → Option Value} {s : Shared} {tk' : Nat} {Q : Value → Shared → Prop}
    (hret : ∀ (v : Value) (own : Led) (h' : Heap) (tk' : Nat), Fr h₀ L h' m → News h₀ L h' (own ++ news) → BR ns v own → Q v { s with heap := h', toks := tk' }) (F : Fr h₀ L h' m) (N : News h₀ L h' full)
    (mT : (T, ({ cls := .type "tuple", data := .seq #[.ref W, .ref G, .ref S, .bool isc] } : Obj)) ∈ full) (mW : (W, listOf wv.toArray nW) ∈ full) (mG : (G, listOf gv.toArray nG) ∈ full) (mS : (S, listOf sv.toArray nS) ∈ full) (mn : ∀ p ∈ news, p ∈ full)
    (e1 : StrsAre wv b.ws) (e2 : IntsAre gv b.gs) (e3 : IntsAre sv b.ss) (l1 : wv.length ≤ 40 ∧ gv.length ≤ 40 ∧ sv.length ≤ 40) (hb : builtB ns = b) (hi : builtIs ns = isc) : Q (.ref T) { s with heap := h', toks := tk' } := by
  refine hret _ [_, _, _, _] _ _ F ?_ ⟨T, W, G, S, wv, gv, sv, nW, nG, nS, rfl, rfl, hb ▸ e1, hb ▸ e2, hb ▸ e3, l1⟩
  rw [hi]
  intro p hp
  rcases List.mem_cons.mp hp with rfl | hp
  · exact N _ mT
  rcases List.mem_cons.mp hp with rfl | hp
  · exact N _ mW
  rcases List.mem_cons.mp hp with rfl | hp
  · exact N _ mG
  rcases List.mem_cons.mp hp with rfl | hp
  · exact N _ mS
  · exact N _ (mn _ hp)
theorem builtT {c : Cx} {base : Heap} {news : Led} {l : Addr} {vs : List Value} {ns : List Int} (hS : Scr base l vs ns) :
    Tells c base news 251 [.ref l] 6 48 (BR ns) := by
  unfold Tells MM
  k_fill
  intro dp un gd cn cs a ccd cl outer A₀ h₀ L m s Q E B F X N T hk hd hu hret
  refine wpAny_call ?_
  k_dflt cell_enter
  k_steps
  all_goals constructor
  · refine' built_loop (news := news) (isc := true) hS ?kB ?kX ?kT hk ?kd ?ku ?kF ?kN ⟨by assumption⟩ ?kr ?e1 ?e2 ?e3 ?e4 ?e5 ?e6 ?mW ?mG ?mS ?mn ?hh ?kw ?kg ?ks ?kl ?done
    (case kB => assumption)
    (case kX => assumption)
    (case kT => assumption)
    (case kF => dsimp only; assumption)
    (case kN => dsimp only; assumption)
    (case kr => dsimp only; assumption)
    (case e1 => with_unfolding_all rfl)
    (case e2 => with_unfolding_all rfl)
    (case e3 => with_unfolding_all rfl)
    (case e4 => with_unfolding_all rfl)
    (case e5 => exact Eq.trans (b := some (Value.bool ((cellv ns 1).fmod 2 == 1))) (by with_unfolding_all rfl) (by simp only [*, beq_self_eq_true]))
    (case e6 => with_unfolding_all rfl)
    (case mW => k_mem)
    (case mG => k_mem)
    (case mS => k_mem)
    (case mn => (intro q hq; repeat (first | exact hq | apply List.Mem.tail)))
    (case kw => exact .cons _ _ (.cons _ _ .nil))
    (case kg => exact .cons _ _ (.cons _ _ .nil))
    (case ks => exact .nil)
    (case kl => simp only [List.length_cons, List.length_nil]; decide)
    (case kd => omega)
    (case ku => omega)
    (case hh => simp only [AllLt] at *; refine ⟨by omega, by omega, by omega, by omega, by omega, by omega⟩)
    (case done =>
      intro bc u h tk hOk hb F N
      obtain ⟨h4, h5, h6, h7, h8, h9, hw, hg, hs, hwl, hgl, hsl⟩ := hOk
      unfold bLd at N
      unfold bPs at F
      k_steps
      (try dsimp only)
      refine' built_ret (b := ⟨bc.b.ws ++ [Str.ofString ")"], bc.b.gs ++ [0], bc.b.ss, bc.b.ah⟩) hret ?kF ?kN ?mT ?mW ?mG ?mS ?mn ?e1 ?e2 ?e3 ?kl ?hb ?hi
      (case kF => assumption)
      (case kN => assumption)
      (case mT => k_mem)
      (case mW => k_mem)
      (case mG => k_mem)
      (case mS => k_mem)
      (case mn => (intro q hq; repeat (first | exact hq | apply List.Mem.tail)))
      (case e1 => first | exact hw | exact strs_snoc hw)
      (case e2 => first | exact hg | exact ints_snoc hg)
      (case e3 => exact hs)
      (case kl => (try simp only [List.length_append, List.length_cons, List.length_nil]); (refine ⟨by omega, by omega, by omega⟩))
      (case hb => unfold builtB bFin b00; simp only [*, if_true, if_false])
      (case hi => unfold builtIs; first | (simp only [*, beq_self_eq_true]) | exact beq_false_of_ne (by assumption)))
  · refine' built_loop (news := news) (isc := false) hS ?kB ?kX ?kT hk ?kd ?ku ?kF ?kN ⟨by assumption⟩ ?kr ?e1 ?e2 ?e3 ?e4 ?e5 ?e6 ?mW ?mG ?mS ?mn ?hh ?kw ?kg ?ks ?kl ?done
    (case kB => assumption)
    (case kX => assumption)
    (case kT => assumption)
    (case kF => dsimp only; assumption)
    (case kN => dsimp only; assumption)
    (case kr => dsimp only; assumption)
    (case e1 => with_unfolding_all rfl)
    (case e2 => with_unfolding_all rfl)
    (case e3 => with_unfolding_all rfl)
    (case e4 => with_unfolding_all rfl)
    (case e5 => exact Eq.trans (b := some (Value.bool ((cellv ns 1).fmod 2 == 1))) (by with_unfolding_all rfl) (congrArg (fun x => some (Value.bool x)) (beq_false_of_ne (by assumption))))
    (case e6 => with_unfolding_all rfl)
    (case mW => k_mem)
    (case mG => k_mem)
    (case mS => k_mem)
    (case mn => (intro q hq; repeat (first | exact hq | apply List.Mem.tail)))
    (case kw => exact .cons _ _ .nil)
    (case kg => exact .cons _ _ .nil)
    (case ks => exact .nil)
    (case kl => simp only [List.length_cons, List.length_nil]; decide)
    (case kd => omega)
    (case ku => omega)
    (case hh => simp only [AllLt] at *; refine ⟨by omega, by omega, by omega, by omega, by omega, by omega⟩)
    (case done =>
      intro bc u h tk hOk hb F N
      obtain ⟨h4, h5, h6, h7, h8, h9, hw, hg, hs, hwl, hgl, hsl⟩ := hOk
      unfold bLd at N
      unfold bPs at F
      k_steps
      (try dsimp only)
      refine' built_ret (b := bc.b) hret ?kF ?kN ?mT ?mW ?mG ?mS ?mn ?e1 ?e2 ?e3 ?kl ?hb ?hi
      (case kF => assumption)
      (case kN => assumption)
      (case mT => k_mem)
      (case mW => k_mem)
      (case mG => k_mem)
      (case mS => k_mem)
      (case mn => (intro q hq; repeat (first | exact hq | apply List.Mem.tail)))
      (case e1 => first | exact hw | exact strs_snoc hw)
      (case e2 => first | exact hg | exact ints_snoc hg)
      (case e3 => exact hs)
      (case kl => (try simp only [List.length_append, List.length_cons, List.length_nil]); (refine ⟨by omega, by omega, by omega⟩))
      (case hb => unfold builtB bFin b00; simp only [*, if_true, if_false])
      (case hi => unfold builtIs; first | (simp only [*, beq_self_eq_true]) | exact beq_false_of_ne (by assumption)))
  · refine' built_loop (news := news) (isc := false) hS ?kB ?kX ?kT hk ?kd ?ku ?kF ?kN ⟨by assumption⟩ ?kr ?e1 ?e2 ?e3 ?e4 ?e5 ?e6 ?mW ?mG ?mS ?mn ?hh ?kw ?kg ?ks ?kl ?done
    (case kB => assumption)
    (case kX => assumption)
    (case kT => assumption)
    (case kF => dsimp only; assumption)
    (case kN => dsimp only; assumption)
    (case kr => dsimp only; assumption)
    (case e1 => with_unfolding_all rfl)
    (case e2 => with_unfolding_all rfl)
    (case e3 => with_unfolding_all rfl)
    (case e4 => with_unfolding_all rfl)
    (case e5 => exact Eq.trans (b := some (Value.bool ((cellv ns 1).fmod 2 == 1))) (by with_unfolding_all rfl) (congrArg (fun x => some (Value.bool x)) (beq_false_of_ne (by assumption))))
    (case e6 => with_unfolding_all rfl)
    (case mW => k_mem)
    (case mG => k_mem)
    (case mS => k_mem)
    (case mn => (intro q hq; repeat (first | exact hq | apply List.Mem.tail)))
    (case kw => exact .nil)
    (case kg => exact .nil)
    (case ks => exact .nil)
    (case kl => simp only [List.length_cons, List.length_nil]; decide)
    (case kd => omega)
    (case ku => omega)
    (case hh => simp only [AllLt] at *; refine ⟨by omega, by omega, by omega, by omega, by omega, by omega⟩)
    (case done =>
      intro bc u h tk hOk hb F N
      obtain ⟨h4, h5, h6, h7, h8, h9, hw, hg, hs, hwl, hgl, hsl⟩ := hOk
      unfold bLd at N
      unfold bPs at F
      k_steps
      (try dsimp only)
      refine' built_ret (b := bc.b) hret ?kF ?kN ?mT ?mW ?mG ?mS ?mn ?e1 ?e2 ?e3 ?kl ?hb ?hi
      (case kF => assumption)
      (case kN => assumption)
      (case mT => k_mem)
      (case mW => k_mem)
      (case mG => k_mem)
      (case mS => k_mem)
      (case mn => (intro q hq; repeat (first | exact hq | apply List.Mem.tail)))
      (case e1 => first | exact hw | exact strs_snoc hw)
      (case e2 => first | exact hg | exact ints_snoc hg)
      (case e3 => exact hs)
      (case kl => (try simp only [List.length_append, List.length_cons, List.length_nil]); (refine ⟨by omega, by omega, by omega⟩))
      (case hb => unfold builtB bFin b00; simp only [*, if_true, if_false])
      (case hi => unfold builtIs; first | (simp only [*, beq_self_eq_true]) | exact beq_false_of_ne (by assumption)))
end Mine
end
section
open PySem PySem.W PySem.Spec PySem.Calls PyProof.Rows PyProof.V
set_option maxHeartbeats 4000000
namespace Mine
section
variable {prog : Program} {w : World} {A : Around} {E : Value → Shared → Prop} {s : Shared} {env : Env} {h₀ : Heap} {target : Expr} {body : List Stmt} {Q : Flow → Shared → Prop}
noncomputable def TurnEnd2 {σ : Type} (h₀ : Heap) (L : Addr) (Ld : σ → Led) (ps : σ → List (Str × Value)) (P : Nat → σ → Prop) (wr : List Addr) (own : Led) (i : Nat) (s₁ : Shared) (f : Flow) (s₂ : Shared) : Prop :=
  f = .next ∧ ∃ c h' tk' m', s₂ = { s₁ with heap := h', toks := tk' } ∧ Fr h₀ L h' m' ∧ News h₀ L h' (own ++ Ld c) ∧ (∀ p ∈ Ld c, p.1 ∉ wr) ∧ (∀ p ∈ ps c, m' p.1 = some p.2) ∧ P (i + 1) c
theorem turns_any {σ : Type} {I : Addr} {fp wr : List Addr} {n : Nat} {PP Md : Nat → Value → Heap → Prop} {St : Nat → Heap → Prop} {m₀ : Str → Option Value} (Ld : σ → Led) (ps : σ → List (Str × Value)) (P : Nat → σ → Prop) (c₀ : σ)
    (W : KTurns prog w A target I fp wr n PP Md St) (hLf : env.locals ∉ fp) (hwr : ∀ b ∈ wr, h₀.get? b = none) (hnw : ∀ p ∈ Ld c₀, p.1 ∉ wr) (hst : St 0 s.heap) (hex : ∀ i h, St i h → ∀ b ∈ wr, ∃ o, h.get? b = some o)
    (F : Fr h₀ env.locals s.heap m₀) (N : News h₀ env.locals s.heap (Ld c₀)) (hk : ∀ p ∈ ps c₀, m₀ p.1 = some p.2) (hp : P 0 c₀)
    (turn : ∀ (c : σ) (i : Nat) v (u : Str → Option Value) h tk own, i < n → PP i v h → P i c → (∀ p ∈ Ld c, p.1 ∉ wr) → (∀ p ∈ own, p.1 ∈ fp) → (∀ b ∈ wr, ∃ o, (b, o) ∈ own) →
      Fr h₀ env.locals h (kstB u (ps c)) → News h₀ env.locals h (own ++ Ld c) →
      wpAny (model prog w) A (assign target env v) (fun _ s₃ => wpAny (model prog w) A (execs body env) (TurnEnd2 h₀ env.locals Ld ps P wr own i { s with heap := h, toks := tk }) E s₃) E { s with heap := h, toks := tk })
    (done : ∀ (c : σ) (u : Str → Option Value) h tk, P n c → Fr h₀ env.locals h (kstB u (ps c)) → News h₀ env.locals h (Ld c) → Q .next { s with heap := h, toks := tk }) :
    TurnsAt prog w A h₀ env target body Q E (.ref I) s := by
  refine ⟨I, fp, wr, n, PP, Md, St, m₀, Ld c₀, fun i m nx => ∃ c, nx = Ld c ∧ (∀ p ∈ ps c, m p.1 = some p.2) ∧ P i c, rfl, W, hLf, hwr, hnw, hst, F, N, ⟨c₀, rfl, hk, hp⟩, ?_, ?_⟩
  · rintro i v m₁ news₁ h₁ tk₁ own hin hPP ⟨c, rfl, h1, hp'⟩ hoff hsub hget hall hst' F₁ N₁
    refine wpAny_mono (turn c i v m₁ h₁ tk₁ own hin hPP hp' hoff hsub (fun b hb => ?_) (fr_named F₁ h1) N₁) (fun _ s₃ h₃ => wpAny_mono h₃ (fun f s₄ h₄ => ?_) fun _ _ e => e) fun _ _ e => e
    · obtain ⟨o, ho⟩ := hex _ _ hst' b hb
      exact ⟨o, hall b (W.sub _ hb) (hwr _ hb) o ho⟩
    · obtain ⟨rfl, c', h', tk', m', rfl, F', N', ho', hps, hP⟩ := h₄
      exact .next ⟨rfl, h', tk', m', Ld c', rfl, F', N', ho', c', rfl, hps, hP⟩
  · rintro h' tk' m' news' F' N' _ ⟨c, rfl, h1, hp'⟩
    exact done c m' h' tk' hp' (fr_named F' h1) N'
theorem zip_any {σ : Type} {elts : List Expr} {k : Nat} {pos : Pos} {l1 l2 : Addr} {xs ys : List Value} {n1 n2 n : Nat} {m₀ : Str → Option Value} (Ld : σ → Led) (ps : σ → List (Str × Value)) (P : Nat → σ → Prop) (c₀ : σ)
    (hh : A.handled = none) (hn1 : xs.length = n) (hn2 : ys.length = n) (F : Fr h₀ env.locals s.heap m₀) (N : News h₀ env.locals s.heap (Ld c₀)) (hm1 : (l1, listOf xs.toArray n1) ∈ Ld c₀) (hm2 : (l2, listOf ys.toArray n2) ∈ Ld c₀)
    (hk : ∀ p ∈ ps c₀, m₀ p.1 = some p.2) (hp : P 0 c₀)
    (turn : ∀ (c : σ) (i : Nat) (hi1 : i < xs.length) (hi2 : i < ys.length) T (u : Str → Option Value) h tk wr own, h.IsTuple T #[xs[i], ys[i]] → P i c → (∀ p ∈ Ld c, p.1 ∉ wr) → (∀ q ∈ own, q.1 = l1 ∨ q.1 = l2 ∨ ∀ p ∈ Ld c₀, p.1 < q.1) → (∀ b ∈ wr, ∃ o, (b, o) ∈ own) →
      Fr h₀ env.locals h (kstB u (ps c)) → News h₀ env.locals h (own ++ Ld c) →
      wpAny (model prog w) A (assign (.Tuple elts k pos) env (.ref T)) (fun _ s₃ => wpAny (model prog w) A (execs body env) (TurnEnd2 h₀ env.locals Ld ps P wr own i { s with heap := h, toks := tk }) E s₃) E { s with heap := h, toks := tk })
    (done : ∀ (c : σ) (u : Str → Option Value) h tk, P n c → Fr h₀ env.locals h (kstB u (ps c)) → News h₀ env.locals h (Ld c) → Q .next { s with heap := h, toks := tk }) :
    wpAny (model prog w) A (call (.type "zip") [.ref l1, .ref l2]) (fun xv s₁ => wpAny (model prog w) A (pyIter xv) (fun it s₂ => TurnsAt prog w A h₀ env (.Tuple elts k pos) body Q E it s₂) E s₁) E s := by
  have hax1 := N _ hm1
  have hax2 := N _ hm2
  have hl1 : s.heap.IsList l1 xs.toArray := ⟨_, hax1.1, rfl, n1, rfl⟩
  have hl2 : s.heap.IsList l2 ys.toArray := ⟨_, hax2.1, rfl, n2, rfl⟩
  have hlt1 : @LT.lt Nat _ l1 s.heap.objs.size := Heap.lt_size hax1.1
  have hlt2 : @LT.lt Nat _ l2 s.heap.objs.size := Heap.lt_size hax2.1
  have hLs : @LT.lt Nat _ env.locals s.heap.objs.size := F.ns.lt
  have D : ZipApart (s.heap.objs.size + 4) (s.heap.objs.size + 2) (s.heap.objs.size + 3) s.heap.objs.size (s.heap.objs.size + 1) l1 l2 := zipApart_new hlt1 hlt2
  have hall : ∀ p ∈ Ld c₀, @LT.lt Nat _ p.1 s.heap.objs.size := fun p hp => Heap.lt_size (N p hp).1
  have hnone : ∀ j : Nat, h₀.get? (s.heap.objs.size + j) = none := fun j => Heap.get?_none_of_le (Nat.le_trans (Nat.le_trans F.above (Nat.le_of_lt hLs)) (Nat.le_add_right _ j))
  refine call_zip_2 hl1 hl2 fun h' hz hTI hTO hi1 hi2 hsz hk' => ?_
  refine wpAny_pyIter_zip hz ?_
  have W := KTurns.ofWalksU (prog := prog) (w := w) (elts := elts) (k := k) (pos := pos) (WalksT.zip2 hh _ _ _ _ _ _ _ D xs.toArray ys.toArray).toU
  have hmin : min xs.toArray.size ys.toArray.size = n := by simp [hn1, hn2]
  rw [hmin] at W
  refine turns_any (s := { s with heap := h' }) Ld ps P c₀ W ?_ ?_ ?_ ⟨hz, hTI, ⟨_, _, hTO⟩, hi1, hi2, hl1.at fun o e => hk' l1 o e, hl2.at fun o e => hk' l2 o e⟩ ?_ (F.keeps hk') (fun p hp => ⟨hk' _ _ (N p hp).1, (N p hp).2⟩) hk hp ?_ done
  · intro hm
    simp only [List.mem_cons, List.not_mem_nil, or_false] at hm
    have n1 := hax1.2.1
    have n2 := hax2.2.1
    rcases hm with e | e | e | e | e | e | e
    · exact absurd (e ▸ hLs : @LT.lt Nat _ (s.heap.objs.size + 4) s.heap.objs.size) (by omega)
    · exact absurd (e ▸ hLs : @LT.lt Nat _ (s.heap.objs.size + 2) s.heap.objs.size) (by omega)
    · exact absurd (e ▸ hLs : @LT.lt Nat _ (s.heap.objs.size + 3) s.heap.objs.size) (by omega)
    · exact absurd (e ▸ hLs : @LT.lt Nat _ (s.heap.objs.size) s.heap.objs.size) (by omega)
    · exact absurd (e ▸ hLs : @LT.lt Nat _ (s.heap.objs.size + 1) s.heap.objs.size) (by omega)
    · exact n1 e.symm
    · exact n2 e.symm
  · intro b hb
    simp only [List.mem_cons, List.not_mem_nil, or_false] at hb
    rcases hb with rfl | rfl | rfl | rfl
    · exact hnone 4
    · exact hnone 3
    · exact hnone 0
    · exact hnone 1
  · intro p hp hb
    have := hall p hp
    simp only [List.mem_cons, List.not_mem_nil, or_false] at hb
    rcases hb with e | e | e | e
    · exact absurd (e ▸ this : @LT.lt Nat _ (s.heap.objs.size + 4) s.heap.objs.size) (by omega)
    · exact absurd (e ▸ this : @LT.lt Nat _ (s.heap.objs.size + 3) s.heap.objs.size) (by omega)
    · exact absurd (e ▸ this : @LT.lt Nat _ (s.heap.objs.size) s.heap.objs.size) (by omega)
    · exact absurd (e ▸ this : @LT.lt Nat _ (s.heap.objs.size + 1) s.heap.objs.size) (by omega)
  · rintro i h ⟨hz, hTI, ⟨a, b, hTO⟩, ⟨o1, ho1, hc1, _⟩, ⟨o2, ho2, hc2, _⟩, _⟩ b hb
    simp only [List.mem_cons, List.not_mem_nil, or_false] at hb
    rcases hb with rfl | rfl | rfl | rfl
    · exact ⟨_, hz⟩
    · exact ⟨_, hTO⟩
    · exact ⟨_, ho1⟩
    · exact ⟨_, ho2⟩
  · rintro c i v u h tk own hin ⟨T, vals, rfl, ⟨x, y, hx, hy, rfl⟩, hT⟩ hP hoff hsub hex F₁ N₁
    have g1 : i < xs.length := by omega
    have g2 : i < ys.length := by omega
    have ex : x = xs[i] := by simpa [g1] using hx.symm
    have ey : y = ys[i] := by simpa [g2] using hy.symm
    subst ex; subst ey
    refine turn c i g1 g2 T u h tk _ own hT hP hoff (fun q hq => ?_) hex F₁ N₁
    have hm := hsub q hq
    simp only [List.mem_cons, List.not_mem_nil, or_false] at hm
    have up : ∀ j : Nat, q.1 = s.heap.objs.size + j → ∀ p ∈ Ld c₀, p.1 < q.1 := fun j e p hp => e ▸ Nat.lt_of_lt_of_le (hall p hp) (Nat.le_add_right _ j)
    rcases hm with e | e | e | e | e | e | e
    · exact .inr (.inr (up 4 e))
    · exact .inr (.inr (up 2 e))
    · exact .inr (.inr (up 3 e))
    · exact .inr (.inr (up 0 e))
    · exact .inr (.inr (up 1 e))
    · exact .inl e
    · exact .inr (.inl e)
theorem list_any {σ : Type} {elts : List Expr} {k : Nat} {pos : Pos} {l : Addr} {xs : List Value} {nl n : Nat} {m₀ : Str → Option Value} (Ld : σ → Led) (ps : σ → List (Str × Value)) (P : Nat → σ → Prop) (c₀ : σ)
    (hh : A.handled = none) (hn1 : xs.length = n) (F : Fr h₀ env.locals s.heap m₀) (N : News h₀ env.locals s.heap (Ld c₀)) (hm1 : (l, listOf xs.toArray nl) ∈ Ld c₀)
    (hk : ∀ p ∈ ps c₀, m₀ p.1 = some p.2) (hp : P 0 c₀)
    (turn : ∀ (c : σ) (i : Nat) (hi1 : i < xs.length) (u : Str → Option Value) h tk wr own, P i c → (∀ p ∈ Ld c, p.1 ∉ wr) → (∀ q ∈ own, q.1 = l ∨ ∀ p ∈ Ld c₀, p.1 < q.1) → (∀ b ∈ wr, ∃ o, (b, o) ∈ own) →
      Fr h₀ env.locals h (kstB u (ps c)) → News h₀ env.locals h (own ++ Ld c) →
      wpAny (model prog w) A (assign (.Tuple elts k pos) env xs[i]) (fun _ s₃ => wpAny (model prog w) A (execs body env) (TurnEnd2 h₀ env.locals Ld ps P wr own i { s with heap := h, toks := tk }) E s₃) E { s with heap := h, toks := tk })
    (done : ∀ (c : σ) (u : Str → Option Value) h tk, P n c → Fr h₀ env.locals h (kstB u (ps c)) → News h₀ env.locals h (Ld c) → Q .next { s with heap := h, toks := tk }) :
    wpAny (model prog w) A (pyIter (.ref l)) (fun it s₂ => TurnsAt prog w A h₀ env (.Tuple elts k pos) body Q E it s₂) E s := by
  have hax1 := N _ hm1
  have hl1 : s.heap.IsList l xs.toArray := ⟨_, hax1.1, rfl, nl, rfl⟩
  have hlt1 : @LT.lt Nat _ l s.heap.objs.size := Heap.lt_size hax1.1
  have hLs : @LT.lt Nat _ env.locals s.heap.objs.size := F.ns.lt
  have hall : ∀ p ∈ Ld c₀, @LT.lt Nat _ p.1 s.heap.objs.size := fun p hp => Heap.lt_size (N p hp).1
  have hnone : h₀.get? s.heap.objs.size = none := next_is_new F
  refine wpAny_pyIter_list hl1 ?_
  have W := KTurns.ofWalks (target := .Tuple elts k pos) (Walks.list (prog := prog) (w := w) hh s.heap.objs.size l (Nat.ne_of_lt hlt1) xs.toArray) (fun i v s' Q' E' st hQ' => letGo_listiter st.1 hQ')
  have hmin : xs.toArray.size = n := by simp [hn1]
  rw [hmin] at W
  refine turns_any (s := { s with heap := s.heap.push _ }) Ld ps P c₀ W ?_ ?_ ?_ ⟨⟨_, Heap.get?_push_size _ rfl, rfl, rfl⟩, hl1.at fun o e => Heap.get?_push_of_some _ e⟩ ?_ (F.push _) (fun p hp => ⟨Heap.get?_push_of_some _ (N p hp).1, (N p hp).2⟩) hk hp ?_ done
  · intro hm
    have n1 := hax1.2.1
    rcases List.mem_cons.mp hm with e | hm
    · exact absurd (e ▸ hLs : @LT.lt Nat _ (s.heap.objs.size) s.heap.objs.size) (by omega)
    · exact n1 (List.mem_singleton.mp hm).symm
  · intro b hb
    rw [List.mem_singleton.mp hb]
    exact hnone
  · intro p hp hb
    exact absurd ((List.mem_singleton.mp hb) ▸ hall p hp : @LT.lt Nat _ (s.heap.objs.size) s.heap.objs.size) (by omega)
  · rintro i h ⟨⟨o1, ho1, _⟩, _⟩ b hb
    rw [List.mem_singleton.mp hb]
    exact ⟨_, ho1⟩
  · rintro c i v u h tk own hin hv hP hoff hsub hex F₁ N₁
    have g1 : i < xs.length := by omega
    have ex : v = xs[i] := by simpa [g1] using hv.symm
    subst ex
    refine turn c i g1 u h tk _ own hP hoff (fun q hq => ?_) hex F₁ N₁
    rcases List.mem_cons.mp (hsub q hq) with e | hm
    · exact .inr fun p hp => e ▸ hall p hp
    · exact .inl (List.mem_singleton.mp hm)
end
end Mine
end
section
open PySem PySem.W PySem.Spec PySem.Calls PyProof.Rows PyProof.V
set_option maxHeartbeats 8000000
namespace Mine
local macro_rules | `(tactic| k_all) => `(tactic| assumption)
local macro_rules | `(tactic| walk_at "call builtin:list.append") => `(tactic| (k_here; (with_reducible show wpAny _ _ (call (Value.builtin _) [Value.ref _, _]) _ _ _); k_dflt (refine' append_L ?k1 ?k2 ?k3 ?z ?_; (case k1 => k_asm); (case k2 => k_asm); (case k3 => k_upd); (case z => ((try simp only [List.length_append, List.length_cons, List.length_nil]); omega)); k_whole); intro h' F' N'; (try k_sweep)))
noncomputable def forTarget : Stmt → Expr
  | .For t _ _ _ _ => t
  | _ => .Name Str.empty ⟨0, 0, 0, 0⟩
noncomputable abbrev tEnv (L : Addr) : Env := envOf (Str.ofString "_law_tokens") (fnScope (topSt 21)) L 237 (.ref 236)
noncomputable abbrev tBody1 : List Stmt := forBody ((fnBody (topSt 21)).getD 1 passS)
noncomputable abbrev tTgt1 : Expr := forTarget ((fnBody (topSt 21)).getD 1 passS)
noncomputable abbrev tBody2 : List Stmt := forBody ((fnBody (topSt 21)).getD 3 passS)
noncomputable abbrev tTgt2 : Expr := forTarget ((fnBody (topSt 21)).getD 3 passS)
noncomputable def TMid1 (h₀ : Heap) (L : Addr) (rest : Led) (S : Nat) (x line : Str) (g : Int) (sv : List Value) (nS : Nat) (tx tr : Tok) (s : Shared) (f : Flow) (s' : Shared) : Prop := f = .next ∧ ∃ (h' : Heap) (tk' : Nat) (m' : Str → Option Value) (D : Nat) (t2 t3 : Tok), s' = { s with heap := h', toks := tk' } ∧ Fr h₀ L h' m' ∧ News h₀ L h' ((D, ({ cls := .type "tuple", data := .seq #[.str x tx, .int ((line ++ Txt.mul (Str.ofString " ") g).length : Int) t2] } : Obj)) :: (S, listOf (sv ++ [Value.ref D]).toArray (nS + 1)) :: rest) ∧ (∀ p ∈ rest, p.1 < D) ∧
        m' (Str.ofString "line") = some (.str (line ++ Txt.mul (Str.ofString " ") g ++ x) t3) ∧ m' (Str.ofString "spots") = some (.ref S) ∧ m' (Str.ofString "row") = some (.int 3 tr)
section
variable {c : Cx} {base : Heap} {W G S : Nat} {sv : List Value} {nS : Nat} {rest : Led}
  {dp un : Nat} {gd : Option (List Code)} {cn : Str} {cs : Scope} {a : Addr} {ccd : Value} {cl : List (Str × Addr)} {outer : List Env} {L₀ : Addr} {h₀ : Heap} {L : Addr} {s : Shared} {E : Value → Shared → Prop}
  {u : Str → Option Value} {x line : Str} {g : Int} {tx tg tl tr : Tok} {T : Nat}
theorem tokTurn1 (B' : Below (ktrTop dp un gd cn cs L₀ a ccd cl outer) base (envX cn cs L₀ a ccd cl :: outer) h₀) (X : (frag c.w.params).In h₀) (Tp : Top c.p c.loose c.mean c.mg c.mb h₀) (hk : cs.kind = .function) (hd : dp + 10 < recursionLimit) (hu : un + 64 < cLine)
    (hT : IsTup s.heap T #[.str x tx, .int g tg]) (hS : ∀ p ∈ rest, p.1 ≠ S) (hg0 : 0 ≤ g) (hg1 : g ≤ 1) (hx : x.length < 20) (hl : line.length ≤ 1000) (hsv : sv.length ≤ 40)
    (F : Fr h₀ L s.heap (kstB u [(Str.ofString "line", .str line tl), (Str.ofString "spots", .ref S), (Str.ofString "row", .int 3 tr)])) (N : News h₀ L s.heap ((S, listOf sv.toArray nS) :: rest)) :
    wpAny (MM c.w) ((ktrTop dp un gd cn cs L₀ a ccd cl outer).deeper (tEnv L)) (assign tTgt1 (tEnv L) (.ref T)) (fun _ s₃ => wpAny (MM c.w) ((ktrTop dp un gd cn cs L₀ a ccd cl outer).deeper (tEnv L)) (execs tBody1 (tEnv L))
      (TMid1 h₀ L rest S x line g sv nS tx tr s) E s₃) E s := by
  unfold MM
  revert X; k_fill; intro X
  conv in tTgt1 => whnf
  conv in tBody1 => whnf
  k_steps
  refine ⟨rfl, _, _, _, _, _, _, rfl, (by assumption), (by assumption), ?_, (by with_unfolding_all rfl), (by with_unfolding_all rfl), (by with_unfolding_all rfl)⟩
  exact kst_ltOf (‹_ ∧ AllLt _ _›).2
end
end Mine
end
section
open PySem PySem.W PySem.Spec PySem.Calls PyProof.Rows
set_option maxHeartbeats 8000000
namespace Mine
section
variable {w : World} {h : Heap}
theorem tok_made (X : (frag w.params).In h) : Looks (MM w) h (Bind.madeBy (.ref 191)) none := Looks.of_peek X (by kernel_rfl)
theorem tok_mro (X : (frag w.params).In h) : Looks (MM w) h (mroOf (.ref 191)) [.ref 191, .type "tuple", .type "object"] := Looks.of_peek X (by kernel_rfl)
theorem tok_base (X : (frag w.params).In h) : Looks (MM w) h (Bind.madeHere "tuple.__new__" (.ref 191)) () := Looks.of_peek X (by kernel_rfl)
theorem tok_self (X : (frag w.params).In h) : Looks (MM w) h (isSubtype (.ref 191) (.ref 191)) true := Looks.of_peek X (by kernel_rfl)
theorem tok_tup (X : (frag w.params).In h) : Looks (MM w) h (isSubtype (.ref 191) (.type "tuple")) true := Looks.of_peek X (by kernel_rfl)
theorem tok_obj (X : (frag w.params).In h) : Looks (MM w) h (isSubtype (.ref 191) (.type "object")) true := Looks.of_peek X (by kernel_rfl)
theorem tok_type (X : (frag w.params).In h) : Looks (MM w) h (isInstance (.ref 191) (.type "type")) true := Looks.of_peek X (by kernel_rfl)
theorem tok_istype (X : (frag w.params).In h) : Looks (MM w) h (isType (.ref 191)) true := Looks.of_peek X (by kernel_rfl)
theorem tok_call (X : (frag w.params).In h) : Looks (MM w) h (specialOf (.ref 191) "__call__") (some (.builtin "type.__call__")) := Looks.of_peek X (by kernel_rfl)
theorem tok_init (X : (frag w.params).In h) : Looks (MM w) h (typeLookup (.ref 191) "__init__") (some (.builtin "object.__init__")) := Looks.of_peek X (by kernel_rfl)
end
end Mine
end
section
open PySem PySem.W PySem.Spec PySem.Calls PyProof.Rows
set_option maxHeartbeats 8000000
namespace Mine
local macro_rules | `(tactic| walk_at "zz0") => `(tactic| fail)
section
variable {w : World} {h : Heap} {A : Around} {s : Shared} {E : Value → Shared → Prop}
theorem tok_del (X : (frag w.params).In h) : Looks (MM w) h (classHasDel 191) false := Looks.of_peek X (by kernel_rfl)
theorem tok_check (X : (frag w.params).In h) (T : Addr) : Looks (MM w) h (checkBuiltinCall "tuple.__new__" ⟨[.ref 191, .ref T], []⟩) () := Looks.of_peek X (by kernel_rfl)
noncomputable abbrev tokObj (dx : Addr) (items : Array Value) : Obj := { cls := .ref 191, dict := some dx, data := .seq items }
theorem tupnew {T : Addr} {items : Array Value} {R : Result → Shared → Prop} (X : (frag w.params).In s.heap) (hT : s.heap.get? T = some { cls := .type "tuple", data := .seq items }) (hsz : items.size ≤ sizeLine)
    (hq : ∀ h' : Heap, (∀ b o, s.heap.get? b = some o → h'.get? b = some o) → R (.ok (.ret (.ref (h'.push emptyDict).objs.size))) { s with heap := (h'.push emptyDict).push (tokObj h'.objs.size items) }) :
    codeAny (MM w) A (.call (.builtin "tuple.__new__") ⟨[.ref 191, .ref T], []⟩) R s := by
  refine codeAny_call_builtin (id := "tuple.__new__") (by decide +kernel) F.entry_tuple_new ((tok_check X T).here ?_)
  have k1 := tok_istype X
  have k2 := tok_tup X
  have k3 := tok_base X
  have k4 := tok_init X
  obtain ⟨hp, g, d, tk, os⟩ := s
  unfold Builtin.«tuple.__new__»
  repeat (first | with_reducible refine wpAny_collect_seq T (.inr rfl) hT rfl rfl ?_ hsz | lk)
  intro h' k
  have k5 := (tok_del (w := w) X).keeps fun b o e => Heap.get?_push_of_some (tokObj h'.objs.size items) (Heap.get?_push_of_some emptyDict (k b o e))
  have hz : ¬ items.size > sizeLine := Nat.not_lt.mpr hsz
  repeat (first | simp only [hz, if_false, Array.toArray_toList] | lk)
  exact hq h' k
theorem tupnew_K {T : Addr} {items : Array Value} {h₀ : Heap} {L : Addr} {m : Str → Option Value} {news : Led} {Q : Value → Shared → Prop} (F : Fr h₀ L s.heap m) (N : News h₀ L s.heap news) (X : (frag w.params).In h₀)
    (hT : (T, ({ cls := .type "tuple", data := .seq items } : Obj)) ∈ news) (hsz : items.size ≤ sizeLine)
    (h : ∀ D dx h', Fr h₀ L h' m → News h₀ L h' ((D, tokObj dx items) :: (dx, emptyDict) :: news) → (∀ p ∈ news, @LT.lt Nat _ p.1 dx) → @LT.lt Nat _ dx D → Q (.ref D) { s with heap := h' }) :
    wpAny (MM w) A (call (.builtin "tuple.__new__") [.ref 191, .ref T]) Q E s := by
  refine wpAny_call (tupnew (X.keeps F.keep) (N _ hT).1 hsz fun h' k => ?_)
  have N1 : News h₀ L h' news := fun p hp => ⟨k _ _ (N p hp).1, (N p hp).2⟩
  have F1 : Fr h₀ L h' m := F.keeps k
  refine h _ h'.objs.size _ ((F1.push _).push _) ((N1.push F1 emptyDict).push (F1.push _) _) (fun p hp => Heap.lt_size (N1 p hp).1) ?_
  rw [Heap.size_push]
  exact Nat.lt_succ_self _
end
theorem tok_is{w : World} : (match (frag w.params).lookup 191 with | some ⟨_, _, .cls _, _⟩ => true | _ => false) = true := by kernel_rfl
noncomputable def TokBack (w : World) (R : Result → Shared → Prop) (v : Value) (s' : Shared) : Prop := ∃ (D dx : Addr) (items : Array Value), v = .ref D ∧ (frag w.params).In s'.heap ∧ s'.heap.get? D = some (tokObj dx items) ∧ R (.ok (.ret v)) s'
section
variable {w : World} {A : Around} {h₀ : Heap} {L : Addr} {m : Str → Option Value}
theorem oi_tok {D dx : Addr} {items : Array Value} {rest : List Value} {s : Shared} {R : Result → Shared → Prop} (X : (frag w.params).In s.heap) (hD : s.heap.get? D = some (tokObj dx items)) (hr : R (.ok (.ret .none)) s) :
    codeAny (MM w) A (.call (.builtin "object.__init__") ⟨.ref D :: rest, []⟩) R s := by
  have t1 : Looks (MM w) s.heap (typeOf (.ref D)) (.ref 191) := (Looks.ld hD).andThen .now
  have t2 : Looks (MM w) s.heap (isInstance (.ref D) (.type "object")) true := t1.andThen (tok_obj X)
  refine codeAny_call_builtin oi_plain entry_oi (@check_slot (MM w) _ _ _ "object.__init__" "object" "__init__" (.ref D) rest [] _ oi_kind oi_split t2 (by unfold argsOk; kernel_rfl) ?_)
  have t3 := tok_init X
  have t4 := tok_made X
  obtain ⟨hp, g, d, tk, os⟩ := s
  unfold Builtin.«object.__init__»
  by_cases hre : rest.isEmpty = true
  · simp only [hre, List.isEmpty_nil, Bool.not_true, Bool.or_self, Bool.false_eq_true, if_false]
    repeat lk
    exact hr
  · simp only [Bool.not_eq_true] at hre
    simp only [hre, Bool.not_false, Bool.true_or, if_true]
    repeat lk
    exact hr
theorem tok_getnew {s : Shared} {Q : Value → Shared → Prop} {E : Value → Shared → Prop} (F : Fr h₀ L s.heap m) (X : (frag w.params).In h₀) (q : Q (.ref 132) { s with toks := s.toks + 1 }) : wpAny (MM w) A (getAttr (.ref 191) "__new__") Q E s := by
  exact cls_sm (K := frag w.params) (mc := .type "type") (p := 192) (rest := []) (f := .ref 132) F X (by kernel_rfl) (by kernel_rfl) (by kernel_rfl) (by kernel_rfl) (by kernel_rfl) q
theorem tokBack_end {D dx : Addr} {items : Array Value} {more : Led} {s' : Shared} {R : Result → Shared → Prop} (X : (frag w.params).In h₀) (F : Fr h₀ L s'.heap m) (N : News h₀ L s'.heap ((D, tokObj dx items) :: more)) (h : R (.ok (.ret (.ref D))) s') : TokBack w R (.ref D) s' :=
  ⟨D, dx, items, rfl, X.keeps F.keep, (N _ (.head _)).1, h⟩
theorem tok_core {rest : List Value} {s : Shared} {R : Result → Shared → Prop} (F : Fr h₀ L s.heap m) (X₀ : (frag w.params).In h₀)
    (hq : wpAny (MM w) (A.under (.builtin "type.__call__" ⟨.ref 191 :: rest, []⟩)) (call (.ref 132) (.ref 191 :: rest)) (TokBack w R) (fun e s' => R (.error e) s') { s with toks := s.toks + 1 }) :
    codeAny (MM w) A (.call (.ref 191) ⟨rest, []⟩) R s := by
  have X := X₀.keeps F.keep
  have hc := tok_is (w := w)
  obtain ⟨oc, od, cd, sl, hC⟩ : ∃ oc od cd sl, s.heap.get? 191 = some ⟨oc, od, .cls cd, sl⟩ := by
    split at hc
    · rename_i oc od cd sl ho
      exact ⟨oc, od, cd, sl, X _ _ ho⟩
    · cases hc
  have k1 := tok_call X
  have k2 := tok_type X
  have k3 := tok_mro X
  have k4 := tok_made X
  obtain ⟨hp, g, d, tk, os⟩ := s
  refine codeAny_of_tree ?_
  show wpAny _ _ (callAny (.ref 191) _) _ _ _
  refine nd_load hC ?_
  show wpAny _ _ (callAny.viaDunder (.ref 191) _) _ _ _
  unfold callAny.viaDunder
  refine wpAny_bind (k1.at ?_)
  dsimp only
  rw [tc_bind]
  refine wpAny_bind (wpAny_pure (wpAny_bind (wpAny_pure ?_)))
  refine wpAny_pure (a := Fin.again (.call (.builtin "type.__call__") ⟨.ref 191 :: rest, []⟩)) (And.intro rfl ?_)
  refine codeAny_call_builtin_at (Code.quiet_builtin _ (by decide +kernel)) entry_typeCall (check_slot tc_kind tc_split k2 (tc_args _ _ _) ?_)
  unfold Builtin.«type.__call__»
  repeat (first | ((with_reducible show wpAny _ _ (getAttr _ _ _) _ _ _); refine tok_getnew F X₀ ?_) | ((with_reducible show wpAny _ _ (call _ _ _) _ _ _); refine stop ?_) | lk)
  refine ⟨wpAny_mono hq (fun v s' h => ?_) fun _ _ e => e⟩
  obtain ⟨D, dx, items, rfl, X', hD, hr⟩ := h
  have t1 : Looks (MM w) s'.heap (typeOf (.ref D)) (.ref 191) := (Looks.ld hD).andThen .now
  have t2 := tok_self X'
  have t3 := tok_init X'
  obtain ⟨hp', g', d', tk', os'⟩ := s'
  unfold isInstance callSpecial? specialOf
  repeat (first | rw [oi_bind] | with_reducible refine wpAny_call ?_ | lk)
  refine oi_tok X' hD ?_
  repeat lk
  exact hr
end
local macro_rules | `(tactic| walk_at "call builtin:tuple.__new__") => `(tactic| (k_here; k_dflt (refine' tupnew_K ?k1 ?k2 ?k3 ?k4 ?k5 ?_; (case k1 => k_asm); (case k2 => k_asm); (case k3 => k_asm); (case k4 => k_mem); (case k5 => size_fits)); intro D' dx' h' F' N' l1 l2; (have l3 := l1 _ (List.Mem.head _)); (try dsimp only at l3)))
theorem meta_tuple : typeOf (.type "tuple") = pure (.type "type") := by kernel_rfl
local macro_rules | `(tactic| walk_at "getMethod type:tuple") => `(tactic| (k_here; refine' method_type ?F ?X ?m (by decide +kernel) ?e ?h ?_; (case F => k_asm); (case X => k_asm); (case m => exact meta_tuple); (case e => k_dflt k_is); (case h => k_handed)))
noncomputable def TokR (news : Led) (k : Int) (x : Str) (a b : Addr) (line : Str) (v : Value) (own : Led) : Prop :=
  ∃ (D dx T : Nat) (t1 t2 t3 : Tok), v = .ref D ∧ own = [(D, tokObj dx #[.int k t1, .str x t2, .ref a, .ref b, .str line t3]), (dx, emptyDict), (T, ({ cls := .type "tuple", data := .seq #[.int k t1, .str x t2, .ref a, .ref b, .str line t3] } : Obj))] ∧ (∀ p ∈ news, @LT.lt Nat _ p.1 T) ∧ T < dx ∧ dx < D
theorem tokT {c : Cx} {base : Heap} {news : Led} {k : Int} {x line : Str} {a b : Addr} {t1 t2 t3 : Tok} :
    Tells c base news 191 [.int k t1, .str x t2, .ref a, .ref b, .str line t3] 6 40 (TokR news k x a b line) := by
  unfold Tells MM
  k_fill
  intro dp un gd cn cs a ccd cl outer A₀ h₀ L m s Q E B F X N T hk hd hu hret
  refine wpAny_call (tok_core F X ?_)
  unfold MM
  refine wpAny_call ?_
  k_dflt cell_enter
  k_steps
  refine' tokBack_end X ?kF ?kN ?kh
  (case kF => assumption)
  (case kN => assumption)
  (case kh =>
    (try dsimp only)
    refine hret _ [_, _, _] _ _ (by assumption) (by assumption) ⟨_, _, _, _, _, _, rfl, rfl, ?_, ?_, ?_⟩
    · assumption
    · assumption
    · assumption)
end Mine
end
section
open PySem PySem.W PySem.Spec PySem.Calls PyProof.Rows PyProof.V
set_option maxHeartbeats 8000000
namespace Mine
local macro_rules | `(tactic| k_all) => `(tactic| assumption)
local macro_rules | `(tactic| walk_at "call builtin:list.append") => `(tactic| (k_here; (with_reducible show wpAny _ _ (call (Value.builtin _) [Value.ref _, _]) _ _ _); k_dflt (refine' append_L ?k1 ?k2 ?k3 ?z ?_; (case k1 => k_asm); (case k2 => k_asm); (case k3 => k_upd); (case z => ((try simp only [List.length_append, List.length_cons, List.length_nil]); omega)); k_whole); intro h' F' N'; (try k_sweep)))
local macro_rules | `(tactic| walk_at "call ref") => `(tactic| ((with_reducible show wpAny _ _ (call (Value.ref _) _) _ _ _); refine stop ?_))
noncomputable def TokIn (imm : Led) (line : Str) (k : Int × Str × Int × Int) (D : Addr) : Prop := ∃ (dx a b : Addr) (t1 t2 t3 t4 t5 t6 t7 : Tok), (D, tokObj dx #[.int k.1 t1, .str k.2.1 t2, .ref a, .ref b, .str line t3]) ∈ imm ∧ (a, ({ cls := .type "tuple", data := .seq #[.int 3 t4, .int k.2.2.1 t5] } : Obj)) ∈ imm ∧ (b, ({ cls := .type "tuple", data := .seq #[.int 3 t6, .int k.2.2.2 t7] } : Obj)) ∈ imm
noncomputable def TMid2 (h₀ : Heap) (L : Addr) (rest : Led) (S : Nat) (x line : Str) (g : Int) (sv : List Value) (nS : Nat) (tr : Tok) (s : Shared) (f : Flow) (s' : Shared) : Prop := f = .next ∧ ∃ (h' : Heap) (tk' : Nat) (m' : Str → Option Value) (D : Nat) (new : Led), s' = { s with heap := h', toks := tk' } ∧ Fr h₀ L h' m' ∧ News h₀ L h' ((S, listOf (sv ++ [Value.ref D]).toArray (nS + 1)) :: (new ++ rest)) ∧ TokIn new (line ++ Str.ofString "\n") (kindv x, x, g, g + x.length) D ∧ (∀ q ∈ new, ∀ p ∈ rest, p.1 < q.1) ∧ (∀ q ∈ new, @LT.lt Nat _ S q.1) ∧
        (∃ t3, m' (Str.ofString "line") = some (.str line t3)) ∧ m' (Str.ofString "found") = some (.ref S) ∧ m' (Str.ofString "row") = some (.int 3 tr)
theorem tmid2_end {h₀ h' : Heap} {L : Addr} {rest : Led} {S D dx T0 d1 d2 : Nat} {x line : Str} {g : Int} {sv : List Value} {nS : Nat} {tr t1 t2 t3 t4 t5 t6 t7 t8 : Tok} {s : Shared} {m' : Str → Option Value} {tk' : Nat} {o : Obj} {P1 P2 : Prop}
    (F : Fr h₀ L h' m') (N : News h₀ L h' ((D, tokObj dx #[.int (kindv x) t1, .str x t2, .ref d1, .ref d2, .str (line ++ Str.ofString "\n") t3]) :: (dx, emptyDict) :: (T0, o) :: (d2, ({ cls := .type "tuple", data := .seq #[.int 3 t6, .int (g + x.length) t7] } : Obj)) :: (d1, ({ cls := .type "tuple", data := .seq #[.int 3 t4, .int g t5] } : Obj)) :: (S, listOf (sv ++ [Value.ref D]).toArray (nS + 1)) :: rest))
    (q1 : S < d1 ∧ AllLt d1 rest) (q2 : d1 < d2 ∧ P1) (q3 : d2 < T0 ∧ P2) (hb : T0 < dx) (hc : dx < D) (e1 : m' (Str.ofString "line") = some (.str line t8)) (e2 : m' (Str.ofString "found") = some (.ref S)) (e3 : m' (Str.ofString "row") = some (.int 3 tr)) :
    TMid2 h₀ L rest S x line g sv nS tr s .next { s with heap := h', toks := tk' } := by
  obtain ⟨q1, qa⟩ := q1
  have qa := kst_ltOf qa
  have q2 := q2.1
  have q3 := q3.1
  refine ⟨rfl, h', tk', m', D, [(D, _), (dx, emptyDict), (T0, o), (d2, _), (d1, _)], rfl, F, ?_, ⟨dx, d1, d2, t1, t2, t3, t4, t5, t6, t7, .head _, .tail _ (.tail _ (.tail _ (.tail _ (.head _)))), .tail _ (.tail _ (.tail _ (.head _)))⟩, ?_, ?_, ⟨t8, e1⟩, e2, e3⟩
  · intro p hp
    refine N p ?_
    simp only [List.mem_cons, List.cons_append, List.nil_append] at hp ⊢
    rcases hp with hp | hp | hp | hp | hp | hp | hp <;> simp only [hp, true_or, or_true]
  · intro q hq p hp
    have := qa p hp
    simp only [List.mem_cons, List.not_mem_nil, or_false] at hq
    rcases hq with rfl | rfl | rfl | rfl | rfl <;> dsimp only <;> (show @LT.lt Nat _ _ _) <;> have h0 : @LT.lt Nat _ p.1 d1 := this <;> omega
  · intro q hq
    simp only [List.mem_cons, List.not_mem_nil, or_false] at hq
    rcases hq with rfl | rfl | rfl | rfl | rfl <;> dsimp only <;> omega
section
variable {c : Cx} {base : Heap} {W G S : Nat} {sv : List Value} {nS : Nat} {rest : Led}
  {dp un : Nat} {gd : Option (List Code)} {cn : Str} {cs : Scope} {a : Addr} {ccd : Value} {cl : List (Str × Addr)} {outer : List Env} {L₀ : Addr} {h₀ : Heap} {L : Addr} {s : Shared} {E : Value → Shared → Prop}
  {u : Str → Option Value} {x line : Str} {g : Int} {tx tg tl tr : Tok} {T : Nat}
theorem tokTurn2 (B' : Below (ktrTop dp un gd cn cs L₀ a ccd cl outer) base (envX cn cs L₀ a ccd cl :: outer) h₀) (X : (frag c.w.params).In h₀) (Tp : Top c.p c.loose c.mean c.mg c.mb h₀) (hk : cs.kind = .function) (hd : dp + 10 < recursionLimit) (hu : un + 64 < cLine)
    (hT : IsTup s.heap T #[.str x tx, .int g tg]) (hS : ∀ p ∈ rest, p.1 ≠ S) (hg0 : 0 ≤ g) (hg1 : g ≤ 1000) (hx : 0 < x.length ∧ x.length < 20) (hl : line.length ≤ 1000) (hsv : sv.length ≤ 40)
    (F : Fr h₀ L s.heap (kstB u [(Str.ofString "line", .str line tl), (Str.ofString "found", .ref S), (Str.ofString "row", .int 3 tr)])) (N : News h₀ L s.heap ((S, listOf sv.toArray nS) :: rest)) :
    wpAny (MM c.w) ((ktrTop dp un gd cn cs L₀ a ccd cl outer).deeper (tEnv L)) (assign tTgt2 (tEnv L) (.ref T)) (fun _ s₃ => wpAny (MM c.w) ((ktrTop dp un gd cn cs L₀ a ccd cl outer).deeper (tEnv L)) (execs tBody2 (tEnv L))
      (TMid2 h₀ L rest S x line g sv nS tr s) E s₃) E s := by
  unfold MM
  revert X; k_fill; intro X
  conv in tTgt2 => whnf
  conv in tBody2 => whnf
  k_steps
  constructor
  (refine' (kindT (c := _) (base := _) (news := _) (by assumption)).use ?k1 ?k2 ?k3 ?k4 ?k5 ?kK ?kd ?ku ?_; (case k1 => k_asm); (case k2 => k_asm); (case k3 => k_asm); (case k4 => k_asm); (case k5 => k_asm); (case kK => first | exact rfl | assumption); (case kd => ktr_room); (case ku => ktr_units))
  intro v9 own9 h9 tk9 F9 N9 hR9
  obtain ⟨rfl, t9, rfl⟩ := hR9
  simp only [List.nil_append] at N9
  k_steps
  constructor
  (refine' (tokT (c := _) (base := _) (news := _)).use ?k1 ?k2 ?k3 ?k4 ?k5 ?kK ?kd ?ku ?_; (case k1 => k_asm); (case k2 => k_asm); (case k3 => k_asm); (case k4 => k_asm); (case k5 => k_asm); (case kK => first | exact rfl | assumption); (case kd => ktr_room); (case ku => ktr_units))
  intro v8 own8 h8 tk8 F8 N8 hR8
  obtain ⟨D9, dx9, T9, t91, t92, t93, rfl, rfl, hA9, hb9, hc9⟩ := hR8
  k_lt hA9
  simp only [List.cons_append, List.nil_append] at N8
  k_steps
  (try dsimp only)
  refine' tmid2_end ?kF ?kN ?q1 ?q2 ?q3 ?hb ?hc ?e1 ?e2 ?e3
  (case kF => assumption)
  (case kN => assumption)
  (case q1 => assumption)
  (case q2 => assumption)
  (case q3 => assumption)
  (case hb => assumption)
  (case hc => assumption)
  (case e1 => with_unfolding_all rfl)
  (case e2 => with_unfolding_all rfl)
  (case e3 => with_unfolding_all rfl)
end
end Mine
end
section
open PySem PySem.W PySem.Spec PySem.Calls PyProof.Rows PyProof.V
set_option maxHeartbeats 8000000
namespace Mine
local macro_rules | `(tactic| walk_at "zz0") => `(tactic| fail)
local macro_rules | `(tactic| walk_at "zz1") => `(tactic| fail)
inductive AllRel {α : Type} (R : Value → α → Prop) : List Value → List α → Prop where
  | nil : AllRel R [] []
  | cons {v a vs as} : R v a → AllRel R vs as → AllRel R (v :: vs) (a :: as)
theorem AllRel.snoc {α : Type} {R : Value → α → Prop} {v : Value} {a : α} (hv : R v a) : ∀ {vs as}, AllRel R vs as → AllRel R (vs ++ [v]) (as ++ [a])
  | _, _, .nil => .cons hv .nil
  | _, _, .cons h t => .cons h (AllRel.snoc hv t)
theorem AllRel.mono {α : Type} {R R' : Value → α → Prop} (hR : ∀ v a, R v a → R' v a) : ∀ {vs as}, AllRel R vs as → AllRel R' vs as
  | _, _, .nil => .nil
  | _, _, .cons h t => .cons (hR _ _ h) (AllRel.mono hR t)
theorem AllRel.len {α : Type} {R : Value → α → Prop} : ∀ {vs as}, AllRel R vs as → vs.length = as.length
  | _, _, .nil => rfl
  | _, _, .cons _ t => by simp [AllRel.len t]
theorem AllRel.get {α : Type} {R : Value → α → Prop} : ∀ {vs as}, AllRel R vs as → ∀ i (h : i < vs.length) (h' : i < as.length), R vs[i] as[i]
  | _, _, .nil, i, h, _ => absurd h (Nat.not_lt_zero _)
  | _, _, .cons h t, 0, _, _ => h
  | _, _, .cons h t, i + 1, a, b => AllRel.get t i (by simpa using a) (by simpa using b)
theorem strs_at {vs : List Value} {ws : List Str} (h : StrsAre vs ws) : AllRel (fun v x => ∃ t, v = .str x t) vs ws := by
  induction h with
  | nil => exact .nil
  | cons x t _ ih => exact .cons ⟨t, rfl⟩ ih
theorem ints_at {vs : List Value} {ws : List Int} (h : IntsAre vs ws) : AllRel (fun v x => ∃ t, v = .int x t) vs ws := by
  induction h with
  | nil => exact .nil
  | cons x t _ ih => exact .cons ⟨t, rfl⟩ ih
noncomputable def gap1 (line : Str) (g : Int) : Str := line ++ Txt.mul (Str.ofString " ") g
noncomputable def lnIter (ws : List Str) (gs : List Int) : Nat → Str × List (Str × Int)
  | 0 => (Str.ofString "", [])
  | i + 1 => (gap1 (lnIter ws gs i).1 (gs.getD i 0) ++ ws.getD i Str.empty, (lnIter ws gs i).2 ++ [(ws.getD i Str.empty, ((gap1 (lnIter ws gs i).1 (gs.getD i 0)).length : Int))])
noncomputable def tokOf (p : Str × Int) : Int × Str × Int × Int := (kindv p.1, p.1, p.2, p.2 + p.1.length)
noncomputable def SpotV (imm : Led) (v : Value) (k : Str × Int) : Prop := ∃ (T : Addr) (t1 t2 : Tok), v = .ref T ∧ (T, ({ cls := .type "tuple", data := .seq #[.str k.1 t1, .int k.2 t2] } : Obj)) ∈ imm
noncomputable def TokV (imm : Led) (line : Str) (v : Value) (k : Int × Str × Int × Int) : Prop := ∃ D, v = .ref D ∧ TokIn imm line k D
structure WOk (ws : List Str) (gs : List Int) : Prop where
  len : gs.length = ws.length
  few : ws.length ≤ 40
  wd : ∀ x ∈ ws, 0 < x.length ∧ x.length < 20
  gp : ∀ g ∈ gs, 0 ≤ g ∧ g ≤ 1
local macro_rules | `(tactic| walk_at "exec For Tuple Call") => `(tactic| (k_here; (rename Fr _ _ _ _ => lF'); (with_unfolding_all refine' For_turns lF' ?_); k_whole))
local macro_rules | `(tactic| walk_at "exec For Tuple Name") => `(tactic| (k_here; (rename Fr _ _ _ _ => lF'); (with_unfolding_all refine' For_turns lF' ?_); k_whole))
local macro_rules | `(tactic| walk_at "call type:zip") => `(tactic| (refine stop ?_))
local macro_rules | `(tactic| walk_at "pyIter ref") => `(tactic| (refine stop ?_))
structure C1 where
  sv : List Value
  nS : Nat
  imm : Led
  line : Str
  tl : Tok
noncomputable def Ld1 (S : Nat) (c : C1) : Led := (S, listOf c.sv.toArray c.nS) :: c.imm
noncomputable def ps1 (S : Nat) (tr : Tok) (c : C1) : List (Str × Value) := [(Str.ofString "line", .str c.line c.tl), (Str.ofString "spots", .ref S), (Str.ofString "row", .int 3 tr)]
structure P1 (ws : List Str) (gs : List Int) (news : Led) (S : Nat) (i : Nat) (c : C1) : Prop where
  ln : c.line = (lnIter ws gs i).1
  sp : AllRel (SpotV c.imm) c.sv (lnIter ws gs i).2
  ns : ∀ p ∈ c.imm, p.1 ≠ S
  sub : ∀ p ∈ news, p ∈ c.imm
  len : c.sv.length = i
theorem lnIter_len (ws : List Str) (gs : List Int) : ∀ i, (lnIter ws gs i).2.length = i
  | 0 => rfl
  | i + 1 => by rw [lnIter, List.length_append, lnIter_len ws gs i]; rfl
theorem gap1_len (line : Str) {g : Int} (h0 : 0 ≤ g) : ((gap1 line g).length : Int) = line.length + g := by
  unfold gap1
  rw [Str.length_append]
  have h := len_mul (Str.ofString " ") g
  have e1 : (Str.ofString " ").length = 1 := by decide +kernel
  have hd : decide (g < 0) = false := by simp; omega
  rw [e1, hd] at h
  simp at h
  omega
theorem lnIter_bound {ws : List Str} {gs : List Int} (hok : WOk ws gs) : ∀ i, i ≤ ws.length → (lnIter ws gs i).1.length ≤ 21 * i
  | 0, _ => by
    have e : (Str.ofString "").length = 0 := by decide +kernel
    show (Str.ofString "").length ≤ 0
    omega
  | i + 1, h => by
    have ih := lnIter_bound hok i (by omega)
    have hi : i < ws.length := by omega
    have hg : i < gs.length := by rw [hok.len]; omega
    have g0 := hok.gp gs[i] (List.getElem_mem hg)
    have w0 := hok.wd ws[i] (List.getElem_mem hi)
    have hl := gap1_len (lnIter ws gs i).1 g0.1
    simp only [lnIter, List.getD_eq_getElem?_getD, List.getElem?_eq_getElem hi, List.getElem?_eq_getElem hg, Option.getD_some]
    rw [Str.length_append]
    omega
theorem SpotV.mono {imm imm' : Led} (h : ∀ p ∈ imm, p ∈ imm') {v : Value} {k : Str × Int} (x : SpotV imm v k) : SpotV imm' v k := by
  obtain ⟨T, t1, t2, e, m⟩ := x
  exact ⟨T, t1, t2, e, h _ m⟩
theorem TokIn.mono {imm imm' : Led} (h : ∀ p ∈ imm, p ∈ imm') {line : Str} {k : Int × Str × Int × Int} {D : Addr} (x : TokIn imm line k D) : TokIn imm' line k D := by
  obtain ⟨dx, a, b, t1, t2, t3, t4, t5, t6, t7, m1, m2, m3⟩ := x
  exact ⟨dx, a, b, t1, t2, t3, t4, t5, t6, t7, h _ m1, h _ m2, h _ m3⟩
section
variable {c : Cx} {base : Heap} {W G S : Nat} {wv gv : List Value} {nW nG : Nat} {ws : List Str} {gs : List Int} {news : Led} {wr : List Addr} {own : Led} {i : Nat}
  {dp un : Nat} {gd : Option (List Code)} {cn : Str} {cs : Scope} {a : Addr} {ccd : Value} {cl : List (Str × Addr)} {outer : List Env} {L₀ : Addr} {h₀ : Heap} {L : Addr} {s : Shared} {E : Value → Shared → Prop}
  {u : Str → Option Value} {tr : Tok} {T : Nat}
theorem turn1 {b : C1} (B' : Below (ktrTop dp un gd cn cs L₀ a ccd cl outer) base (envX cn cs L₀ a ccd cl :: outer) h₀) (X : (frag c.w.params).In h₀) (Tp : Top c.p c.loose c.mean c.mg c.mb h₀) (hk : cs.kind = .function) (hd : dp + 10 < recursionLimit) (hu : un + 64 < cLine)
    (hw : StrsAre wv ws) (hg : IntsAre gv gs) (hok : WOk ws gs) (hi1 : i < wv.length) (hi2 : i < gv.length) (hT : s.heap.IsTuple T #[wv[i], gv[i]]) (hP : P1 ws gs news S i b) (hoff : ∀ p ∈ Ld1 S b, p.1 ∉ wr) (hSo : ∀ q ∈ own, q.1 ≠ S) (hex : ∀ b ∈ wr, ∃ o, (b, o) ∈ own)
    (F : Fr h₀ L s.heap (kstB u (ps1 S tr b))) (N : News h₀ L s.heap (own ++ Ld1 S b)) :
    wpAny (MM c.w) ((ktrTop dp un gd cn cs L₀ a ccd cl outer).deeper (tEnv L)) (assign tTgt1 (tEnv L) (.ref T)) (fun _ s₃ => wpAny (MM c.w) ((ktrTop dp un gd cn cs L₀ a ccd cl outer).deeper (tEnv L)) (execs tBody1 (tEnv L))
      (TurnEnd2 h₀ L (Ld1 S) (ps1 S tr) (P1 ws gs news S) wr own i s) E s₃) E s := by
  have hlw := hw.length
  have hlg := hg.length
  obtain ⟨ln, sp, hns, hsub, hlen⟩ := hP
  obtain ⟨tx, ex⟩ := (strs_at hw).get i hi1 (by omega)
  obtain ⟨tg, eg⟩ := (ints_at hg).get i hi2 (by omega)
  have iw : i < ws.length := by omega
  have ig : i < gs.length := by omega
  rw [ex, eg] at hT
  have hgp := hok.gp gs[i] (List.getElem_mem ig)
  have hwd := hok.wd ws[i] (List.getElem_mem iw)
  have hb := lnIter_bound hok i (by omega)
  have hfew := hok.few
  have ew : ws.getD i Str.empty = ws[i] := by simp [List.getD_eq_getElem?_getD, iw]
  have eg' : gs.getD i 0 = gs[i] := by simp [List.getD_eq_getElem?_getD, ig]
  have N' : News h₀ L s.heap ((S, listOf b.sv.toArray b.nS) :: (own ++ b.imm)) := by
    intro p hp
    refine N p ?_
    unfold Ld1
    rcases List.mem_cons.mp hp with hp | hp
    · exact List.mem_append_right _ (hp ▸ .head _)
    · rcases List.mem_append.mp hp with hp | hp
      · exact List.mem_append_left _ hp
      · exact List.mem_append_right _ (.tail _ hp)
  have hS : ∀ p ∈ own ++ b.imm, p.1 ≠ S := fun p hp => (List.mem_append.mp hp).elim (hSo p) (hns p)
  have hl0 : b.line.length ≤ 1000 := by rw [ln]; omega
  refine wpAny_mono (tokTurn1 (sv := b.sv) (nS := b.nS) (rest := own ++ b.imm) (line := b.line) (g := gs[i]) (x := ws[i]) B' X Tp hk hd hu hT hS hgp.1 hgp.2 hwd.2 hl0 (by omega) F N') (fun _ s₃ h₃ => wpAny_mono h₃ (fun f s₄ h₄ => ?_) fun _ _ e => e) fun _ _ e => e
  obtain ⟨rfl, h', tk', m', D, t2, t3, rfl, F', Nn, hlt, e1, e2, e3⟩ := h₄
  refine ⟨rfl, ⟨b.sv ++ [.ref D], b.nS + 1, (D, ({ cls := .type "tuple", data := .seq #[.str ws[i] tx, .int ((b.line ++ Txt.mul (Str.ofString " ") gs[i]).length : Int) t2] } : Obj)) :: b.imm, b.line ++ Txt.mul (Str.ofString " ") gs[i] ++ ws[i], t3⟩, h', tk', m', rfl, F', ?_, ?_, ?_, ⟨?_, ?_, ?_, ?_, ?_⟩⟩
  · intro p hp
    refine Nn p ?_
    unfold Ld1 at hp
    rcases List.mem_append.mp hp with hp | hp
    · exact .tail _ (.tail _ (List.mem_append_left _ hp))
    rcases List.mem_cons.mp hp with hp | hp
    · exact hp ▸ .tail _ (.head _)
    rcases List.mem_cons.mp hp with hp | hp
    · exact hp ▸ .head _
    · exact .tail _ (.tail _ (List.mem_append_right _ hp))
  · intro p hp hwr
    unfold Ld1 at hp
    rcases List.mem_cons.mp hp with hp | hp
    · exact hoff (S, listOf b.sv.toArray b.nS) (.head _) (by rw [hp] at hwr; exact hwr)
    rcases List.mem_cons.mp hp with hp | hp
    · obtain ⟨o, ho⟩ := hex _ hwr
      have := hlt _ (List.mem_append_left _ ho)
      rw [hp] at this
      exact absurd this (Nat.lt_irrefl _)
    · exact hoff p (.tail _ hp) hwr
  · intro p hp
    unfold ps1 at hp
    simp only [List.mem_cons, List.not_mem_nil, or_false] at hp
    rcases hp with rfl | rfl | rfl <;> assumption
  · show _ = gap1 (lnIter ws gs i).1 (gs.getD i 0) ++ ws.getD i Str.empty
    rw [ew, eg', ← ln]; rfl
  · show AllRel _ _ ((lnIter ws gs i).2 ++ [(ws.getD i Str.empty, ((gap1 (lnIter ws gs i).1 (gs.getD i 0)).length : Int))])
    rw [ew, eg', ← ln]
    exact AllRel.snoc ⟨D, tx, t2, rfl, .head _⟩ (sp.mono fun v k x => x.mono fun p hp => .tail _ hp)
  · intro p hp
    rcases List.mem_cons.mp hp with hp | hp
    · intro e
      have hh := Nn (S, _) (.tail _ (.head _))
      have hh2 := Nn (D, _) (.head _)
      rw [hp] at e
      dsimp only at e
      subst e
      have := hh.1.symm.trans hh2.1
      simp [W.listOf] at this
    · exact hns p hp
  · exact fun p hp => .tail _ (hsub p hp)
  · simp [hlen]
structure C2 where
  sv : List Value
  nS : Nat
  imm : Led
  tl : Tok
noncomputable def Ld2 (S : Nat) (c : C2) : Led := (S, listOf c.sv.toArray c.nS) :: c.imm
noncomputable def ps2 (S : Nat) (tr : Tok) (line : Str) (c : C2) : List (Str × Value) := [(Str.ofString "line", .str line c.tl), (Str.ofString "found", .ref S), (Str.ofString "row", .int 3 tr)]
structure P2 (sps : List (Str × Int)) (line : Str) (pre : Led) (S : Nat) (i : Nat) (c : C2) : Prop where
  sp : AllRel (TokV c.imm (line ++ Str.ofString "\n")) c.sv ((sps.take i).map tokOf)
  ns : ∀ p ∈ c.imm, p.1 ≠ S
  sub : ∀ p ∈ pre, p ∈ c.imm
theorem turn2 {b : C2} {pre : Led} {sps : List (Str × Int)} {line : Str} {vs : List Value} (B' : Below (ktrTop dp un gd cn cs L₀ a ccd cl outer) base (envX cn cs L₀ a ccd cl :: outer) h₀) (X : (frag c.w.params).In h₀) (Tp : Top c.p c.loose c.mean c.mg c.mb h₀) (hk : cs.kind = .function) (hd : dp + 10 < recursionLimit) (hu : un + 64 < cLine)
    (hv : AllRel (SpotV pre) vs sps) (hfew : sps.length ≤ 40) (hwd : ∀ k ∈ sps, 0 < k.1.length ∧ k.1.length < 20 ∧ 0 ≤ k.2 ∧ k.2 ≤ 1000) (hline : line.length ≤ 1000)
    (hi1 : i < vs.length) (hP : P2 sps line pre S i b) (hoff : ∀ p ∈ Ld2 S b, p.1 ∉ wr) (hSo : ∀ q ∈ own, q.1 ≠ S) (hex : ∀ b ∈ wr, ∃ o, (b, o) ∈ own)
    (F : Fr h₀ L s.heap (kstB u (ps2 S tr line b))) (N : News h₀ L s.heap (own ++ Ld2 S b)) :
    wpAny (MM c.w) ((ktrTop dp un gd cn cs L₀ a ccd cl outer).deeper (tEnv L)) (assign tTgt2 (tEnv L) vs[i]) (fun _ s₃ => wpAny (MM c.w) ((ktrTop dp un gd cn cs L₀ a ccd cl outer).deeper (tEnv L)) (execs tBody2 (tEnv L))
      (TurnEnd2 h₀ L (Ld2 S) (ps2 S tr line) (P2 sps line pre S) wr own i s) E s₃) E s := by
  have hl := hv.len
  obtain ⟨sp, hns, hsub⟩ := hP
  have hi2 : i < sps.length := by omega
  obtain ⟨T, tx, tg, ev, mT⟩ := hv.get i hi1 hi2
  obtain ⟨w1, w2, w3, w4⟩ := hwd sps[i] (List.getElem_mem hi2)
  rw [ev]
  have N' : News h₀ L s.heap ((S, listOf b.sv.toArray b.nS) :: (own ++ b.imm)) := by
    intro p hp
    refine N p ?_
    unfold Ld2
    rcases List.mem_cons.mp hp with hp | hp
    · exact List.mem_append_right _ (hp ▸ .head _)
    · rcases List.mem_append.mp hp with hp | hp
      · exact List.mem_append_left _ hp
      · exact List.mem_append_right _ (.tail _ hp)
  have hT : IsTup s.heap T #[.str sps[i].1 tx, .int sps[i].2 tg] := News.isTup N' (.tail _ (List.mem_append_right _ (hsub _ mT)))
  have hS : ∀ p ∈ own ++ b.imm, p.1 ≠ S := fun p hp => (List.mem_append.mp hp).elim (hSo p) (hns p)
  have hsl := sp.len
  rw [List.length_map, List.length_take] at hsl
  refine wpAny_mono (tokTurn2 (sv := b.sv) (nS := b.nS) (rest := own ++ b.imm) (line := line) (g := sps[i].2) (x := sps[i].1) B' X Tp hk hd hu hT hS w3 w4 ⟨w1, w2⟩ hline (by omega) F N') (fun _ s₃ h₃ => wpAny_mono h₃ (fun f s₄ h₄ => ?_) fun _ _ e => e) fun _ _ e => e
  obtain ⟨rfl, h', tk', m', D, new, rfl, F', Nn, hTok, hlt, hSn, ⟨t3, e1⟩, e2, e3⟩ := h₄
  refine ⟨rfl, ⟨b.sv ++ [.ref D], b.nS + 1, new ++ b.imm, t3⟩, h', tk', m', rfl, F', ?_, ?_, ?_, ⟨?_, ?_, ?_⟩⟩
  · intro p hp
    refine Nn p ?_
    unfold Ld2 at hp
    rcases List.mem_append.mp hp with hp | hp
    · exact .tail _ (List.mem_append_right _ (List.mem_append_left _ hp))
    rcases List.mem_cons.mp hp with hp | hp
    · exact hp ▸ .head _
    rcases List.mem_append.mp hp with hp | hp
    · exact .tail _ (List.mem_append_left _ hp)
    · exact .tail _ (List.mem_append_right _ (List.mem_append_right _ hp))
  · intro p hp hwr
    unfold Ld2 at hp
    rcases List.mem_cons.mp hp with hp | hp
    · exact hoff (S, listOf b.sv.toArray b.nS) (.head _) (by rw [hp] at hwr; exact hwr)
    rcases List.mem_append.mp hp with hp | hp
    · obtain ⟨o, ho⟩ := hex _ hwr
      exact absurd (hlt _ hp _ (List.mem_append_left _ ho)) (Nat.lt_irrefl _)
    · exact hoff p (.tail _ hp) hwr
  · intro p hp
    unfold ps2 at hp
    simp only [List.mem_cons, List.not_mem_nil, or_false] at hp
    rcases hp with rfl | rfl | rfl <;> assumption
  · have ht : sps.take (i + 1) = sps.take i ++ [sps[i]] := by rw [List.take_add_one, List.getElem?_eq_getElem hi2]; rfl
    rw [ht, List.map_append]
    refine AllRel.snoc ⟨D, rfl, hTok.mono fun p hp => List.mem_append_left _ hp⟩ (sp.mono fun v k x => ?_)
    obtain ⟨D', e, x⟩ := x
    exact ⟨D', e, x.mono fun p hp => List.mem_append_right _ hp⟩
  · intro p hp
    rcases List.mem_append.mp hp with hp | hp
    · exact Nat.ne_of_gt (hSn p hp)
    · exact hns p hp
  · exact fun p hp => List.mem_append_right _ (hsub p hp)
end
theorem lnIter_spots {ws : List Str} {gs : List Int} (hok : WOk ws gs) : ∀ i, i ≤ ws.length → ∀ k ∈ (lnIter ws gs i).2, 0 < k.1.length ∧ k.1.length < 20 ∧ 0 ≤ k.2 ∧ k.2 ≤ 1000
  | 0, _, k, hk => by simp [lnIter] at hk
  | i + 1, h, k, hk => by
    simp only [lnIter, List.mem_append, List.mem_singleton] at hk
    rcases hk with hk | rfl
    · exact lnIter_spots hok i (by omega) k hk
    · have hi : i < ws.length := by omega
      have hg : i < gs.length := by rw [hok.len]; omega
      have g0 := hok.gp gs[i] (List.getElem_mem hg)
      have w0 := hok.wd ws[i] (List.getElem_mem hi)
      have hl := gap1_len (lnIter ws gs i).1 g0.1
      have hb := lnIter_bound hok i (by omega)
      have hf := hok.few
      simp only [List.getD_eq_getElem?_getD, List.getElem?_eq_getElem hi, List.getElem?_eq_getElem hg, Option.getD_some]
      exact ⟨w0.1, w0.2, by omega, by omega⟩
noncomputable def toksOf (ws : List Str) (gs : List Int) : List (Int × Str × Int × Int) := (lnIter ws gs ws.length).2.map tokOf
noncomputable def lineOf (ws : List Str) (gs : List Int) : Str := (lnIter ws gs ws.length).1 ++ Str.ofString "\n"
noncomputable def ToksR (ws : List Str) (gs : List Int) (v : Value) (own : Led) : Prop :=
  ∃ (F : Nat) (fv : List Value) (nF : Nat) (imm : Led), v = .ref F ∧ own = (F, listOf fv.toArray nF) :: imm ∧ AllRel (TokV imm (lineOf ws gs)) fv (toksOf ws gs)
section
variable {c : Cx} {base : Heap} {W G S : Nat} {wv gv : List Value} {nW nG : Nat} {ws : List Str} {gs : List Int} {news full : Led}
  {dp un : Nat} {gd : Option (List Code)} {cn : Str} {cs : Scope} {a : Addr} {ccd : Value} {cl : List (Str × Addr)} {outer : List Env} {L₀ : Addr} {h₀ : Heap} {L : Addr} {s : Shared} {E : Value → Shared → Prop} {Q : Flow → Shared → Prop}
  {tr tl : Tok} {m₀ : Str → Option Value}
theorem tok_loop1 (B' : Below (ktrTop dp un gd cn cs L₀ a ccd cl outer) base (envX cn cs L₀ a ccd cl :: outer) h₀) (X : (frag c.w.params).In h₀) (Tp : Top c.p c.loose c.mean c.mg c.mb h₀) (hk : cs.kind = .function) (hd : dp + 10 < recursionLimit) (hu : un + 64 < cLine)
    (hW : (W, listOf wv.toArray nW) ∈ news) (hG : (G, listOf gv.toArray nG) ∈ news) (hw : StrsAre wv ws) (hg : IntsAre gv gs) (hok : WOk ws gs)
    (F : Fr h₀ L s.heap m₀) (N : News h₀ L s.heap full) (mS : (S, PySem.W.listOf #[] 0) ∈ full) (mn : ∀ p ∈ news, p ∈ full) (hS : ∀ p ∈ news, @LT.lt Nat _ p.1 S) (e1 : m₀ (Str.ofString "line") = some (.str (Str.ofString "") tl)) (e2 : m₀ (Str.ofString "spots") = some (.ref S)) (e3 : m₀ (Str.ofString "row") = some (.int 3 tr))
    (done : ∀ (b : C1) (u : Str → Option Value) h tk, P1 ws gs news S ws.length b → Fr h₀ L h (kstB u (ps1 S tr b)) → News h₀ L h (Ld1 S b) → Q .next { s with heap := h, toks := tk }) :
    wpAny (MM c.w) ((ktrTop dp un gd cn cs L₀ a ccd cl outer).deeper (tEnv L)) (call (.type "zip") [.ref W, .ref G])
      (fun xv s₁ => wpAny (MM c.w) ((ktrTop dp un gd cn cs L₀ a ccd cl outer).deeper (tEnv L)) (pyIter xv) (fun it s₂ => TurnsAt PySem.Challenge.rw_bd0047_01.row.prog c.w ((ktrTop dp un gd cn cs L₀ a ccd cl outer).deeper (tEnv L)) h₀ (tEnv L) tTgt1 tBody1 Q E it s₂) E s₁) E s := by
  have N₀ : News h₀ L s.heap (Ld1 S ⟨[], 0, news, Str.ofString "", tl⟩) := by
    unfold Ld1
    intro p hp
    rcases List.mem_cons.mp hp with hp | hp
    · exact hp ▸ N _ mS
    · exact N _ (mn _ hp)
  refine zip_any (n := ws.length) (xs := wv) (ys := gv) (n1 := nW) (n2 := nG) (env := tEnv L) (m₀ := m₀) (Ld1 S) (ps1 S tr) (P1 ws gs news S) ⟨[], 0, news, Str.ofString "", tl⟩ rfl hw.length (hg.length.trans hok.len) F N₀ (.tail _ hW) (.tail _ hG) ?_ ⟨rfl, .nil, fun p hp => Nat.ne_of_lt (hS p hp), fun p hp => hp, rfl⟩ ?_ done
  · intro p hp
    unfold ps1 at hp
    simp only [List.mem_cons, List.not_mem_nil, or_false] at hp
    rcases hp with rfl | rfl | rfl <;> assumption
  · intro b i hi1 hi2 T u h tk wr own hT hP hoff hown hex F9 N9
    refine turn1 (s := { s with heap := h, toks := tk }) B' X Tp hk hd hu hw hg hok hi1 hi2 hT hP hoff ?_ hex F9 N9
    intro q hq
    rcases hown q hq with e | e | e
    · rw [e]; exact Nat.ne_of_lt (hS _ hW)
    · rw [e]; exact Nat.ne_of_lt (hS _ hG)
    · exact Nat.ne_of_gt (e (S, _) (.head _))
theorem tok_loop2 {P : Nat} {pv : List Value} {nP : Nat} {line : Str} {sps : List (Str × Int)} (B' : Below (ktrTop dp un gd cn cs L₀ a ccd cl outer) base (envX cn cs L₀ a ccd cl :: outer) h₀) (X : (frag c.w.params).In h₀) (Tp : Top c.p c.loose c.mean c.mg c.mb h₀) (hk : cs.kind = .function) (hd : dp + 10 < recursionLimit) (hu : un + 64 < cLine)
    (hP : (P, listOf pv.toArray nP) ∈ news) (hv : AllRel (SpotV news) pv sps) (hfew : sps.length ≤ 40) (hwd : ∀ k ∈ sps, 0 < k.1.length ∧ k.1.length < 20 ∧ 0 ≤ k.2 ∧ k.2 ≤ 1000) (hline : line.length ≤ 1000)
    (F : Fr h₀ L s.heap m₀) (N : News h₀ L s.heap full) (mS : (S, PySem.W.listOf #[] 0) ∈ full) (mn : ∀ p ∈ news, p ∈ full) (hS : ∀ p ∈ news, @LT.lt Nat _ p.1 S) (e1 : m₀ (Str.ofString "line") = some (.str line tl)) (e2 : m₀ (Str.ofString "found") = some (.ref S)) (e3 : m₀ (Str.ofString "row") = some (.int 3 tr))
    (done : ∀ (b : C2) (u : Str → Option Value) h tk, P2 sps line news S sps.length b → Fr h₀ L h (kstB u (ps2 S tr line b)) → News h₀ L h (Ld2 S b) → Q .next { s with heap := h, toks := tk }) :
    wpAny (MM c.w) ((ktrTop dp un gd cn cs L₀ a ccd cl outer).deeper (tEnv L)) (pyIter (.ref P)) (fun it s₂ => TurnsAt PySem.Challenge.rw_bd0047_01.row.prog c.w ((ktrTop dp un gd cn cs L₀ a ccd cl outer).deeper (tEnv L)) h₀ (tEnv L) tTgt2 tBody2 Q E it s₂) E s := by
  have N₀ : News h₀ L s.heap (Ld2 S ⟨[], 0, news, tl⟩) := by
    unfold Ld2
    intro p hp
    rcases List.mem_cons.mp hp with hp | hp
    · exact hp ▸ N _ mS
    · exact N _ (mn _ hp)
  refine list_any (n := sps.length) (xs := pv) (nl := nP) (env := tEnv L) (m₀ := m₀) (Ld2 S) (ps2 S tr line) (P2 sps line news S) ⟨[], 0, news, tl⟩ rfl hv.len F N₀ (.tail _ hP) ?_ ⟨.nil, fun p hp => Nat.ne_of_lt (hS p hp), fun p hp => hp⟩ ?_ done
  · intro p hp
    unfold ps2 at hp
    simp only [List.mem_cons, List.not_mem_nil, or_false] at hp
    rcases hp with rfl | rfl | rfl <;> assumption
  · intro b i hi1 u h tk wr own hP' hoff hown hex F9 N9
    refine turn2 (s := { s with heap := h, toks := tk }) B' X Tp hk hd hu hv hfew hwd hline hi1 hP' hoff ?_ hex F9 N9
    intro q hq
    rcases hown q hq with e | e
    · rw [e]; exact Nat.ne_of_lt (hS _ hP)
    · exact Nat.ne_of_gt (e (S, _) (.head _))
end
theorem toks_ret {ws : List Str} {gs : List Int} {news : Led} {h₀ h' : Heap} {L : Addr} {m : Str → Option Value} {s : Shared} {tk' : Nat} {Q : Value → Shared → Prop} {F : Nat} {fv : List Value} {nF : Nat} {imm full : Led}
    (hret : ∀ (v : Value) (own : Led) (h' : Heap) (tk' : Nat), Fr h₀ L h' m → News h₀ L h' (own ++ news) → ToksR ws gs v own → Q v { s with heap := h', toks := tk' }) (Fh : Fr h₀ L h' m) (N : News h₀ L h' full) (mF : (F, listOf fv.toArray nF) ∈ full) (mi : ∀ p ∈ imm, p ∈ full) (mn : ∀ p ∈ news, p ∈ imm)
    (hA : AllRel (TokV imm (lineOf ws gs)) fv (toksOf ws gs)) : Q (.ref F) { s with heap := h', toks := tk' } := by
  refine hret _ ((F, listOf fv.toArray nF) :: imm) _ _ Fh ?_ ⟨F, fv, nF, imm, rfl, rfl, hA⟩
  intro p hp
  rcases List.mem_append.mp hp with hp | hp
  · rcases List.mem_cons.mp hp with hp | hp
    · exact hp ▸ N _ mF
    · exact N _ (mi _ hp)
  · exact N _ (mi _ (mn _ hp))
theorem tokensT {c : Cx} {base : Heap} {news : Led} {W G : Nat} {wv gv : List Value} {nW nG : Nat} {ws : List Str} {gs : List Int} {t : Tok} (hW : (W, listOf wv.toArray nW) ∈ news) (hG : (G, listOf gv.toArray nG) ∈ news) (hw : StrsAre wv ws) (hg : IntsAre gv gs) (hok : WOk ws gs) :
    Tells c base news 237 [.ref W, .ref G, .int 3 t] 12 96 (ToksR ws gs) := by
  unfold Tells MM
  k_fill
  intro dp un gd cn cs a ccd cl outer A₀ h₀ L m s Q E B F X N T hk hd hu hret
  refine wpAny_call ?_
  k_dflt cell_enter
  k_steps
  constructor
  refine' tok_loop1 (news := news) ?kB ?kX ?kT hk ?kd ?ku hW hG hw hg hok ?kF ?kN ?mS ?mn ?hS ?e1 ?e2 ?e3 ?done
  (case kB => assumption)
  (case kX => assumption)
  (case kT => assumption)
  (case kd => omega)
  (case ku => omega)
  (case kF => (try dsimp only); assumption)
  (case kN => (try dsimp only); assumption)
  (case e1 => with_unfolding_all rfl)
  (case e2 => with_unfolding_all rfl)
  (case e3 => with_unfolding_all rfl)
  (case mS => k_mem)
  (case mn => (intro q hq; repeat (first | exact hq | apply List.Mem.tail)))
  (case hS => assumption)
  (case done =>
    intro b u h tk hP F N
    have hline := lnIter_bound hok ws.length (Nat.le_refl _)
    have hfew := hok.few
    unfold Ld1 at N
    unfold ps1 at F
    k_steps
    constructor
    refine' tok_loop2 (news := (_, listOf b.sv.toArray b.nS) :: b.imm) (sps := (lnIter ws gs ws.length).2) ?kB ?kX ?kT hk ?kd ?ku (.head _) ?hv ?hf (lnIter_spots hok _ (Nat.le_refl _)) ?hl ?kF ?kN ?mS ?mn ?hS ?e1 ?e2 ?e3 ?done
    (case kB => assumption)
    (case kX => assumption)
    (case kT => assumption)
    (case kd => omega)
    (case ku => omega)
    (case hv => exact hP.sp.mono fun v k x => x.mono fun p hp => .tail _ hp)
    (case hf => rw [lnIter_len]; exact hfew)
    (case kF => (try dsimp only); assumption)
    (case kN => (try dsimp only); assumption)
    (case e1 => with_unfolding_all rfl)
    (case e2 => with_unfolding_all rfl)
    (case e3 => with_unfolding_all rfl)
    (case mS => k_mem)
    (case mn => (intro q hq; repeat (first | exact hq | apply List.Mem.tail)))
    (case hl => rw [hP.ln]; omega)
    (case hS => first | assumption | exact kst_ltOf (by assumption))
    (case done =>
      intro b2 u2 h2 tk2 hP2 F2 N2
      unfold Ld2 at N2
      unfold ps2 at F2
      k_steps
      (try dsimp only)
      refine' toks_ret (imm := b2.imm) hret ?kF ?kN ?mF ?mi ?mn ?hA
      (case kF => assumption)
      (case kN => assumption)
      (case mF => k_mem)
      (case mi => (intro q hq; repeat (first | exact hq | apply List.Mem.tail)))
      (case mn => exact fun p hp => hP2.sub _ (.tail _ (hP.sub p hp)))
      (case hA =>
        have h9 := hP2.sp
        rw [List.take_length, hP.ln] at h9
        exact h9)))
end Mine
end
section
open PySem PySem.W PySem.Spec PySem.Calls PyProof.Rows
set_option maxHeartbeats 8000000
namespace Mine
section
variable {w : World} {h : Heap} {A : Around} {s : Shared} {E : Value → Shared → Prop}
theorem tok_gi (X : (frag w.params).In h) : Looks (MM w) h (typeLookup (.ref 191) (Str.ofString "__getitem__")) (some (.builtin "tuple.__getitem__")) := Looks.of_peek X (by kernel_rfl)
theorem tok_seq (X : (frag w.params).In h) : Looks (MM w) h (seqItemTypes.anyM fun n => isSubtype (.ref 191) (.type n)) false := Looks.of_peek X (by kernel_rfl)
theorem ti_kind : builtinKind "tuple.__getitem__" = some .slot := by decide +kernel
theorem ti_split : splitId "tuple.__getitem__" = some ("tuple", "__getitem__") := by decide +kernel
theorem getItem_tok {D dx : Addr} {items : Array Value} {k : Int} {u : Tok} {j : Nat} {x : Value} {Q : Value → Shared → Prop} (X : (frag w.params).In s.heap) (hD : s.heap.get? D = some (tokObj dx items))
    (hlo : -(2 ^ 63) ≤ k) (hhi : k < 2 ^ 63) (hj : seqIndex? k items.size = some j) (hx : items[j]? = some x) (h : Q x s) : wpAny (MM w) A (getItem (.ref D) (.int k u)) Q E s := by
  have t1 : Looks (MM w) s.heap (typeOf (.ref D)) (.ref 191) := (Looks.ld hD).andThen .now
  have t2 : Looks (MM w) s.heap (isInstance (.ref D) (.type "tuple")) true := t1.andThen (tok_tup X)
  unfold getItem
  refine wpAny_holding ?_
  refine wpAny_bind ?_
  unfold sequenceKey
  refine wpAny_bind (t1.here ?_)
  dsimp only
  refine wpAny_bind ((tok_seq X).here ?_)
  simp only [Bool.not_false, if_true]
  refine wpAny_pure ?_
  refine wpAny_bind ?_
  unfold callSpecial? specialOf
  refine wpAny_bind (wpAny_bind (t1.here ((tok_gi X).here ?_)))
  dsimp only
  refine wpAny_holding ?_
  rw [slot_tuple_getitem.bind]
  refine wpAny_bind (wpAny_pure ?_)
  refine wpAny_bind (wpAny_call (codeAny_call_builtin (id := "tuple.__getitem__") (by decide +kernel) entry_tuple_getitem (@check_slot (MM w) _ _ s "tuple.__getitem__" "tuple" "__getitem__" (.ref D) [.int k u] [] _ ti_kind ti_split t2 (args_tuple_getitem _ _) ?_)))
  show wpAny _ _ (Builtin.Tuple.tupleItemsOf (.ref D) >>= _) _ _ s
  have tio : ∀ {A' : Around} {E' : Value → Shared → Prop} {Q' : Array Value → Shared → Prop}, Q' items s → wpAny (MM w) A' (Builtin.Tuple.tupleItemsOf (.ref D)) Q' E' s := fun q => by
    unfold Builtin.Tuple.tupleItemsOf
    exact wpAny_bind (wpAny_seqItems hD rfl (wpAny_pure q))
  refine wpAny_bind (tio ?_)
  refine wpAny_bind (wpAny_typeOf (typeIs_int s k u) ?_)
  rw [if_neg (by decide)]
  refine wpAny_bind (wpAny_specialOf (T := "int") (typeIs_int s k u) int_index ?_)
  rw [if_neg (by simp)]
  refine wpAny_bind (wpAny_of_eq (a := k) rfl ?_)
  rw [if_neg (by simp only [Bool.or_eq_true, decide_eq_true_eq]; omega)]
  simp only [hj, Option.bind_some, hx]
  exact wpAny_pure (wpAny_pure (wpAny_pure h))
theorem tok_tail {value slice : Expr} {D dx : Addr} {items : Array Value} {k : Int} {u : Tok} {j : Nat} {x : Value} {Q : Value → Shared → Prop} {h₀ : Heap} {L : Addr} {m : Str → Option Value} {news : Led} (X₀ : (frag w.params).In h₀) (F : Fr h₀ L s.heap m) (N : News h₀ L s.heap news) (hm : (D, tokObj dx items) ∈ news)
    (hlo : -(2 ^ 63) ≤ k) (hhi : k < 2 ^ 63) (hj : seqIndex? k items.size = some j) (hx : items[j]? = some x) (h : Q x s) (hs : subscripted slice false (.ref D) (.int k u) = operate [.ref D, .int k u] (getItem (.ref D) (.int k u))) :
    wpAny (MM w) A (subscriptTail value slice (.ref D) (.int k u)) Q E s := by
  have X := X₀.keeps F.keep
  have hD := (N _ hm).1
  have t1 : Looks (MM w) s.heap (typeOf (.ref D)) (.ref 191) := (Looks.ld hD).andThen .now
  unfold subscriptTail
  refine wpAny_bind ?_
  rw [getitemInPython_of_ne (by simp)]
  unfold specialOf
  refine wpAny_bind (wpAny_bind (t1.here ((tok_gi X).here ?_)))
  have fin : wpAny (MM w) A (subscripted slice false (.ref D) (.int k u)) (fun r s₃ => wpAny (MM w) A (letTemporaryGo value (.ref D) r >>= fun _ => pure r) Q E s₃) E s := by
    rw [hs]
    exact wpAny_operating (wpAny_mono (getItem_tok X hD hlo hhi hj hx h) (fun r s₃ h₃ => wpAny_bind (wpAny_letTemporaryGo (wpAny_pure h₃))) fun _ _ x => x)
  first
    | exact wpAny_pure (wpAny_bind fin)
    | exact wpAny_bind (wpAny_pure (wpAny_bind fin))
    | exact wpAny_bind fin
theorem tok_tail2 {value slice : Expr} {D dx : Addr} {a b c d e : Value} {u : Tok} {Q : Value → Shared → Prop} {h₀ : Heap} {L : Addr} {m : Str → Option Value} {news : Led} (X₀ : (frag w.params).In h₀) (F : Fr h₀ L s.heap m) (N : News h₀ L s.heap news) (hm : (D, tokObj dx #[a, b, c, d, e]) ∈ news)
    (h : Q c s) (hs : subscripted slice false (.ref D) (.int 2 u) = operate [.ref D, .int 2 u] (getItem (.ref D) (.int 2 u))) :
    wpAny (MM w) A (subscriptTail value slice (.ref D) (.int 2 u)) Q E s := tok_tail X₀ F N hm (by decide) (by decide) (j := 2) (by rfl) (by rfl) h hs
theorem tok_tail3 {value slice : Expr} {D dx : Addr} {a b c d e : Value} {u : Tok} {Q : Value → Shared → Prop} {h₀ : Heap} {L : Addr} {m : Str → Option Value} {news : Led} (X₀ : (frag w.params).In h₀) (F : Fr h₀ L s.heap m) (N : News h₀ L s.heap news) (hm : (D, tokObj dx #[a, b, c, d, e]) ∈ news)
    (h : Q d s) (hs : subscripted slice false (.ref D) (.int 3 u) = operate [.ref D, .int 3 u] (getItem (.ref D) (.int 3 u))) :
    wpAny (MM w) A (subscriptTail value slice (.ref D) (.int 3 u)) Q E s := tok_tail X₀ F N hm (by decide) (by decide) (j := 3) (by rfl) (by rfl) h hs
end
end Mine
end
section
open PySem PySem.W PySem.Spec PySem.Calls PyProof.Rows
set_option maxHeartbeats 8000000
namespace Mine
theorem tok_it {w : World} {h : Heap} (X : (frag w.params).In h) : Looks (MM w) h (typeLookup (.ref 191) (Str.ofString "__iter__")) (some (.builtin "tuple.__iter__")) := Looks.of_peek X (by kernel_rfl)
theorem tit_kind : builtinKind "tuple.__iter__" = some .slot := by decide +kernel
theorem tit_split : splitId "tuple.__iter__" = some ("tuple", "__iter__") := by decide +kernel
section
variable {prog : Program} {w : World} {A : Around} {E : Value → Shared → Prop} {s : Shared}
/-- one step of a tuple's iterator; the thing stepped through may be of a class below tuple -/
theorem sub_item {it t : Addr} {i nl : Nat} {items : Array Value} {x : Value} {ol : Obj} {Q : Option Value → Shared → Prop} (hit : IsTupIter s.heap it t i)
    (hol : s.heap.get? t = some ol) (hdl : ol.data = .seq items nl) (hx : items[i]? = some x)
    (hQ : ∀ h', IsTupIter h' it t (i + 1) → Heap.SameBut it s.heap h' → Q (some x) { s with heap := h' }) :
    wpAny (model prog w) A (pyNext (.ref it)) Q E s := by
  obtain ⟨o, ho, hc, hd⟩ := id hit
  unfold pyNext
  refine wpAny_bind (wpAny_attempt (wpAny_callSpecial?_slot (name := Str.ofString "__next__") hit.typeIs slot_tupleiter_next
    (wpAny_call_entry slot_tupleiter_next hit.typeIs entry_tupleiter_next ?_ (args_tupleiter_next _))))
  show wpAny _ _ (field (.ref it) 0 >>= _) _ _ s
  refine wpAny_bind (wpAny_field ho hd (x := .ref t) rfl ?_)
  show wpAny _ _ (if (Value.ref t == Value.none) = true then _ else _) _ _ s
  rw [if_neg (show ¬ ((Value.ref t == Value.none) = true) from Bool.false_ne_true)]
  show wpAny _ _ (field (.ref it) 1 >>= _) _ _ s
  refine wpAny_bind (wpAny_field ho hd (x := .int i 0) rfl ?_)
  show wpAny _ _ (seqItems? (.ref t) >>= _) _ _ s
  refine wpAny_bind (wpAny_seqItems hol hdl ?_)
  simp only [Int.toNat_natCast, hx]
  refine wpAny_bind (wpAny_setField ho hd (by simp) (wpAny_pure ⟨x, rfl, wpAny_pure (hQ _ ?_ (Heap.SameBut.update ..))⟩))
  exact ⟨_, Heap.get?_update_self _ ho (Obj.isFreed_of_fields (Obj.data_mapFields hd _)), (Obj.cls_mapFields ..).trans hc, by
    rw [Obj.data_mapFields hd]; simp [rawInt]⟩
theorem sub_end {it t : Addr} {i nl : Nat} {items : Array Value} {ol : Obj} {Q : Option Value → Shared → Prop} (hh : A.handled = none) (hit : IsTupIter s.heap it t i)
    (hol : s.heap.get? t = some ol) (hdl : ol.data = .seq items nl) (hx : items[i]? = none)
    (hQ : ∀ h', Heap.ExtBut it s.heap h' → Q none { s with heap := h' }) :
    wpAny (model prog w) A (pyNext (.ref it)) Q E s := by
  obtain ⟨o, ho, hc, hd⟩ := id hit
  unfold pyNext
  refine wpAny_bind (wpAny_attempt (wpAny_callSpecial?_slot (name := Str.ofString "__next__") hit.typeIs slot_tupleiter_next
    (wpAny_call_entry slot_tupleiter_next hit.typeIs entry_tupleiter_next ?_ (args_tupleiter_next _))))
  show wpAny _ _ (field (.ref it) 0 >>= _) _ _ s
  refine wpAny_bind (wpAny_field ho hd (x := .ref t) rfl ?_)
  show wpAny _ _ (if (Value.ref t == Value.none) = true then _ else _) _ _ s
  rw [if_neg (show ¬ ((Value.ref t == Value.none) = true) from Bool.false_ne_true)]
  show wpAny _ _ (field (.ref it) 1 >>= _) _ _ s
  refine wpAny_bind (wpAny_field ho hd (x := .int i 0) rfl ?_)
  show wpAny _ _ (seqItems? (.ref t) >>= _) _ _ s
  refine wpAny_bind (wpAny_seqItems hol hdl ?_)
  simp only [Int.toNat_natCast, hx]
  refine wpAny_bind (wpAny_rule (wpAny_bind (wpAny_setField ho hd (by simp) ?_)))
  show wpAny _ _ (newExc (.type "StopIteration") [] >>= _) _ _ _
  refine wpAny_bind ?_
  simp only [newExc, newTuple]
  refine wpAny_bind (wpAny_newObj_type ?_ (by size_fits))
  refine wpAny_bind (m := firstArgMember _ _) (wpAny_of_eq (a := Value.none) (by first | rfl | (simp only [firstArgMember]; rfl)) ?_)
  refine wpAny_newObj_type ?_ (by size_fits)
  simp only [raiseNew]
  refine wpAny_bind (wpAny_handled ?_)
  first | rw [show A.in1.handled = none from hh] | rw [hh]
  refine wpAny_bind (wpAny_pure (wpAny_throw ?_))
  refine wpAny_bind (wpAny_isInstance (T := "StopIteration") (b := true) ⟨_, Heap.get?_push_size _ rfl, rfl⟩ isSubtype_stop ?_)
  exact wpAny_pure (hQ _ (((Heap.SameBut.update ..).extBut.push _).push _))
end
section
variable {w : World} {A : Around} {E : Value → Shared → Prop} {s : Shared}
theorem tok_iter {D dx : Addr} {items : Array Value} {Q : Value → Shared → Prop} (X : (frag w.params).In s.heap) (hD : s.heap.get? D = some (tokObj dx items))
    (hQ : Q (.ref s.heap.objs.size) { s with heap := s.heap.push { cls := .type "tuple_iterator", data := .fields #[.ref D, .int 0 0] } }) :
    wpAny (MM w) A (pyIter (.ref D)) Q E s := by
  have t1 : Looks (MM w) s.heap (typeOf (.ref D)) (.ref 191) := (Looks.ld hD).andThen .now
  have t2 : Looks (MM w) s.heap (isInstance (.ref D) (.type "tuple")) true := t1.andThen (tok_tup X)
  have sp : ∀ {A' : Around} {E' : Value → Shared → Prop} {Q' : Option Value → Shared → Prop}, Q' (some (.builtin "tuple.__iter__")) s → wpAny (MM w) A' (specialOf (.ref D) (Str.ofString "__iter__")) Q' E' s := fun q => by
    unfold specialOf
    exact wpAny_bind (t1.here ((tok_it X).here q))
  have cl : ∀ {Q' : Value → Shared → Prop}, Q' (.ref s.heap.objs.size) { s with heap := s.heap.push { cls := .type "tuple_iterator", data := .fields #[.ref D, .int 0 0] } } → wpAny (MM w) A (call (.builtin "tuple.__iter__") [.ref D]) Q' E s := fun q => by
    refine wpAny_call (codeAny_call_builtin (id := "tuple.__iter__") (by decide +kernel) entry_tuple_iter (@check_slot (MM w) _ _ s "tuple.__iter__" "tuple" "__iter__" (.ref D) [] [] _ tit_kind tit_split t2 (args_tuple_iter _) ?_))
    show wpAny _ _ (do ret (← newFields "tuple_iterator" [.ref D, rawInt 0])) _ _ s
    exact wpAny_bind (wpAny_newObj_type (wpAny_pure q))
  unfold pyIter
  refine wpAny_bind (sp ?_)
  show wpAny _ _ (callSpecialIfBoundUnlessNone? (.ref D) (Str.ofString "__iter__") _ >>= _) _ _ s
  refine wpAny_bind ?_
  simp only [callSpecialIfBoundUnlessNone?, bindSpecialIfBound?]
  refine wpAny_holding (wpAny_bind (wpAny_bind (sp ?_)))
  simp only [slot_tuple_iter.bind]
  refine wpAny_bind (wpAny_askSetting (wpAny_ite ?_))
  have fin : ∀ {Q' : Option Value → Shared → Prop}, Q' (some (.ref s.heap.objs.size)) { s with heap := s.heap.push { cls := .type "tuple_iterator", data := .fields #[.ref D, .int 0 0] } } → ∀ r : Sem Value, wpAny (MM w) A (if (Value.builtin "tuple.__iter__" == Value.none) = true then (r >>= fun v => pure (some v)) else (call (.builtin "tuple.__iter__") [.ref D] >>= fun v => pure (some v))) Q' E s := fun q r => by
    simp only [builtin_beq_none, Bool.false_eq_true, if_false]
    exact wpAny_bind (cl (wpAny_pure q))
  have last : wpAny (MM w) A (specialOf (.ref s.heap.objs.size) (Str.ofString "__next__") >>= fun x => match x with | none => (do rule "iter.non-iterator"; raiseError "TypeError" s!"iter() returned non-iterator of type '{← typeNameOf (.ref s.heap.objs.size)}'") | some _ => pure (Value.ref s.heap.objs.size)) Q E { s with heap := s.heap.push { cls := .type "tuple_iterator", data := .fields #[.ref D, .int 0 0] } } :=
    wpAny_bind (wpAny_specialOf (T := "tuple_iterator") ⟨_, Heap.get?_push_size _ rfl, rfl⟩ slot_tupleiter_next.lookup (wpAny_pure hQ))
  split
  · exact wpAny_bind (wpAny_pure (wpAny_pure (fin last _)))
  · exact wpAny_tryCatch (wpAny_bind (wpAny_pure (wpAny_pure (fin last _))))
theorem tok_draw {it D : Addr} {items : Array Value} {nl : Nat} {ol : Obj} (hne : D ≠ it) (hdl : ol.data = .seq items nl) : ∀ (n i : Nat) (s : Shared) (Q : List Value → Shared → Prop), IsTupIter s.heap it D i → s.heap.get? D = some ol → i + n ≤ items.size →
    (∀ h', IsTupIter h' it D (i + n) → Heap.SameBut it s.heap h' → Q ((items.toList.drop i).take n) { s with heap := h' }) → wpAny (MM w) A (draw (.ref it) n) Q E s
  | 0, i, s, Q, hit, _, _, hQ => by
    show wpAny _ _ (pure []) Q E s
    exact wpAny_pure (by simpa using hQ s.heap hit (Heap.SameBut.refl ..))
  | n + 1, i, s, Q, hit, ht, hle, hQ => by
    have hlt : i < items.size := by omega
    show wpAny _ _ (pyNext (.ref it) >>= _) Q E s
    refine wpAny_bind (sub_item hit ht hdl (x := items[i]) (by simp [hlt]) fun h₁ hit₁ hs₁ => ?_)
    refine wpAny_bind (wpAny_holding (tok_draw hne hdl n (i + 1) _ _ hit₁ (hs₁.extBut _ _ hne ht) (by omega) fun h₂ hit₂ hs₂ => wpAny_pure ?_))
    have hd : items.toList.drop i = items[i] :: items.toList.drop (i + 1) := by simp [List.drop_eq_getElem_cons, hlt]
    have := hQ h₂ (by rw [show i + (n + 1) = i + 1 + n by omega]; exact hit₂) (hs₁.trans hs₂)
    rw [hd, List.take_succ_cons] at this
    exact this
theorem tok_assign {D dx : Addr} {a b c d e : Value} {env : Env} {elts : List Expr} {k : Nat} {pos : Pos} {Q : Unit → Shared → Prop} {h₀ : Heap} {L : Addr} {m : Str → Option Value} {news : Led} (hh : A.handled = none) (X₀ : (frag w.params).In h₀) (F : Fr h₀ L s.heap m) (N : News h₀ L s.heap news) (hm : (D, tokObj dx #[a, b, c, d, e]) ∈ news)
    (hn : (assignEach elts env).length = 5) (hstar : (assignEach elts env).findIdx? (·.1) = none)
    (h : ∀ h', Fr h₀ L h' m → News h₀ L h' news → wpAny (MM w) A (assignInOrder ((assignEach elts env).map (·.2)) [a, b, c, d, e]) Q E { s with heap := h' }) :
    wpAny (MM w) A (assign (.Tuple elts k pos) env (.ref D)) Q E s := by
  have X := X₀.keeps F.keep
  have hD := (N _ hm).1
  have t1 : Looks (MM w) s.heap (typeOf (.ref D)) (.ref 191) := (Looks.ld hD).andThen .now
  have hlt : D ≠ s.heap.objs.size := Nat.ne_of_lt (Heap.lt_size hD)
  rw [assign_Tuple]
  refine wpAny_bind (wpAny_standAt ?_)
  unfold unpack
  rw [hn, hstar]
  refine wpAny_bind (wpAny_holding ?_)
  unfold unpackItems
  refine wpAny_bind ?_
  unfold notIterableAtAll specialOf
  refine wpAny_bind (wpAny_bind (t1.here ((tok_it X).here ?_)))
  refine wpAny_pure ?_
  simp only [Bool.false_eq_true, if_false]
  refine wpAny_bind (wpAny_holding (tok_iter X hD ?_))
  have hD' := Heap.get?_push_of_some { cls := .type "tuple_iterator", data := .fields #[.ref D, .int 0 0] } hD
  refine wpAny_bind (wpAny_holding (tok_draw hlt (ol := tokObj dx #[a, b, c, d, e]) rfl 5 0 _ _ ⟨_, Heap.get?_push_size _ rfl, rfl, rfl⟩ hD' (by simp) fun h₁ hit₁ hs₁ => ?_))
  show wpAny _ _ (if ([a, b, c, d, e] : List Value).length < 5 then _ else _) _ _ _
  rw [if_neg (by simp)]
  refine wpAny_bind (wpAny_holding (sub_end hh hit₁ (hs₁.extBut _ _ hlt hD') (ol := tokObj dx #[a, b, c, d, e]) rfl (by simp) fun h₂ he₂ => ?_))
  simp only [Option.isSome_none, Bool.false_eq_true, if_false]
  have he : Heap.ExtBut s.heap.objs.size s.heap h₂ := fun b o hb e => he₂ b o hb (hs₁.extBut b o hb (Heap.get?_push_of_some _ e))
  exact wpAny_pure (h h₂ (F.extBut he (Nat.le_refl _)) (N.extBut he (Nat.le_refl _)))
end
end Mine
end
section
open PySem PySem.W PySem.Spec PySem.Calls PyProof.Rows PyProof.V
set_option maxHeartbeats 8000000
namespace Mine
section
variable {prog : Program} {w : World} {A : Around} {E : Value → Shared → Prop} {s : Shared} {h₀ : Heap} {L l : Addr} {m : Str → Option Value} {news : Led} {lv : List Value} {n : Nat} {Q : Value → Shared → Prop}
theorem item_L {value slice : Expr} {k : Int} {u : Tok} {x : Value} (N : News h₀ L s.heap news) (hm : (l, listOf lv.toArray n) ∈ news) (h0 : 0 ≤ k) (hx : lv[k.toNat]? = some x) (h2 : lv.length < 1000) (h : Q x s)
    (hs : subscripted slice false (.ref l) (.int k u) = operate [.ref l, .int k u] (getItem (.ref l) (.int k u))) :
    wpAny (model prog w) A (subscriptTail value slice (.ref l) (.int k u)) Q E s := by
  have hL : s.heap.IsList l lv.toArray := ⟨_, (N _ hm).1, rfl, _, rfl⟩
  have hb : k.toNat < lv.length := by
    rcases Nat.lt_or_ge k.toNat lv.length with h | h
    · exact h
    · rw [List.getElem?_eq_none h] at hx; cases hx
  exact tail_any hL.typeIs slot_list_getitem.lookup (wpAny_getItem_list hL h0 (by omega) (by simpa using hx) h) hs
end
noncomputable abbrev needB (w1 : Str) : Bool := (decide (w1 = { cps := #[61] }) || (decide (w1 = { cps := #[61, 61] }) || (decide (w1 = { cps := #[60, 61] }) || (decide (w1 = { cps := #[97, 110, 100] }) || (decide (w1 = { cps := #[105, 110] }) || (decide (w1 = { cps := #[43, 61] }) || (decide (w1 = { cps := #[45, 62] }) || (decide (w1 = { cps := #[33, 61] }) || false))))))))
noncomputable def m225 : Str := Str.ofString "E225 missing whitespace around operator"
noncomputable def m231 : Str := Str.ofString "E231 missing whitespace after ','"
noncomputable def m226 : Str := Str.ofString "E226 missing whitespace around arithmetic operator"
noncomputable def m227 : Str := Str.ofString "E227 missing whitespace around bitwise or shift operator"
noncomputable def m228 : Str := Str.ofString "E228 missing whitespace around modulo operator"
noncomputable def dueOf (w1 : Str) (e0 s1 e1 s2 : Int) (isc : Bool) : Option (Int × Str) :=
  if (w1 == Str.ofString ",") = true then (if s2 = e1 then some (s1, m231) else none)
  else if needB w1 = true then
    (if (w1 == Str.ofString "=") = true then (if isc = true then none else if s1 = e0 then some (e0, m225) else if s2 = e1 then some (e1, m225) else none)
     else if s1 = e0 then some (e0, m225) else if s2 = e1 then some (e1, m225) else none)
  else if ((!s1 == e0) != !s2 == e1) = true then (if s1 = e0 then some (e0, m225) else some (e1, m225))
  else if s1 = e0 then
    (if (w1 == Str.ofString "**") = true then none else if (w1 == Str.ofString "%") = true then some (e0, m228)
     else if ([Str.ofString "|", Str.ofString "<<", Str.ofString "&", Str.ofString ">>"].any fun x => x == w1) = true then some (e0, m227) else some (e0, m226))
  else none
noncomputable abbrev tup2 (a b : Value) : Obj := { cls := .type "tuple", data := .seq #[a, b] }
local macro_rules | `(tactic| k_mem) => `(tactic| assumption)
local macro_rules | `(tactic| walk_at "subscriptTail") => `(tactic| (k_here; (with_reducible show wpAny _ _ (subscriptTail _ _ (Value.ref _) (Value.int _ _)) _ _ _); k_dflt (refine' item_L ?N ?m ?a ?b ?c ?_ ?hs; (case N => k_asm); (case m => k_mem); (case b => assumption); (case a => omega); (case c => omega); (case hs => with_unfolding_all rfl))))
local macro_rules | `(tactic| walk_at "subscriptTail") => `(tactic| (k_here; (with_reducible show wpAny _ _ (subscriptTail _ _ (Value.ref _) (Value.int 2 _)) _ _ _); k_dflt (refine' tok_tail2 ?X ?F ?N ?m ?_ ?hs; (case X => k_asm); (case F => k_asm); (case N => k_asm); (case m => k_mem); (case hs => with_unfolding_all rfl))))
local macro_rules | `(tactic| walk_at "subscriptTail") => `(tactic| (k_here; (with_reducible show wpAny _ _ (subscriptTail _ _ (Value.ref _) (Value.int 3 _)) _ _ _); k_dflt (refine' tok_tail3 ?X ?F ?N ?m ?_ ?hs; (case X => k_asm); (case F => k_asm); (case N => k_asm); (case m => k_mem); (case hs => with_unfolding_all rfl))))
local macro_rules | `(tactic| walk_at "compareOp NotEq ref ref") => `(tactic| (k_here; (with_reducible show wpAny _ _ (compareOp CmpOp.NotEq (Value.ref _) (Value.ref _)) _ _ _); k_dflt (refine ne_dataH (by ke_read) (by ke_read) (by ke_shaped) (by ke_shaped) (by ktr_units) ?_); ke_norm))
noncomputable def DueR (led news : Led) (d : Option (Int × Str)) (v : Value) (own : Led) : Prop := match d with
  | none => v = .none ∧ own = []
  | some (p, msg) => ∃ (D q : Nat) (t t1 t2 : Tok), v = .ref D ∧ own = [(D, tup2 (.ref q) (.str msg t))] ∧ (q, tup2 (.int 3 t1) (.int p t2)) ∈ led ∧ AllLt D news
section
variable {news full led : Led} {h₀ h' : Heap} {L : Addr} {m : Str → Option Value} {s : Shared} {tk' : Nat} {Q : Value → Shared → Prop} {d : Option (Int × Str)} {D q : Nat} {msg : Str} {p : Int} {t t1 t2 : Tok}
theorem ite_f {α : Type} {b : Bool} {x y : α} (h : b = false) : (if b = true then x else y) = y := by subst h; rfl
theorem due_none (hret : ∀ (v : Value) (own : Led) (h' : Heap) (tk' : Nat), Fr h₀ L h' m → News h₀ L h' (own ++ news) → DueR led news d v own → Q v { s with heap := h', toks := tk' }) (F : Fr h₀ L h' m) (N : News h₀ L h' full) (mn : ∀ p ∈ news, p ∈ full)
    (e : d = none) : Q .none { s with heap := h', toks := tk' } := by
  subst e
  exact hret _ [] _ _ F (fun p hp => N p (mn p hp)) ⟨rfl, rfl⟩
theorem due_some (hret : ∀ (v : Value) (own : Led) (h' : Heap) (tk' : Nat), Fr h₀ L h' m → News h₀ L h' (own ++ news) → DueR led news d v own → Q v { s with heap := h', toks := tk' }) (F : Fr h₀ L h' m) (N : News h₀ L h' full) (mn : ∀ p ∈ news, p ∈ full)
    (mD : (D, tup2 (.ref q) (.str msg t)) ∈ full) (mq : (q, tup2 (.int 3 t1) (.int p t2)) ∈ led) (ml : AllLt D news) (e : d = some (p, msg)) : Q (.ref D) { s with heap := h', toks := tk' } := by
  subst e
  refine hret _ [_] _ _ F ?_ ⟨D, q, t, t1, t2, rfl, rfl, mq, ml⟩
  intro x hx
  rcases List.mem_cons.mp hx with hx | hx
  · exact hx ▸ N _ mD
  · exact N x (mn x hx)
end
section
variable {c : Cx} {base : Heap} {news : Led} {W F D0 D1 D2 x0 x1 x2 a0 a1 a2 b0 b1 b2 : Nat} {wv fv : List Value} {nW nF : Nat} {k0 k1 k2 s0 s1 s2 e0 e1 e2 at' : Int} {w0 w1 w2 line : Str} {isc : Bool} {ta tw : Tok}
  {t1 t2 t3 t4 t5 t6 t7 u1 u2 u3 u4 u5 u6 u7 v1 v2 v3 v4 v5 v6 v7 : Tok}
theorem dueT0 (hW : (W, listOf wv.toArray nW) ∈ news) (hF : (F, listOf fv.toArray nF) ∈ news) (hwl : wv.length < 1000) (hfl : fv.length < 1000) (h0 : 1 ≤ at')
    (hw1 : wv[at'.toNat]? = some (.str w1 tw)) (g0 : fv[(at' - 1).toNat]? = some (.ref D0)) (g1 : fv[at'.toNat]? = some (.ref D1)) (g2 : fv[(at' + 1).toNat]? = some (.ref D2)) :
    Tells c base ((D0, tokObj x0 #[.int k0 t1, .str w0 t2, .ref a0, .ref b0, .str line t3]) :: (a0, tup2 (.int 3 t4) (.int s0 t5)) :: (b0, tup2 (.int 3 t6) (.int e0 t7)) ::
      (D1, tokObj x1 #[.int k1 u1, .str w1 u2, .ref a1, .ref b1, .str line u3]) :: (a1, tup2 (.int 3 u4) (.int s1 u5)) :: (b1, tup2 (.int 3 u6) (.int e1 u7)) ::
      (D2, tokObj x2 #[.int k2 v1, .str w2 v2, .ref a2, .ref b2, .str line v3]) :: (a2, tup2 (.int 3 v4) (.int s2 v5)) :: (b2, tup2 (.int 3 v6) (.int e2 v7)) :: news) 258 [.ref W, .ref F, .int at' ta, .bool isc] 4 128 (DueR ((D0, tokObj x0 #[.int k0 t1, .str w0 t2, .ref a0, .ref b0, .str line t3]) :: (a0, tup2 (.int 3 t4) (.int s0 t5)) :: (b0, tup2 (.int 3 t6) (.int e0 t7)) ::
      (D1, tokObj x1 #[.int k1 u1, .str w1 u2, .ref a1, .ref b1, .str line u3]) :: (a1, tup2 (.int 3 u4) (.int s1 u5)) :: (b1, tup2 (.int 3 u6) (.int e1 u7)) ::
      (D2, tokObj x2 #[.int k2 v1, .str w2 v2, .ref a2, .ref b2, .str line v3]) :: (a2, tup2 (.int 3 v4) (.int s2 v5)) :: (b2, tup2 (.int 3 v6) (.int e2 v7)) :: []) ((D0, tokObj x0 #[.int k0 t1, .str w0 t2, .ref a0, .ref b0, .str line t3]) :: (a0, tup2 (.int 3 t4) (.int s0 t5)) :: (b0, tup2 (.int 3 t6) (.int e0 t7)) ::
      (D1, tokObj x1 #[.int k1 u1, .str w1 u2, .ref a1, .ref b1, .str line u3]) :: (a1, tup2 (.int 3 u4) (.int s1 u5)) :: (b1, tup2 (.int 3 u6) (.int e1 u7)) ::
      (D2, tokObj x2 #[.int k2 v1, .str w2 v2, .ref a2, .ref b2, .str line v3]) :: (a2, tup2 (.int 3 v4) (.int s2 v5)) :: (b2, tup2 (.int 3 v6) (.int e2 v7)) :: news) (dueOf w1 e0 s1 e1 s2 isc)) := by
  unfold Tells MM
  k_fill
  intro dp un gd cn cs a ccd cl outer A₀ h₀ L m s Q E B F X N T hk hd hu hret
  refine wpAny_call ?_
  k_dflt cell_enter
  k_steps
  all_goals (try dsimp only)
  all_goals first
    | contradiction
    | (refine' due_none hret ?kF ?kN ?mn ?e; (case kF => assumption); (case kN => assumption); (case mn => (intro q hq; repeat (first | exact hq | apply List.Mem.tail))); (case e => (unfold dueOf; (repeat (first | (refine Eq.trans (if_pos ?_) ?_; focus assumption) | (refine Eq.trans (ite_f ?_) ?_; focus assumption) | (refine Eq.trans (if_neg ?_) ?_; focus assumption))); rfl)))
    | (refine' due_some hret ?kF ?kN ?mn ?mD ?mq ?ml ?e; (case ml => first | assumption | (simp only [AllLt]; first | assumption | exact And.right (by assumption) | exact And.right (And.right (by assumption)) | exact And.right (And.right (And.right (by assumption))))); (case kF => assumption); (case kN => assumption); (case mn => (intro q hq; repeat (first | exact hq | apply List.Mem.tail))); (case mD => k_mem); (case mq => k_mem); (case e => (unfold dueOf; (repeat (first | (refine Eq.trans (if_pos ?_) ?_; focus assumption) | (refine Eq.trans (ite_f ?_) ?_; focus assumption) | (refine Eq.trans (if_neg ?_) ?_; focus assumption))); rfl)))
end
end Mine
end
section
open PySem PySem.W PySem.Spec PySem.Calls PyProof.Rows PyProof.V
set_option maxHeartbeats 8000000
namespace Mine
theorem Tells.dup {c : Cx} {base : Heap} {pre news : Led} {f : Addr} {vals : List Value} {d u : Nat} {R R' : Value → Led → Prop} (C : Tells c base (pre ++ news) f vals d u R) (hs : ∀ p ∈ pre, p ∈ news) (hR : ∀ v own, R v own → R' v own) : Tells c base news f vals d u R' := by
  intro dp un gd cn cs a ccd cl outer A₀ h₀ L m s Q E B F X N T hk hd hu hret
  refine C dp un gd cn cs a ccd cl outer A₀ h₀ L m s Q E B F X (fun p hp => (List.mem_append.mp hp).elim (fun h => N p (hs p h)) fun h => N p h) T hk hd hu fun v own h' tk' F' N' r => ?_
  refine hret v own h' tk' F' (fun p hp => ?_) (hR v own r)
  rcases List.mem_append.mp hp with hp | hp
  · exact N' p (List.mem_append_left _ hp)
  · exact N' p (List.mem_append_right _ (List.mem_append_right _ hp))
theorem allLt_sub {D : Addr} {a b : Led} (x : AllLt D b) (h : ∀ p ∈ a, p ∈ b) : AllLt D a := allLt_of fun p hp => ktn_ltOf x p (h p hp)
theorem DueR.sub {led led' nw nw' : Led} (h : ∀ p ∈ led, p ∈ led') (hn : ∀ p ∈ nw', p ∈ nw) {d : Option (Int × Str)} {v : Value} {own : Led} (x : DueR led nw d v own) : DueR led' nw' d v own := by
  unfold DueR at *
  cases d with
  | none => exact x
  | some k =>
    obtain ⟨D, q, t, t1, t2, e1, e2, e3, e4⟩ := x
    exact ⟨D, q, t, t1, t2, e1, e2, h _ e3, allLt_sub e4 hn⟩
abbrev TokD := Int × Str × Int × Int
noncomputable def dueAt (toks : List TokD) (isc : Bool) (at' : Nat) : Option (Int × Str) :=
  dueOf (toks.getD at' default).2.1 (toks.getD (at' - 1) default).2.2.2 (toks.getD at' default).2.2.1 (toks.getD at' default).2.2.2 (toks.getD (at' + 1) default).2.2.1 isc
theorem dueT {c : Cx} {base : Heap} {news tl : Led} {W F at' : Nat} {wv fv : List Value} {nW nF : Nat} {ws : List Str} {toks : List TokD} {line : Str} {isc : Bool} {ta : Tok} (hW : (W, PySem.W.listOf wv.toArray nW) ∈ news) (hF : (F, PySem.W.listOf fv.toArray nF) ∈ news) (hw : StrsAre wv ws) (ht : ∀ p ∈ tl, p ∈ news) (hA : AllRel (TokV tl line) fv toks)
    (hwt : ws = toks.map (·.2.1)) (hl : toks.length ≤ 40) (h0 : 1 ≤ at') (h1 : at' + 1 < toks.length) : Tells c base news 258 [.ref W, .ref F, .int (at' : Int) ta, .bool isc] 4 128 (DueR tl news (dueAt toks isc at')) := by
  have hfl := hA.len
  have hwl := hw.length
  have hwl2 : ws.length = toks.length := by rw [hwt, List.length_map]
  have g : ∀ i, i < toks.length → ∃ D, fv[i]? = some (.ref D) ∧ TokIn tl line (toks.getD i default) D := by
    intro i hi
    obtain ⟨D, e, t⟩ := hA.get i (by omega) hi
    refine ⟨D, ?_, ?_⟩
    · rw [List.getElem?_eq_getElem (by omega), e]
    · rw [List.getD_eq_getElem?_getD, List.getElem?_eq_getElem hi]; exact t
  obtain ⟨D0, g0, x0, a0, b0, t1, t2, t3, t4, t5, t6, t7, m01, m02, m03⟩ := g (at' - 1) (by omega)
  obtain ⟨D1, g1, x1, a1, b1, u1, u2, u3, u4, u5, u6, u7, m11, m12, m13⟩ := g at' (by omega)
  obtain ⟨D2, g2, x2, a2, b2, v1, v2, v3, v4, v5, v6, v7, m21, m22, m23⟩ := g (at' + 1) (by omega)
  obtain ⟨tw, ew⟩ := (strs_at hw).get at' (by omega) (by omega)
  have ew2 : wv[at']? = some (.str (toks.getD at' default).2.1 tw) := by
    rw [List.getElem?_eq_getElem (by omega), ew]
    congr 2
    simp only [hwt, List.getElem_map, List.getD_eq_getElem?_getD]
    rw [List.getElem?_eq_getElem (by omega)]; rfl
  have e0 : ((at' : Int)).toNat = at' := by omega
  have e1 : ((at' : Int) - 1).toNat = at' - 1 := by omega
  have e2 : ((at' : Int) + 1).toNat = at' + 1 := by omega
  refine Tells.dup (pre := [(D0, tokObj x0 #[.int (toks.getD (at' - 1) default).1 t1, .str (toks.getD (at' - 1) default).2.1 t2, .ref a0, .ref b0, .str line t3]), (a0, tup2 (.int 3 t4) (.int (toks.getD (at' - 1) default).2.2.1 t5)), (b0, tup2 (.int 3 t6) (.int (toks.getD (at' - 1) default).2.2.2 t7)), (D1, tokObj x1 #[.int (toks.getD at' default).1 u1, .str (toks.getD at' default).2.1 u2, .ref a1, .ref b1, .str line u3]), (a1, tup2 (.int 3 u4) (.int (toks.getD at' default).2.2.1 u5)), (b1, tup2 (.int 3 u6) (.int (toks.getD at' default).2.2.2 u7)), (D2, tokObj x2 #[.int (toks.getD (at' + 1) default).1 v1, .str (toks.getD (at' + 1) default).2.1 v2, .ref a2, .ref b2, .str line v3]), (a2, tup2 (.int 3 v4) (.int (toks.getD (at' + 1) default).2.2.1 v5)), (b2, tup2 (.int 3 v6) (.int (toks.getD (at' + 1) default).2.2.2 v7))]) (dueT0 (c := c) (base := base) (news := news) (isc := isc) (ta := ta) (tw := tw) hW hF (by omega) (by omega) (by omega) (by rw [e0]; exact ew2) (by rw [e1]; exact g0) (by rw [e0]; exact g1) (by rw [e2]; exact g2)) ?_ ?_
  rotate_left
  · refine fun v own x => x.sub (fun p hp => ?_) fun p hp => .tail _ (.tail _ (.tail _ (.tail _ (.tail _ (.tail _ (.tail _ (.tail _ (.tail _ hp))))))))
    ·
      simp only [List.mem_cons] at hp
      rcases hp with rfl | rfl | rfl | rfl | rfl | rfl | rfl | rfl | rfl | hp
      · exact m01
      · exact m02
      · exact m03
      · exact m11
      · exact m12
      · exact m13
      · exact m21
      · exact m22
      · exact m23
      · cases hp
  · intro p hp
    refine ht p ?_
    simp only [List.mem_cons, List.not_mem_nil, or_false] at hp
    rcases hp with rfl | rfl | rfl | rfl | rfl | rfl | rfl | rfl | rfl
    · exact m01
    · exact m02
    · exact m03
    · exact m11
    · exact m12
    · exact m13
    · exact m21
    · exact m22
    · exact m23
end Mine
end
section
open PySem PySem.W PySem.Spec PySem.Calls PyProof.Rows PyProof.V
set_option maxHeartbeats 4000000
namespace Mine
section
variable {M : Model} {A : Around} {R : GenEnd} {Y : Protocol} {n : Nat} {s₀ : Shared} {c : Code} {fs : List Frame} {s : Shared} {env : Env}
  {K : Flow → Sem Fin} {H : Value → Sem Fin} {gd : Bool → Bool} {lv : List Value → List Value}
theorem execs_app (as rest : List Stmt) : execs (as ++ rest) env = (execs as env >>= fun f => match f with | .next => execs rest env | f => pure f) := by
  induction as with
  | nil => rfl
  | cons a as ih =>
    rw [List.cons_append, execs_cons, execs_cons, ih]
    simp only [bind_assoc]
    congr 1
    funext f
    cases f <;> rfl
theorem seg_execs_app (as : List Stmt) {rest : List Stmt}
    (h : wpAny M (A.over c fs) (execs as env) (fun f s' => match f with | .next => Seg M A R Y n s₀ c ((execs rest env).wrap K H gd lv) fs s' | f => Seg M A R Y n s₀ c (K f) fs s') (fun x s' => Seg M A R Y n s₀ c (H x) fs s') s) :
    Seg M A R Y n s₀ c ((execs (as ++ rest) env).wrap K H gd lv) fs s := by
  rw [execs_app, Sem.bind_eq_wrap', Sem.wrap_wrap]
  refine seg_wrap (wpAny_mono h (fun f s' h' => ?_) fun _ _ x => x)
  cases f <;> exact h'
theorem seg_stmt {st : Stmt} {rest : List Stmt}
    (h : wpAny M (A.over c fs) (exec st env) (fun f s' => match f with | .next => Seg M A R Y n s₀ c ((execs rest env).wrap K H gd lv) fs s' | f => Seg M A R Y n s₀ c (K f) fs s') (fun x s' => Seg M A R Y n s₀ c (H x) fs s') s) :
    Seg M A R Y n s₀ c ((execs (st :: rest) env).wrap K H gd lv) fs s := by
  refine seg_execs_cons (seg_wrap (wpAny_mono h (fun f s' h' => ?_) fun _ _ x => x))
  cases f <;> exact h'
theorem seg_If {test : Expr} {body orelse : List Stmt} {pos : Pos}
    (h : wpAny M (A.over c fs) (isTrue test env (eval test env)) (fun b s' => (b = true → Seg M A R Y n s₀ c ((execs body env).wrap K H gd lv) fs s') ∧ (b = false → Seg M A R Y n s₀ c ((execs orelse env).wrap K H gd lv) fs s')) (fun x s' => Seg M A R Y n s₀ c (H x) fs s') s) :
    Seg M A R Y n s₀ c ((exec (.If test body orelse pos) env).wrap K H gd lv) fs s := by
  rw [exec_If]
  show Seg M A R Y n s₀ c (.at pos fun _ => ((isTrue test env (eval test env) >>= fun b => if b = true then execs body env else execs orelse env)).wrap K H gd lv) fs s
  refine seg_at ?_
  rw [Sem.bind_eq_wrap', Sem.wrap_wrap]
  refine seg_wrap (wpAny_mono h (fun b s' h' => ?_) fun _ _ x => x)
  cases b
  · exact h'.2 rfl
  · exact h'.1 rfl
theorem seg_For {target iter : Expr} {body orelse : List Stmt} {pos : Pos} (hs : ∀ x, foldedSetIterable iter env x = pure x)
    (h : wpAny M (A.over c fs) (eval iter env) (fun x s₁ => wpAny M (A.over c fs) (pyIter x) (fun it s₂ => ∀ p, Seg M A R Y n s₀ (.forLoop target it body orelse env) (M.den (.forLoop target it body orelse env))
      (.ret (fun r => ((match r with | .ok f => (.pure f : Sem Flow) | .error e => .raise e).onRaise fun (x : Value) => do
        if (← field x 1) == Value.none then unsupported "frame.own-activation:exception-without-traceback"
        setFlight x env.frame).wrap K H gd lv) none (gd false) (lv []) c p [] :: fs) s₂) (fun x s' => Seg M A R Y n s₀ c (H x) fs s') s₁) (fun x s' => Seg M A R Y n s₀ c (H x) fs s') s) :
    Seg M A R Y n s₀ c ((exec (.For target iter body orelse pos) env).wrap K H gd lv) fs s := by
  rw [exec_For]
  show Seg M A R Y n s₀ c (.at pos fun _ => ((eval iter env >>= fun x => foldedSetIterable iter env x >>= fun x => standAt iter.pos >>= fun _ => (holding [x] (pyIter x) >>= fun it => runOwn (.forLoop target it body orelse env) env))).wrap K H gd lv) fs s
  refine seg_at ?_
  rw [Sem.bind_eq_wrap', Sem.wrap_wrap]
  refine seg_wrap (wpAny_mono h (fun x s₁ h₁ => ?_) fun _ _ x => x)
  rw [hs x]
  show Seg M A R Y n s₀ c (.at iter.pos fun _ => ((holding [x] (pyIter x) >>= fun it => runOwn (.forLoop target it body orelse env) env)).wrap K H gd lv) fs s₁
  refine seg_at ?_
  rw [Sem.bind_eq_wrap', Sem.wrap_wrap]
  refine seg_wrap (wpAny_holding (wpAny_mono h₁ (fun it s₂ h₂ => ?_) fun _ _ x => x))
  exact seg_call h₂
end
section
variable {prog : Program} {w : World} {A : Around} {R : GenEnd} {Y : Protocol} {n : Nat} {s₀ : Shared} {fs : List Frame} {s : Shared} {env : Env}
theorem seg_forLoop {target : Expr} {it : Value} {body orelse : List Stmt}
    (h : ∀ E, wpAny (model prog w) (A.over (.forLoop target it body orelse env) fs) (pyNext it) (fun r s₁ => match r with
      | none => Seg (model prog w) A R Y n s₀ (.forLoop target it body orelse env) (.pure (.again (.block orelse env))) fs s₁
      | some v => wpAny (model prog w) (A.over (.forLoop target it body orelse env) fs) (letOwnedTupleGo target it v) (fun _ s₂ => wpAny (model prog w) (A.over (.forLoop target it body orelse env) fs) (assign target env v) (fun _ s₃ =>
          Seg (model prog w) A R Y n s₀ (.forLoop target it body orelse env) ((execs body env).wrap (fun f => match f with
            | .next | .cont => .pure (.again (.forLoop target it body orelse env))
            | .brk => .pure (.done .next)
            | .ret v => .pure (.done (.ret v))) (fun e => (do noteFrame e env; theTreesLotGoes e : Sem Unit).wrap (fun _ => .raise e) .raise id id) id id) fs s₃) E s₂) E s₁) E s) :
    Seg (model prog w) A R Y n s₀ (.forLoop target it body orelse env) ((model prog w).den (.forLoop target it body orelse env)) fs s := by
  show Seg _ A R Y n s₀ _ ((forTurn target it body orelse env).onRaise (fun x => do noteFrame x env; theTreesLotGoes x)) fs s
  have hcg : ∀ e : Value, ((do noteFrame e env; theTreesLotGoes e : Sem Unit).bind fun _ => (Sem.raise e : Sem Fin)) = (do noteFrame e env; theTreesLotGoes e : Sem Unit).wrap (fun _ => .raise e) .raise id id := fun e => Sem.bind_eq_wrap _ _
  rw [Sem.onRaise_eq_wrap]
  unfold forTurn
  show Seg _ A R Y n s₀ _ (.at target.pos fun _ => (((pyNext it).onRaise (fun _ => standAt { target.pos with line := 0 }) >>= fun r => match r with
      | none => again (.block orelse env)
      | some v => letOwnedTupleGo target it v >>= fun _ => assign target env v >>= fun _ => execs body env >>= fun f => match f with
          | .next | .cont => again (.forLoop target it body orelse env)
          | .brk => pure (.done .next)
          | .ret v => pure (.done (.ret v)))).wrap _ _ _ _) fs s
  refine seg_at ?_
  rw [Sem.bind_eq_wrap', Sem.wrap_wrap]
  refine seg_wrap (wpAny_onRaise (wpAny_mono (h _) (fun r s₁ h₁ => ?_) fun _ _ x => wpAny_standAt x))
  cases r with
  | none => exact h₁
  | some v =>
    show Seg _ A R Y n s₀ _ (Sem.wrap _ _ _ _ (letOwnedTupleGo target it v >>= _)) fs s₁
    rw [Sem.bind_eq_wrap', Sem.wrap_wrap]
    refine seg_wrap (wpAny_mono h₁ (fun _ s₂ h₂ => ?_) fun _ _ x => x)
    rw [Sem.bind_eq_wrap', Sem.wrap_wrap]
    refine seg_wrap (wpAny_mono h₂ (fun _ s₃ h₃ => ?_) fun _ _ x => x)
    rw [Sem.bind_eq_wrap', Sem.wrap_wrap]
    refine Eq.mpr (congrArg (fun t => Seg (model prog w) A R Y n s₀ (.forLoop target it body orelse env) t fs s₃) (Sem.wrap_congr (execs body env) _ _ ?_ ?_)) h₃
    · intro f; cases f <;> rfl
    · exact fun e => hcg e
end
end Mine
end
section
open PySem PySem.W PySem.Spec PySem.Calls PyProof.Rows PyProof.V
set_option maxHeartbeats 4000000
namespace Mine
noncomputable abbrev lobj (acc : Array Value) (c : Nat) : Obj := { cls := .type "list", dict := none, data := .seq acc c, slots := #[] }
end Mine
end
section
open PySem PySem.W PySem.Spec PySem.Calls PyProof.Rows PyProof.V
set_option maxHeartbeats 4000000
namespace Mine
/-- how the caller's frame and ledger come back from the frame and ledger of a callee -/
structure Back (h₀ : Heap) (L : Addr) (m : Str → Option Value) (g : Heap) : Prop where
  go : ∀ L' m' news' h', Fr g L' h' m' → News g L' h' news' → Fr h₀ L h' m ∧ News h₀ L h' news'
section
variable {prog : Program} {w : World} {A₀ A : Around} {s : Shared} {base h₀ : Heap} {outer : List Env} {L : Addr} {m : Str → Option Value} {env : Env} {news : List (Addr × Obj)}
  {R : Result → Shared → Prop} {name qual : Str} {params : Arguments} {body : List Stmt} {scope : Scope} {cl : List (Str × Addr)} {dV kV doc pm cdv ct : Value} {an : Option Addr} {fo : Obj} {f : Addr} {args : Args} {binds : List (Str × Value)}
noncomputable abbrev genObj (k : Nat) (nm qn : Str) (t : Tok) : Obj := { cls := .type "generator", data := .fields #[.int k 0, .str nm t, .str qn (t + 1)] }
theorem call_genX (B : Below A₀ base outer h₀) (F : Fr h₀ L s.heap m) (N : News h₀ L s.heap news) (hlim : h₀.NoLimit) (hA : A.frames = some (env :: outer)) (hf : env.frame = some L) (hke : env.scope.kind = .function)
    (ho : s.heap.get? f = some fo) (hd : fo.data = .func (fnX name qual params body scope cl dV kV doc pm an cdv ct)) (hcd : s.heap.CodeRec cdv qual) (hroom : A.depth < recursionLimit)
    (hbind : BindsTo s (fnX name qual params body scope cl dV kV doc pm an cdv ct) args binds) (hloc : ∀ y ∈ binds, scope.names.lookup y.1 = some .local)
    (h : ∀ g L' h₁ G tk, Fr h₀ L g m → Fr g L' h₁ (fun y => binds.reverse.lookup y) → News g L' h₁ ((G, genObj s.gens.size name qual tk) :: news) → Below A base (env :: outer) g → h₀.StaysIn g → (∀ p ∈ news, @LT.lt Nat _ p.1 L') → @LT.lt Nat _ L' G → Back h₀ L m g →
      R (.ok (.ret (.ref G))) { s with gens := s.gens.push (.fresh (.func body (envX qual scope L' f cdv cl))), heap := h₁, toks := tk + 1 + 1 })
    (hcell : ∀ x ∈ scope.names, x.2 ≠ .cell) (hco : scope.isCoroutine = false := by rfl) (hgen : scope.isGenerator = true := by rfl) (hk : scope.kind = .function := by rfl) : codeAny (model prog w) A (.call (.ref f) args) R s := by
  obtain ⟨FG, BG, st, lv⟩ := groundX (R := fun _ _ => True) B F N hA hf hke
  have bk : Back h₀ L m (hideAll s.heap (news.map (·.1))) := ⟨fun L' m' news' h' F' N' => by
    obtain ⟨_, _, _, lv'⟩ := groundX (R := fun _ s' => Fr h₀ L s'.heap m ∧ News h₀ L s'.heap news') B F N hA hf hke
    exact lv' .none { s with heap := h' } ⟨L', m', news', F', N', fun a b => ⟨a, b⟩⟩⟩
  refine codeAny_call_generator (fd := fnX name qual params body scope cl dV kV doc pm an cdv ct) (body := body) hroom ho hd hco hgen rfl hcd (hbind _ _ _ _ ?_)
  refine wpAny_newFunctionEnv hcell hloc (fun h₁ hns₁ hsb₁ => ⟨(hlim.keeps F.keep).fresh _ hsb₁, ?_⟩) hk
  have hk₁ : ∀ b o, s.heap.get? b = some o → h₁.get? b = some o := fun b o e => hsb₁.extBut b o (Nat.ne_of_lt (Heap.lt_size e)) (Heap.get?_push_of_some _ e)
  have F₁ : Fr (hideAll s.heap (news.map (·.1))) s.heap.objs.size h₁ (fun y => binds.reverse.lookup y) := ⟨hns₁, fun b o e => hk₁ b o (of_hideAll _ e), Nat.le_of_eq (hideAll_size _ _)⟩
  have N₁ : News (hideAll s.heap (news.map (·.1))) s.heap.objs.size h₁ news := fun p hp => ⟨hk₁ _ _ (N p hp).1, Nat.ne_of_lt (Heap.lt_size (N p hp).1), hideAll_none _ (List.mem_map_of_mem hp)⟩
  exact h _ s.heap.objs.size _ h₁.objs.size _ FG (F₁.push _) (N₁.push F₁ _) BG st (fun p hp => Heap.lt_size (N p hp).1) F₁.ns.lt bk
end
section
variable {dp un : Nat} {gd : Option (List Code)} {cn : Str} {cs : Scope} {L a : Addr} {ccd : Value} {cl : List (Str × Addr)} {outer : List Env}
theorem over_func (body : List Stmt) (env : Env) : (ktrTop dp un gd cn cs L a ccd cl outer).over (.func body env) [] = (ktrTop dp un gd cn cs L a ccd cl outer).deeper env := by rfl
theorem over_for (body b2 orelse : List Stmt) (tg : Expr) (it : Value) (env e2 : Env) {k g l p} : (ktrTop dp un gd cn cs L a ccd cl outer).over (.forLoop tg it b2 orelse e2) [.ret k none g l (.func body env) p []] = (ktrTop dp un gd cn cs L a ccd cl outer).deeper env := by
  unfold Around.over Around.deeper
  simp
  refine ⟨rfl, rfl, rfl, ?_, rfl⟩
  cases gd <;> rfl
end
end Mine
end
section
open PySem PySem.W PySem.Spec PySem.Calls PyProof.Rows PyProof.V
set_option maxHeartbeats 8000000
namespace Mine
local macro_rules | `(tactic| k_all) => `(tactic| assumption)
noncomputable abbrev mEnv (L : Addr) : Env := envOf (Str.ofString "missing_whitespace") (fnScope (topSt 15)) L 208 (.ref 207)
noncomputable abbrev mBody : List Stmt := forBody ((fnBody (topSt 15)).getD 6 passS)
noncomputable abbrev mTgt : Expr := forTarget ((fnBody (topSt 15)).getD 6 passS)
noncomputable def mPs (k : Int) (x line : Str) (a b O B : Nat) (N PT PE : Value) (pt : Int) (t1 t2 t3 t4 : Tok) : List (Str × Value) :=
  [(Str.ofString "token_type", .int k t1), (Str.ofString "text", .str x t2), (Str.ofString "start", .ref a), (Str.ofString "end", .ref b), (Str.ofString "line", .str line t3), (Str.ofString "need_space", N), (Str.ofString "prev_type", .int pt t4), (Str.ofString "prev_text", PT), (Str.ofString "prev_end", PE), (Str.ofString "operator_types", .ref O), (Str.ofString "brace_stack", .ref B)]
structure XOk (k : Int) (x : Str) : Prop where
  k3 : k = 1 ∨ k = 2 ∨ k = 54
  n1 : x ≠ Str.ofString "["
  n2 : x ≠ Str.ofString "{"
  n3 : x ≠ Str.ofString "]"
  n4 : x ≠ Str.ofString "}"
  n5 : (x == Str.ofString "lambda") = false
  n6 : x ≠ Str.ofString ";"
  n7 : x ≠ Str.ofString ":"
  n8 : 0 < x.length
  n9 : x.length < 20
inductive BrV : List Value → Nat → Prop
  | b0 : BrV [] 0
  | b1 (t) : BrV [.str (Str.ofString "(") t] 1
  | b2 (t t') : BrV [.str (Str.ofString "(") t, .str (Str.ofString "(") t'] 2
noncomputable def brNext (k : Int) (x : Str) (d : Nat) : Nat := if k = 54 ∧ x = Str.ofString "(" then d + 1 else if k = 54 ∧ x = Str.ofString ")" then d - 1 else d
noncomputable def MMid (h₀ : Heap) (L : Addr) (rest : Led) (B : Nat) (d : Nat) (ps : List (Str × Value)) (s : Shared) (f : Flow) (s' : Shared) : Prop :=
  f = .next ∧ ∃ (h' : Heap) (tk' : Nat) (m' : Str → Option Value) (bv : List Value) (nB : Nat), s' = { s with heap := h', toks := tk' } ∧ Fr h₀ L h' m' ∧ News h₀ L h' ((B, listOf bv.toArray nB) :: rest) ∧ BrV bv d ∧ ∀ p ∈ ps, m' p.1 = some p.2
theorem mmid_end {h₀ h' : Heap} {L : Addr} {rest full : Led} {B d d' : Nat} {ps : List (Str × Value)} {s : Shared} {tk' : Nat} {m' : Str → Option Value} {bv : List Value} {nB : Nat} (F : Fr h₀ L h' m') (N : News h₀ L h' full) (mB : (B, listOf bv.toArray nB) ∈ full) (mr : ∀ p ∈ rest, p ∈ full) (hb : BrV bv d') (e : d' = d) (hp : ∀ p ∈ ps, m' p.1 = some p.2) :
    MMid h₀ L rest B d ps s .next { s with heap := h', toks := tk' } :=
  ⟨rfl, h', tk', m', bv, nB, rfl, F, fun p hp => (List.mem_cons.mp hp).elim (fun e => e ▸ N _ mB) fun h => N _ (mr _ h), e ▸ hb, hp⟩
section
variable {c : Cx} {base : Heap} {rest : Led} {dp un : Nat} {gd : Option (List Code)} {cn : Str} {cs : Scope} {a₀ : Addr} {ccd : Value} {cl : List (Str × Addr)} {outer : List Env} {L₀ : Addr} {h₀ : Heap} {L : Addr} {s : Shared} {E : Value → Shared → Prop}
  {k pt : Int} {x line : Str} {a b O B nB : Nat} {N PT PE : Value} {t1 t2 t3 t4 t5 t6 : Tok} {u : Str → Option Value}
theorem mPs_ok : ∀ p ∈ mPs k x line a b O B N PT PE pt t1 t2 t3 t4, kstB u (mPs k x line a b O B N PT PE pt t1 t2 t3 t4) p.1 = some p.2 := by
  intro p hp
  unfold mPs at hp ⊢
  simp only [List.mem_cons, List.not_mem_nil, or_false] at hp
  rcases hp with rfl | rfl | rfl | rfl | rfl | rfl | rfl | rfl | rfl | rfl | rfl <;> (with_unfolding_all rfl)
noncomputable abbrev inO (x : Str) : Bool := (false || decide (x = Str.ofString "[") || decide (x = Str.ofString "(") || decide (x = Str.ofString "{"))
noncomputable abbrev inC (x : Str) : Bool := (false || decide (x = Str.ofString "]") || decide (x = Str.ofString ")") || decide (x = Str.ofString "}"))
theorem brT1 {d : Nat} (h : inO x = true) (n1 : x ≠ Str.ofString "[") (n2 : x ≠ Str.ofString "{") : x = Str.ofString "(" := by
  simp only [inO, Bool.false_or, Bool.or_eq_true, decide_eq_true_eq] at h
  rcases h with (h | h) | h
  · exact absurd h n1
  · exact h
  · exact absurd h n2
theorem brT2 (h : inO x = false) : x ≠ Str.ofString "(" := by
  simp only [inO, Bool.false_or, Bool.or_eq_false_iff, decide_eq_false_iff_not] at h
  exact h.1.2
theorem brT3 (h : inC x = true) (n3 : x ≠ Str.ofString "]") (n4 : x ≠ Str.ofString "}") : x = Str.ofString ")" := by
  simp only [inC, Bool.false_or, Bool.or_eq_true, decide_eq_true_eq] at h
  rcases h with (h | h) | h
  · exact absurd h n3
  · exact h
  · exact absurd h n4
theorem brT4 (h : inC x = false) : x ≠ Str.ofString ")" := by
  simp only [inC, Bool.false_or, Bool.or_eq_false_iff, decide_eq_false_iff_not] at h
  exact h.1.2
theorem brE1 {d : Nat} (h : inO x = true) (n1 : x ≠ Str.ofString "[") (n2 : x ≠ Str.ofString "{") : d + 1 = brNext 54 x d := by
  unfold brNext; rw [if_pos ⟨rfl, brT1 (d := 0) h n1 n2⟩]
theorem brE2 (h : inO x = false) : 0 = brNext 54 x 0 := by
  unfold brNext; rw [if_neg (fun q => brT2 h q.2)]; split <;> rfl
theorem brE3 {d : Nat} (h0 : inO x = false) (h : inC x = true) (n3 : x ≠ Str.ofString "]") (n4 : x ≠ Str.ofString "}") : d = brNext 54 x (d + 1) := by
  unfold brNext; rw [if_neg (fun q => brT2 h0 q.2), if_pos ⟨rfl, brT3 h n3 n4⟩]; rfl
theorem brE4 {d : Nat} (h0 : inO x = false) (h : inC x = false) : d = brNext 54 x d := by
  unfold brNext; rw [if_neg (fun q => brT2 h0 q.2), if_neg (fun q => brT4 h q.2)]
theorem brE5 {d : Nat} : d = brNext 1 x d := by unfold brNext; rw [if_neg (by simp), if_neg (by simp)]
theorem brE6 {d : Nat} : d = brNext 2 x d := by unfold brNext; rw [if_neg (by simp), if_neg (by simp)]
end
noncomputable def ifTest : Stmt → Expr
  | .If t _ _ _ => t
  | _ => .Name Str.empty ⟨0, 0, 0, 0⟩
noncomputable def ifBody : Stmt → List Stmt
  | .If _ b _ _ => b
  | _ => []
noncomputable def ifElse : Stmt → List Stmt
  | .If _ _ o _ => o
  | _ => []
noncomputable def TE (h₀ : Heap) (L : Addr) (led : Led) (m : Str → Option Value) (v : Bool) (s : Shared) (b : Bool) (s' : Shared) : Prop := b = v ∧ ∃ (h' : Heap) (tk' : Nat), s' = { s with heap := h', toks := tk' } ∧ Fr h₀ L h' m ∧ News h₀ L h' led
theorem te_end {h₀ h' : Heap} {L : Addr} {led full : Led} {m : Str → Option Value} {v b : Bool} {s : Shared} {tk' : Nat} (F : Fr h₀ L h' m) (N : News h₀ L h' full) (hs : ∀ p ∈ led, p ∈ full) (e : b = v) : TE h₀ L led m v s b { s with heap := h', toks := tk' } := ⟨e, h', tk', rfl, F, fun p hp => N p (hs p hp)⟩
noncomputable abbrev sB0 : Stmt := mBody.getD 0 passS
noncomputable abbrev sB1 : Stmt := (ifElse sB0).getD 0 passS
noncomputable abbrev sB2 : Stmt := (ifElse sB1).getD 0 passS
noncomputable abbrev sB3 : Stmt := (ifElse sB2).getD 0 passS
noncomputable abbrev sB4 : Stmt := (ifElse sB3).getD 0 passS
noncomputable abbrev sB5 : Stmt := (ifBody sB4).getD 0 passS
noncomputable abbrev sB6 : Stmt := (ifElse sB5).getD 0 passS
noncomputable abbrev sB7 : Stmt := (ifElse sB6).getD 0 passS
noncomputable abbrev sB8 : Stmt := (ifElse sB7).getD 0 passS
theorem sB_if : (∃ p, sB0 = .If (ifTest sB0) (ifBody sB0) (ifElse sB0) p) ∧ (∃ p, sB1 = .If (ifTest sB1) (ifBody sB1) (ifElse sB1) p) ∧ (∃ p, sB2 = .If (ifTest sB2) (ifBody sB2) (ifElse sB2) p) ∧ (∃ p, sB3 = .If (ifTest sB3) (ifBody sB3) (ifElse sB3) p) ∧ (∃ p, sB4 = .If (ifTest sB4) (ifBody sB4) (ifElse sB4) p) ∧
    (∃ p, sB5 = .If (ifTest sB5) (ifBody sB5) (ifElse sB5) p) ∧ (∃ p, sB6 = .If (ifTest sB6) (ifBody sB6) (ifElse sB6) p) ∧ (∃ p, sB7 = .If (ifTest sB7) (ifBody sB7) (ifElse sB7) p) ∧ (∃ p, sB8 = .If (ifTest sB8) (ifBody sB8) (ifElse sB8) p) := ⟨⟨_, rfl⟩, ⟨_, rfl⟩, ⟨_, rfl⟩, ⟨_, rfl⟩, ⟨_, rfl⟩, ⟨_, rfl⟩, ⟨_, rfl⟩, ⟨_, rfl⟩, ⟨_, rfl⟩⟩
theorem sB_parts : ifBody sB0 = [(ifBody sB0).getD 0 passS] ∧ ifElse sB0 = [sB1] ∧ ifElse sB1 = [sB2] ∧ ifElse sB2 = [sB3] ∧ ifElse sB3 = [sB4] ∧ ifBody sB4 = [sB5] ∧ ifElse sB4 = [] ∧ ifBody sB5 = [(ifBody sB5).getD 0 passS] ∧ ifElse sB5 = [sB6] ∧ ifElse sB6 = [sB7] ∧ ifElse sB7 = [sB8] ∧ ifElse sB8 = [] := ⟨rfl, rfl, rfl, rfl, rfl, rfl, rfl, rfl, rfl, rfl, rfl, rfl⟩
section
variable {M : Model} {A : Around} {h₀ : Heap} {L : Addr} {led : Led} {m : Str → Option Value} {v : Bool} {s : Shared} {env : Env} {Q : Flow → Shared → Prop} {E : Value → Shared → Prop}
theorem wp_T {st : Stmt} {pos : Pos} (hst : st = .If (ifTest st) (ifBody st) (ifElse st) pos)
    (h : ∀ E, wpAny M A (isTrue (ifTest st) env (eval (ifTest st) env)) (TE h₀ L led m v s) E s)
    (yes : v = true → ∀ h' tk', Fr h₀ L h' m → News h₀ L h' led → wpAny M A (execs (ifBody st) env) Q E { s with heap := h', toks := tk' })
    (no : v = false → ∀ h' tk', Fr h₀ L h' m → News h₀ L h' led → wpAny M A (execs (ifElse st) env) Q E { s with heap := h', toks := tk' }) :
    wpAny M A (exec st env) Q E s := by
  rw [hst, exec_If]
  refine wpAny_bind (wpAny_standAt (wpAny_bind (wpAny_mono (h E) (fun b s' hb => ?_) fun _ _ x => x)))
  obtain ⟨rfl, h', tk', rfl, F, N⟩ := hb
  cases b with
  | true => exact yes rfl h' tk' F N
  | false => exact no rfl h' tk' F N
theorem wp_one {st : Stmt} (h : wpAny M A (exec st env) Q E s) (hq : ∀ f s', Q f s' → f = .next) : wpAny M A (execs [st] env) Q E s := by
  rw [execs_cons]
  refine wpAny_bind (wpAny_mono h (fun f s' hf => ?_) fun _ _ x => x)
  have := hq f s' hf
  subst this
  exact wpAny_pure hf
end
local macro_rules | `(tactic| walk_at "truthy ref") => `(tactic| (k_here; (with_reducible show wpAny _ _ (truthy (Value.ref _)) _ _ _); k_dflt (refine' kgr_truthy ?N ?m ?c ?d ?f ?_; (case N => k_asm); (case m => k_mem); (case c => exact rfl); (case d => exact rfl); (case f => (simp only [List.length_cons, List.length_nil]; decide))); (try simp only [List.isEmpty_cons, List.isEmpty_nil, Bool.not_false, Bool.not_true])))
section
variable {c : Cx} {base : Heap} {rest : Led} {dp un : Nat} {gd : Option (List Code)} {cn : Str} {cs : Scope} {a₀ : Addr} {ccd : Value} {cl : List (Str × Addr)} {outer : List Env} {L₀ : Addr} {h₀ : Heap} {L : Addr} {s : Shared} {E : Value → Shared → Prop}
  {k pt : Int} {x line : Str} {a b O B nB : Nat} {N PT PE : Value} {t1 t2 t3 t4 t5 t6 : Tok} {u : Str → Option Value} {bv : List Value} {d : Nat}
theorem Bt0 (k3 : k = 1 ∨ k = 2 ∨ k = 54) (B' : Below (ktrTop dp un gd cn cs L₀ a₀ ccd cl outer) base (envX cn cs L₀ a₀ ccd cl :: outer) h₀) (X : (frag c.w.params).In h₀) (Tp : Top c.p c.loose c.mean c.mg c.mb h₀) (hk : cs.kind = .function) (hd : dp + 10 < recursionLimit) (hu : un + 128 < cLine)
    (F : Fr h₀ L s.heap (kstB u (mPs k x line a b O B N PT PE pt t1 t2 t3 t4))) (Ne : News h₀ L s.heap rest) :
    wpAny (MM c.w) ((ktrTop dp un gd cn cs L₀ a₀ ccd cl outer).deeper (mEnv L)) (isTrue (ifTest sB0) (mEnv L) (eval (ifTest sB0) (mEnv L))) (TE h₀ L rest (kstB u (mPs k x line a b O B N PT PE pt t1 t2 t3 t4)) (k == 54 && inO x) s) E s := by
  unfold MM
  revert X; k_fill; intro X
  unfold mPs at F ⊢
  conv in isTrue _ _ _ => arg 1; whnf
  conv in eval (ifTest _) _ => arg 1; whnf
  rcases k3 with rfl | rfl | rfl
  all_goals k_steps
  all_goals (try contradiction)
  all_goals (try dsimp only)
  all_goals (refine' te_end ?qF ?qN ?qs ?qe; (case qF => assumption); (case qN => assumption); (case qs => (intro q hq; repeat (first | exact hq | apply List.Mem.tail))); (case qe => first | rfl | exact Eq.symm (by assumption)))
theorem Bt5 (k3 : k = 1 ∨ k = 2 ∨ k = 54) (B' : Below (ktrTop dp un gd cn cs L₀ a₀ ccd cl outer) base (envX cn cs L₀ a₀ ccd cl :: outer) h₀) (X : (frag c.w.params).In h₀) (Tp : Top c.p c.loose c.mean c.mg c.mb h₀) (hk : cs.kind = .function) (hd : dp + 10 < recursionLimit) (hu : un + 128 < cLine)
    (F : Fr h₀ L s.heap (kstB u (mPs k x line a b O B N PT PE pt t1 t2 t3 t4))) (Ne : News h₀ L s.heap rest) :
    wpAny (MM c.w) ((ktrTop dp un gd cn cs L₀ a₀ ccd cl outer).deeper (mEnv L)) (isTrue (ifTest sB5) (mEnv L) (eval (ifTest sB5) (mEnv L))) (TE h₀ L rest (kstB u (mPs k x line a b O B N PT PE pt t1 t2 t3 t4)) (k == 54 && inC x) s) E s := by
  unfold MM
  revert X; k_fill; intro X
  unfold mPs at F ⊢
  conv in isTrue _ _ _ => arg 1; whnf
  conv in eval (ifTest _) _ => arg 1; whnf
  rcases k3 with rfl | rfl | rfl
  all_goals k_steps
  all_goals (try contradiction)
  all_goals (try dsimp only)
  all_goals (refine' te_end ?qF ?qN ?qs ?qe; (case qF => assumption); (case qN => assumption); (case qs => (intro q hq; repeat (first | exact hq | apply List.Mem.tail))); (case qe => first | rfl | exact Eq.symm (by assumption)))
theorem BtN {e : Expr} (he : e = ifTest sB1 ∨ e = ifTest sB2 ∨ e = ifTest sB3 ∨ e = ifTest sB6 ∨ e = ifTest sB7) (k3 : k = 1 ∨ k = 2 ∨ k = 54) (n5 : (x == Str.ofString "lambda") = false) (B' : Below (ktrTop dp un gd cn cs L₀ a₀ ccd cl outer) base (envX cn cs L₀ a₀ ccd cl :: outer) h₀) (X : (frag c.w.params).In h₀) (Tp : Top c.p c.loose c.mean c.mg c.mb h₀) (hk : cs.kind = .function) (hd : dp + 10 < recursionLimit) (hu : un + 128 < cLine)
    (F : Fr h₀ L s.heap (kstB u (mPs k x line a b O B N PT PE pt t1 t2 t3 t4))) (Ne : News h₀ L s.heap rest) :
    wpAny (MM c.w) ((ktrTop dp un gd cn cs L₀ a₀ ccd cl outer).deeper (mEnv L)) (isTrue e (mEnv L) (eval e (mEnv L))) (TE h₀ L rest (kstB u (mPs k x line a b O B N PT PE pt t1 t2 t3 t4)) false s) E s := by
  unfold MM
  revert X; k_fill; intro X
  unfold mPs at F ⊢
  rcases he with rfl | rfl | rfl | rfl | rfl
  all_goals (conv in isTrue _ _ _ => arg 1; whnf)
  all_goals (conv in eval (ifTest _) _ => arg 1; whnf)
  all_goals (rcases k3 with rfl | rfl | rfl)
  all_goals k_steps
  all_goals (try contradiction)
  all_goals (try dsimp only)
  all_goals (refine' te_end ?qF ?qN ?qs ?qe; (case qF => assumption); (case qN => assumption); (case qs => (intro q hq; repeat (first | exact hq | apply List.Mem.tail))); (case qe => rfl))
theorem Bt4 (hbr : BrV bv d) (B' : Below (ktrTop dp un gd cn cs L₀ a₀ ccd cl outer) base (envX cn cs L₀ a₀ ccd cl :: outer) h₀) (X : (frag c.w.params).In h₀) (Tp : Top c.p c.loose c.mean c.mg c.mb h₀) (hk : cs.kind = .function) (hd : dp + 10 < recursionLimit) (hu : un + 128 < cLine)
    (F : Fr h₀ L s.heap (kstB u (mPs k x line a b O B N PT PE pt t1 t2 t3 t4))) (Ne : News h₀ L s.heap ((B, listOf bv.toArray nB) :: rest)) :
    wpAny (MM c.w) ((ktrTop dp un gd cn cs L₀ a₀ ccd cl outer).deeper (mEnv L)) (isTrue (ifTest sB4) (mEnv L) (eval (ifTest sB4) (mEnv L))) (TE h₀ L ((B, listOf bv.toArray nB) :: rest) (kstB u (mPs k x line a b O B N PT PE pt t1 t2 t3 t4)) (!bv.isEmpty) s) E s := by
  unfold MM
  revert X; k_fill; intro X
  unfold mPs at F ⊢
  conv in isTrue _ _ _ => arg 1; whnf
  conv in eval (ifTest _) _ => arg 1; whnf
  rcases hbr with _ | ⟨t5⟩ | ⟨t5, t6⟩
  all_goals k_steps
  all_goals (try dsimp only)
  all_goals (refine' te_end ?qF ?qN ?qs ?qe; (case qF => assumption); (case qN => assumption); (case qs => (intro q hq; repeat (first | exact hq | apply List.Mem.tail))); (case qe => rfl))
theorem Bt8 (hbr : BrV bv (d + 1)) (B' : Below (ktrTop dp un gd cn cs L₀ a₀ ccd cl outer) base (envX cn cs L₀ a₀ ccd cl :: outer) h₀) (X : (frag c.w.params).In h₀) (Tp : Top c.p c.loose c.mean c.mg c.mb h₀) (hk : cs.kind = .function) (hd : dp + 10 < recursionLimit) (hu : un + 128 < cLine)
    (F : Fr h₀ L s.heap (kstB u (mPs k x line a b O B N PT PE pt t1 t2 t3 t4))) (Ne : News h₀ L s.heap ((B, listOf bv.toArray nB) :: rest)) :
    wpAny (MM c.w) ((ktrTop dp un gd cn cs L₀ a₀ ccd cl outer).deeper (mEnv L)) (isTrue (ifTest sB8) (mEnv L) (eval (ifTest sB8) (mEnv L))) (TE h₀ L ((B, listOf bv.toArray nB) :: rest) (kstB u (mPs k x line a b O B N PT PE pt t1 t2 t3 t4)) false s) E s := by
  unfold MM
  revert X; k_fill; intro X
  unfold mPs at F ⊢
  conv in isTrue _ _ _ => arg 1; whnf
  conv in eval (ifTest _) _ => arg 1; whnf
  rcases hbr with _ | ⟨t5⟩ | ⟨t5, t6⟩
  all_goals k_steps
  all_goals (try dsimp only)
  all_goals (refine' te_end ?qF ?qN ?qs ?qe; (case qF => assumption); (case qN => assumption); (case qs => (intro q hq; repeat (first | exact hq | apply List.Mem.tail))); (case qe => rfl))
theorem BAp (hx : x = Str.ofString "(") (hbd : d ≤ 1) (hbr : BrV bv d) (B' : Below (ktrTop dp un gd cn cs L₀ a₀ ccd cl outer) base (envX cn cs L₀ a₀ ccd cl :: outer) h₀) (X : (frag c.w.params).In h₀) (Tp : Top c.p c.loose c.mean c.mg c.mb h₀) (hk : cs.kind = .function) (hd : dp + 10 < recursionLimit) (hu : un + 128 < cLine)
    (hB : ∀ p ∈ rest, p.1 ≠ B) (F : Fr h₀ L s.heap (kstB u (mPs k x line a b O B N PT PE pt t1 t2 t3 t4))) (Ne : News h₀ L s.heap ((B, listOf bv.toArray nB) :: rest)) :
    wpAny (MM c.w) ((ktrTop dp un gd cn cs L₀ a₀ ccd cl outer).deeper (mEnv L)) (exec ((ifBody sB0).getD 0 passS) (mEnv L)) (MMid h₀ L rest B (d + 1) (mPs k x line a b O B N PT PE pt t1 t2 t3 t4) s) E s := by
  unfold MM
  revert X; k_fill; intro X
  unfold mPs at F
  conv in exec _ _ => arg 1; whnf
  rcases hbr with _ | ⟨t5⟩ | ⟨t5, t6⟩
  rotate_right
  · exfalso; omega
  all_goals k_steps
  all_goals (try dsimp only)
  all_goals (refine' mmid_end ?qF ?qN ?qB ?qr ?qb ?qe ?qp; (case qF => assumption); (case qN => assumption); (case qB => k_mem); (case qr => (intro q hq; repeat (first | exact hq | apply List.Mem.tail))); (case qb => (rw [hx]; first | exact BrV.b1 _ | exact BrV.b2 _ _)); (case qp => exact mPs_ok); (case qe => rfl))
theorem BPop (hbr : BrV bv (d + 1)) (B' : Below (ktrTop dp un gd cn cs L₀ a₀ ccd cl outer) base (envX cn cs L₀ a₀ ccd cl :: outer) h₀) (X : (frag c.w.params).In h₀) (Tp : Top c.p c.loose c.mean c.mg c.mb h₀) (hk : cs.kind = .function) (hd : dp + 10 < recursionLimit) (hu : un + 128 < cLine)
    (hB : ∀ p ∈ rest, p.1 ≠ B) (F : Fr h₀ L s.heap (kstB u (mPs k x line a b O B N PT PE pt t1 t2 t3 t4))) (Ne : News h₀ L s.heap ((B, listOf bv.toArray nB) :: rest)) :
    wpAny (MM c.w) ((ktrTop dp un gd cn cs L₀ a₀ ccd cl outer).deeper (mEnv L)) (exec ((ifBody sB5).getD 0 passS) (mEnv L)) (MMid h₀ L rest B d (mPs k x line a b O B N PT PE pt t1 t2 t3 t4) s) E s := by
  unfold MM
  revert X; k_fill; intro X
  unfold mPs at F
  conv in exec _ _ => arg 1; whnf
  rcases hbr with _ | ⟨t5⟩ | ⟨t5, t6⟩
  all_goals k_steps
  all_goals (try dsimp only)
  all_goals (refine' mmid_end ?qF ?qN ?qB ?qr ?qb ?qe ?qp; (case qF => assumption); (case qN => assumption); (case qB => k_mem); (case qr => (intro q hq; repeat (first | exact hq | apply List.Mem.tail))); (case qb => first | exact BrV.b0 | exact BrV.b1 _); (case qp => exact mPs_ok); (case qe => rfl))
theorem brE0 {bv : List Value} {d : Nat} (h : BrV bv d) (e : (!bv.isEmpty) = false) : d = 0 := by
  cases h <;> first | rfl | simp at e
theorem brEp {bv : List Value} {d : Nat} (h : BrV bv d) (e : (!bv.isEmpty) = true) : ∃ d', d = d' + 1 := by
  cases h <;> first | exact ⟨_, rfl⟩ | simp at e
theorem mS1 (hx : XOk k x) (hbd : x = Str.ofString "(" → d ≤ 1) (hbr : BrV bv d) (B' : Below (ktrTop dp un gd cn cs L₀ a₀ ccd cl outer) base (envX cn cs L₀ a₀ ccd cl :: outer) h₀) (X : (frag c.w.params).In h₀) (Tp : Top c.p c.loose c.mean c.mg c.mb h₀) (hk : cs.kind = .function) (hd : dp + 10 < recursionLimit) (hu : un + 128 < cLine)
    (hB : ∀ p ∈ rest, p.1 ≠ B) (F : Fr h₀ L s.heap (kstB u (mPs k x line a b O B N PT PE pt t1 t2 t3 t4))) (Ne : News h₀ L s.heap ((B, listOf bv.toArray nB) :: rest)) :
    wpAny (MM c.w) ((ktrTop dp un gd cn cs L₀ a₀ ccd cl outer).deeper (mEnv L)) (exec (mBody.getD 0 passS) (mEnv L)) (MMid h₀ L rest B (brNext k x d) (mPs k x line a b O B N PT PE pt t1 t2 t3 t4) s) E s := by
  obtain ⟨k3, n1, n2, n3, n4, n5, n6, n7, n8, n9⟩ := hx
  obtain ⟨⟨p0, i0⟩, ⟨p1, i1⟩, ⟨p2, i2⟩, ⟨p3, i3⟩, ⟨p4, i4⟩, ⟨p5, i5⟩, ⟨p6, i6⟩, ⟨p7, i7⟩, ⟨p8, i8⟩⟩ := sB_if
  obtain ⟨q0, q1, q2, q3, q4, q5, q6, q7, q8, q9, qa, qb⟩ := sB_parts
  have nx : ∀ d' (s0 : Shared) f s', MMid h₀ L rest B d' (mPs k x line a b O B N PT PE pt t1 t2 t3 t4) s0 f s' → f = .next := fun _ _ _ _ h => h.1
  refine wp_T i0 (fun E => Bt0 k3 B' X Tp hk hd hu F Ne) (fun e h1 tk1 F1 N1 => ?_) (fun e h1 tk1 F1 N1 => ?_)
  · rw [Bool.and_eq_true] at e
    have hk54 : k = 54 := by simpa using e.1
    have hxo := brT1 (d := 0) e.2 n1 n2
    have eb : brNext k x d = d + 1 := by unfold brNext; rw [if_pos ⟨hk54, hxo⟩]
    rw [q0, eb]
    exact wp_one (BAp (s := { s with heap := h1, toks := tk1 }) hxo (hbd hxo) hbr B' X Tp hk hd hu hB F1 N1) (nx _ _)
  have no54 : k = 54 → x ≠ Str.ofString "(" := fun hk54 => by
    rw [hk54] at e
    exact brT2 (by simpa using e)
  rw [q1]
  refine wp_one (wp_T i1 (fun E => BtN (.inl rfl) k3 n5 B' X Tp hk hd hu F1 N1) (fun e => by cases e) (fun _ h2 tk2 F2 N2 => ?_)) (nx _ _)
  rw [q2]
  refine wp_one (wp_T i2 (fun E => BtN (.inr (.inl rfl)) k3 n5 B' X Tp hk hd hu F2 N2) (fun e => by cases e) (fun _ h3 tk3 F3 N3 => ?_)) (nx _ _)
  rw [q3]
  refine wp_one (wp_T i3 (fun E => BtN (.inr (.inr (.inl rfl))) k3 n5 B' X Tp hk hd hu F3 N3) (fun e => by cases e) (fun _ h4 tk4 F4 N4 => ?_)) (nx _ _)
  rw [q4]
  refine wp_one (wp_T i4 (fun E => Bt4 hbr B' X Tp hk hd hu F4 N4) (fun e4 h5 tk5 F5 N5 => ?_) (fun e4 h5 tk5 F5 N5 => ?_)) (nx _ _)
  · obtain ⟨d', rfl⟩ := brEp hbr e4
    rw [q5]
    refine wp_one (wp_T i5 (fun E => Bt5 k3 B' X Tp hk hd hu F5 N5) (fun e5 h6 tk6 F6 N6 => ?_) (fun e5 h6 tk6 F6 N6 => ?_)) (nx _ _)
    · rw [Bool.and_eq_true] at e5
      have hk54 : k = 54 := by simpa using e5.1
      have hxc := brT3 e5.2 n3 n4
      have eb : brNext k x (d' + 1) = d' := by unfold brNext; rw [if_neg (fun q => no54 hk54 q.2), if_pos ⟨hk54, hxc⟩]; rfl
      rw [q7, eb]
      exact wp_one (BPop (s := { s with heap := h6, toks := tk6 }) hbr B' X Tp hk hd hu hB F6 N6) (nx _ _)
    have eb : brNext k x (d' + 1) = d' + 1 := by
      unfold brNext
      rw [if_neg (fun q => no54 q.1 q.2), if_neg (fun q => by
        have e5' := e5
        rw [q.1] at e5'
        exact brT4 (by simpa using e5') q.2)]
    rw [q8]
    refine wp_one (wp_T i6 (fun E => BtN (.inr (.inr (.inr (.inl rfl)))) k3 n5 B' X Tp hk hd hu F6 N6) (fun e => by cases e) (fun _ h7 tk7 F7 N7 => ?_)) (nx _ _)
    rw [q9]
    refine wp_one (wp_T i7 (fun E => BtN (.inr (.inr (.inr (.inr rfl)))) k3 n5 B' X Tp hk hd hu F7 N7) (fun e => by cases e) (fun _ h8 tk8 F8 N8 => ?_)) (nx _ _)
    rw [qa]
    refine wp_one (wp_T i8 (fun E => Bt8 hbr B' X Tp hk hd hu F8 N8) (fun e => by cases e) (fun _ h9 tk9 F9 N9 => ?_)) (nx _ _)
    rw [qb, eb]
    exact wpAny_pure ⟨rfl, h9, tk9, _, bv, nB, rfl, F9, N9, hbr, mPs_ok⟩
  · have h0 := brE0 hbr e4
    subst h0
    have eb : brNext k x 0 = 0 := by
      unfold brNext
      rw [if_neg (fun q => no54 q.1 q.2)]; split <;> rfl
    rw [q6, eb]
    exact wpAny_pure ⟨rfl, h5, tk5, _, bv, nB, rfl, F5, N5, hbr, mPs_ok⟩
end
end Mine
end
section
open PySem PySem.W PySem.Spec PySem.Calls PyProof.Rows PyProof.V
set_option maxHeartbeats 8000000
namespace Mine
local macro_rules | `(tactic| walk_at "zz0") => `(tactic| fail)
noncomputable def strsOf : List Value → Option (List Str)
  | [] => some []
  | .str x _ :: r => (strsOf r).map (x :: ·)
  | _ => none
noncomputable def intsOf : List Value → Option (List Int)
  | [] => some []
  | .int x _ :: r => (intsOf r).map (x :: ·)
  | _ => none
noncomputable def tupOf (o : Option Obj) : Option (List Value) := match o with
  | some ⟨.type n, _, .seq items _, _⟩ => if n == "tuple" then some items.toList else none
  | _ => none
theorem strsOf_are : ∀ {vs : List Value} {ys : List Str}, strsOf vs = some ys → StrsAre vs ys
  | [], ys, h => by cases h; exact .nil
  | v :: r, ys, h => by
    cases v <;> simp only [strsOf, reduceCtorEq] at h
    obtain ⟨zs, h1, rfl⟩ := Option.map_eq_some_iff.mp h
    exact .cons _ _ (strsOf_are h1)
theorem intsOf_are : ∀ {vs : List Value} {ys : List Int}, intsOf vs = some ys → IntsAre vs ys
  | [], ys, h => by cases h; exact .nil
  | v :: r, ys, h => by
    cases v <;> simp only [intsOf, reduceCtorEq] at h
    obtain ⟨zs, h1, rfl⟩ := Option.map_eq_some_iff.mp h
    exact .cons _ _ (intsOf_are h1)
theorem tupOf_is {K : Frag} {h : Heap} {t : Addr} {vs : List Value} (X : K.In h) (e : tupOf (K.lookup t) = some vs) : ∃ items : Array Value, IsTup h t items ∧ items.toList = vs := by
  unfold tupOf at e
  split at e
  · rename_i n d items k sl ho
    split at e
    · rename_i hn
      cases e
      exact ⟨items, ⟨_, X _ _ ho, by rw [beq_iff_eq.mp hn], k, rfl⟩, rfl⟩
    · cases e
  · cases e
structure StrTup (P : Params) (t : Addr) (ys : List Str) : Prop where
  ok : ((tupOf ((frag P).lookup t)).bind strsOf) = some ys
section
variable {w : World} {A : Around} {E : Value → Shared → Prop} {s : Shared} {h₀ : Heap} {L : Addr} {m : Str → Option Value}
theorem inS {t : Addr} {ys : List Str} {x : Str} {u : Tok} {Q : Value → Shared → Prop} (T : StrTup w.params t ys) (X : (frag w.params).In h₀) (F : Fr h₀ L s.heap m) (h : Q (.bool (ys.any (· == x))) s) : wpAny (MM w) A (compareOp .In (.str x u) (.ref t)) Q E s := by
  obtain ⟨vs, e1, e2⟩ := Option.bind_eq_some_iff.mp T.ok
  obtain ⟨items, ht, rfl⟩ := tupOf_is (X.keeps F.keep) e1
  exact in_tuple_strs ht (strsOf_are e2) h
theorem ninS {t : Addr} {ys : List Str} {x : Str} {u : Tok} {Q : Value → Shared → Prop} (T : StrTup w.params t ys) (X : (frag w.params).In h₀) (F : Fr h₀ L s.heap m) (h : Q (.bool (!(ys.any (· == x)))) s) : wpAny (MM w) A (compareOp .NotIn (.str x u) (.ref t)) Q E s := by
  obtain ⟨vs, e1, e2⟩ := Option.bind_eq_some_iff.mp T.ok
  obtain ⟨items, ht, rfl⟩ := tupOf_is (X.keeps F.keep) e1
  exact notin_tuple_strs ht (strsOf_are e2) h
theorem inI {t : Addr} {ys : List Int} {x : Int} {u : Tok} {Q : Value → Shared → Prop} (T : ((tupOf ((frag w.params).lookup t)).bind intsOf) = some ys) (X : (frag w.params).In h₀) (F : Fr h₀ L s.heap m) (h : Q (.bool (ys.any (· == x))) s) : wpAny (MM w) A (compareOp .In (.int x u) (.ref t)) Q E s := by
  obtain ⟨vs, e1, e2⟩ := Option.bind_eq_some_iff.mp T
  obtain ⟨items, ht, rfl⟩ := tupOf_is (X.keeps F.keep) e1
  exact in_tuple_ints ht (intsOf_are e2) h
end
noncomputable def softS : List Str := ["_", "case", "match", "type"]
noncomputable def kwS : List Str := (["and", "as", "assert", "async", "await", "break", "class", "continue", "def", "del", "elif", "else", "except", "finally", "for", "from", "global", "if", "\x69mport", "in", "is", "lambda", "nonlocal", "not", "or", "pass", "raise", "return", "try", "while", "with", "yield", "print"] : List String).map Str.ofString
noncomputable def unaS : List Str := [">>", "**", "*", "+", "-"]
noncomputable def ariS : List Str := ["**", "*", "/", "//", "+", "-", "@"]
noncomputable def optS : List Str := ["**", "*", "/", "//", "+", "-", "@", "^", "&", "|", "<<", ">>", "%"]
noncomputable def neeS : List Str := ["**=", "*=", "/=", "//=", "+=", "-=", "!=", "<", ">", "%=", "^=", "&=", "|=", "==", "<=", ">=", "<<=", ">>=", "=", "and", "in", "is", "or", "->", ":="]
noncomputable def whiS : List Str := [" ", "\t", "\u00a0"]
theorem soft_tup {P : Params} : StrTup P 87 softS := ⟨by kernel_rfl⟩
theorem kw_tup {P : Params} : StrTup P 195 kwS := ⟨by kernel_rfl⟩
theorem una_tup {P : Params} : StrTup P 196 unaS := ⟨by kernel_rfl⟩
theorem ari_tup {P : Params} : StrTup P 197 ariS := ⟨by kernel_rfl⟩
theorem opt_tup {P : Params} : StrTup P 198 optS := ⟨by kernel_rfl⟩
theorem nee_tup {P : Params} : StrTup P 199 neeS := ⟨by kernel_rfl⟩
theorem whi_tup {P : Params} : StrTup P 200 whiS := ⟨by kernel_rfl⟩
theorem skip_tup {P : Params} : ((tupOf ((frag P).lookup 201)).bind intsOf) = some [62, 4, 5, 6, 61, 60] := by kernel_rfl
local macro_rules | `(tactic| walk_at "compareOp In") => `(tactic| (k_here; (with_reducible show wpAny _ _ (compareOp CmpOp.In (Value.str _ _) (Value.ref _)) _ _ _); k_dflt (refine' inS ?T ?X ?F ?_; (case T => first | exact soft_tup | exact kw_tup | exact una_tup | exact ari_tup | exact opt_tup | exact nee_tup | exact whi_tup); (case X => k_asm); (case F => k_asm))))
theorem softT {c : Cx} {base : Heap} {news : Led} {x : Str} {tk : Tok} :
    Tells c base news 104 [.str x tk] 2 16 (fun v own => own = [] ∧ v = .bool (softS.any (· == x))) := by
  unfold Tells MM
  k_fill
  intro dp un gd cn cs a ccd cl outer A₀ h₀ L m s Q E B F X N T hk hd hu hret
  refine wpAny_call ?_
  k_dflt cell_enter
  k_steps
  exact hret _ [] _ _ (by assumption) (by assumption) ⟨rfl, rfl⟩
end Mine
end
section
open PySem PySem.W PySem.Spec PySem.Calls PyProof.Rows PyProof.V
set_option maxHeartbeats 8000000
namespace Mine
local macro_rules | `(tactic| k_all) => `(tactic| assumption)
local macro_rules | `(tactic| walk_at "compareOp In") => `(tactic| (k_here; (with_reducible show wpAny _ _ (compareOp CmpOp.In (Value.int _ _) (Value.ref 201)) _ _ _); k_dflt (refine' inI ?T ?X ?F ?_; (case T => exact skip_tup); (case X => k_asm); (case F => k_asm))))
theorem brT5 {x : Str} (h : (false || decide (x = Str.ofString ",") || decide (x = Str.ofString ";") || decide (x = Str.ofString ":")) = true) (hc : x ≠ Str.ofString ",") (n6 : x ≠ Str.ofString ";") (n7 : x ≠ Str.ofString ":") : False := by
  simp only [Bool.false_or, Bool.or_eq_true, decide_eq_true_eq] at h
  rcases h with (h | h) | h
  · exact hc h
  · exact n6 h
  · exact n7 h
section
variable {c : Cx} {base : Heap} {rest : Led} {dp un : Nat} {gd : Option (List Code)} {cn : Str} {cs : Scope} {a₀ : Addr} {ccd : Value} {cl : List (Str × Addr)} {outer : List Env} {L₀ : Addr} {h₀ : Heap} {L : Addr} {s : Shared} {E : Value → Shared → Prop}
  {k pt : Int} {x line : Str} {a b O B nB : Nat} {N PT PE : Value} {t1 t2 t3 t4 t5 t6 : Tok} {u : Str → Option Value} {bv : List Value} {d : Nat}
theorem mS2 (hx : XOk k x) (hbr : BrV bv d) (B' : Below (ktrTop dp un gd cn cs L₀ a₀ ccd cl outer) base (envX cn cs L₀ a₀ ccd cl :: outer) h₀) (X : (frag c.w.params).In h₀) (Tp : Top c.p c.loose c.mean c.mg c.mb h₀) (hk : cs.kind = .function) (hd : dp + 10 < recursionLimit) (hu : un + 128 < cLine)
    (hB : ∀ p ∈ rest, p.1 ≠ B) (F : Fr h₀ L s.heap (kstB u (mPs k x line a b O B N PT PE pt t1 t2 t3 t4))) (Ne : News h₀ L s.heap ((B, listOf bv.toArray nB) :: rest)) :
    wpAny (MM c.w) ((ktrTop dp un gd cn cs L₀ a₀ ccd cl outer).deeper (mEnv L)) (exec (mBody.getD 1 passS) (mEnv L)) (MMid h₀ L rest B d (mPs k x line a b O B N PT PE pt t1 t2 t3 t4) s) E s := by
  obtain ⟨k3, n1, n2, n3, n4, n5, n6, n7, n8, n9⟩ := hx
  unfold MM
  revert X; k_fill; intro X
  unfold mPs at F
  conv in exec _ _ => arg 1; whnf
  rcases k3 with rfl | rfl | rfl
  all_goals k_steps
  all_goals (try contradiction)
  all_goals (try dsimp only)
  all_goals (refine' mmid_end ?qF ?qN ?qB ?qr hbr ?qe ?qp; (case qF => assumption); (case qN => assumption); (case qB => k_mem); (case qr => (intro q hq; repeat (first | exact hq | apply List.Mem.tail))); (case qe => exact rfl); (case qp => exact mPs_ok))
theorem mS3n (hx : XOk k x) (hc : x ≠ Str.ofString ",") (hbr : BrV bv d) (B' : Below (ktrTop dp un gd cn cs L₀ a₀ ccd cl outer) base (envX cn cs L₀ a₀ ccd cl :: outer) h₀) (X : (frag c.w.params).In h₀) (Tp : Top c.p c.loose c.mean c.mg c.mb h₀) (hk : cs.kind = .function) (hd : dp + 10 < recursionLimit) (hu : un + 128 < cLine)
    (hB : ∀ p ∈ rest, p.1 ≠ B) (F : Fr h₀ L s.heap (kstB u (mPs k x line a b O B N PT PE pt t1 t2 t3 t4))) (Ne : News h₀ L s.heap ((B, listOf bv.toArray nB) :: rest)) :
    wpAny (MM c.w) ((ktrTop dp un gd cn cs L₀ a₀ ccd cl outer).deeper (mEnv L)) (exec (mBody.getD 2 passS) (mEnv L)) (MMid h₀ L rest B d (mPs k x line a b O B N PT PE pt t1 t2 t3 t4) s) E s := by
  obtain ⟨k3, n1, n2, n3, n4, n5, n6, n7, n8, n9⟩ := hx
  unfold MM
  revert X; k_fill; intro X
  unfold mPs at F
  conv in exec _ _ => arg 1; whnf
  rcases k3 with rfl | rfl | rfl
  all_goals k_steps
  all_goals (try (exfalso; exact brT5 (by assumption) hc n6 n7))
  all_goals (try dsimp only)
  all_goals (refine' mmid_end ?qF ?qN ?qB ?qr hbr ?qe ?qp; (case qF => assumption); (case qN => assumption); (case qB => k_mem); (case qr => (intro q hq; repeat (first | exact hq | apply List.Mem.tail))); (case qe => exact rfl); (case qp => exact mPs_ok))
theorem mS567 {i : Nat} (hbr : BrV bv d) (B' : Below (ktrTop dp un gd cn cs L₀ a₀ ccd cl outer) base (envX cn cs L₀ a₀ ccd cl :: outer) h₀) (X : (frag c.w.params).In h₀) (Tp : Top c.p c.loose c.mean c.mg c.mb h₀) (hk : cs.kind = .function) (hd : dp + 10 < recursionLimit) (hu : un + 128 < cLine)
    (hB : ∀ p ∈ rest, p.1 ≠ B) (F : Fr h₀ L s.heap (kstB u (mPs k x line a b O B N PT PE pt t1 t2 t3 t4))) (Ne : News h₀ L s.heap ((B, listOf bv.toArray nB) :: rest)) :
    wpAny (MM c.w) ((ktrTop dp un gd cn cs L₀ a₀ ccd cl outer).deeper (mEnv L)) (execs [mBody.getD 4 passS, mBody.getD 5 passS, mBody.getD 6 passS] (mEnv L)) (MMid h₀ L rest B d (mPs k x line a b O B N (.str x t2) (.ref b) k t1 t2 t3 t1) s) E s := by
  unfold MM
  revert X; k_fill; intro X
  unfold mPs at F
  conv in execs _ _ => arg 1; (arg 1; whnf)
  conv in execs _ _ => arg 1; arg 2; (arg 1; whnf)
  conv in execs _ _ => arg 1; arg 2; arg 2; (arg 1; whnf)
  k_steps
  (try dsimp only)
  refine' mmid_end ?qF ?qN ?qB ?qr hbr ?qe ?qp
  (case qF => assumption)
  (case qN => assumption)
  (case qB => k_mem)
  (case qr => (intro q hq; repeat (first | exact hq | apply List.Mem.tail)))
  (case qe => exact rfl)
  (case qp =>
    intro p hp
    unfold mPs at hp
    simp only [List.mem_cons, List.not_mem_nil, or_false] at hp
    rcases hp with rfl | rfl | rfl | rfl | rfl | rfl | rfl | rfl | rfl | rfl | rfl <;> (with_unfolding_all rfl))
end
end Mine
end
section
open PySem PySem.W PySem.Spec PySem.Calls PyProof.Rows PyProof.V
set_option maxHeartbeats 4000000
namespace Mine
abbrev Out := Int × Str
/-- what stays as it is while the generator runs: the world's state, the generators, and a part of the ledger -/
structure OsG where
  o : OsState
  gens : Array GenState
  base : Led
noncomputable def osG (s : Shared) (os : OsG) : Prop := s.os = os.o ∧ s.gens = os.gens
noncomputable def OutV (imm : Led) (v : Value) (o : Out) : Prop := ∃ (D q : Nat) (t t1 t2 : Tok), v = .ref D ∧ (D, tup2 (.ref q) (.str o.2 t)) ∈ imm ∧ (q, tup2 (.int 3 t1) (.int o.1 t2)) ∈ imm
theorem OutV.mono {imm imm' : Led} (h : ∀ p ∈ imm, p ∈ imm') {v : Value} {o : Out} (x : OutV imm v o) : OutV imm' v o := by
  obtain ⟨D, q, t, t1, t2, e, m1, m2⟩ := x
  exact ⟨D, q, t, t1, t2, e, h _ m1, h _ m2⟩
/-- what the list under way holds -/
structure AccOk (outs : List Out) (os : OsG) (imm : Led) (i : Nat) (acc : Array Value) : Prop where
  size : acc.size = i
  rel : AllRel (OutV imm) acc.toList (outs.take i)
  base : ∀ p ∈ os.base, p ∈ imm
theorem AccOk.mono {outs : List Out} {os : OsG} {imm imm' : Led} {i : Nat} {acc : Array Value} (x : AccOk outs os imm i acc) (h : ∀ p ∈ imm, p ∈ imm') : AccOk outs os imm' i acc := ⟨x.size, x.rel.mono fun _ _ y => y.mono h, fun p hp => h p (x.base p hp)⟩
theorem AccOk.push {outs : List Out} {os : OsG} {imm : Led} {i : Nat} {acc : Array Value} {v : Value} {o : Out} (x : AccOk outs os imm i acc) (ho : outs[i]? = some o) (hv : OutV imm v o) : AccOk outs os imm (i + 1) (acc.push v) := by
  refine ⟨by rw [Array.size_push, x.size], ?_, x.base⟩
  rw [Array.toList_push, List.take_add_one, ho]
  exact AllRel.snoc hv x.rel
noncomputable def YY (g : Heap) (L S : Addr) (outs : List Out) (os : OsG) : Protocol := fun m _ v s' kap =>
  ∃ (i : Nat) (acc : Array Value) (cc : Nat) (imm : Led) (mm : Str → Option Value) (o : Out), i + m + 1 = outs.length ∧ Fr g L s'.heap mm ∧ News g L s'.heap ((S, lobj acc cc) :: imm) ∧ (∀ p ∈ imm, p.1 ≠ S) ∧ AccOk outs os imm i acc ∧ outs[i]? = some o ∧ OutV imm v o ∧ osG s' os ∧
    ∀ (s'' : Shared) c', Fr g L s''.heap mm → News g L s''.heap ((S, lobj (acc.push v) c') :: imm) → osG s'' os → kap (.send .none) s''
noncomputable def RR (g : Heap) (L S : Addr) (outs : List Out) (os : OsG) : GenEnd := fun n _ r s₁ => r = .ok (.ret .none) ∧ (n = 0 ∧ ∃ (acc : Array Value) (cc : Nat) (imm : Led) (mm : Str → Option Value), Fr g L s₁.heap mm ∧ News g L s₁.heap ((S, lobj acc cc) :: imm) ∧ AccOk outs os imm outs.length acc ∧ osG s₁ os)
section
variable {M : Model} {A A' : Around} {R : GenEnd} {Y : Protocol} {n : Nat} {s₀ : Shared} {c : Code} {fs : List Frame} {s : Shared} {env : Env}
  {K : Flow → Sem Fin} {H : Value → Sem Fin} {gd : Bool → Bool} {lv : List Value → List Value}
theorem sg_app (hA : A.over c fs = A') (as : List Stmt) {rest : List Stmt}
    (h : ∀ E, wpAny M A' (execs as env) (fun f s' => f = .next ∧ Seg M A R Y n s₀ c ((execs rest env).wrap K H gd lv) fs s') E s) :
    Seg M A R Y n s₀ c ((execs (as ++ rest) env).wrap K H gd lv) fs s := by
  subst hA
  refine seg_execs_app as (wpAny_mono (h _) (fun f s' h' => ?_) fun _ _ x => x)
  obtain ⟨rfl, h'⟩ := h'
  exact h'
theorem sg_stmt (hA : A.over c fs = A') {st : Stmt} {rest : List Stmt}
    (h : ∀ E, wpAny M A' (exec st env) (fun f s' => f = .next ∧ Seg M A R Y n s₀ c ((execs rest env).wrap K H gd lv) fs s') E s) :
    Seg M A R Y n s₀ c ((execs (st :: rest) env).wrap K H gd lv) fs s := by
  subst hA
  refine seg_stmt (wpAny_mono (h _) (fun f s' h' => ?_) fun _ _ x => x)
  obtain ⟨rfl, h'⟩ := h'
  exact h'
/-- behind the test of an if -/
structure IfK (M : Model) (A : Around) (R : GenEnd) (Y : Protocol) (n : Nat) (s₀ : Shared) (c : Code) (fs : List Frame) (env : Env) (K : Flow → Sem Fin) (H : Value → Sem Fin) (gd : Bool → Bool) (lv : List Value → List Value) (body orelse rest : List Stmt) (b : Bool) (s : Shared) : Prop where
  yes : b = true → Seg M A R Y n s₀ c ((execs body env).wrap (fun f => match f with | .next => (execs rest env).wrap K H gd lv | f => K f) H gd lv) fs s
  no : b = false → Seg M A R Y n s₀ c ((execs orelse env).wrap (fun f => match f with | .next => (execs rest env).wrap K H gd lv | f => K f) H gd lv) fs s
theorem sg_If (hA : A.over c fs = A') {test : Expr} {body orelse rest : List Stmt} {pos : Pos}
    (h : ∀ E, wpAny M A' (isTrue test env (eval test env)) (fun b s' => IfK M A R Y n s₀ c fs env K H gd lv body orelse rest b s') E s) :
    Seg M A R Y n s₀ c ((execs (.If test body orelse pos :: rest) env).wrap K H gd lv) fs s := by
  subst hA
  exact seg_execs_cons (seg_If (wpAny_mono (h _) (fun b s' h' => ⟨h'.yes, h'.no⟩) fun _ _ x => x))
/-- at a yield: the value is the next one that is due, and from any state behind it the rest goes on -/
noncomputable def YK (M : Model) (A : Around) (R : GenEnd) (g : Heap) (L S : Addr) (outs : List Out) (os : OsG) (n : Nat) (c : Code) (fs : List Frame) (k : Sem Fin) (v : Value) (s' : Shared) : Prop :=
  ∃ (i : Nat) (acc : Array Value) (cc : Nat) (imm : Led) (mm : Str → Option Value) (o : Out), i + n + 1 = outs.length ∧ Fr g L s'.heap mm ∧ News g L s'.heap ((S, lobj acc cc) :: imm) ∧ (∀ p ∈ imm, p.1 ≠ S) ∧ AccOk outs os imm i acc ∧ outs[i]? = some o ∧ OutV imm v o ∧ osG s' os ∧
    ∀ (s'' : Shared) c', Fr g L s''.heap mm → News g L s''.heap ((S, lobj (acc.push v) c') :: imm) → osG s'' os → Seg M A R (YY g L S outs os) n s'' c k fs s''
theorem sg_yield {g : Heap} {L S : Addr} {outs : List Out} {os : OsG} (hA : A.over c fs = A') {e : Expr} {ypos pos : Pos} {rest : List Stmt} (hfs : splitAtGen fs = none) (hgd : gd false = false) (hfg : fs.any Frame.guarded = false)
    (h : ∀ E, wpAny M A' (eval e env) (YK M A R g L S outs os n c fs ((execs rest env).wrap K H gd lv)) E s) (hco : env.scope.isCoroutine = false := by rfl) (hi : interactive env = false := by rfl) :
    Seg M A R (YY g L S outs os) (n + 1) s₀ c ((execs (.Expr (.Yield (some e) ypos) pos :: rest) env).wrap K H gd lv) fs s := by
  subst hA
  refine seg_execs_cons (seg_Expr_Yield hfs hgd hfg (wpAny_mono (h _) (fun v s' h' => ?_) fun _ _ x => x) hco hi)
  intro kap hkap
  obtain ⟨i, acc, cc, imm, mm, o, h1, h2, h3, h4, h5, h6, h7, h8, h9⟩ := h'
  exact ⟨i, acc, cc, imm, mm, o, h1, h2, h3, h4, h5, h6, h7, h8, fun s'' c' a b d => hkap .none s'' (h9 s'' c' a b d)⟩
end
end Mine
end
section
namespace Mine
local macro_rules | `(tactic| walk_at "zz0") => `(tactic| fail)
open PySem PySem.W PySem.Spec PySem.Calls PyProof.Rows PyProof.V
set_option maxHeartbeats 8000000
noncomputable def yExp : Stmt → Expr
  | .Expr (.Yield (some e) _) _ => e
  | _ => .Name Str.empty ⟨0, 0, 0, 0⟩
noncomputable abbrev st4 : Stmt := mBody.getD 3 passS
noncomputable abbrev st41 : Stmt := (ifBody st4).getD 0 passS
noncomputable abbrev st43 : Stmt := (ifBody st41).getD 0 passS
noncomputable abbrev st42 : Stmt := (ifElse st41).getD 0 passS
noncomputable abbrev st44 : Stmt := (ifElse st42).getD 0 passS
noncomputable abbrev st45 : Stmt := (ifElse st44).getD 0 passS
noncomputable def inP (x : Str) : Bool := (false || decide (x = Str.ofString ",") || decide (x = Str.ofString ")") || decide (x = Str.ofString ":"))
noncomputable def c2 (px x : Str) : Bool := ((px == Str.ofString "/") && inP x) || ((px == Str.ofString ")") && (x == Str.ofString ":"))
theorem c2_1 {px x : Str} (h1 : (px == Str.ofString "/") = true) (h2 : inP x = true) : true = c2 px x := by unfold c2; rw [h1, h2]; rfl
theorem c2_2 {px x : Str} (h3 : (px == Str.ofString ")") = true) (h4 : (x == Str.ofString ":") = true) : true = c2 px x := by unfold c2; rw [h3, h4]; simp
theorem c2_3 {px x : Str} (h2 : inP x = false) (h4 : (x == Str.ofString ":") = false) : false = c2 px x := by unfold c2; rw [h2, h4]; simp
theorem c2_4 {px x : Str} (h2 : inP x = false) (h3 : (px == Str.ofString ")") = false) : false = c2 px x := by unfold c2; rw [h2, h3]; simp
theorem c2_5 {px x : Str} (h1 : (px == Str.ofString "/") = false) (h4 : (x == Str.ofString ":") = false) : false = c2 px x := by unfold c2; rw [h1, h4]; simp
theorem c2_6 {px x : Str} (h1 : (px == Str.ofString "/") = false) (h3 : (px == Str.ofString ")") = false) : false = c2 px x := by unfold c2; rw [h1, h3]; rfl
noncomputable def EE (h₀ : Heap) (L : Addr) (led : Led) (m : Str → Option Value) (q : Nat) (msg : Str) (s : Shared) (v : Value) (s' : Shared) : Prop := ∃ (h' : Heap) (tk' D : Nat) (t : Tok), v = .ref D ∧ s' = { s with heap := h', toks := tk' } ∧ Fr h₀ L h' m ∧ News h₀ L h' ((D, tup2 (.ref q) (.str msg t)) :: led)
theorem ee_end {h₀ h' : Heap} {L : Addr} {led full : Led} {m : Str → Option Value} {q D : Nat} {msg : Str} {t : Tok} {s : Shared} {tk' : Nat} (F : Fr h₀ L h' m) (N : News h₀ L h' full) (mD : (D, tup2 (.ref q) (.str msg t)) ∈ full) (hs : ∀ p ∈ led, p ∈ full) : EE h₀ L led m q msg s (.ref D) { s with heap := h', toks := tk' } :=
  ⟨h', tk', D, t, rfl, rfl, F, fun p hp => (List.mem_cons.mp hp).elim (fun e => e ▸ N _ mD) fun h => N p (hs p h)⟩
local macro_rules | `(tactic| k_mem) => `(tactic| assumption)
local macro_rules | `(tactic| k_all) => `(tactic| assumption)
local macro_rules | `(tactic| walk_at "compareOp NotEq ref bool") => `(tactic| (k_here; (with_reducible show wpAny _ _ (compareOp CmpOp.NotEq (Value.ref _) (Value.bool _)) _ _ _); k_dflt (refine ne_dataH (by ke_read) (by ke_read) (by ke_shaped) (by ke_shaped) (by ktr_units) ?_); ke_norm))
local macro_rules | `(tactic| walk_at "compareOp Eq ref bool") => `(tactic| (k_here; (with_reducible show wpAny _ _ (compareOp CmpOp.Eq (Value.ref _) (Value.bool _)) _ _ _); k_dflt (refine eq_dataH (by ke_read) (by ke_read) (by ke_shaped) (by ke_shaped) (by ktr_units) ?_); ke_norm))
local macro_rules | `(tactic| walk_at "compareOp NotEq ref ref") => `(tactic| (k_here; (with_reducible show wpAny _ _ (compareOp CmpOp.NotEq (Value.ref _) (Value.ref _)) _ _ _); k_dflt (refine ne_dataH (by ke_read) (by ke_read) (by ke_shaped) (by ke_shaped) (by ktr_units) ?_); ke_norm))
section
variable {c : Cx} {base : Heap} {imm : Led} {dp un : Nat} {gd : Option (List Code)} {cn : Str} {cs : Scope} {a₀ : Addr} {ccd : Value} {cl : List (Str × Addr)} {outer : List Env} {L₀ : Addr} {h₀ : Heap} {L : Addr} {s : Shared} {E : Value → Shared → Prop}
  {k pt : Int} {x line px : Str} {a b O B D q pq : Nat} {N PT PE : Value} {t1 t2 t3 t4 t5 t6 u1 u2 u3 u4 u5 u6 u7 u8 u9 : Tok} {u : Str → Option Value} {p pe s1 e1 : Int} {bb : Bool}
theorem T0p (B' : Below (ktrTop dp un gd cn cs L₀ a₀ ccd cl outer) base (envX cn cs L₀ a₀ ccd cl :: outer) h₀) (X : (frag c.w.params).In h₀) (Tp : Top c.p c.loose c.mean c.mg c.mb h₀) (hk : cs.kind = .function) (hd : dp + 10 < recursionLimit) (hu : un + 128 < cLine)
    (F : Fr h₀ L s.heap (kstB u (mPs k x line a b O B (.ref D) PT PE pt t1 t2 t3 t4))) (Ne : News h₀ L s.heap ((D, tup2 (.ref q) (.bool bb)) :: imm)) :
    wpAny (MM c.w) ((ktrTop dp un gd cn cs L₀ a₀ ccd cl outer).deeper (mEnv L)) (isTrue (ifTest st4) (mEnv L) (eval (ifTest st4) (mEnv L))) (TE h₀ L ((D, tup2 (.ref q) (.bool bb)) :: imm) (kstB u (mPs k x line a b O B (.ref D) PT PE pt t1 t2 t3 t4)) true s) E s := by
  unfold MM
  revert X; k_fill; intro X
  unfold mPs at F ⊢
  conv in isTrue _ _ _ => arg 1; whnf
  conv in eval (ifTest _) _ => arg 1; whnf
  k_steps
  all_goals (try dsimp only)
  all_goals (refine' te_end ?qF ?qN ?qs ?qe; (case qF => assumption); (case qN => assumption); (case qs => (intro q hq; repeat (first | exact hq | apply List.Mem.tail))); (case qe => rfl))
theorem T0y (B' : Below (ktrTop dp un gd cn cs L₀ a₀ ccd cl outer) base (envX cn cs L₀ a₀ ccd cl :: outer) h₀) (X : (frag c.w.params).In h₀) (Tp : Top c.p c.loose c.mean c.mg c.mb h₀) (hk : cs.kind = .function) (hd : dp + 10 < recursionLimit) (hu : un + 128 < cLine)
    (F : Fr h₀ L s.heap (kstB u (mPs k x line a b O B (.bool true) PT PE pt t1 t2 t3 t4))) (Ne : News h₀ L s.heap (imm)) :
    wpAny (MM c.w) ((ktrTop dp un gd cn cs L₀ a₀ ccd cl outer).deeper (mEnv L)) (isTrue (ifTest st4) (mEnv L) (eval (ifTest st4) (mEnv L))) (TE h₀ L (imm) (kstB u (mPs k x line a b O B (.bool true) PT PE pt t1 t2 t3 t4)) true s) E s := by
  unfold MM
  revert X; k_fill; intro X
  unfold mPs at F ⊢
  conv in isTrue _ _ _ => arg 1; whnf
  conv in eval (ifTest _) _ => arg 1; whnf
  k_steps
  all_goals (try dsimp only)
  all_goals (refine' te_end ?qF ?qN ?qs ?qe; (case qF => assumption); (case qN => assumption); (case qs => (intro q hq; repeat (first | exact hq | apply List.Mem.tail))); (case qe => rfl))
theorem T0n (B' : Below (ktrTop dp un gd cn cs L₀ a₀ ccd cl outer) base (envX cn cs L₀ a₀ ccd cl :: outer) h₀) (X : (frag c.w.params).In h₀) (Tp : Top c.p c.loose c.mean c.mg c.mb h₀) (hk : cs.kind = .function) (hd : dp + 10 < recursionLimit) (hu : un + 128 < cLine)
    (F : Fr h₀ L s.heap (kstB u (mPs k x line a b O B (.bool false) PT PE pt t1 t2 t3 t4))) (Ne : News h₀ L s.heap (imm)) :
    wpAny (MM c.w) ((ktrTop dp un gd cn cs L₀ a₀ ccd cl outer).deeper (mEnv L)) (isTrue (ifTest st4) (mEnv L) (eval (ifTest st4) (mEnv L))) (TE h₀ L (imm) (kstB u (mPs k x line a b O B (.bool false) PT PE pt t1 t2 t3 t4)) false s) E s := by
  unfold MM
  revert X; k_fill; intro X
  unfold mPs at F ⊢
  conv in isTrue _ _ _ => arg 1; whnf
  conv in eval (ifTest _) _ => arg 1; whnf
  k_steps
  all_goals (try dsimp only)
  all_goals (refine' te_end ?qF ?qN ?qs ?qe; (case qF => assumption); (case qN => assumption); (case qs => (intro q hq; repeat (first | exact hq | apply List.Mem.tail))); (case qe => rfl))
theorem T1 (B' : Below (ktrTop dp un gd cn cs L₀ a₀ ccd cl outer) base (envX cn cs L₀ a₀ ccd cl :: outer) h₀) (X : (frag c.w.params).In h₀) (Tp : Top c.p c.loose c.mean c.mg c.mb h₀) (hk : cs.kind = .function) (hd : dp + 10 < recursionLimit) (hu : un + 128 < cLine)
    (F : Fr h₀ L s.heap (kstB u (mPs k x line a b O B N PT (.ref pq) pt t1 t2 t3 t4))) (Ne : News h₀ L s.heap ((pq, tup2 (.int 3 u3) (.int pe u4)) :: (a, tup2 (.int 3 u5) (.int s1 u6)) :: imm)) :
    wpAny (MM c.w) ((ktrTop dp un gd cn cs L₀ a₀ ccd cl outer).deeper (mEnv L)) (isTrue (ifTest st41) (mEnv L) (eval (ifTest st41) (mEnv L))) (TE h₀ L ((pq, tup2 (.int 3 u3) (.int pe u4)) :: (a, tup2 (.int 3 u5) (.int s1 u6)) :: imm) (kstB u (mPs k x line a b O B N PT (.ref pq) pt t1 t2 t3 t4)) (!(s1 == pe)) s) E s := by
  unfold MM
  revert X; k_fill; intro X
  unfold mPs at F ⊢
  conv in isTrue _ _ _ => arg 1; whnf
  conv in eval (ifTest _) _ => arg 1; whnf
  k_steps
  all_goals (try dsimp only)
  all_goals (refine' te_end ?qF ?qN ?qs ?qe; (case qF => assumption); (case qN => assumption); (case qs => (intro q hq; repeat (first | exact hq | apply List.Mem.tail))); (case qe => first | rfl | simp [*]))
theorem T2 (B' : Below (ktrTop dp un gd cn cs L₀ a₀ ccd cl outer) base (envX cn cs L₀ a₀ ccd cl :: outer) h₀) (X : (frag c.w.params).In h₀) (Tp : Top c.p c.loose c.mean c.mg c.mb h₀) (hk : cs.kind = .function) (hd : dp + 10 < recursionLimit) (hu : un + 128 < cLine)
    (F : Fr h₀ L s.heap (kstB u (mPs k x line a b O B N (.str px u9) PE pt t1 t2 t3 t4))) (Ne : News h₀ L s.heap (imm)) :
    wpAny (MM c.w) ((ktrTop dp un gd cn cs L₀ a₀ ccd cl outer).deeper (mEnv L)) (isTrue (ifTest st42) (mEnv L) (eval (ifTest st42) (mEnv L))) (TE h₀ L (imm) (kstB u (mPs k x line a b O B N (.str px u9) PE pt t1 t2 t3 t4)) (c2 px x) s) E s := by
  unfold MM
  revert X; k_fill; intro X
  unfold mPs at F ⊢
  conv in isTrue _ _ _ => arg 1; whnf
  conv in eval (ifTest _) _ => arg 1; whnf
  k_steps
  all_goals (try dsimp only)
  all_goals (refine' te_end ?qF ?qN ?qs ?qe; (case qF => assumption); (case qN => assumption); (case qs => (intro q hq; repeat (first | exact hq | apply List.Mem.tail))); (case qe => first | exact c2_1 (by assumption) (by assumption) | exact c2_2 (by assumption) (by assumption) | exact c2_3 (by assumption) (by assumption) | exact c2_4 (by assumption) (by assumption) | exact c2_5 (by assumption) (by assumption) | exact c2_6 (by assumption) (by assumption)))
theorem T3p (B' : Below (ktrTop dp un gd cn cs L₀ a₀ ccd cl outer) base (envX cn cs L₀ a₀ ccd cl :: outer) h₀) (X : (frag c.w.params).In h₀) (Tp : Top c.p c.loose c.mean c.mg c.mb h₀) (hk : cs.kind = .function) (hd : dp + 10 < recursionLimit) (hu : un + 128 < cLine)
    (F : Fr h₀ L s.heap (kstB u (mPs k x line a b O B (.ref D) PT PE pt t1 t2 t3 t4))) (Ne : News h₀ L s.heap ((D, tup2 (.ref q) (.bool bb)) :: (q, tup2 (.int 3 u1) (.int p u2)) :: imm)) :
    wpAny (MM c.w) ((ktrTop dp un gd cn cs L₀ a₀ ccd cl outer).deeper (mEnv L)) (isTrue (ifTest st43) (mEnv L) (eval (ifTest st43) (mEnv L))) (TE h₀ L ((D, tup2 (.ref q) (.bool bb)) :: (q, tup2 (.int 3 u1) (.int p u2)) :: imm) (kstB u (mPs k x line a b O B (.ref D) PT PE pt t1 t2 t3 t4)) (!bb) s) E s := by
  unfold MM
  revert X; k_fill; intro X
  unfold mPs at F ⊢
  conv in isTrue _ _ _ => arg 1; whnf
  conv in eval (ifTest _) _ => arg 1; whnf
  k_steps
  all_goals (try dsimp only)
  all_goals (refine' te_end ?qF ?qN ?qs ?qe; (case qF => assumption); (case qN => assumption); (case qs => (intro q hq; repeat (first | exact hq | apply List.Mem.tail))); (case qe => first | rfl | simp [*]))
theorem T3y (B' : Below (ktrTop dp un gd cn cs L₀ a₀ ccd cl outer) base (envX cn cs L₀ a₀ ccd cl :: outer) h₀) (X : (frag c.w.params).In h₀) (Tp : Top c.p c.loose c.mean c.mg c.mb h₀) (hk : cs.kind = .function) (hd : dp + 10 < recursionLimit) (hu : un + 128 < cLine)
    (F : Fr h₀ L s.heap (kstB u (mPs k x line a b O B (.bool true) PT PE pt t1 t2 t3 t4))) (Ne : News h₀ L s.heap (imm)) :
    wpAny (MM c.w) ((ktrTop dp un gd cn cs L₀ a₀ ccd cl outer).deeper (mEnv L)) (isTrue (ifTest st43) (mEnv L) (eval (ifTest st43) (mEnv L))) (TE h₀ L (imm) (kstB u (mPs k x line a b O B (.bool true) PT PE pt t1 t2 t3 t4)) false s) E s := by
  unfold MM
  revert X; k_fill; intro X
  unfold mPs at F ⊢
  conv in isTrue _ _ _ => arg 1; whnf
  conv in eval (ifTest _) _ => arg 1; whnf
  k_steps
  all_goals (try dsimp only)
  all_goals (refine' te_end ?qF ?qN ?qs ?qe; (case qF => assumption); (case qN => assumption); (case qs => (intro q hq; repeat (first | exact hq | apply List.Mem.tail))); (case qe => first | rfl | simp [*]))
theorem T4p (B' : Below (ktrTop dp un gd cn cs L₀ a₀ ccd cl outer) base (envX cn cs L₀ a₀ ccd cl :: outer) h₀) (X : (frag c.w.params).In h₀) (Tp : Top c.p c.loose c.mean c.mg c.mb h₀) (hk : cs.kind = .function) (hd : dp + 10 < recursionLimit) (hu : un + 128 < cLine)
    (F : Fr h₀ L s.heap (kstB u (mPs k x line a b O B (.ref D) PT PE pt t1 t2 t3 t4))) (Ne : News h₀ L s.heap ((D, tup2 (.ref q) (.bool bb)) :: (q, tup2 (.int 3 u1) (.int p u2)) :: imm)) :
    wpAny (MM c.w) ((ktrTop dp un gd cn cs L₀ a₀ ccd cl outer).deeper (mEnv L)) (isTrue (ifTest st44) (mEnv L) (eval (ifTest st44) (mEnv L))) (TE h₀ L ((D, tup2 (.ref q) (.bool bb)) :: (q, tup2 (.int 3 u1) (.int p u2)) :: imm) (kstB u (mPs k x line a b O B (.ref D) PT PE pt t1 t2 t3 t4)) bb s) E s := by
  unfold MM
  revert X; k_fill; intro X
  unfold mPs at F ⊢
  conv in isTrue _ _ _ => arg 1; whnf
  conv in eval (ifTest _) _ => arg 1; whnf
  k_steps
  all_goals (try dsimp only)
  all_goals (refine' te_end ?qF ?qN ?qs ?qe; (case qF => assumption); (case qN => assumption); (case qs => (intro q hq; repeat (first | exact hq | apply List.Mem.tail))); (case qe => first | rfl | simp [*]))
theorem T4y (B' : Below (ktrTop dp un gd cn cs L₀ a₀ ccd cl outer) base (envX cn cs L₀ a₀ ccd cl :: outer) h₀) (X : (frag c.w.params).In h₀) (Tp : Top c.p c.loose c.mean c.mg c.mb h₀) (hk : cs.kind = .function) (hd : dp + 10 < recursionLimit) (hu : un + 128 < cLine)
    (F : Fr h₀ L s.heap (kstB u (mPs k x line a b O B (.bool true) PT PE pt t1 t2 t3 t4))) (Ne : News h₀ L s.heap (imm)) :
    wpAny (MM c.w) ((ktrTop dp un gd cn cs L₀ a₀ ccd cl outer).deeper (mEnv L)) (isTrue (ifTest st44) (mEnv L) (eval (ifTest st44) (mEnv L))) (TE h₀ L (imm) (kstB u (mPs k x line a b O B (.bool true) PT PE pt t1 t2 t3 t4)) true s) E s := by
  unfold MM
  revert X; k_fill; intro X
  unfold mPs at F ⊢
  conv in isTrue _ _ _ => arg 1; whnf
  conv in eval (ifTest _) _ => arg 1; whnf
  k_steps
  all_goals (try dsimp only)
  all_goals (refine' te_end ?qF ?qN ?qs ?qe; (case qF => assumption); (case qN => assumption); (case qs => (intro q hq; repeat (first | exact hq | apply List.Mem.tail))); (case qe => first | rfl | simp [*]))
theorem T5 (B' : Below (ktrTop dp un gd cn cs L₀ a₀ ccd cl outer) base (envX cn cs L₀ a₀ ccd cl :: outer) h₀) (X : (frag c.w.params).In h₀) (Tp : Top c.p c.loose c.mean c.mg c.mb h₀) (hk : cs.kind = .function) (hd : dp + 10 < recursionLimit) (hu : un + 128 < cLine)
    (F : Fr h₀ L s.heap (kstB u (mPs k x line a b O B N (.str px u9) PE pt t1 t2 t3 t4))) (Ne : News h₀ L s.heap (imm)) :
    wpAny (MM c.w) ((ktrTop dp un gd cn cs L₀ a₀ ccd cl outer).deeper (mEnv L)) (isTrue (ifTest st45) (mEnv L) (eval (ifTest st45) (mEnv L))) (TE h₀ L (imm) (kstB u (mPs k x line a b O B N (.str px u9) PE pt t1 t2 t3 t4)) (!(px == Str.ofString "**")) s) E s := by
  unfold MM
  revert X; k_fill; intro X
  unfold mPs at F ⊢
  conv in isTrue _ _ _ => arg 1; whnf
  conv in eval (ifTest _) _ => arg 1; whnf
  k_steps
  all_goals (try dsimp only)
  all_goals (refine' te_end ?qF ?qN ?qs ?qe; (case qF => assumption); (case qN => assumption); (case qs => (intro q hq; repeat (first | exact hq | apply List.Mem.tail))); (case qe => first | rfl | simp [*]))
end
open PySem PySem.W PySem.Spec PySem.Calls PyProof.Rows PyProof.V
set_option maxHeartbeats 8000000
section
variable {c : Cx} {base : Heap} {imm : Led} {dp un : Nat} {gd : Option (List Code)} {cn : Str} {cs : Scope} {a₀ : Addr} {ccd : Value} {cl : List (Str × Addr)} {outer : List Env} {L₀ : Addr} {h₀ : Heap} {L : Addr} {s : Shared} {E : Value → Shared → Prop}
  {k pt : Int} {x line px : Str} {a b O B D q pq : Nat} {N PT PE : Value} {t1 t2 t3 t4 t5 t6 u1 u2 u3 u4 u5 u6 u7 u8 u9 : Tok} {u : Str → Option Value} {p pe s1 e1 : Int} {bb : Bool}
theorem Y1 (B' : Below (ktrTop dp un gd cn cs L₀ a₀ ccd cl outer) base (envX cn cs L₀ a₀ ccd cl :: outer) h₀) (X : (frag c.w.params).In h₀) (Tp : Top c.p c.loose c.mean c.mg c.mb h₀) (hk : cs.kind = .function) (hd : dp + 10 < recursionLimit) (hu : un + 128 < cLine)
    (F : Fr h₀ L s.heap (kstB u (mPs k x line a b O B (.ref D) PT PE pt t1 t2 t3 t4))) (Ne : News h₀ L s.heap ((D, tup2 (.ref q) (.bool bb)) :: (q, tup2 (.int 3 u1) (.int p u2)) :: imm)) :
    wpAny (MM c.w) ((ktrTop dp un gd cn cs L₀ a₀ ccd cl outer).deeper (mEnv L)) (eval (yExp ((ifBody st43).getD 0 passS)) (mEnv L)) (EE h₀ L ((D, tup2 (.ref q) (.bool bb)) :: (q, tup2 (.int 3 u1) (.int p u2)) :: imm) (kstB u (mPs k x line a b O B (.ref D) PT PE pt t1 t2 t3 t4)) q m225 s) E s := by
  unfold MM
  revert X; k_fill; intro X
  unfold mPs at F ⊢
  conv in eval _ _ => arg 1; whnf
  k_steps
  all_goals (try dsimp only)
  all_goals (refine' ee_end ?qF ?qN ?qD ?qs; (case qF => assumption); (case qN => assumption); (case qD => k_mem); (case qs => (intro q hq; repeat (first | exact hq | apply List.Mem.tail))))
theorem Y2 (B' : Below (ktrTop dp un gd cn cs L₀ a₀ ccd cl outer) base (envX cn cs L₀ a₀ ccd cl :: outer) h₀) (X : (frag c.w.params).In h₀) (Tp : Top c.p c.loose c.mean c.mg c.mb h₀) (hk : cs.kind = .function) (hd : dp + 10 < recursionLimit) (hu : un + 128 < cLine)
    (F : Fr h₀ L s.heap (kstB u (mPs k x line a b O B N PT (.ref pq) pt t1 t2 t3 t4))) (Ne : News h₀ L s.heap (imm)) :
    wpAny (MM c.w) ((ktrTop dp un gd cn cs L₀ a₀ ccd cl outer).deeper (mEnv L)) (eval (yExp ((ifBody st44).getD 0 passS)) (mEnv L)) (EE h₀ L (imm) (kstB u (mPs k x line a b O B N PT (.ref pq) pt t1 t2 t3 t4)) pq m225 s) E s := by
  unfold MM
  revert X; k_fill; intro X
  unfold mPs at F ⊢
  conv in eval _ _ => arg 1; whnf
  k_steps
  all_goals (try dsimp only)
  all_goals (refine' ee_end ?qF ?qN ?qD ?qs; (case qF => assumption); (case qN => assumption); (case qD => k_mem); (case qs => (intro q hq; repeat (first | exact hq | apply List.Mem.tail))))
noncomputable def opS (px : Str) : Str × Str := if (px == Str.ofString "%") = true then (Str.ofString "E228", Str.ofString "modulo") else if ariS.any (· == px) = true then (Str.ofString "E226", Str.ofString "arithmetic") else (Str.ofString "E227", Str.ofString "bitwise or shift")
noncomputable def OM (h₀ : Heap) (L : Addr) (led : Led) (ps : List (Str × Value)) (v : Str × Str) (s : Shared) (f : Flow) (s' : Shared) : Prop := f = .next ∧ ∃ (h' : Heap) (tk' : Nat) (m' : Str → Option Value) (ta tb : Tok), s' = { s with heap := h', toks := tk' } ∧ Fr h₀ L h' m' ∧ News h₀ L h' led ∧ m' (Str.ofString "code") = some (.str v.1 ta) ∧ m' (Str.ofString "optype") = some (.str v.2 tb) ∧ ∀ p ∈ ps, m' p.1 = some p.2
theorem om_end {h₀ h' : Heap} {L : Addr} {led full : Led} {ps : List (Str × Value)} {v : Str × Str} {c1 c2 : Str} {s : Shared} {tk' : Nat} {m' : Str → Option Value} {ta tb : Tok} (F : Fr h₀ L h' m') (N : News h₀ L h' full) (hs : ∀ p ∈ led, p ∈ full) (e1 : m' (Str.ofString "code") = some (.str c1 ta)) (e2 : m' (Str.ofString "optype") = some (.str c2 tb)) (hp : ∀ p ∈ ps, m' p.1 = some p.2) (e : v = (c1, c2)) : OM h₀ L led ps v s .next { s with heap := h', toks := tk' } := by
  subst e
  exact ⟨rfl, h', tk', m', ta, tb, rfl, F, fun p hp => N p (hs p hp), e1, e2, hp⟩
local macro_rules | `(tactic| walk_at "compareOp NotIn") => `(tactic| (k_here; (with_reducible show wpAny _ _ (compareOp CmpOp.NotIn (Value.str _ _) (Value.ref 197)) _ _ _); k_dflt (refine' ninS ?T ?X ?F ?_; (case T => exact ari_tup); (case X => k_asm); (case F => k_asm))))
theorem S45 (B' : Below (ktrTop dp un gd cn cs L₀ a₀ ccd cl outer) base (envX cn cs L₀ a₀ ccd cl :: outer) h₀) (X : (frag c.w.params).In h₀) (Tp : Top c.p c.loose c.mean c.mg c.mb h₀) (hk : cs.kind = .function) (hd : dp + 10 < recursionLimit) (hu : un + 128 < cLine)
    (F : Fr h₀ L s.heap (kstB u (mPs k x line a b O B N (.str px u9) PE pt t1 t2 t3 t4))) (Ne : News h₀ L s.heap imm) :
    wpAny (MM c.w) ((ktrTop dp un gd cn cs L₀ a₀ ccd cl outer).deeper (mEnv L)) (execs [(ifBody st45).getD 0 passS, (ifBody st45).getD 1 passS] (mEnv L)) (OM h₀ L imm (mPs k x line a b O B N (.str px u9) PE pt t1 t2 t3 t4) (opS px) s) E s := by
  unfold MM
  revert X; k_fill; intro X
  unfold mPs at F
  conv in execs _ _ => arg 1; (arg 1; whnf)
  conv in execs _ _ => arg 1; arg 2; (arg 1; whnf)
  k_steps
  all_goals (try dsimp only)
  all_goals (refine' om_end ?qF ?qN ?qs ?q1 ?q2 ?qp ?qe; (case qF => assumption); (case qN => assumption); (case qs => (intro q hq; repeat (first | exact hq | apply List.Mem.tail))); (case q1 => with_unfolding_all rfl); (case q2 => with_unfolding_all rfl); (case qp => (intro p hp; unfold mPs at hp; simp only [List.mem_cons, List.not_mem_nil, or_false] at hp; rcases hp with rfl | rfl | rfl | rfl | rfl | rfl | rfl | rfl | rfl | rfl | rfl <;> (with_unfolding_all rfl))); (case qe => (unfold opS; (repeat (first | (refine Eq.trans (if_pos ?_) ?_; focus assumption) | (refine Eq.trans (ite_f ?_) ?_; focus assumption) | (refine Eq.trans (if_neg ?_) ?_; focus assumption))); rfl)))
noncomputable def msgS (px : Str) : Str := if (px == Str.ofString "%") = true then m228 else if ariS.any (· == px) = true then m226 else m227
theorem Y30 {ta tb : Tok} (B' : Below (ktrTop dp un gd cn cs L₀ a₀ ccd cl outer) base (envX cn cs L₀ a₀ ccd cl :: outer) h₀) (X : (frag c.w.params).In h₀) (Tp : Top c.p c.loose c.mean c.mg c.mb h₀) (hk : cs.kind = .function) (hd : dp + 10 < recursionLimit) (hu : un + 128 < cLine)
    (F : Fr h₀ L s.heap (kstB u ((Str.ofString "code", .str (Str.ofString "E228") ta) :: (Str.ofString "optype", .str (Str.ofString "modulo") tb) :: mPs k x line a b O B (.ref D) (.str px u9) PE pt t1 t2 t3 t4))) (Ne : News h₀ L s.heap ((D, tup2 (.ref q) (.bool bb)) :: (q, tup2 (.int 3 u1) (.int p u2)) :: imm)) :
    wpAny (MM c.w) ((ktrTop dp un gd cn cs L₀ a₀ ccd cl outer).deeper (mEnv L)) (eval (yExp ((ifBody st45).getD 2 passS)) (mEnv L)) (EE h₀ L ((D, tup2 (.ref q) (.bool bb)) :: (q, tup2 (.int 3 u1) (.int p u2)) :: imm) (kstB u ((Str.ofString "code", .str (Str.ofString "E228") ta) :: (Str.ofString "optype", .str (Str.ofString "modulo") tb) :: mPs k x line a b O B (.ref D) (.str px u9) PE pt t1 t2 t3 t4)) q m228 s) E s := by
  unfold MM
  revert X; k_fill; intro X
  unfold mPs at F ⊢
  conv in eval _ _ => arg 1; whnf
  k_steps
  all_goals (try dsimp only)
  all_goals (refine' ee_end ?qF ?qN ?qD ?qs; (case qF => assumption); (case qN => assumption); (case qD => k_mem); (case qs => (intro q hq; repeat (first | exact hq | apply List.Mem.tail))))
theorem Y31 {ta tb : Tok} (B' : Below (ktrTop dp un gd cn cs L₀ a₀ ccd cl outer) base (envX cn cs L₀ a₀ ccd cl :: outer) h₀) (X : (frag c.w.params).In h₀) (Tp : Top c.p c.loose c.mean c.mg c.mb h₀) (hk : cs.kind = .function) (hd : dp + 10 < recursionLimit) (hu : un + 128 < cLine)
    (F : Fr h₀ L s.heap (kstB u ((Str.ofString "code", .str (Str.ofString "E227") ta) :: (Str.ofString "optype", .str (Str.ofString "bitwise or shift") tb) :: mPs k x line a b O B (.ref D) (.str px u9) PE pt t1 t2 t3 t4))) (Ne : News h₀ L s.heap ((D, tup2 (.ref q) (.bool bb)) :: (q, tup2 (.int 3 u1) (.int p u2)) :: imm)) :
    wpAny (MM c.w) ((ktrTop dp un gd cn cs L₀ a₀ ccd cl outer).deeper (mEnv L)) (eval (yExp ((ifBody st45).getD 2 passS)) (mEnv L)) (EE h₀ L ((D, tup2 (.ref q) (.bool bb)) :: (q, tup2 (.int 3 u1) (.int p u2)) :: imm) (kstB u ((Str.ofString "code", .str (Str.ofString "E227") ta) :: (Str.ofString "optype", .str (Str.ofString "bitwise or shift") tb) :: mPs k x line a b O B (.ref D) (.str px u9) PE pt t1 t2 t3 t4)) q m227 s) E s := by
  unfold MM
  revert X; k_fill; intro X
  unfold mPs at F ⊢
  conv in eval _ _ => arg 1; whnf
  k_steps
  all_goals (try dsimp only)
  all_goals (refine' ee_end ?qF ?qN ?qD ?qs; (case qF => assumption); (case qN => assumption); (case qD => k_mem); (case qs => (intro q hq; repeat (first | exact hq | apply List.Mem.tail))))
theorem Y32 {ta tb : Tok} (B' : Below (ktrTop dp un gd cn cs L₀ a₀ ccd cl outer) base (envX cn cs L₀ a₀ ccd cl :: outer) h₀) (X : (frag c.w.params).In h₀) (Tp : Top c.p c.loose c.mean c.mg c.mb h₀) (hk : cs.kind = .function) (hd : dp + 10 < recursionLimit) (hu : un + 128 < cLine)
    (F : Fr h₀ L s.heap (kstB u ((Str.ofString "code", .str (Str.ofString "E226") ta) :: (Str.ofString "optype", .str (Str.ofString "arithmetic") tb) :: mPs k x line a b O B (.ref D) (.str px u9) PE pt t1 t2 t3 t4))) (Ne : News h₀ L s.heap ((D, tup2 (.ref q) (.bool bb)) :: (q, tup2 (.int 3 u1) (.int p u2)) :: imm)) :
    wpAny (MM c.w) ((ktrTop dp un gd cn cs L₀ a₀ ccd cl outer).deeper (mEnv L)) (eval (yExp ((ifBody st45).getD 2 passS)) (mEnv L)) (EE h₀ L ((D, tup2 (.ref q) (.bool bb)) :: (q, tup2 (.int 3 u1) (.int p u2)) :: imm) (kstB u ((Str.ofString "code", .str (Str.ofString "E226") ta) :: (Str.ofString "optype", .str (Str.ofString "arithmetic") tb) :: mPs k x line a b O B (.ref D) (.str px u9) PE pt t1 t2 t3 t4)) q m226 s) E s := by
  unfold MM
  revert X; k_fill; intro X
  unfold mPs at F ⊢
  conv in eval _ _ => arg 1; whnf
  k_steps
  all_goals (try dsimp only)
  all_goals (refine' ee_end ?qF ?qN ?qD ?qs; (case qF => assumption); (case qN => assumption); (case qD => k_mem); (case qs => (intro q hq; repeat (first | exact hq | apply List.Mem.tail))))
end
open PySem PySem.W PySem.Spec PySem.Calls PyProof.Rows PyProof.V
set_option maxHeartbeats 8000000
local macro_rules | `(tactic| walk_at "compareOp In") => `(tactic| (k_here; (with_reducible show wpAny _ _ (compareOp CmpOp.In (Value.str _ _) (Value.ref _)) _ _ _); k_dflt (refine' inS ?T ?X ?F ?_; (case T => first | exact soft_tup | exact kw_tup | exact una_tup | exact ari_tup | exact opt_tup | exact nee_tup | exact whi_tup); (case X => k_asm); (case F => k_asm))))
local macro_rules | `(tactic| walk_at "compareOp NotIn") => `(tactic| (k_here; (with_reducible show wpAny _ _ (compareOp CmpOp.NotIn (Value.str _ _) (Value.ref _)) _ _ _); k_dflt (refine' ninS ?T ?X ?F ?_; (case T => first | exact soft_tup | exact kw_tup | exact una_tup | exact ari_tup | exact opt_tup | exact nee_tup | exact whi_tup); (case X => k_asm); (case F => k_asm))))
local macro_rules | `(tactic| walk_at "call ref") => `(tactic| ((with_reducible show wpAny _ _ (call (Value.ref 104) _) _ _ _); refine stop ?_))
noncomputable abbrev st46 : Stmt := (ifElse st4).getD 0 passS
noncomputable abbrev st47 : Stmt := (ifBody st46).getD 0 passS
noncomputable abbrev st48 : Stmt := (ifBody st46).getD 1 passS
noncomputable abbrev st49 : Stmt := (ifElse st48).getD 0 passS
noncomputable abbrev sG1 : Stmt := (ifElse st47).getD 0 passS
noncomputable abbrev sG2 : Stmt := (ifElse sG1).getD 0 passS
noncomputable abbrev sG3 : Stmt := (ifBody sG2).getD 0 passS
noncomputable abbrev sG4 : Stmt := (ifElse sG2).getD 0 passS
noncomputable abbrev sA1 : Stmt := (ifBody sG1).getD 0 passS
noncomputable abbrev sA2 : Stmt := (ifBody sG3).getD 0 passS
noncomputable abbrev sA3 : Stmt := (ifBody sG4).getD 0 passS
theorem sG_if : (∃ p, st47 = .If (ifTest st47) (ifBody st47) (ifElse st47) p) ∧ (∃ p, sG1 = .If (ifTest sG1) (ifBody sG1) (ifElse sG1) p) ∧ (∃ p, sG2 = .If (ifTest sG2) (ifBody sG2) (ifElse sG2) p) ∧ (∃ p, sG3 = .If (ifTest sG3) (ifBody sG3) (ifElse sG3) p) ∧ (∃ p, sG4 = .If (ifTest sG4) (ifBody sG4) (ifElse sG4) p) := ⟨⟨_, rfl⟩, ⟨_, rfl⟩, ⟨_, rfl⟩, ⟨_, rfl⟩, ⟨_, rfl⟩⟩
theorem sG_parts : (∃ p, ifBody st47 = [.Pass p]) ∧ ifElse st47 = [sG1] ∧ ifBody sG1 = [sA1] ∧ ifElse sG1 = [sG2] ∧ ifBody sG2 = [sG3] ∧ ifBody sG3 = [sA2] ∧ ifElse sG3 = [] ∧ ifElse sG2 = [sG4] ∧ ifBody sG4 = [sA3] ∧ ifElse sG4 = [] := ⟨⟨_, rfl⟩, rfl, rfl, rfl, rfl, rfl, rfl, rfl, rfl, rfl⟩
noncomputable abbrev occE (px : Str) : Bool := (Builtin.Str.occurrences (Str.ofString "}])") px 0 (Str.ofString "}])").length 1).isEmpty
noncomputable def nsR (pt : Int) (px x : Str) : Nat :=
  if neeS.any (· == x) = true then 1 else if unaS.any (· == x) = true then (if pt = 54 then (if occE px = true then 0 else 2) else if kwS.any (· == px) = true then 0 else if softS.any (· == px) = true then 0 else 2) else if optS.any (· == x) = true then 2 else 0
noncomputable def nsB (pt : Int) (px x : Str) : Nat → Nat
  | 0 => if (x == Str.ofString "=") = true then nsR pt px x else nsR pt px x
  | 1 => if (x == Str.ofString "=") = true then 0 else nsR pt px x
  | _ => if (x == Str.ofString "=") = true then 0 else nsR pt px x
noncomputable def nsV : Nat → Value
  | 0 => .bool false
  | 1 => .bool true
  | _ => .none
theorem mPs_upd {k pt : Int} {x line : Str} {a b O B : Nat} {N N' PT PE : Value} {t1 t2 t3 t4 : Tok} {u : Str → Option Value} : ∀ p ∈ mPs k x line a b O B N' PT PE pt t1 t2 t3 t4, (fun y => if y = Str.ofString "need_space" then some N' else kstB u (mPs k x line a b O B N PT PE pt t1 t2 t3 t4) y) p.1 = some p.2 := by
  intro p hp
  unfold mPs at hp ⊢
  simp only [List.mem_cons, List.not_mem_nil, or_false] at hp
  rcases hp with rfl | rfl | rfl | rfl | rfl | rfl | rfl | rfl | rfl | rfl | rfl <;> (with_unfolding_all rfl)
section
variable {c : Cx} {base : Heap} {imm : Led} {dp un : Nat} {gd : Option (List Code)} {cn : Str} {cs : Scope} {a₀ : Addr} {ccd : Value} {cl : List (Str × Addr)} {outer : List Env} {L₀ : Addr} {h₀ : Heap} {L : Addr} {s : Shared} {E : Value → Shared → Prop}
  {k pt : Int} {x line px : Str} {a b O B D q pq : Nat} {N PT PE : Value} {t1 t2 t3 t4 t5 t6 u1 u2 u3 u4 u5 u6 u7 u8 u9 : Tok} {u : Str → Option Value} {p pe s1 e1 : Int} {bb : Bool}
noncomputable def G0v (x : Str) (d : Nat) : Bool := (x == Str.ofString "=") && !(d == 0)
theorem nsB_0 {pt : Int} {px x : Str} {d : Nat} (hd : d ≠ 0) (h : (x == Str.ofString "=") = true) : nsB pt px x d = 0 := by
  match d, hd with
  | 0, hd => exact absurd rfl hd
  | 1, _ => simp [nsB, h]
  | n + 2, _ => simp [nsB, h]
theorem nsB_R {pt : Int} {px x : Str} {d : Nat} (e : G0v x d = false) : nsB pt px x d = nsR pt px x := by
  unfold G0v at e
  match d with
  | 0 => simp [nsB]
  | 1 =>
    have e : (x == Str.ofString "=") = false := by simpa using e
    simp only [nsB, e, Bool.false_eq_true, if_false]
  | n + 2 =>
    have e : (x == Str.ofString "=") = false := by simpa using e
    simp only [nsB, e, Bool.false_eq_true, if_false]
theorem G0 {bv : List Value} {d nB : Nat} (hbr : BrV bv d) (B' : Below (ktrTop dp un gd cn cs L₀ a₀ ccd cl outer) base (envX cn cs L₀ a₀ ccd cl :: outer) h₀) (X : (frag c.w.params).In h₀) (Tp : Top c.p c.loose c.mean c.mg c.mb h₀) (hk : cs.kind = .function) (hd : dp + 10 < recursionLimit) (hu : un + 128 < cLine)
    (F : Fr h₀ L s.heap (kstB u (mPs k x line a b O B N PT PE pt t1 t2 t3 t4))) (Ne : News h₀ L s.heap ((B, listOf bv.toArray nB) :: imm)) :
    wpAny (MM c.w) ((ktrTop dp un gd cn cs L₀ a₀ ccd cl outer).deeper (mEnv L)) (isTrue (ifTest st47) (mEnv L) (eval (ifTest st47) (mEnv L))) (TE h₀ L ((B, listOf bv.toArray nB) :: imm) (kstB u (mPs k x line a b O B N PT PE pt t1 t2 t3 t4)) (G0v x d) s) E s := by
  unfold MM
  revert X; k_fill; intro X
  unfold mPs at F ⊢
  conv in isTrue _ _ _ => arg 1; whnf
  conv in eval (ifTest _) _ => arg 1; whnf
  rcases hbr with _ | ⟨t5⟩ | ⟨t5, t6⟩
  all_goals k_steps
  all_goals (try dsimp only)
  all_goals (try contradiction)
  all_goals (refine' te_end ?qF ?qN ?qs ?qe; (case qF => assumption); (case qN => assumption); (case qs => (intro q hq; repeat (first | exact hq | apply List.Mem.tail))); (case qe => (unfold G0v; first | (rw [(by assumption : (x == Str.ofString "=") = true)]; rfl) | (rw [(by assumption : (x == Str.ofString "=") = false)]; rfl))))
theorem G1 (B' : Below (ktrTop dp un gd cn cs L₀ a₀ ccd cl outer) base (envX cn cs L₀ a₀ ccd cl :: outer) h₀) (X : (frag c.w.params).In h₀) (Tp : Top c.p c.loose c.mean c.mg c.mb h₀) (hk : cs.kind = .function) (hd : dp + 10 < recursionLimit) (hu : un + 128 < cLine)
    (F : Fr h₀ L s.heap (kstB u (mPs k x line a b O B N PT PE pt t1 t2 t3 t4))) (Ne : News h₀ L s.heap imm) :
    wpAny (MM c.w) ((ktrTop dp un gd cn cs L₀ a₀ ccd cl outer).deeper (mEnv L)) (isTrue (ifTest sG1) (mEnv L) (eval (ifTest sG1) (mEnv L))) (TE h₀ L imm (kstB u (mPs k x line a b O B N PT PE pt t1 t2 t3 t4)) (neeS.any (· == x)) s) E s := by
  unfold MM
  revert X; k_fill; intro X
  unfold mPs at F ⊢
  conv in isTrue _ _ _ => arg 1; whnf
  conv in eval (ifTest _) _ => arg 1; whnf
  k_steps
  all_goals (try dsimp only)
  all_goals (refine' te_end ?qF ?qN ?qs ?qe; (case qF => assumption); (case qN => assumption); (case qs => (intro q hq; repeat (first | exact hq | apply List.Mem.tail))); (case qe => first | rfl | exact Eq.symm (by assumption)))
theorem G2 (B' : Below (ktrTop dp un gd cn cs L₀ a₀ ccd cl outer) base (envX cn cs L₀ a₀ ccd cl :: outer) h₀) (X : (frag c.w.params).In h₀) (Tp : Top c.p c.loose c.mean c.mg c.mb h₀) (hk : cs.kind = .function) (hd : dp + 10 < recursionLimit) (hu : un + 128 < cLine)
    (F : Fr h₀ L s.heap (kstB u (mPs k x line a b O B N PT PE pt t1 t2 t3 t4))) (Ne : News h₀ L s.heap imm) :
    wpAny (MM c.w) ((ktrTop dp un gd cn cs L₀ a₀ ccd cl outer).deeper (mEnv L)) (isTrue (ifTest sG2) (mEnv L) (eval (ifTest sG2) (mEnv L))) (TE h₀ L imm (kstB u (mPs k x line a b O B N PT PE pt t1 t2 t3 t4)) (unaS.any (· == x)) s) E s := by
  unfold MM
  revert X; k_fill; intro X
  unfold mPs at F ⊢
  conv in isTrue _ _ _ => arg 1; whnf
  conv in eval (ifTest _) _ => arg 1; whnf
  k_steps
  all_goals (try dsimp only)
  all_goals (refine' te_end ?qF ?qN ?qs ?qe; (case qF => assumption); (case qN => assumption); (case qs => (intro q hq; repeat (first | exact hq | apply List.Mem.tail))); (case qe => first | rfl | exact Eq.symm (by assumption)))
theorem G4 (B' : Below (ktrTop dp un gd cn cs L₀ a₀ ccd cl outer) base (envX cn cs L₀ a₀ ccd cl :: outer) h₀) (X : (frag c.w.params).In h₀) (Tp : Top c.p c.loose c.mean c.mg c.mb h₀) (hk : cs.kind = .function) (hd : dp + 10 < recursionLimit) (hu : un + 128 < cLine)
    (F : Fr h₀ L s.heap (kstB u (mPs k x line a b O B N PT PE pt t1 t2 t3 t4))) (Ne : News h₀ L s.heap imm) :
    wpAny (MM c.w) ((ktrTop dp un gd cn cs L₀ a₀ ccd cl outer).deeper (mEnv L)) (isTrue (ifTest sG4) (mEnv L) (eval (ifTest sG4) (mEnv L))) (TE h₀ L imm (kstB u (mPs k x line a b O B N PT PE pt t1 t2 t3 t4)) (optS.any (· == x)) s) E s := by
  unfold MM
  revert X; k_fill; intro X
  unfold mPs at F ⊢
  conv in isTrue _ _ _ => arg 1; whnf
  conv in eval (ifTest _) _ => arg 1; whnf
  k_steps
  all_goals (try dsimp only)
  all_goals (refine' te_end ?qF ?qN ?qs ?qe; (case qF => assumption); (case qN => assumption); (case qs => (intro q hq; repeat (first | exact hq | apply List.Mem.tail))); (case qe => first | rfl | exact Eq.symm (by assumption)))
noncomputable def G3v (pt : Int) (px : Str) : Bool := if pt = 54 then !(occE px) else if kwS.any (· == px) = true then false else !(softS.any (· == px))
theorem G3 (hp8 : 0 < px.length ∧ px.length < 20) (B' : Below (ktrTop dp un gd cn cs L₀ a₀ ccd cl outer) base (envX cn cs L₀ a₀ ccd cl :: outer) h₀) (X : (frag c.w.params).In h₀) (Tp : Top c.p c.loose c.mean c.mg c.mb h₀) (hk : cs.kind = .function) (hd : dp + 10 < recursionLimit) (hu : un + 128 < cLine)
    (F : Fr h₀ L s.heap (kstB u (mPs k x line a b O B N (.str px u9) PE pt t1 t2 t3 t4))) (Ne : News h₀ L s.heap imm) :
    wpAny (MM c.w) ((ktrTop dp un gd cn cs L₀ a₀ ccd cl outer).deeper (mEnv L)) (isTrue (ifTest sG3) (mEnv L) (eval (ifTest sG3) (mEnv L))) (TE h₀ L imm (kstB u (mPs k x line a b O B N (.str px u9) PE pt t1 t2 t3 t4)) (G3v pt px) s) E s := by
  unfold MM
  revert X; k_fill; intro X
  unfold mPs at F ⊢
  conv in isTrue _ _ _ => arg 1; whnf
  conv in eval (ifTest _) _ => arg 1; whnf
  k_steps
  all_goals (try (constructor; ((refine' (softT (c := _) (base := _) (news := _)).use ?k1 ?k2 ?k3 ?k4 ?k5 ?kK ?kd ?ku ?_; (case k1 => k_asm); (case k2 => k_asm); (case k3 => k_asm); (case k4 => k_asm); (case k5 => k_asm); (case kK => first | exact rfl | assumption); (case kd => ktr_room); (case ku => ktr_units))); intro v9 own9 h9 tk9 F9 N9 hR9; obtain ⟨rfl, rfl⟩ := hR9; simp only [List.nil_append] at N9; k_steps))
  all_goals (try dsimp only)
  all_goals (try contradiction)
  all_goals (refine' te_end ?qF ?qN ?qs ?qe; (case qF => assumption); (case qN => assumption); (case qs => (intro q hq; repeat (first | exact hq | apply List.Mem.tail))); (case qe => (symm; unfold G3v; (repeat (first | (refine Eq.trans (if_pos ?_) ?_; focus assumption) | (refine Eq.trans (ite_f ?_) ?_; focus assumption) | (refine Eq.trans (if_neg ?_) ?_; focus assumption))); first | rfl | (simp only [*, Bool.not_true, Bool.not_false]; done) | trace_state)))
theorem GA {st : Stmt} {n : Nat} (hst : (n = 1 ∧ st = sA1) ∨ (n = 2 ∧ st = sA2) ∨ (n = 2 ∧ st = sA3)) {bv : List Value} {d nB : Nat} (hbr : BrV bv d) (B' : Below (ktrTop dp un gd cn cs L₀ a₀ ccd cl outer) base (envX cn cs L₀ a₀ ccd cl :: outer) h₀) (X : (frag c.w.params).In h₀) (Tp : Top c.p c.loose c.mean c.mg c.mb h₀) (hk : cs.kind = .function) (hd : dp + 10 < recursionLimit) (hu : un + 128 < cLine)
    (F : Fr h₀ L s.heap (kstB u (mPs k x line a b O B (.bool false) PT PE pt t1 t2 t3 t4))) (Ne : News h₀ L s.heap ((B, listOf bv.toArray nB) :: imm)) :
    wpAny (MM c.w) ((ktrTop dp un gd cn cs L₀ a₀ ccd cl outer).deeper (mEnv L)) (exec st (mEnv L)) (MMid h₀ L imm B d (mPs k x line a b O B (nsV n) PT PE pt t1 t2 t3 t4) s) E s := by
  unfold MM
  revert X; k_fill; intro X
  unfold mPs at F
  rcases hst with ⟨rfl, rfl⟩ | ⟨rfl, rfl⟩ | ⟨rfl, rfl⟩
  all_goals (conv in exec _ _ => arg 1; whnf)
  all_goals k_steps
  all_goals (try dsimp only)
  all_goals (refine' mmid_end ?qF ?qN ?qB ?qr hbr ?qe ?qp; (case qF => assumption); (case qN => assumption); (case qB => k_mem); (case qr => (intro q hq; repeat (first | exact hq | apply List.Mem.tail))); (case qe => exact rfl); (case qp => exact mPs_upd))
theorem S47 {bv : List Value} {d nB : Nat} (hp8 : 0 < px.length ∧ px.length < 20) (hbr : BrV bv d) (hB : ∀ p ∈ imm, p.1 ≠ B) (B' : Below (ktrTop dp un gd cn cs L₀ a₀ ccd cl outer) base (envX cn cs L₀ a₀ ccd cl :: outer) h₀) (X : (frag c.w.params).In h₀) (Tp : Top c.p c.loose c.mean c.mg c.mb h₀) (hk : cs.kind = .function) (hd : dp + 10 < recursionLimit) (hu : un + 128 < cLine)
    (F : Fr h₀ L s.heap (kstB u (mPs k x line a b O B (.bool false) (.str px u9) PE pt t1 t2 t3 t4))) (Ne : News h₀ L s.heap ((B, listOf bv.toArray nB) :: imm)) :
    wpAny (MM c.w) ((ktrTop dp un gd cn cs L₀ a₀ ccd cl outer).deeper (mEnv L)) (exec st47 (mEnv L)) (MMid h₀ L imm B d (mPs k x line a b O B (nsV (nsB pt px x d)) (.str px u9) PE pt t1 t2 t3 t4) s) E s := by
  obtain ⟨⟨p0, i0⟩, ⟨p1, i1⟩, ⟨p2, i2⟩, ⟨p3, i3⟩, ⟨p4, i4⟩⟩ := sG_if
  obtain ⟨q0, q1, q2, q3, q4, q5, q6, q7, q8, q9⟩ := sG_parts
  have nx : ∀ d' ps (s0 : Shared) f s', MMid h₀ L imm B d' ps s0 f s' → f = .next := fun _ _ _ _ _ h => h.1
  have fin : ∀ (n : Nat) h9 tk9, n = nsB pt px x d → n = 0 → Fr h₀ L h9 (kstB u (mPs k x line a b O B (.bool false) (.str px u9) PE pt t1 t2 t3 t4)) → News h₀ L h9 ((B, listOf bv.toArray nB) :: imm) → MMid h₀ L imm B d (mPs k x line a b O B (nsV (nsB pt px x d)) (.str px u9) PE pt t1 t2 t3 t4) s .next { s with heap := h9, toks := tk9 } :=
    fun n h9 tk9 e e0 F9 N9 => by rw [← e, e0]; exact ⟨rfl, h9, tk9, _, bv, nB, rfl, F9, N9, hbr, mPs_ok⟩
  refine wp_T i0 (fun E => G0 hbr B' X Tp hk hd hu F Ne) (fun e h1 tk1 F1 N1 => ?_) (fun e h1 tk1 F1 N1 => ?_)
  · obtain ⟨pp, q0⟩ := q0
    rw [q0, execs_cons]
    refine wpAny_bind (wpAny_bind (wpAny_standAt (wpAny_pure (wpAny_pure (fin 0 h1 tk1 ?_ rfl F1 N1)))))
    unfold G0v at e
    rw [Bool.and_eq_true] at e
    have ed : d ≠ 0 := by simpa using e.2
    exact (nsB_0 ed e.1).symm
  have eR : nsB pt px x d = nsR pt px x := nsB_R e
  rw [q1]
  refine wp_one (wp_T i1 (fun E => G1 B' X Tp hk hd hu F1 N1) (fun e1 h2 tk2 F2 N2 => ?_) (fun e1 h2 tk2 F2 N2 => ?_)) (nx _ _ _)
  · rw [q2, eR]
    have e9 : nsR pt px x = 1 := by unfold nsR; rw [if_pos e1]
    rw [e9]
    exact wp_one (GA (s := { s with heap := h2, toks := tk2 }) (.inl ⟨rfl, rfl⟩) hbr B' X Tp hk hd hu F2 N2) (nx _ _ _)
  rw [q3]
  refine wp_one (wp_T i2 (fun E => G2 B' X Tp hk hd hu F2 N2) (fun e2 h3 tk3 F3 N3 => ?_) (fun e2 h3 tk3 F3 N3 => ?_)) (nx _ _ _)
  · rw [q4]
    have e8 : nsR pt px x = if G3v pt px = true then 2 else 0 := by
      unfold nsR G3v
      rw [if_neg (by rw [e1]; decide), if_pos e2]
      by_cases c1 : pt = 54
      · rw [if_pos c1, if_pos c1]
        cases occE px <;> rfl
      · rw [if_neg c1, if_neg c1]
        cases kwS.any (· == px) <;> cases softS.any (· == px) <;> rfl
    refine wp_one (wp_T i3 (fun E => G3 hp8 B' X Tp hk hd hu F3 N3) (fun e3 h4 tk4 F4 N4 => ?_) (fun e3 h4 tk4 F4 N4 => ?_)) (nx _ _ _)
    · rw [q5, eR, e8, if_pos e3]
      exact wp_one (GA (s := { s with heap := h4, toks := tk4 }) (.inr (.inl ⟨rfl, rfl⟩)) hbr B' X Tp hk hd hu F4 N4) (nx _ _ _)
    · rw [q6]
      exact wpAny_pure (fin 0 h4 tk4 (by rw [eR, e8, if_neg (by rw [e3]; decide)]) rfl F4 N4)
  rw [q7]
  refine wp_one (wp_T i4 (fun E => G4 B' X Tp hk hd hu F3 N3) (fun e4 h4 tk4 F4 N4 => ?_) (fun e4 h4 tk4 F4 N4 => ?_)) (nx _ _ _)
  · have e9 : nsR pt px x = 2 := by unfold nsR; rw [if_neg (by rw [e1]; decide), if_neg (by rw [e2]; decide), if_pos e4]
    rw [q8, eR, e9]
    exact wp_one (GA (s := { s with heap := h4, toks := tk4 }) (.inr (.inr ⟨rfl, rfl⟩)) hbr B' X Tp hk hd hu F4 N4) (nx _ _ _)
  · have e9 : nsR pt px x = 0 := by unfold nsR; rw [if_neg (by rw [e1]; decide), if_neg (by rw [e2]; decide), if_neg (by rw [e4]; decide)]
    rw [q9]
    exact wpAny_pure (fin 0 h4 tk4 (by rw [eR, e9]) rfl F4 N4)
end
open PySem PySem.W PySem.Spec PySem.Calls PyProof.Rows PyProof.V
set_option maxHeartbeats 8000000
section
variable {c : Cx} {base : Heap} {imm : Led} {dp un : Nat} {gd : Option (List Code)} {cn : Str} {cs : Scope} {a₀ : Addr} {ccd : Value} {cl : List (Str × Addr)} {outer : List Env} {L₀ : Addr} {h₀ : Heap} {L : Addr} {s : Shared} {E : Value → Shared → Prop}
  {k pt : Int} {x line px : Str} {a b O B D q pq : Nat} {N PT PE : Value} {t1 t2 t3 t4 t5 t6 u1 u2 u3 u4 u5 u6 u7 u8 u9 : Tok} {u : Str → Option Value} {p pe s1 e1 : Int} {bb : Bool}
noncomputable def opB (k : Int) : Bool := k == 54 || k == 1
theorem T6s (k3 : k = 1 ∨ k = 2 ∨ k = 54) (B' : Below (ktrTop dp un gd cn cs L₀ a₀ ccd cl outer) base (envX cn cs L₀ a₀ ccd cl :: outer) h₀) (X : (frag c.w.params).In h₀) (Tp : Top c.p c.loose c.mean c.mg c.mb h₀) (hk : cs.kind = .function) (hd : dp + 10 < recursionLimit) (hu : un + 128 < cLine)
    (F : Fr h₀ L s.heap (kstB u (mPs k x line a b O B N PT (.ref pq) pt t1 t2 t3 t4))) (Ne : News h₀ L s.heap ((O, tup2 (.int 54 u1) (.int 1 u2)) :: imm)) :
    wpAny (MM c.w) ((ktrTop dp un gd cn cs L₀ a₀ ccd cl outer).deeper (mEnv L)) (isTrue (ifTest st46) (mEnv L) (eval (ifTest st46) (mEnv L))) (TE h₀ L ((O, tup2 (.int 54 u1) (.int 1 u2)) :: imm) (kstB u (mPs k x line a b O B N PT (.ref pq) pt t1 t2 t3 t4)) (opB k) s) E s := by
  unfold MM
  revert X; k_fill; intro X
  unfold mPs at F ⊢
  conv in isTrue _ _ _ => arg 1; whnf
  conv in eval (ifTest _) _ => arg 1; whnf
  rcases k3 with rfl | rfl | rfl
  all_goals k_steps
  all_goals (try dsimp only)
  all_goals (refine' te_end ?qF ?qN ?qs ?qe; (case qF => assumption); (case qN => assumption); (case qs => (intro q hq; repeat (first | exact hq | apply List.Mem.tail))); (case qe => rfl))
theorem T6n (k3 : k = 1 ∨ k = 2 ∨ k = 54) (B' : Below (ktrTop dp un gd cn cs L₀ a₀ ccd cl outer) base (envX cn cs L₀ a₀ ccd cl :: outer) h₀) (X : (frag c.w.params).In h₀) (Tp : Top c.p c.loose c.mean c.mg c.mb h₀) (hk : cs.kind = .function) (hd : dp + 10 < recursionLimit) (hu : un + 128 < cLine)
    (F : Fr h₀ L s.heap (kstB u (mPs k x line a b O B N PT .none pt t1 t2 t3 t4))) (Ne : News h₀ L s.heap ((O, tup2 (.int 54 u1) (.int 1 u2)) :: imm)) :
    wpAny (MM c.w) ((ktrTop dp un gd cn cs L₀ a₀ ccd cl outer).deeper (mEnv L)) (isTrue (ifTest st46) (mEnv L) (eval (ifTest st46) (mEnv L))) (TE h₀ L ((O, tup2 (.int 54 u1) (.int 1 u2)) :: imm) (kstB u (mPs k x line a b O B N PT .none pt t1 t2 t3 t4)) false s) E s := by
  unfold MM
  revert X; k_fill; intro X
  unfold mPs at F ⊢
  conv in isTrue _ _ _ => arg 1; whnf
  conv in eval (ifTest _) _ => arg 1; whnf
  rcases k3 with rfl | rfl | rfl
  all_goals k_steps
  all_goals (try dsimp only)
  all_goals (refine' te_end ?qF ?qN ?qs ?qe; (case qF => assumption); (case qN => assumption); (case qs => (intro q hq; repeat (first | exact hq | apply List.Mem.tail))); (case qe => rfl))
theorem T8n (B' : Below (ktrTop dp un gd cn cs L₀ a₀ ccd cl outer) base (envX cn cs L₀ a₀ ccd cl :: outer) h₀) (X : (frag c.w.params).In h₀) (Tp : Top c.p c.loose c.mean c.mg c.mb h₀) (hk : cs.kind = .function) (hd : dp + 10 < recursionLimit) (hu : un + 128 < cLine)
    (F : Fr h₀ L s.heap (kstB u (mPs k x line a b O B .none PT PE pt t1 t2 t3 t4))) (Ne : News h₀ L s.heap (imm)) :
    wpAny (MM c.w) ((ktrTop dp un gd cn cs L₀ a₀ ccd cl outer).deeper (mEnv L)) (isTrue (ifTest st48) (mEnv L) (eval (ifTest st48) (mEnv L))) (TE h₀ L (imm) (kstB u (mPs k x line a b O B .none PT PE pt t1 t2 t3 t4)) true s) E s := by
  unfold MM
  revert X; k_fill; intro X
  unfold mPs at F ⊢
  conv in isTrue _ _ _ => arg 1; whnf
  conv in eval (ifTest _) _ => arg 1; whnf
  all_goals k_steps
  all_goals (try dsimp only)
  all_goals (refine' te_end ?qF ?qN ?qs ?qe; (case qF => assumption); (case qN => assumption); (case qs => (intro q hq; repeat (first | exact hq | apply List.Mem.tail))); (case qe => rfl))
theorem T8f (B' : Below (ktrTop dp un gd cn cs L₀ a₀ ccd cl outer) base (envX cn cs L₀ a₀ ccd cl :: outer) h₀) (X : (frag c.w.params).In h₀) (Tp : Top c.p c.loose c.mean c.mg c.mb h₀) (hk : cs.kind = .function) (hd : dp + 10 < recursionLimit) (hu : un + 128 < cLine)
    (F : Fr h₀ L s.heap (kstB u (mPs k x line a b O B (.bool bb) PT PE pt t1 t2 t3 t4))) (Ne : News h₀ L s.heap (imm)) :
    wpAny (MM c.w) ((ktrTop dp un gd cn cs L₀ a₀ ccd cl outer).deeper (mEnv L)) (isTrue (ifTest st48) (mEnv L) (eval (ifTest st48) (mEnv L))) (TE h₀ L (imm) (kstB u (mPs k x line a b O B (.bool bb) PT PE pt t1 t2 t3 t4)) false s) E s := by
  unfold MM
  revert X; k_fill; intro X
  unfold mPs at F ⊢
  conv in isTrue _ _ _ => arg 1; whnf
  conv in eval (ifTest _) _ => arg 1; whnf
  all_goals k_steps
  all_goals (try dsimp only)
  all_goals (refine' te_end ?qF ?qN ?qs ?qe; (case qF => assumption); (case qN => assumption); (case qs => (intro q hq; repeat (first | exact hq | apply List.Mem.tail))); (case qe => rfl))
theorem T9f (B' : Below (ktrTop dp un gd cn cs L₀ a₀ ccd cl outer) base (envX cn cs L₀ a₀ ccd cl :: outer) h₀) (X : (frag c.w.params).In h₀) (Tp : Top c.p c.loose c.mean c.mg c.mb h₀) (hk : cs.kind = .function) (hd : dp + 10 < recursionLimit) (hu : un + 128 < cLine)
    (F : Fr h₀ L s.heap (kstB u (mPs k x line a b O B (.bool false) PT PE pt t1 t2 t3 t4))) (Ne : News h₀ L s.heap (imm)) :
    wpAny (MM c.w) ((ktrTop dp un gd cn cs L₀ a₀ ccd cl outer).deeper (mEnv L)) (isTrue (ifTest st49) (mEnv L) (eval (ifTest st49) (mEnv L))) (TE h₀ L (imm) (kstB u (mPs k x line a b O B (.bool false) PT PE pt t1 t2 t3 t4)) false s) E s := by
  unfold MM
  revert X; k_fill; intro X
  unfold mPs at F ⊢
  conv in isTrue _ _ _ => arg 1; whnf
  conv in eval (ifTest _) _ => arg 1; whnf
  all_goals k_steps
  all_goals (try dsimp only)
  all_goals (refine' te_end ?qF ?qN ?qs ?qe; (case qF => assumption); (case qN => assumption); (case qs => (intro q hq; repeat (first | exact hq | apply List.Mem.tail))); (case qe => rfl))
theorem T9t (B' : Below (ktrTop dp un gd cn cs L₀ a₀ ccd cl outer) base (envX cn cs L₀ a₀ ccd cl :: outer) h₀) (X : (frag c.w.params).In h₀) (Tp : Top c.p c.loose c.mean c.mg c.mb h₀) (hk : cs.kind = .function) (hd : dp + 10 < recursionLimit) (hu : un + 128 < cLine)
    (F : Fr h₀ L s.heap (kstB u (mPs k x line a b O B (.bool true) PT (.ref pq) pt t1 t2 t3 t4))) (Ne : News h₀ L s.heap ((pq, tup2 (.int 3 u3) (.int pe u4)) :: (a, tup2 (.int 3 u5) (.int s1 u6)) :: imm)) :
    wpAny (MM c.w) ((ktrTop dp un gd cn cs L₀ a₀ ccd cl outer).deeper (mEnv L)) (isTrue (ifTest st49) (mEnv L) (eval (ifTest st49) (mEnv L))) (TE h₀ L ((pq, tup2 (.int 3 u3) (.int pe u4)) :: (a, tup2 (.int 3 u5) (.int s1 u6)) :: imm) (kstB u (mPs k x line a b O B (.bool true) PT (.ref pq) pt t1 t2 t3 t4)) (s1 == pe) s) E s := by
  unfold MM
  revert X; k_fill; intro X
  unfold mPs at F ⊢
  conv in isTrue _ _ _ => arg 1; whnf
  conv in eval (ifTest _) _ => arg 1; whnf
  all_goals k_steps
  all_goals (try dsimp only)
  all_goals (refine' te_end ?qF ?qN ?qs ?qe; (case qF => assumption); (case qN => assumption); (case qs => (intro q hq; repeat (first | exact hq | apply List.Mem.tail))); (case qe => first | rfl | simp [*]))
theorem Y9 (B' : Below (ktrTop dp un gd cn cs L₀ a₀ ccd cl outer) base (envX cn cs L₀ a₀ ccd cl :: outer) h₀) (X : (frag c.w.params).In h₀) (Tp : Top c.p c.loose c.mean c.mg c.mb h₀) (hk : cs.kind = .function) (hd : dp + 10 < recursionLimit) (hu : un + 128 < cLine)
    (F : Fr h₀ L s.heap (kstB u (mPs k x line a b O B N PT (.ref pq) pt t1 t2 t3 t4))) (Ne : News h₀ L s.heap imm) :
    wpAny (MM c.w) ((ktrTop dp un gd cn cs L₀ a₀ ccd cl outer).deeper (mEnv L)) (eval (yExp ((ifBody st49).getD 0 passS)) (mEnv L)) (EE h₀ L imm (kstB u (mPs k x line a b O B N PT (.ref pq) pt t1 t2 t3 t4)) pq m225 s) E s := by
  unfold MM
  revert X; k_fill; intro X
  unfold mPs at F ⊢
  conv in eval _ _ => arg 1; whnf
  k_steps
  all_goals (try dsimp only)
  all_goals (refine' ee_end ?qF ?qN ?qD ?qs; (case qF => assumption); (case qN => assumption); (case qD => k_mem); (case qs => (intro q hq; repeat (first | exact hq | apply List.Mem.tail))))
noncomputable def NE (h₀ : Heap) (L : Addr) (led : Led) (ps : Value → List (Str × Value)) (good : Led → Value → Prop) (s : Shared) (f : Flow) (s' : Shared) : Prop := f = .next ∧ ∃ (h' : Heap) (tk' : Nat) (m' : Str → Option Value) (N' : Value) (new : Led), s' = { s with heap := h', toks := tk' } ∧ Fr h₀ L h' m' ∧ News h₀ L h' (new ++ led) ∧ good new N' ∧ ∀ p ∈ ps N', m' p.1 = some p.2
theorem ne_end {h₀ h' : Heap} {L : Addr} {led full new : Led} {ps : Value → List (Str × Value)} {good : Led → Value → Prop} {s : Shared} {tk' : Nat} {m' : Str → Option Value} {N' : Value} (F : Fr h₀ L h' m') (N : News h₀ L h' full) (hs : ∀ p ∈ new ++ led, p ∈ full) (hg : good new N') (hp : ∀ p ∈ ps N', m' p.1 = some p.2) : NE h₀ L led ps good s .next { s with heap := h', toks := tk' } := ⟨rfl, h', tk', m', N', new, rfl, F, fun p hp => N p (hs p hp), hg, hp⟩
theorem S8 (B' : Below (ktrTop dp un gd cn cs L₀ a₀ ccd cl outer) base (envX cn cs L₀ a₀ ccd cl :: outer) h₀) (X : (frag c.w.params).In h₀) (Tp : Top c.p c.loose c.mean c.mg c.mb h₀) (hk : cs.kind = .function) (hd : dp + 10 < recursionLimit) (hu : un + 128 < cLine)
    (F : Fr h₀ L s.heap (kstB u (mPs k x line a b O B N PT (.ref pq) pt t1 t2 t3 t4))) (Ne : News h₀ L s.heap ((pq, tup2 (.int 3 u3) (.int pe u4)) :: (a, tup2 (.int 3 u5) (.int s1 u6)) :: imm)) :
    wpAny (MM c.w) ((ktrTop dp un gd cn cs L₀ a₀ ccd cl outer).deeper (mEnv L)) (exec ((ifBody st48).getD 0 passS) (mEnv L)) (NE h₀ L ((pq, tup2 (.int 3 u3) (.int pe u4)) :: (a, tup2 (.int 3 u5) (.int s1 u6)) :: imm) (fun N' => mPs k x line a b O B N' PT (.ref pq) pt t1 t2 t3 t4) (fun new N' => ∃ D, N' = .ref D ∧ new = [(D, tup2 (.ref pq) (.bool (!(s1 == pe))))]) s) E s := by
  unfold MM
  revert X; k_fill; intro X
  unfold mPs at F
  conv in exec _ _ => arg 1; whnf
  k_steps
  (try dsimp only)
  refine' ne_end (new := [_]) ?qF ?qN ?qs ?qg ?qp
  (case qF => assumption)
  (case qN => assumption)
  (case qp => exact mPs_upd)
  (case qs => (intro q hq; exact hq))
  (case qg => exact ⟨_, rfl, rfl⟩)
theorem SF1 (B' : Below (ktrTop dp un gd cn cs L₀ a₀ ccd cl outer) base (envX cn cs L₀ a₀ ccd cl :: outer) h₀) (X : (frag c.w.params).In h₀) (Tp : Top c.p c.loose c.mean c.mg c.mb h₀) (hk : cs.kind = .function) (hd : dp + 10 < recursionLimit) (hu : un + 128 < cLine)
    (F : Fr h₀ L s.heap (kstB u (mPs k x line a b O B N PT PE pt t1 t2 t3 t4))) (Ne : News h₀ L s.heap imm) :
    wpAny (MM c.w) ((ktrTop dp un gd cn cs L₀ a₀ ccd cl outer).deeper (mEnv L)) (exec ((ifBody st41).getD 1 passS) (mEnv L)) (NE h₀ L imm (fun N' => mPs k x line a b O B N' PT PE pt t1 t2 t3 t4) (fun new N' => N' = .bool false ∧ new = []) s) E s := by
  unfold MM
  revert X; k_fill; intro X
  unfold mPs at F
  conv in exec _ _ => arg 1; whnf
  k_steps
  (try dsimp only)
  refine' ne_end (new := []) ?qF ?qN ?qs ?qg ?qp
  (case qF => assumption)
  (case qN => assumption)
  (case qp => exact mPs_upd)
  (case qg => exact ⟨rfl, rfl⟩)
  (case qs => (intro q hq; exact hq))
theorem SF2 (B' : Below (ktrTop dp un gd cn cs L₀ a₀ ccd cl outer) base (envX cn cs L₀ a₀ ccd cl :: outer) h₀) (X : (frag c.w.params).In h₀) (Tp : Top c.p c.loose c.mean c.mg c.mb h₀) (hk : cs.kind = .function) (hd : dp + 10 < recursionLimit) (hu : un + 128 < cLine)
    (F : Fr h₀ L s.heap (kstB u (mPs k x line a b O B N PT PE pt t1 t2 t3 t4))) (Ne : News h₀ L s.heap imm) :
    wpAny (MM c.w) ((ktrTop dp un gd cn cs L₀ a₀ ccd cl outer).deeper (mEnv L)) (exec ((ifElse st42).getD 1 passS) (mEnv L)) (NE h₀ L imm (fun N' => mPs k x line a b O B N' PT PE pt t1 t2 t3 t4) (fun new N' => N' = .bool false ∧ new = []) s) E s := by
  unfold MM
  revert X; k_fill; intro X
  unfold mPs at F
  conv in exec _ _ => arg 1; whnf
  k_steps
  (try dsimp only)
  refine' ne_end (new := []) ?qF ?qN ?qs ?qg ?qp
  (case qF => assumption)
  (case qN => assumption)
  (case qp => exact mPs_upd)
  (case qg => exact ⟨rfl, rfl⟩)
  (case qs => (intro q hq; exact hq))
theorem SF3 (B' : Below (ktrTop dp un gd cn cs L₀ a₀ ccd cl outer) base (envX cn cs L₀ a₀ ccd cl :: outer) h₀) (X : (frag c.w.params).In h₀) (Tp : Top c.p c.loose c.mean c.mg c.mb h₀) (hk : cs.kind = .function) (hd : dp + 10 < recursionLimit) (hu : un + 128 < cLine)
    (F : Fr h₀ L s.heap (kstB u (mPs k x line a b O B N PT PE pt t1 t2 t3 t4))) (Ne : News h₀ L s.heap imm) :
    wpAny (MM c.w) ((ktrTop dp un gd cn cs L₀ a₀ ccd cl outer).deeper (mEnv L)) (exec ((ifBody st49).getD 1 passS) (mEnv L)) (NE h₀ L imm (fun N' => mPs k x line a b O B N' PT PE pt t1 t2 t3 t4) (fun new N' => N' = .bool false ∧ new = []) s) E s := by
  unfold MM
  revert X; k_fill; intro X
  unfold mPs at F
  conv in exec _ _ => arg 1; whnf
  k_steps
  (try dsimp only)
  refine' ne_end (new := []) ?qF ?qN ?qs ?qg ?qp
  (case qF => assumption)
  (case qN => assumption)
  (case qp => exact mPs_upd)
  (case qg => exact ⟨rfl, rfl⟩)
  (case qs => (intro q hq; exact hq))
end
open PySem PySem.W PySem.Spec PySem.Calls PyProof.Rows PyProof.V
set_option maxHeartbeats 8000000
local macro_rules | `(tactic| walk_at "compareOp NotIn") => `(tactic| (k_here; (with_reducible show wpAny _ _ (compareOp CmpOp.NotIn (Value.str _ _) (Value.ref 200)) _ _ _); k_dflt (refine' ninS ?T ?X ?F ?_; (case T => exact whi_tup); (case X => k_asm); (case F => k_asm))))
noncomputable abbrev st3 : Stmt := mBody.getD 2 passS
noncomputable abbrev st31 : Stmt := (ifBody st3).getD 1 passS
noncomputable abbrev st32 : Stmt := (ifBody st31).getD 0 passS
noncomputable abbrev st33 : Stmt := (ifElse st32).getD 0 passS
noncomputable abbrev st34 : Stmt := (ifElse st33).getD 0 passS
noncomputable abbrev st35 : Stmt := (ifElse st34).getD 0 passS
section
variable {c : Cx} {base : Heap} {imm : Led} {dp un : Nat} {gd : Option (List Code)} {cn : Str} {cs : Scope} {a₀ : Addr} {ccd : Value} {cl : List (Str × Addr)} {outer : List Env} {L₀ : Addr} {h₀ : Heap} {L : Addr} {s : Shared} {E : Value → Shared → Prop}
  {k pt : Int} {x line px : Str} {a b O B D q pq : Nat} {N PT PE : Value} {t1 t2 t3 t4 t5 t6 u1 u2 u3 u4 u5 u6 u7 u8 u9 : Tok} {u : Str → Option Value} {p pe s1 e1 : Int} {bb : Bool}
theorem Q0 (B' : Below (ktrTop dp un gd cn cs L₀ a₀ ccd cl outer) base (envX cn cs L₀ a₀ ccd cl :: outer) h₀) (X : (frag c.w.params).In h₀) (Tp : Top c.p c.loose c.mean c.mg c.mb h₀) (hk : cs.kind = .function) (hd : dp + 10 < recursionLimit) (hu : un + 128 < cLine)
    (F : Fr h₀ L s.heap (kstB u (mPs 54 (Str.ofString ",") line a b O B N PT PE pt t1 t2 t3 t4))) (Ne : News h₀ L s.heap (imm)) :
    wpAny (MM c.w) ((ktrTop dp un gd cn cs L₀ a₀ ccd cl outer).deeper (mEnv L)) (isTrue (ifTest st3) (mEnv L) (eval (ifTest st3) (mEnv L))) (TE h₀ L (imm) (kstB u (mPs 54 (Str.ofString ",") line a b O B N PT PE pt t1 t2 t3 t4)) true s) E s := by
  unfold MM
  revert X; k_fill; intro X
  unfold mPs at F ⊢
  conv in isTrue _ _ _ => arg 1; whnf
  conv in eval (ifTest _) _ => arg 1; whnf
  k_steps
  all_goals (try dsimp only)
  all_goals (refine' te_end ?qF ?qN ?qs ?qe; (case qF => assumption); (case qN => assumption); (case qs => (intro q hq; repeat (first | exact hq | apply List.Mem.tail))); (case qe => rfl))
theorem Q1 (h0 : 0 ≤ e1) (h1 : e1 < line.length) (hl : line.length ≤ 1000) (B' : Below (ktrTop dp un gd cn cs L₀ a₀ ccd cl outer) base (envX cn cs L₀ a₀ ccd cl :: outer) h₀) (X : (frag c.w.params).In h₀) (Tp : Top c.p c.loose c.mean c.mg c.mb h₀) (hk : cs.kind = .function) (hd : dp + 10 < recursionLimit) (hu : un + 128 < cLine)
    (F : Fr h₀ L s.heap (kstB u (mPs 54 (Str.ofString ",") line a b O B N PT PE pt t1 t2 t3 t4))) (Ne : News h₀ L s.heap ((b, tup2 (.int 3 u7) (.int e1 u8)) :: imm)) :
    wpAny (MM c.w) ((ktrTop dp un gd cn cs L₀ a₀ ccd cl outer).deeper (mEnv L)) (exec ((ifBody st3).getD 0 passS) (mEnv L)) (NE h₀ L ((b, tup2 (.int 3 u7) (.int e1 u8)) :: imm) (fun N' => (Str.ofString "next_char", N') :: mPs 54 (Str.ofString ",") line a b O B N PT PE pt t1 t2 t3 t4) (fun new N' => new = [] ∧ ∃ t, N' = .str (Txt.slice line (some e1) (some (e1 + 1))) t) s) E s := by
  unfold MM
  revert X; k_fill; intro X
  unfold mPs at F
  conv in exec _ _ => arg 1; whnf
  k_steps
  (try dsimp only)
  refine' ne_end (new := []) ?qF ?qN ?qs ?qg ?qp
  (case qF => assumption)
  (case qN => assumption)
  (case qp =>
    intro p hp
    unfold mPs at hp
    simp only [List.mem_cons, List.not_mem_nil, or_false] at hp
    rcases hp with rfl | rfl | rfl | rfl | rfl | rfl | rfl | rfl | rfl | rfl | rfl | rfl <;> (with_unfolding_all rfl))
  (case qs => (intro q hq; exact hq))
  (case qg => exact ⟨rfl, _, rfl⟩)
noncomputable abbrev occN (nc : Str) : Bool := (Builtin.Str.occurrences (Str.ofString "\r\n") nc 0 (Str.ofString "\r\n").length 1).isEmpty
noncomputable abbrev occP (nc : Str) : Bool := (Builtin.Str.occurrences (Str.ofString ")]") nc 0 (Str.ofString ")]").length 1).isEmpty
noncomputable def gapB (nc : Str) : Bool := if whiS.any (· == nc) = true then false else occN nc
theorem Q2 {nc : Str} {tn : Tok} (B' : Below (ktrTop dp un gd cn cs L₀ a₀ ccd cl outer) base (envX cn cs L₀ a₀ ccd cl :: outer) h₀) (X : (frag c.w.params).In h₀) (Tp : Top c.p c.loose c.mean c.mg c.mb h₀) (hk : cs.kind = .function) (hd : dp + 10 < recursionLimit) (hu : un + 128 < cLine)
    (F : Fr h₀ L s.heap (kstB u (((Str.ofString "next_char", .str nc tn) :: mPs 54 (Str.ofString ",") line a b O B N PT PE pt t1 t2 t3 t4)))) (Ne : News h₀ L s.heap (imm)) :
    wpAny (MM c.w) ((ktrTop dp un gd cn cs L₀ a₀ ccd cl outer).deeper (mEnv L)) (isTrue (ifTest st31) (mEnv L) (eval (ifTest st31) (mEnv L))) (TE h₀ L (imm) (kstB u (((Str.ofString "next_char", .str nc tn) :: mPs 54 (Str.ofString ",") line a b O B N PT PE pt t1 t2 t3 t4))) (gapB nc) s) E s := by
  unfold MM
  revert X; k_fill; intro X
  unfold mPs at F ⊢
  conv in isTrue _ _ _ => arg 1; whnf
  conv in eval (ifTest _) _ => arg 1; whnf
  k_steps
  all_goals (try dsimp only)
  all_goals (refine' te_end ?qF ?qN ?qs ?qe; (case qF => assumption); (case qN => assumption); (case qs => (intro q hq; repeat (first | exact hq | apply List.Mem.tail))); (case qe => (unfold gapB; (repeat (first | (refine Eq.trans ?_ (if_pos ?_).symm; rotate_left; focus assumption) | (refine Eq.trans ?_ (ite_f ?_).symm; rotate_left; focus assumption))); first | rfl | (symm; assumption))))
theorem Q32 {nc : Str} {tn : Tok} (B' : Below (ktrTop dp un gd cn cs L₀ a₀ ccd cl outer) base (envX cn cs L₀ a₀ ccd cl :: outer) h₀) (X : (frag c.w.params).In h₀) (Tp : Top c.p c.loose c.mean c.mg c.mb h₀) (hk : cs.kind = .function) (hd : dp + 10 < recursionLimit) (hu : un + 128 < cLine)
    (F : Fr h₀ L s.heap (kstB u (((Str.ofString "next_char", .str nc tn) :: mPs 54 (Str.ofString ",") line a b O B N PT PE pt t1 t2 t3 t4)))) (Ne : News h₀ L s.heap (imm)) :
    wpAny (MM c.w) ((ktrTop dp un gd cn cs L₀ a₀ ccd cl outer).deeper (mEnv L)) (isTrue (ifTest st32) (mEnv L) (eval (ifTest st32) (mEnv L))) (TE h₀ L (imm) (kstB u (((Str.ofString "next_char", .str nc tn) :: mPs 54 (Str.ofString ",") line a b O B N PT PE pt t1 t2 t3 t4))) false s) E s := by
  unfold MM
  revert X; k_fill; intro X
  unfold mPs at F ⊢
  conv in isTrue _ _ _ => arg 1; whnf
  conv in eval (ifTest _) _ => arg 1; whnf
  k_steps
  all_goals (try dsimp only)
  all_goals (refine' te_end ?qF ?qN ?qs ?qe; (case qF => assumption); (case qN => assumption); (case qs => (intro q hq; repeat (first | exact hq | apply List.Mem.tail))); (case qe => rfl))
theorem Q33 {nc : Str} {tn : Tok} (B' : Below (ktrTop dp un gd cn cs L₀ a₀ ccd cl outer) base (envX cn cs L₀ a₀ ccd cl :: outer) h₀) (X : (frag c.w.params).In h₀) (Tp : Top c.p c.loose c.mean c.mg c.mb h₀) (hk : cs.kind = .function) (hd : dp + 10 < recursionLimit) (hu : un + 128 < cLine)
    (F : Fr h₀ L s.heap (kstB u (((Str.ofString "next_char", .str nc tn) :: mPs 54 (Str.ofString ",") line a b O B N PT PE pt t1 t2 t3 t4)))) (Ne : News h₀ L s.heap (imm)) :
    wpAny (MM c.w) ((ktrTop dp un gd cn cs L₀ a₀ ccd cl outer).deeper (mEnv L)) (isTrue (ifTest st33) (mEnv L) (eval (ifTest st33) (mEnv L))) (TE h₀ L (imm) (kstB u (((Str.ofString "next_char", .str nc tn) :: mPs 54 (Str.ofString ",") line a b O B N PT PE pt t1 t2 t3 t4))) false s) E s := by
  unfold MM
  revert X; k_fill; intro X
  unfold mPs at F ⊢
  conv in isTrue _ _ _ => arg 1; whnf
  conv in eval (ifTest _) _ => arg 1; whnf
  k_steps
  all_goals (try dsimp only)
  all_goals (refine' te_end ?qF ?qN ?qs ?qe; (case qF => assumption); (case qN => assumption); (case qs => (intro q hq; repeat (first | exact hq | apply List.Mem.tail))); (case qe => rfl))
theorem Q34 {nc : Str} {tn : Tok} (B' : Below (ktrTop dp un gd cn cs L₀ a₀ ccd cl outer) base (envX cn cs L₀ a₀ ccd cl :: outer) h₀) (X : (frag c.w.params).In h₀) (Tp : Top c.p c.loose c.mean c.mg c.mb h₀) (hk : cs.kind = .function) (hd : dp + 10 < recursionLimit) (hu : un + 128 < cLine)
    (F : Fr h₀ L s.heap (kstB u (((Str.ofString "next_char", .str nc tn) :: mPs 54 (Str.ofString ",") line a b O B N PT PE pt t1 t2 t3 t4)))) (Ne : News h₀ L s.heap (imm)) :
    wpAny (MM c.w) ((ktrTop dp un gd cn cs L₀ a₀ ccd cl outer).deeper (mEnv L)) (isTrue (ifTest st34) (mEnv L) (eval (ifTest st34) (mEnv L))) (TE h₀ L (imm) (kstB u (((Str.ofString "next_char", .str nc tn) :: mPs 54 (Str.ofString ",") line a b O B N PT PE pt t1 t2 t3 t4))) false s) E s := by
  unfold MM
  revert X; k_fill; intro X
  unfold mPs at F ⊢
  conv in isTrue _ _ _ => arg 1; whnf
  conv in eval (ifTest _) _ => arg 1; whnf
  k_steps
  all_goals (try dsimp only)
  all_goals (refine' te_end ?qF ?qN ?qs ?qe; (case qF => assumption); (case qN => assumption); (case qs => (intro q hq; repeat (first | exact hq | apply List.Mem.tail))); (case qe => rfl))
theorem Q35 {nc : Str} {tn : Tok} (B' : Below (ktrTop dp un gd cn cs L₀ a₀ ccd cl outer) base (envX cn cs L₀ a₀ ccd cl :: outer) h₀) (X : (frag c.w.params).In h₀) (Tp : Top c.p c.loose c.mean c.mg c.mb h₀) (hk : cs.kind = .function) (hd : dp + 10 < recursionLimit) (hu : un + 128 < cLine)
    (F : Fr h₀ L s.heap (kstB u (((Str.ofString "next_char", .str nc tn) :: mPs 54 (Str.ofString ",") line a b O B N PT PE pt t1 t2 t3 t4)))) (Ne : News h₀ L s.heap (imm)) :
    wpAny (MM c.w) ((ktrTop dp un gd cn cs L₀ a₀ ccd cl outer).deeper (mEnv L)) (isTrue (ifTest st35) (mEnv L) (eval (ifTest st35) (mEnv L))) (TE h₀ L (imm) (kstB u (((Str.ofString "next_char", .str nc tn) :: mPs 54 (Str.ofString ",") line a b O B N PT PE pt t1 t2 t3 t4))) (!(occP nc)) s) E s := by
  unfold MM
  revert X; k_fill; intro X
  unfold mPs at F ⊢
  conv in isTrue _ _ _ => arg 1; whnf
  conv in eval (ifTest _) _ => arg 1; whnf
  k_steps
  all_goals (try dsimp only)
  all_goals (refine' te_end ?qF ?qN ?qs ?qe; (case qF => assumption); (case qN => assumption); (case qs => (intro q hq; repeat (first | exact hq | apply List.Mem.tail))); (case qe => first | rfl | simp [*]))
theorem rep_comma : reprText (Str.ofString ",") = Str.ofString "','" := by decide +kernel
theorem Y231 {nc : Str} {tn : Tok} (B' : Below (ktrTop dp un gd cn cs L₀ a₀ ccd cl outer) base (envX cn cs L₀ a₀ ccd cl :: outer) h₀) (X : (frag c.w.params).In h₀) (Tp : Top c.p c.loose c.mean c.mg c.mb h₀) (hk : cs.kind = .function) (hd : dp + 10 < recursionLimit) (hu : un + 128 < cLine)
    (F : Fr h₀ L s.heap (kstB u (((Str.ofString "next_char", .str nc tn) :: mPs 54 (Str.ofString ",") line a b O B N PT PE pt t1 t2 t3 t4)))) (Ne : News h₀ L s.heap imm) :
    wpAny (MM c.w) ((ktrTop dp un gd cn cs L₀ a₀ ccd cl outer).deeper (mEnv L)) (eval (yExp ((ifElse st35).getD 0 passS)) (mEnv L)) (EE h₀ L imm (kstB u (((Str.ofString "next_char", .str nc tn) :: mPs 54 (Str.ofString ",") line a b O B N PT PE pt t1 t2 t3 t4))) a m231 s) E s := by
  unfold MM
  revert X; k_fill; intro X
  unfold mPs at F ⊢
  conv in eval _ _ => arg 1; whnf
  k_steps
  refine wpAny_pyReprObj_str ?_ (by rw [rep_comma]; decide +kernel)
  rw [rep_comma]
  k_steps
  all_goals (try dsimp only)
  all_goals (refine' ee_end ?qF ?qN ?qD ?qs; (case qF => assumption); (case qN => assumption); (case qD => k_mem); (case qs => (intro q hq; repeat (first | exact hq | apply List.Mem.tail))))
end
end Mine
end
section
open PySem PySem.W PySem.Spec PySem.Calls PyProof.Rows PyProof.V
set_option maxHeartbeats 4000000
namespace Mine
inductive NS where
  | no
  | yes
  | pend (p : Int) (b : Bool)
noncomputable def NSV (imm : Led) (N : Value) : NS → Prop
  | .no => N = .bool false
  | .yes => N = .bool true
  | .pend p b => ∃ (D q : Nat) (t1 t2 : Tok), N = .ref D ∧ (D, tup2 (.ref q) (.bool b)) ∈ imm ∧ (q, tup2 (.int 3 t1) (.int p t2)) ∈ imm
theorem NSV.mono {imm imm' : Led} (h : ∀ p ∈ imm, p ∈ imm') {N : Value} {ns : NS} (x : NSV imm N ns) : NSV imm' N ns := by
  cases ns with
  | no => exact x
  | yes => exact x
  | pend p b =>
    obtain ⟨D, q, t1, t2, e, m1, m2⟩ := x
    exact ⟨D, q, t1, t2, e, h _ m1, h _ m2⟩
/-- what stands between two statements of the generator's loop body -/
structure GF (h₀ : Heap) (L S B : Nat) (outs : List Out) (os : OsG) (ps : List (Str × Value)) (d i n : Nat) (imm : Led) (s : Shared) : Prop where
  st : ∃ (m : Str → Option Value) (bv : List Value) (nB : Nat) (acc : Array Value) (cc : Nat), Fr h₀ L s.heap m ∧ (∀ p ∈ ps, m p.1 = some p.2) ∧ News h₀ L s.heap ((B, listOf bv.toArray nB) :: (S, lobj acc cc) :: imm) ∧ BrV bv d ∧ AccOk outs os imm i acc
  nS : ∀ p ∈ imm, p.1 ≠ S
  nB : ∀ p ∈ imm, p.1 ≠ B
  BS : B ≠ S
  len : i + n = outs.length
  os : osG s os
section
variable {M : Model} {A A' : Around} {R : GenEnd} {Y : Protocol} {n : Nat} {s₀ : Shared} {c : Code} {fs : List Frame} {s : Shared} {env : Env}
  {K : Flow → Sem Fin} {H : Value → Sem Fin} {gd : Bool → Bool} {lv : List Value → List Value} {h₀ : Heap} {L : Addr}
theorem sg_T {st : Stmt} {rest : List Stmt} {pos : Pos} {led : Led} {m : Str → Option Value} {v : Bool} (hst : st = .If (ifTest st) (ifBody st) (ifElse st) pos) (hA : A.over c fs = A')
    (h : ∀ E, wpAny M A' (isTrue (ifTest st) env (eval (ifTest st) env)) (TE h₀ L led m v s) E s)
    (yes : v = true → ∀ h' tk', Fr h₀ L h' m → News h₀ L h' led → Seg M A R Y n s₀ c ((execs (ifBody st) env).wrap (fun f => match f with | .next => (execs rest env).wrap K H gd lv | f => K f) H gd lv) fs { s with heap := h', toks := tk' })
    (no : v = false → ∀ h' tk', Fr h₀ L h' m → News h₀ L h' led → Seg M A R Y n s₀ c ((execs (ifElse st) env).wrap (fun f => match f with | .next => (execs rest env).wrap K H gd lv | f => K f) H gd lv) fs { s with heap := h', toks := tk' }) :
    Seg M A R Y n s₀ c ((execs (st :: rest) env).wrap K H gd lv) fs s := by
  rw [hst]
  refine sg_If hA fun E => wpAny_mono (h E) (fun b s' h' => ?_) fun _ _ x => x
  obtain ⟨rfl, h', tk', rfl, F', N'⟩ := h'
  exact ⟨fun e => yes e _ _ F' N', fun e => no e _ _ F' N'⟩
end
theorem st4_if : ∃ p, st4 = .If (ifTest st4) (ifBody st4) (ifElse st4) p := ⟨_, rfl⟩
theorem st41_if : ∃ p, st41 = .If (ifTest st41) (ifBody st41) (ifElse st41) p := ⟨_, rfl⟩
theorem st42_if : ∃ p, st42 = .If (ifTest st42) (ifBody st42) (ifElse st42) p := ⟨_, rfl⟩
theorem st43_if : ∃ p, st43 = .If (ifTest st43) (ifBody st43) (ifElse st43) p := ⟨_, rfl⟩
theorem st44_if : ∃ p, st44 = .If (ifTest st44) (ifBody st44) (ifElse st44) p := ⟨_, rfl⟩
theorem st45_if : ∃ p, st45 = .If (ifTest st45) (ifBody st45) (ifElse st45) p := ⟨_, rfl⟩
theorem st46_if : ∃ p, st46 = .If (ifTest st46) (ifBody st46) (ifElse st46) p := ⟨_, rfl⟩
theorem st48_if : ∃ p, st48 = .If (ifTest st48) (ifBody st48) (ifElse st48) p := ⟨_, rfl⟩
theorem st49_if : ∃ p, st49 = .If (ifTest st49) (ifBody st49) (ifElse st49) p := ⟨_, rfl⟩
theorem st4_b : ifBody st4 = [st41] := rfl
theorem st4_e : ifElse st4 = [st46] := rfl
theorem st41_b : ifBody st41 = [st43, (ifBody st41).getD 1 passS] := rfl
theorem st41_e : ifElse st41 = [st42] := rfl
theorem st43_e : ifElse st43 = [] := rfl
theorem st42_b : ifBody st42 = [.Pass ⟨185, 16, 185, 20⟩] := rfl
theorem st42_e : ifElse st42 = [st44, (ifElse st42).getD 1 passS] := rfl
theorem st44_e : ifElse st44 = [st45] := rfl
theorem st45_b : ifBody st45 = [(ifBody st45).getD 0 passS, (ifBody st45).getD 1 passS] ++ [(ifBody st45).getD 2 passS] := rfl
theorem st45_e : ifElse st45 = [] := rfl
theorem st46_b : ifBody st46 = [st47, st48] := rfl
theorem st46_e : ifElse st46 = [] := rfl
theorem st48_b : ifBody st48 = [(ifBody st48).getD 0 passS] := rfl
theorem st48_e : ifElse st48 = [st49] := rfl
theorem st49_b : ifBody st49 = [(ifBody st49).getD 0 passS, (ifBody st49).getD 1 passS] := rfl
theorem st49_e : ifElse st49 = [] := rfl
end Mine
end
section
open PySem PySem.W PySem.Spec PySem.Calls PyProof.Rows PyProof.V
set_option maxHeartbeats 4000000
namespace Mine
theorem st43_b : ifBody st43 = [(ifBody st43).getD 0 passS] := rfl
theorem st44_b : ifBody st44 = [(ifBody st44).getD 0 passS] := rfl
theorem y43 : ∃ yp p, (ifBody st43).getD 0 passS = .Expr (.Yield (some (yExp ((ifBody st43).getD 0 passS))) yp) p := ⟨_, _, rfl⟩
theorem y44 : ∃ yp p, (ifBody st44).getD 0 passS = .Expr (.Yield (some (yExp ((ifBody st44).getD 0 passS))) yp) p := ⟨_, _, rfl⟩
theorem y45 : ∃ yp p, (ifBody st45).getD 2 passS = .Expr (.Yield (some (yExp ((ifBody st45).getD 2 passS))) yp) p := ⟨_, _, rfl⟩
theorem y49 : ∃ yp p, (ifBody st49).getD 0 passS = .Expr (.Yield (some (yExp ((ifBody st49).getD 0 passS))) yp) p := ⟨_, _, rfl⟩
theorem tup_ne {h₀ h : Heap} {L : Addr} {led : Led} (N : News h₀ L h led) {D S : Nat} {o o' : Obj} (hD : (D, o) ∈ led) (ho : o.cls = .type "tuple") (hS : (S, o') ∈ led) (ho' : o'.cls = .type "list") : D ≠ S := by
  intro e
  subst e
  have := Option.some.inj ((N _ hD).1.symm.trans (N _ hS).1)
  have this : o = o' := this
  rw [this, ho'] at ho
  simp at ho
section
variable {M : Model} {A A' : Around} {R : GenEnd} {n : Nat} {s₀ : Shared} {c : Code} {fs : List Frame} {s : Shared} {env : Env}
  {K : Flow → Sem Fin} {H : Value → Sem Fin} {gd : Bool → Bool} {lv : List Value → List Value} {h₀ : Heap} {L : Addr}
  {S B : Nat} {outs : List Out} {os : OsG} {ps : List (Str × Value)} {d i : Nat} {imm led : Led} {m : Str → Option Value} {bv : List Value} {nB : Nat} {acc : Array Value} {cc : Nat}
theorem sg_Y {st : Stmt} {rest : List Stmt} {yp pos : Pos} {q : Nat} {msg : Str} {p : Int} {t1 t2 : Tok} (hst : st = .Expr (.Yield (some (yExp st)) yp) pos) (hA : A.over c fs = A') (hfs : splitAtGen fs = none) (hgd : gd false = false) (hfg : fs.any Frame.guarded = false)
    (hev : ∀ E, wpAny M A' (eval (yExp st) env) (EE h₀ L led m q msg s) E s) (hps : ∀ p ∈ ps, m p.1 = some p.2) (mB : (B, listOf bv.toArray nB) ∈ led) (mS : (S, lobj acc cc) ∈ led) (mi : ∀ p ∈ imm, p ∈ led) (hbr : BrV bv d) (hacc : AccOk outs os imm i acc)
    (hS : ∀ p ∈ imm, p.1 ≠ S) (hB : ∀ p ∈ imm, p.1 ≠ B) (hBS : B ≠ S) (hlen : i + (n + 1) = outs.length) (hos : osG s os) (mq : (q, tup2 (.int 3 t1) (.int p t2)) ∈ imm) (ho : outs[i]? = some (p, msg))
    (k : ∀ s'' imm', (∀ p ∈ imm, p ∈ imm') → GF h₀ L S B outs os ps d (i + 1) n imm' s'' → Seg M A R (YY h₀ L S outs os) n s'' c ((execs rest env).wrap K H gd lv) fs s'')
    (hco : env.scope.isCoroutine = false := by rfl) (hi : interactive env = false := by rfl) :
    Seg M A R (YY h₀ L S outs os) (n + 1) s₀ c ((execs (st :: rest) env).wrap K H gd lv) fs s := by
  rw [hst]
  refine sg_yield hA hfs hgd hfg (fun E => wpAny_mono (hev E) (fun v s' h => ?_) fun _ _ x => x) hco hi
  obtain ⟨h', tk', D, t, rfl, rfl, F', N'⟩ := h
  have hDS : D ≠ S := tup_ne N' (.head _) rfl (.tail _ mS) rfl
  have hDB : D ≠ B := tup_ne N' (.head _) rfl (.tail _ mB) rfl
  refine ⟨i, acc, cc, (D, tup2 (.ref q) (.str msg t)) :: (B, listOf bv.toArray nB) :: imm, m, (p, msg), by omega, F', ?_, ?_, hacc.mono fun p hp => .tail _ (.tail _ hp), ho, ⟨D, q, t, t1, t2, rfl, .head _, .tail _ (.tail _ mq)⟩, hos, ?_⟩
  · intro x hx
    rcases List.mem_cons.mp hx with rfl | hx
    · exact N' _ (.tail _ mS)
    rcases List.mem_cons.mp hx with rfl | hx
    · exact N' _ (.head _)
    rcases List.mem_cons.mp hx with rfl | hx
    · exact N' _ (.tail _ mB)
    · exact N' _ (.tail _ (mi _ hx))
  · intro x hx
    rcases List.mem_cons.mp hx with rfl | hx
    · exact hDS
    rcases List.mem_cons.mp hx with rfl | hx
    · exact hBS
    · exact hS _ hx
  · intro s'' c' F'' N'' hos''
    refine k s'' ((D, tup2 (.ref q) (.str msg t)) :: imm) (fun p hp => .tail _ hp) ⟨⟨m, bv, nB, acc.push (.ref D), c', F'', hps, ?_, hbr, ?_⟩, ?_, ?_, hBS, by omega, hos''⟩
    · intro x hx
      rcases List.mem_cons.mp hx with rfl | hx
      · exact N'' _ (.tail _ (.tail _ (.head _)))
      rcases List.mem_cons.mp hx with rfl | hx
      · exact N'' _ (.head _)
      rcases List.mem_cons.mp hx with rfl | hx
      · exact N'' _ (.tail _ (.head _))
      · exact N'' _ (.tail _ (.tail _ (.tail _ hx)))
    · exact (hacc.mono fun p hp => .tail _ hp).push ho ⟨D, q, t, t1, t2, rfl, .head _, .tail _ mq⟩
    · intro x hx
      rcases List.mem_cons.mp hx with rfl | hx
      · exact hDS
      · exact hS _ hx
    · intro x hx
      rcases List.mem_cons.mp hx with rfl | hx
      · exact hDB
      · exact hB _ hx
/-- a statement that sets need_space -/
theorem sg_N {st : Stmt} {rest : List Stmt} {psf : Value → List (Str × Value)} {good : Led → Value → Prop} {Y : Protocol} (hA : A.over c fs = A') (h : ∀ E, wpAny M A' (exec st env) (NE h₀ L led psf good s) E s)
    (hgt : ∀ new N', good new N' → ∀ p ∈ new, p.2.cls = .type "tuple") (mB : (B, listOf bv.toArray nB) ∈ led) (mS : (S, lobj acc cc) ∈ led) (mi : ∀ p ∈ imm, p ∈ led) (hbr : BrV bv d) (hacc : AccOk outs os imm i acc)
    (hS : ∀ p ∈ imm, p.1 ≠ S) (hB : ∀ p ∈ imm, p.1 ≠ B) (hBS : B ≠ S) (hlen : i + n = outs.length) (hos : osG s os)
    (k : ∀ s' new N', good new N' → GF h₀ L S B outs os (psf N') d i n (new ++ imm) s' → Seg M A R Y n s₀ c ((execs rest env).wrap K H gd lv) fs s') :
    Seg M A R Y n s₀ c ((execs (st :: rest) env).wrap K H gd lv) fs s := by
  refine sg_stmt hA fun E => wpAny_mono (h E) (fun f s' h' => ?_) fun _ _ x => x
  obtain ⟨rfl, h', tk', m', N', new, rfl, F', Nn, hg, hps⟩ := h'
  refine ⟨rfl, k _ new N' hg ⟨⟨m', bv, nB, acc, cc, F', hps, ?_, hbr, hacc.mono fun p hp => List.mem_append_right _ hp⟩, ?_, ?_, hBS, hlen, hos⟩⟩
  · intro x hx
    rcases List.mem_cons.mp hx with rfl | hx
    · exact Nn _ (List.mem_append_right _ mB)
    rcases List.mem_cons.mp hx with rfl | hx
    · exact Nn _ (List.mem_append_right _ mS)
    rcases List.mem_append.mp hx with hx | hx
    · exact Nn _ (List.mem_append_left _ hx)
    · exact Nn _ (List.mem_append_right _ (mi _ hx))
  · intro x hx
    rcases List.mem_append.mp hx with hx | hx
    · exact tup_ne (D := x.1) (o := x.2) Nn (List.mem_append_left _ hx) (hgt _ _ hg _ hx) (List.mem_append_right _ mS) rfl
    · exact hS _ hx
  · intro x hx
    rcases List.mem_append.mp hx with hx | hx
    · exact tup_ne (D := x.1) (o := x.2) Nn (List.mem_append_left _ hx) (hgt _ _ hg _ hx) (List.mem_append_right _ mB) rfl
    · exact hB _ hx
end
end Mine
end
section
open PySem PySem.W PySem.Spec PySem.Calls PyProof.Rows PyProof.V
set_option maxHeartbeats 4000000
namespace Mine
noncomputable def s4D (p : Int) (bb : Bool) (px : Str) (pe : Int) (x : Str) (s1 : Int) : NS × List Out :=
  if (!(s1 == pe)) = true then (if (!bb) = true then (.no, [(p, m225)]) else (.no, []))
  else if c2 px x = true then (.pend p bb, [])
  else if bb = true then (.no, [(pe, m225)]) else if (!(px == Str.ofString "**")) = true then (.no, [(p, msgS px)]) else (.no, [])
noncomputable def s4Y (px : Str) (pe : Int) (x : Str) (s1 : Int) : NS × List Out :=
  if (!(s1 == pe)) = true then (.no, []) else if c2 px x = true then (.yes, []) else (.no, [(pe, m225)])
theorem mPs_ok2 {k pt : Int} {x line : Str} {a b O B : Nat} {N PT PE v w : Value} {t1 t2 t3 t4 : Tok} {u : Str → Option Value} : ∀ p ∈ mPs k x line a b O B N PT PE pt t1 t2 t3 t4, kstB u ((Str.ofString "code", v) :: (Str.ofString "optype", w) :: mPs k x line a b O B N PT PE pt t1 t2 t3 t4) p.1 = some p.2 := by
  intro p hp
  unfold mPs at hp ⊢
  simp only [List.mem_cons, List.not_mem_nil, or_false] at hp
  rcases hp with rfl | rfl | rfl | rfl | rfl | rfl | rfl | rfl | rfl | rfl | rfl <;> (with_unfolding_all rfl)
section
variable {c : Cx} {base : Heap} {imm : Led} {dp un : Nat} {gd : Option (List Code)} {cn : Str} {cs : Scope} {a₀ : Addr} {ccd : Value} {cl : List (Str × Addr)} {outer : List Env} {L₀ : Addr} {h₀ : Heap} {L : Addr} {s : Shared} {E : Value → Shared → Prop}
  {k pt : Int} {x line px : Str} {a b O B D q : Nat} {PE : Value} {t1 t2 t3 t4 u1 u2 u9 ta tb : Tok} {u : Str → Option Value} {p : Int} {bb : Bool}
theorem Y3 (B' : Below (ktrTop dp un gd cn cs L₀ a₀ ccd cl outer) base (envX cn cs L₀ a₀ ccd cl :: outer) h₀) (X : (frag c.w.params).In h₀) (Tp : Top c.p c.loose c.mean c.mg c.mb h₀) (hk : cs.kind = .function) (hd : dp + 10 < recursionLimit) (hu : un + 128 < cLine)
    (F : Fr h₀ L s.heap (kstB u ((Str.ofString "code", .str (opS px).1 ta) :: (Str.ofString "optype", .str (opS px).2 tb) :: mPs k x line a b O B (.ref D) (.str px u9) PE pt t1 t2 t3 t4))) (Ne : News h₀ L s.heap ((D, tup2 (.ref q) (.bool bb)) :: (q, tup2 (.int 3 u1) (.int p u2)) :: imm)) :
    wpAny (MM c.w) ((ktrTop dp un gd cn cs L₀ a₀ ccd cl outer).deeper (mEnv L)) (eval (yExp ((ifBody st45).getD 2 passS)) (mEnv L)) (EE h₀ L ((D, tup2 (.ref q) (.bool bb)) :: (q, tup2 (.int 3 u1) (.int p u2)) :: imm) (kstB u ((Str.ofString "code", .str (opS px).1 ta) :: (Str.ofString "optype", .str (opS px).2 tb) :: mPs k x line a b O B (.ref D) (.str px u9) PE pt t1 t2 t3 t4)) q (msgS px) s) E s := by
  by_cases h1 : (px == Str.ofString "%") = true
  · have e1 : opS px = (Str.ofString "E228", Str.ofString "modulo") := if_pos h1
    have e2 : msgS px = m228 := if_pos h1
    rw [e1] at F ⊢
    rw [e2]
    exact Y30 B' X Tp hk hd hu F Ne
  · by_cases h2 : ariS.any (· == px) = true
    · have e1 : opS px = (Str.ofString "E226", Str.ofString "arithmetic") := (if_neg h1).trans (if_pos h2)
      have e2 : msgS px = m226 := (if_neg h1).trans (if_pos h2)
      rw [e1] at F ⊢
      rw [e2]
      exact Y32 B' X Tp hk hd hu F Ne
    · have e1 : opS px = (Str.ofString "E227", Str.ofString "bitwise or shift") := (if_neg h1).trans (if_neg h2)
      have e2 : msgS px = m227 := (if_neg h1).trans (if_neg h2)
      rw [e1] at F ⊢
      rw [e2]
      exact Y31 B' X Tp hk hd hu F Ne
end
theorem sg_nil {M : Model} {A : Around} {R : GenEnd} {Y : Protocol} {n : Nat} {s₀ : Shared} {c : Code} {fs : List Frame} {s : Shared} {env : Env} {rest : List Stmt}
    {K : Flow → Sem Fin} {H : Value → Sem Fin} {gd : Bool → Bool} {lv : List Value → List Value} (h : Seg M A R Y n s₀ c ((execs rest env).wrap K H gd lv) fs s) :
    Seg M A R Y n s₀ c ((execs [] env).wrap (fun f => match f with | .next => (execs rest env).wrap K H gd lv | f => K f) H gd lv) fs s := seg_execs_nil h
section
variable {c : Cx} {base : Heap} {imm : Led} {dp un : Nat} {gd : Option (List Code)} {cn : Str} {cs : Scope} {a₀ : Addr} {ccd : Value} {cl : List (Str × Addr)} {outer : List Env} {L₀ : Addr} {h₀ : Heap} {L : Addr} {s s₀ : Shared}
  {k pt : Int} {x line px : Str} {a b O B S D q pq n d i : Nat} {t1 t2 t3 t4 u1 u2 u3 u4 u5 u6 u7 u8 u9 : Tok} {p pe s1 : Int} {bb : Bool} {outs : List Out} {os : OsG}
  {fb rest : List Stmt} {it : Value} {κ : Result → Sem PySem.Fin} {lvl : List Value} {pp : Pos} {K : Flow → Sem PySem.Fin} {H : Value → Sem PySem.Fin} {R : GenEnd} {lv : List Value → List Value}
theorem sgD (B' : Below (ktrTop dp un gd cn cs L₀ a₀ ccd cl outer) base (envX cn cs L₀ a₀ ccd cl :: outer) h₀) (X : (frag c.w.params).In h₀) (Tp : Top c.p c.loose c.mean c.mg c.mb h₀) (hk : cs.kind = .function) (hd : dp + 10 < recursionLimit) (hu : un + 128 < cLine)
    (mD : (D, tup2 (.ref q) (.bool bb)) ∈ imm) (mq : (q, tup2 (.int 3 u1) (.int p u2)) ∈ imm) (mp : (pq, tup2 (.int 3 u3) (.int pe u4)) ∈ imm) (ma : (a, tup2 (.int 3 u5) (.int s1 u6)) ∈ imm)
    (G : GF h₀ L S B outs os (mPs k x line a b O B (.ref D) (.str px u9) (.ref pq) pt t1 t2 t3 t4) d i n imm s)
    (hout : ∀ o ∈ (s4D p bb px pe x s1).2, outs[i]? = some o)
    (kont : ∀ s₁ s' N' imm' n', (∀ p ∈ imm, p ∈ imm') → NSV imm' N' (s4D p bb px pe x s1).1 → GF h₀ L S B outs os (mPs k x line a b O B N' (.str px u9) (.ref pq) pt t1 t2 t3 t4) d (i + (s4D p bb px pe x s1).2.length) n' imm' s' →
      Seg (MM c.w) (ktrTop dp un gd cn cs L₀ a₀ ccd cl outer) R (YY h₀ L S outs os) n' s₁ (.forLoop mTgt it mBody [] (mEnv L)) ((execs rest (mEnv L)).wrap K H id lv) [.ret κ none false lvl (.func fb (mEnv L)) pp []] s') :
    Seg (MM c.w) (ktrTop dp un gd cn cs L₀ a₀ ccd cl outer) R (YY h₀ L S outs os) n s₀ (.forLoop mTgt it mBody [] (mEnv L)) ((execs (st4 :: rest) (mEnv L)).wrap K H id lv) [.ret κ none false lvl (.func fb (mEnv L)) pp []] s := by
  obtain ⟨⟨m, bv, nB, acc, cc, F, hps, Ne, hbr, hacc⟩, hS, hB, hBS, hlen, hos⟩ := G
  have F1 := fr_named F hps
  have hA := over_for (dp := dp) (un := un) (gd := gd) (cn := cn) (cs := cs) (L := L₀) (a := a₀) (ccd := ccd) (cl := cl) (outer := outer) fb mBody [] mTgt it (mEnv L) (mEnv L) (k := κ) (g := false) (l := lvl) (p := pp)
  obtain ⟨p4, e4⟩ := st4_if
  have N1 : News h₀ L s.heap ((D, tup2 (.ref q) (.bool bb)) :: (B, listOf bv.toArray nB) :: (S, lobj acc cc) :: imm) := fun y hy => by
    rcases List.mem_cons.mp hy with rfl | hy
    · exact Ne _ (.tail _ (.tail _ mD))
    · exact Ne _ hy
  refine sg_T e4 hA (fun E => T0p B' X Tp hk hd hu F1 N1) (fun _ h' tk' F2 N2 => ?_) (fun e => by cases e)
  rw [st4_b]
  obtain ⟨p41, e41⟩ := st41_if
  have N3 : News h₀ L h' ((pq, tup2 (.int 3 u3) (.int pe u4)) :: (a, tup2 (.int 3 u5) (.int s1 u6)) :: (B, listOf bv.toArray nB) :: (S, lobj acc cc) :: imm) := fun y hy => by
    rcases List.mem_cons.mp hy with rfl | hy
    · exact N2 _ (.tail _ (.tail _ (.tail _ mp)))
    rcases List.mem_cons.mp hy with rfl | hy
    · exact N2 _ (.tail _ (.tail _ (.tail _ ma)))
    · exact N2 _ (.tail _ hy)
  refine sg_T e41 hA (fun E => T1 (s := { s with heap := h', toks := tk' }) B' X Tp hk hd hu F2 N3) (fun hb h'' tk'' F4 N4 => ?_) (fun hb h'' tk'' F4 N4 => ?_)
  · rw [st41_b]
    obtain ⟨p43, e43⟩ := st43_if
    have N5 : News h₀ L h'' ((D, tup2 (.ref q) (.bool bb)) :: (q, tup2 (.int 3 u1) (.int p u2)) :: (B, listOf bv.toArray nB) :: (S, lobj acc cc) :: imm) := fun y hy => by
      rcases List.mem_cons.mp hy with rfl | hy
      · exact N4 _ (.tail _ (.tail _ (.tail _ (.tail _ mD))))
      rcases List.mem_cons.mp hy with rfl | hy
      · exact N4 _ (.tail _ (.tail _ (.tail _ (.tail _ mq))))
      · exact N4 _ (.tail _ (.tail _ hy))
    refine sg_T e43 hA (fun E => T3p (s := { s with heap := h'', toks := tk'' }) B' X Tp hk hd hu F4 N5) (fun hb2 h3 tk3 F6 N6 => ?_) (fun hb2 h3 tk3 F6 N6 => ?_)
    · have es : s4D p bb px pe x s1 = (.no, [(p, m225)]) := by unfold s4D; rw [if_pos hb, if_pos hb2]
      rw [es] at hout kont
      have ho := hout _ (.head _)
      obtain ⟨n', rfl⟩ : ∃ n', n = n' + 1 := ⟨n - 1, by
        have : i < outs.length := (List.getElem?_eq_some_iff.mp ho).1
        omega⟩
      rw [st43_b]
      obtain ⟨yp, p5, e5⟩ := y43
      refine sg_Y e5 hA rfl rfl rfl (fun E => Y1 (s := { s with heap := h3, toks := tk3 }) B' X Tp hk hd hu F6 N6) mPs_ok (.tail _ (.tail _ (.head _))) (.tail _ (.tail _ (.tail _ (.head _)))) (fun y hy => .tail _ (.tail _ (.tail _ (.tail _ hy)))) hbr hacc hS hB hBS hlen hos mq ho ?_
      intro s'' imm' hsub G'
      refine sg_nil ?_
      obtain ⟨⟨m9, bv9, nB9, acc9, cc9, F9, hps9, N9, hbr9, hacc9⟩, hS9, hB9, hBS9, hlen9, hos9⟩ := G'
      refine sg_N hA (fun E => SF1 B' X Tp hk hd hu (fr_named F9 hps9) N9) ?_ (.head _) (.tail _ (.head _)) (fun y hy => .tail _ (.tail _ hy)) hbr9 hacc9 hS9 hB9 hBS9 hlen9 hos9 ?_
      · rintro new N' ⟨_, rfl⟩ y hy
        cases hy
      · rintro s6 new N' ⟨rfl, rfl⟩ G6
        exact sg_nil (sg_nil (kont _ s6 _ imm' n' hsub rfl G6))
    · have es : s4D p bb px pe x s1 = (.no, []) := by unfold s4D; rw [if_pos hb, ite_f hb2]
      rw [es] at hout kont
      rw [st43_e]
      refine sg_nil ?_
      have G' : GF h₀ L S B outs os (mPs k x line a b O B (.ref D) (.str px u9) (.ref pq) pt t1 t2 t3 t4) d i n imm { s with heap := h3, toks := tk3 } :=
        ⟨⟨_, bv, nB, acc, cc, F6, mPs_ok, fun y hy => N6 _ (.tail _ (.tail _ hy)), hbr, hacc⟩, hS, hB, hBS, hlen, hos⟩
      obtain ⟨⟨m9, bv9, nB9, acc9, cc9, F9, hps9, N9, hbr9, hacc9⟩, hS9, hB9, hBS9, hlen9, hos9⟩ := G'
      refine sg_N hA (fun E => SF1 B' X Tp hk hd hu (fr_named F9 hps9) N9) ?_ (.head _) (.tail _ (.head _)) (fun y hy => .tail _ (.tail _ hy)) hbr9 hacc9 hS9 hB9 hBS9 hlen9 hos9 ?_
      · rintro new N' ⟨_, rfl⟩ y hy
        cases hy
      · rintro s6 new N' ⟨rfl, rfl⟩ G6
        exact sg_nil (sg_nil (kont _ s6 _ imm n (fun _ h => h) rfl G6))
  · rw [st41_e]
    obtain ⟨p42, e42⟩ := st42_if
    refine sg_T e42 hA (fun E => T2 (s := { s with heap := h'', toks := tk'' }) B' X Tp hk hd hu F4 N4) (fun hb2 h3 tk3 F6 N6 => ?_) (fun hb2 h3 tk3 F6 N6 => ?_)
    · have es : s4D p bb px pe x s1 = (.pend p bb, []) := by unfold s4D; rw [ite_f hb, if_pos hb2]
      rw [es] at hout kont
      rw [st42_b]
      refine sg_stmt hA fun E => wpAny_bind (wpAny_standAt (wpAny_pure ⟨rfl, ?_⟩))
      refine sg_nil (sg_nil (sg_nil ?_))
      exact kont _ _ (.ref D) imm n (fun _ h => h) ⟨D, q, u1, u2, rfl, mD, mq⟩ ⟨⟨_, bv, nB, acc, cc, F6, mPs_ok, fun y hy => N6 _ (.tail _ (.tail _ hy)), hbr, hacc⟩, hS, hB, hBS, hlen, hos⟩
    · rw [st42_e]
      obtain ⟨p44, e44⟩ := st44_if
      have N7 : News h₀ L h3 ((D, tup2 (.ref q) (.bool bb)) :: (q, tup2 (.int 3 u1) (.int p u2)) :: (B, listOf bv.toArray nB) :: (S, lobj acc cc) :: imm) := fun y hy => by
        rcases List.mem_cons.mp hy with rfl | hy
        · exact N6 _ (.tail _ (.tail _ (.tail _ (.tail _ mD))))
        rcases List.mem_cons.mp hy with rfl | hy
        · exact N6 _ (.tail _ (.tail _ (.tail _ (.tail _ mq))))
        · exact N6 _ (.tail _ (.tail _ hy))
      refine sg_T e44 hA (fun E => T4p (s := { s with heap := h3, toks := tk3 }) B' X Tp hk hd hu F6 N7) (fun hb3 h4 tk4 F8 N8 => ?_) (fun hb3 h4 tk4 F8 N8 => ?_)
      · have es : s4D p bb px pe x s1 = (.no, [(pe, m225)]) := by unfold s4D; rw [ite_f hb, ite_f hb2, if_pos hb3]
        rw [es] at hout kont
        have ho := hout _ (.head _)
        obtain ⟨n', rfl⟩ : ∃ n', n = n' + 1 := ⟨n - 1, by
          have : i < outs.length := (List.getElem?_eq_some_iff.mp ho).1
          omega⟩
        rw [st44_b]
        obtain ⟨yp, p5, e5⟩ := y44
        refine sg_Y e5 hA rfl rfl rfl (fun E => Y2 (s := { s with heap := h4, toks := tk4 }) B' X Tp hk hd hu F8 N8) mPs_ok (.tail _ (.tail _ (.head _))) (.tail _ (.tail _ (.tail _ (.head _)))) (fun y hy => .tail _ (.tail _ (.tail _ (.tail _ hy)))) hbr hacc hS hB hBS hlen hos mp ho ?_
        intro s'' imm' hsub G'
        refine sg_nil ?_
        obtain ⟨⟨m9, bv9, nB9, acc9, cc9, F9, hps9, N9, hbr9, hacc9⟩, hS9, hB9, hBS9, hlen9, hos9⟩ := G'
        refine sg_N hA (fun E => SF2 B' X Tp hk hd hu (fr_named F9 hps9) N9) ?_ (.head _) (.tail _ (.head _)) (fun y hy => .tail _ (.tail _ hy)) hbr9 hacc9 hS9 hB9 hBS9 hlen9 hos9 ?_
        · rintro new N' ⟨_, rfl⟩ y hy
          cases hy
        · rintro s6 new N' ⟨rfl, rfl⟩ G6
          exact sg_nil (sg_nil (sg_nil (kont _ s6 _ imm' n' hsub rfl G6)))
      · rw [st44_e]
        obtain ⟨p45, e45⟩ := st45_if
        refine sg_T e45 hA (fun E => T5 (s := { s with heap := h4, toks := tk4 }) B' X Tp hk hd hu F8 N8) (fun hb4 h5 tk5 FA NA => ?_) (fun hb4 h5 tk5 FA NA => ?_)
        · have es : s4D p bb px pe x s1 = (.no, [(p, msgS px)]) := by unfold s4D; rw [ite_f hb, ite_f hb2, ite_f hb3, if_pos hb4]
          rw [es] at hout kont
          have ho := hout _ (.head _)
          obtain ⟨n', rfl⟩ : ∃ n', n = n' + 1 := ⟨n - 1, by
            have : i < outs.length := (List.getElem?_eq_some_iff.mp ho).1
            omega⟩
          rw [st45_b]
          refine sg_app hA _ fun E => wpAny_mono (S45 (s := { s with heap := h5, toks := tk5 }) B' X Tp hk hd hu FA NA) (fun f s' h => ?_) fun _ _ y => y
          obtain ⟨rfl, h6, tk6, m6, ta, tb, rfl, FB, NB, q1, q2, hp6⟩ := h
          refine ⟨rfl, ?_⟩
          have FC := fr_named (ps := (Str.ofString "code", .str (opS px).1 ta) :: (Str.ofString "optype", .str (opS px).2 tb) :: mPs k x line a b O B (.ref D) (.str px u9) (.ref pq) pt t1 t2 t3 t4) FB (fun y hy => by
            rcases List.mem_cons.mp hy with rfl | hy
            · exact q1
            rcases List.mem_cons.mp hy with rfl | hy
            · exact q2
            · exact hp6 _ hy)
          obtain ⟨yp, p5, e5⟩ := y45
          refine sg_Y e5 hA rfl rfl rfl (fun E => Y3 (s := { s with heap := h6, toks := tk6 }) B' X Tp hk hd hu FC NB) mPs_ok2 (.tail _ (.tail _ (.head _))) (.tail _ (.tail _ (.tail _ (.head _)))) (fun y hy => .tail _ (.tail _ (.tail _ (.tail _ hy)))) hbr hacc hS hB hBS hlen hos mq ho ?_
          intro s'' imm' hsub G'
          refine sg_nil (sg_nil ?_)
          obtain ⟨⟨m9, bv9, nB9, acc9, cc9, F9, hps9, N9, hbr9, hacc9⟩, hS9, hB9, hBS9, hlen9, hos9⟩ := G'
          refine sg_N hA (fun E => SF2 B' X Tp hk hd hu (fr_named F9 hps9) N9) ?_ (.head _) (.tail _ (.head _)) (fun y hy => .tail _ (.tail _ hy)) hbr9 hacc9 hS9 hB9 hBS9 hlen9 hos9 ?_
          · rintro new N' ⟨_, rfl⟩ y hy
            cases hy
          · rintro s6 new N' ⟨rfl, rfl⟩ G6
            exact sg_nil (sg_nil (sg_nil (kont _ s6 _ imm' n' hsub rfl G6)))
        · have es : s4D p bb px pe x s1 = (.no, []) := by unfold s4D; rw [ite_f hb, ite_f hb2, ite_f hb3, ite_f hb4]
          rw [es] at hout kont
          rw [st45_e]
          refine sg_nil (sg_nil ?_)
          have G' : GF h₀ L S B outs os (mPs k x line a b O B (.ref D) (.str px u9) (.ref pq) pt t1 t2 t3 t4) d i n imm { s with heap := h5, toks := tk5 } :=
            ⟨⟨_, bv, nB, acc, cc, FA, mPs_ok, fun y hy => NA _ (.tail _ (.tail _ hy)), hbr, hacc⟩, hS, hB, hBS, hlen, hos⟩
          obtain ⟨⟨m9, bv9, nB9, acc9, cc9, F9, hps9, N9, hbr9, hacc9⟩, hS9, hB9, hBS9, hlen9, hos9⟩ := G'
          refine sg_N hA (fun E => SF2 B' X Tp hk hd hu (fr_named F9 hps9) N9) ?_ (.head _) (.tail _ (.head _)) (fun y hy => .tail _ (.tail _ hy)) hbr9 hacc9 hS9 hB9 hBS9 hlen9 hos9 ?_
          · rintro new N' ⟨_, rfl⟩ y hy
            cases hy
          · rintro s6 new N' ⟨rfl, rfl⟩ G6
            exact sg_nil (sg_nil (sg_nil (kont _ s6 _ imm n (fun _ h => h) rfl G6)))
end
end Mine
end
section
open PySem PySem.W PySem.Spec PySem.Calls PyProof.Rows PyProof.V
set_option maxHeartbeats 4000000
namespace Mine
section
variable {c : Cx} {base : Heap} {imm : Led} {dp un : Nat} {gd : Option (List Code)} {cn : Str} {cs : Scope} {a₀ : Addr} {ccd : Value} {cl : List (Str × Addr)} {outer : List Env} {L₀ : Addr} {h₀ : Heap} {L : Addr} {s s₀ : Shared}
  {k pt : Int} {x line px : Str} {a b O B S D q pq n d i : Nat} {t1 t2 t3 t4 u1 u2 u3 u4 u5 u6 u7 u8 u9 : Tok} {p pe s1 : Int} {bb : Bool} {outs : List Out} {os : OsG}
  {fb rest : List Stmt} {it : Value} {κ : Result → Sem PySem.Fin} {lvl : List Value} {pp : Pos} {K : Flow → Sem PySem.Fin} {H : Value → Sem PySem.Fin} {R : GenEnd} {lv : List Value → List Value}
theorem sgY (B' : Below (ktrTop dp un gd cn cs L₀ a₀ ccd cl outer) base (envX cn cs L₀ a₀ ccd cl :: outer) h₀) (X : (frag c.w.params).In h₀) (Tp : Top c.p c.loose c.mean c.mg c.mb h₀) (hk : cs.kind = .function) (hd : dp + 10 < recursionLimit) (hu : un + 128 < cLine)
    (mp : (pq, tup2 (.int 3 u3) (.int pe u4)) ∈ imm) (ma : (a, tup2 (.int 3 u5) (.int s1 u6)) ∈ imm)
    (G : GF h₀ L S B outs os (mPs k x line a b O B (.bool true) (.str px u9) (.ref pq) pt t1 t2 t3 t4) d i n imm s)
    (hout : ∀ o ∈ (s4Y px pe x s1).2, outs[i]? = some o)
    (kont : ∀ s₁ s' N' imm' n', (∀ p ∈ imm, p ∈ imm') → NSV imm' N' (s4Y px pe x s1).1 → GF h₀ L S B outs os (mPs k x line a b O B N' (.str px u9) (.ref pq) pt t1 t2 t3 t4) d (i + (s4Y px pe x s1).2.length) n' imm' s' →
      Seg (MM c.w) (ktrTop dp un gd cn cs L₀ a₀ ccd cl outer) R (YY h₀ L S outs os) n' s₁ (.forLoop mTgt it mBody [] (mEnv L)) ((execs rest (mEnv L)).wrap K H id lv) [.ret κ none false lvl (.func fb (mEnv L)) pp []] s') :
    Seg (MM c.w) (ktrTop dp un gd cn cs L₀ a₀ ccd cl outer) R (YY h₀ L S outs os) n s₀ (.forLoop mTgt it mBody [] (mEnv L)) ((execs (st4 :: rest) (mEnv L)).wrap K H id lv) [.ret κ none false lvl (.func fb (mEnv L)) pp []] s := by
  obtain ⟨⟨m, bv, nB, acc, cc, F, hps, Ne, hbr, hacc⟩, hS, hB, hBS, hlen, hos⟩ := G
  have F1 := fr_named F hps
  have hA := over_for (dp := dp) (un := un) (gd := gd) (cn := cn) (cs := cs) (L := L₀) (a := a₀) (ccd := ccd) (cl := cl) (outer := outer) fb mBody [] mTgt it (mEnv L) (mEnv L) (k := κ) (g := false) (l := lvl) (p := pp)
  obtain ⟨p4, e4⟩ := st4_if
  refine sg_T e4 hA (fun E => T0y B' X Tp hk hd hu F1 Ne) (fun _ h' tk' F2 N2 => ?_) (fun e => by cases e)
  rw [st4_b]
  obtain ⟨p41, e41⟩ := st41_if
  have N3 : News h₀ L h' ((pq, tup2 (.int 3 u3) (.int pe u4)) :: (a, tup2 (.int 3 u5) (.int s1 u6)) :: (B, listOf bv.toArray nB) :: (S, lobj acc cc) :: imm) := fun y hy => by
    rcases List.mem_cons.mp hy with rfl | hy
    · exact N2 _ (.tail _ (.tail _ mp))
    rcases List.mem_cons.mp hy with rfl | hy
    · exact N2 _ (.tail _ (.tail _ ma))
    · exact N2 _ hy
  refine sg_T e41 hA (fun E => T1 (s := { s with heap := h', toks := tk' }) B' X Tp hk hd hu F2 N3) (fun hb h'' tk'' F4 N4 => ?_) (fun hb h'' tk'' F4 N4 => ?_)
  · rw [st41_b]
    obtain ⟨p43, e43⟩ := st43_if
    have es : (s4Y px pe x s1) = (.no, []) := by unfold s4Y; rw [if_pos hb]
    rw [es] at hout kont
    refine sg_T e43 hA (fun E => T3y (s := { s with heap := h'', toks := tk'' }) B' X Tp hk hd hu F4 N4) (fun e => by cases e) (fun _ h3 tk3 F6 N6 => ?_)
    rw [st43_e]
    refine sg_nil ?_
    have G' : GF h₀ L S B outs os (mPs k x line a b O B (.bool true) (.str px u9) (.ref pq) pt t1 t2 t3 t4) d i n imm { s with heap := h3, toks := tk3 } :=
      ⟨⟨_, bv, nB, acc, cc, F6, mPs_ok, fun y hy => N6 _ (.tail _ (.tail _ hy)), hbr, hacc⟩, hS, hB, hBS, hlen, hos⟩
    obtain ⟨⟨m9, bv9, nB9, acc9, cc9, F9, hps9, N9, hbr9, hacc9⟩, hS9, hB9, hBS9, hlen9, hos9⟩ := G'
    refine sg_N hA (fun E => SF1 B' X Tp hk hd hu (fr_named F9 hps9) N9) ?_ (.head _) (.tail _ (.head _)) (fun y hy => .tail _ (.tail _ hy)) hbr9 hacc9 hS9 hB9 hBS9 hlen9 hos9 ?_
    · rintro new N' ⟨_, rfl⟩ y hy
      cases hy
    · rintro s6 new N' ⟨rfl, rfl⟩ G6
      exact sg_nil (sg_nil (kont _ s6 _ imm n (fun _ h => h) rfl G6))
  · rw [st41_e]
    obtain ⟨p42, e42⟩ := st42_if
    refine sg_T e42 hA (fun E => T2 (s := { s with heap := h'', toks := tk'' }) B' X Tp hk hd hu F4 N4) (fun hb2 h3 tk3 F6 N6 => ?_) (fun hb2 h3 tk3 F6 N6 => ?_)
    · have es : (s4Y px pe x s1) = (.yes, []) := by unfold s4Y; rw [ite_f hb, if_pos hb2]
      rw [es] at hout kont
      rw [st42_b]
      refine sg_stmt hA fun E => wpAny_bind (wpAny_standAt (wpAny_pure ⟨rfl, ?_⟩))
      refine sg_nil (sg_nil (sg_nil ?_))
      exact kont _ _ (.bool true) imm n (fun _ h => h) rfl ⟨⟨_, bv, nB, acc, cc, F6, mPs_ok, fun y hy => N6 _ (.tail _ (.tail _ hy)), hbr, hacc⟩, hS, hB, hBS, hlen, hos⟩
    · rw [st42_e]
      obtain ⟨p44, e44⟩ := st44_if
      have es : (s4Y px pe x s1) = (.no, [(pe, m225)]) := by unfold s4Y; rw [ite_f hb, ite_f hb2]
      rw [es] at hout kont
      have ho := hout _ (.head _)
      obtain ⟨n', rfl⟩ : ∃ n', n = n' + 1 := ⟨n - 1, by
        have : i < outs.length := (List.getElem?_eq_some_iff.mp ho).1
        omega⟩
      refine sg_T e44 hA (fun E => T4y (s := { s with heap := h3, toks := tk3 }) B' X Tp hk hd hu F6 N6) (fun _ h4 tk4 F8 N8 => ?_) (fun e => by cases e)
      rw [st44_b]
      obtain ⟨yp, p5, e5⟩ := y44
      refine sg_Y e5 hA rfl rfl rfl (fun E => Y2 (s := { s with heap := h4, toks := tk4 }) B' X Tp hk hd hu F8 N8) mPs_ok (.tail _ (.tail _ (.head _))) (.tail _ (.tail _ (.tail _ (.head _)))) (fun y hy => .tail _ (.tail _ (.tail _ (.tail _ hy)))) hbr hacc hS hB hBS hlen hos mp ho ?_
      intro s'' imm' hsub G'
      refine sg_nil ?_
      obtain ⟨⟨m9, bv9, nB9, acc9, cc9, F9, hps9, N9, hbr9, hacc9⟩, hS9, hB9, hBS9, hlen9, hos9⟩ := G'
      refine sg_N hA (fun E => SF2 B' X Tp hk hd hu (fr_named F9 hps9) N9) ?_ (.head _) (.tail _ (.head _)) (fun y hy => .tail _ (.tail _ hy)) hbr9 hacc9 hS9 hB9 hBS9 hlen9 hos9 ?_
      · rintro new N' ⟨_, rfl⟩ y hy
        cases hy
      · rintro s6 new N' ⟨rfl, rfl⟩ G6
        exact sg_nil (sg_nil (sg_nil (kont _ s6 _ imm' n' hsub rfl G6)))
end
end Mine
end
section
open PySem PySem.W PySem.Spec PySem.Calls PyProof.Rows PyProof.V
set_option maxHeartbeats 4000000
namespace Mine
noncomputable def s4B (k pt : Int) (px : Str) (pe : Int) (x : Str) (s1 : Int) (d : Nat) : NS × List Out :=
  if opB k = true then (if nsB pt px x d = 0 then (.no, []) else if nsB pt px x d = 1 then (if (s1 == pe) = true then (.no, [(pe, m225)]) else (.yes, [])) else (.pend pe (!(s1 == pe)), [])) else (.no, [])
section
variable {c : Cx} {base : Heap} {imm : Led} {dp un : Nat} {gd : Option (List Code)} {cn : Str} {cs : Scope} {a₀ : Addr} {ccd : Value} {cl : List (Str × Addr)} {outer : List Env} {L₀ : Addr} {h₀ : Heap} {L : Addr} {s s₀ : Shared}
  {k pt : Int} {x line px : Str} {a b O B S D q pq n d i : Nat} {t1 t2 t3 t4 u1 u2 u3 u4 u5 u6 u7 u8 u9 : Tok} {p pe s1 : Int} {bb : Bool} {outs : List Out} {os : OsG}
  {fb rest : List Stmt} {it : Value} {κ : Result → Sem PySem.Fin} {lvl : List Value} {pp : Pos} {K : Flow → Sem PySem.Fin} {H : Value → Sem PySem.Fin} {R : GenEnd} {lv : List Value → List Value}
theorem sgN0 {PT : Value} (k3 : k = 1 ∨ k = 2 ∨ k = 54) (B' : Below (ktrTop dp un gd cn cs L₀ a₀ ccd cl outer) base (envX cn cs L₀ a₀ ccd cl :: outer) h₀) (X : (frag c.w.params).In h₀) (Tp : Top c.p c.loose c.mean c.mg c.mb h₀) (hk : cs.kind = .function) (hd : dp + 10 < recursionLimit) (hu : un + 128 < cLine) (mO : (O, tup2 (.int 54 u1) (.int 1 u2)) ∈ imm)
    (G : GF h₀ L S B outs os (mPs k x line a b O B (.bool false) PT .none pt t1 t2 t3 t4) d i n imm s)
    (kont : ∀ s₁ s', GF h₀ L S B outs os (mPs k x line a b O B (.bool false) PT .none pt t1 t2 t3 t4) d i n imm s' → Seg (MM c.w) (ktrTop dp un gd cn cs L₀ a₀ ccd cl outer) R (YY h₀ L S outs os) n s₁ (.forLoop mTgt it mBody [] (mEnv L)) ((execs rest (mEnv L)).wrap K H id lv) [.ret κ none false lvl (.func fb (mEnv L)) pp []] s') :
    Seg (MM c.w) (ktrTop dp un gd cn cs L₀ a₀ ccd cl outer) R (YY h₀ L S outs os) n s₀ (.forLoop mTgt it mBody [] (mEnv L)) ((execs (st4 :: rest) (mEnv L)).wrap K H id lv) [.ret κ none false lvl (.func fb (mEnv L)) pp []] s := by
  obtain ⟨⟨m, bv, nB, acc, cc, F, hps, Ne, hbr, hacc⟩, hS, hB, hBS, hlen, hos⟩ := G
  have F1 := fr_named F hps
  have hA := over_for (dp := dp) (un := un) (gd := gd) (cn := cn) (cs := cs) (L := L₀) (a := a₀) (ccd := ccd) (cl := cl) (outer := outer) fb mBody [] mTgt it (mEnv L) (mEnv L) (k := κ) (g := false) (l := lvl) (p := pp)
  obtain ⟨p4, e4⟩ := st4_if
  refine sg_T e4 hA (fun E => T0n B' X Tp hk hd hu F1 Ne) (fun e => by cases e) (fun _ h' tk' F2 N2 => ?_)
  rw [st4_e]
  obtain ⟨p46, e46⟩ := st46_if
  have N3 : News h₀ L h' ((O, tup2 (.int 54 u1) (.int 1 u2)) :: (B, listOf bv.toArray nB) :: (S, lobj acc cc) :: imm) := fun y hy => by
    rcases List.mem_cons.mp hy with rfl | hy
    · exact N2 _ (.tail _ (.tail _ mO))
    · exact N2 _ hy
  refine sg_T e46 hA (fun E => T6n (s := { s with heap := h', toks := tk' }) k3 B' X Tp hk hd hu F2 N3) (fun e => by cases e) (fun _ h'' tk'' F4 N4 => ?_)
  rw [st46_e]
  exact sg_nil (sg_nil (kont _ _ ⟨⟨_, bv, nB, acc, cc, F4, mPs_ok, fun y hy => N4 _ (.tail _ hy), hbr, hacc⟩, hS, hB, hBS, hlen, hos⟩))
theorem sgB (hp8 : 0 < px.length ∧ px.length < 20) (k3 : k = 1 ∨ k = 2 ∨ k = 54) (B' : Below (ktrTop dp un gd cn cs L₀ a₀ ccd cl outer) base (envX cn cs L₀ a₀ ccd cl :: outer) h₀) (X : (frag c.w.params).In h₀) (Tp : Top c.p c.loose c.mean c.mg c.mb h₀) (hk : cs.kind = .function) (hd : dp + 10 < recursionLimit) (hu : un + 128 < cLine) (mO : (O, tup2 (.int 54 u1) (.int 1 u2)) ∈ imm)
    (mp : (pq, tup2 (.int 3 u3) (.int pe u4)) ∈ imm) (ma : (a, tup2 (.int 3 u5) (.int s1 u6)) ∈ imm)
    (G : GF h₀ L S B outs os (mPs k x line a b O B (.bool false) (.str px u9) (.ref pq) pt t1 t2 t3 t4) d i n imm s)
    (hout : ∀ o ∈ (s4B k pt px pe x s1 d).2, outs[i]? = some o)
    (kont : ∀ s₁ s' N' imm' n', (∀ p ∈ imm, p ∈ imm') → NSV imm' N' (s4B k pt px pe x s1 d).1 → GF h₀ L S B outs os (mPs k x line a b O B N' (.str px u9) (.ref pq) pt t1 t2 t3 t4) d (i + (s4B k pt px pe x s1 d).2.length) n' imm' s' →
      Seg (MM c.w) (ktrTop dp un gd cn cs L₀ a₀ ccd cl outer) R (YY h₀ L S outs os) n' s₁ (.forLoop mTgt it mBody [] (mEnv L)) ((execs rest (mEnv L)).wrap K H id lv) [.ret κ none false lvl (.func fb (mEnv L)) pp []] s') :
    Seg (MM c.w) (ktrTop dp un gd cn cs L₀ a₀ ccd cl outer) R (YY h₀ L S outs os) n s₀ (.forLoop mTgt it mBody [] (mEnv L)) ((execs (st4 :: rest) (mEnv L)).wrap K H id lv) [.ret κ none false lvl (.func fb (mEnv L)) pp []] s := by
  obtain ⟨⟨m, bv, nB, acc, cc, F, hps, Ne, hbr, hacc⟩, hS, hB, hBS, hlen, hos⟩ := G
  have F1 := fr_named F hps
  have hA := over_for (dp := dp) (un := un) (gd := gd) (cn := cn) (cs := cs) (L := L₀) (a := a₀) (ccd := ccd) (cl := cl) (outer := outer) fb mBody [] mTgt it (mEnv L) (mEnv L) (k := κ) (g := false) (l := lvl) (p := pp)
  obtain ⟨p4, e4⟩ := st4_if
  refine sg_T e4 hA (fun E => T0n B' X Tp hk hd hu F1 Ne) (fun e => by cases e) (fun _ h' tk' F2 N2 => ?_)
  rw [st4_e]
  obtain ⟨p46, e46⟩ := st46_if
  have N3 : News h₀ L h' ((O, tup2 (.int 54 u1) (.int 1 u2)) :: (B, listOf bv.toArray nB) :: (S, lobj acc cc) :: imm) := fun y hy => by
    rcases List.mem_cons.mp hy with rfl | hy
    · exact N2 _ (.tail _ (.tail _ mO))
    · exact N2 _ hy
  refine sg_T e46 hA (fun E => T6s (s := { s with heap := h', toks := tk' }) k3 B' X Tp hk hd hu F2 N3) (fun hb h'' tk'' F4 N4 => ?_) (fun hb h'' tk'' F4 N4 => ?_)
  · rw [st46_b]
    have hB2 : ∀ p ∈ (S, lobj acc cc) :: imm, p.1 ≠ B := fun y hy => by
      rcases List.mem_cons.mp hy with rfl | hy
      · exact fun e => hBS e.symm
      · exact hB _ hy
    refine sg_stmt hA fun E => wpAny_mono (S47 (s := { s with heap := h'', toks := tk'' }) hp8 hbr hB2 B' X Tp hk hd hu F4 (fun y hy => N4 _ (.tail _ hy))) (fun f s' h => ?_) fun _ _ y => y
    obtain ⟨rfl, h3, tk3, m3, bv3, nB3, rfl, F5, N5, hbr5, hps5⟩ := h
    refine ⟨rfl, ?_⟩
    have F6 := fr_named F5 hps5
    obtain ⟨p48, e48⟩ := st48_if
    by_cases c0 : nsB pt px x d = 0
    · have es : (s4B k pt px pe x s1 d) = (.no, []) := by unfold s4B; rw [if_pos hb, if_pos c0]
      rw [es] at hout kont
      rw [c0] at F6
      refine sg_T e48 hA (fun E => T8f (s := { s with heap := h3, toks := tk3 }) B' X Tp hk hd hu F6 N5) (fun e => by cases e) (fun _ h4 tk4 F7 N7 => ?_)
      rw [st48_e]
      obtain ⟨p49, e49⟩ := st49_if
      refine sg_T e49 hA (fun E => T9f (s := { s with heap := h4, toks := tk4 }) B' X Tp hk hd hu F7 N7) (fun e => by cases e) (fun _ h5 tk5 F8 N8 => ?_)
      rw [st49_e]
      exact sg_nil (sg_nil (sg_nil (sg_nil (kont _ _ (.bool false) imm n (fun _ h => h) rfl ⟨⟨_, bv3, nB3, acc, cc, F8, mPs_ok, N8, hbr5, hacc⟩, hS, hB, hBS, hlen, hos⟩))))
    · by_cases c1 : nsB pt px x d = 1
      · rw [c1] at F6
        refine sg_T e48 hA (fun E => T8f (s := { s with heap := h3, toks := tk3 }) B' X Tp hk hd hu F6 N5) (fun e => by cases e) (fun _ h4 tk4 F7 N7 => ?_)
        rw [st48_e]
        obtain ⟨p49, e49⟩ := st49_if
        have N9' : News h₀ L h4 ((pq, tup2 (.int 3 u3) (.int pe u4)) :: (a, tup2 (.int 3 u5) (.int s1 u6)) :: (B, listOf bv3.toArray nB3) :: (S, lobj acc cc) :: imm) := fun y hy => by
          rcases List.mem_cons.mp hy with rfl | hy
          · exact N7 _ (.tail _ (.tail _ mp))
          rcases List.mem_cons.mp hy with rfl | hy
          · exact N7 _ (.tail _ (.tail _ ma))
          · exact N7 _ hy
        refine sg_T e49 hA (fun E => T9t (s := { s with heap := h4, toks := tk4 }) B' X Tp hk hd hu F7 N9') (fun hb9 h5 tk5 F8 N8 => ?_) (fun hb9 h5 tk5 F8 N8 => ?_)
        · have es : (s4B k pt px pe x s1 d) = (.no, [(pe, m225)]) := by unfold s4B; rw [if_pos hb, if_neg c0, if_pos c1, if_pos hb9]
          rw [es] at hout kont
          have ho := hout _ (.head _)
          obtain ⟨n', rfl⟩ : ∃ n', n = n' + 1 := ⟨n - 1, by
            have : i < outs.length := (List.getElem?_eq_some_iff.mp ho).1
            omega⟩
          rw [st49_b]
          obtain ⟨yp, p5, e5⟩ := y49
          refine sg_Y e5 hA rfl rfl rfl (fun E => Y9 (s := { s with heap := h5, toks := tk5 }) B' X Tp hk hd hu F8 N8) mPs_ok (.tail _ (.tail _ (.head _))) (.tail _ (.tail _ (.tail _ (.head _)))) (fun y hy => .tail _ (.tail _ (.tail _ (.tail _ hy)))) hbr5 hacc hS hB hBS hlen hos mp ho ?_
          intro s'' imm' hsub G'
          obtain ⟨⟨m9, bv9, nB9, acc9, cc9, F9, hps9, N9, hbr9, hacc9⟩, hS9, hB9, hBS9, hlen9, hos9⟩ := G'
          refine sg_N hA (fun E => SF3 B' X Tp hk hd hu (fr_named F9 hps9) N9) ?_ (.head _) (.tail _ (.head _)) (fun y hy => .tail _ (.tail _ hy)) hbr9 hacc9 hS9 hB9 hBS9 hlen9 hos9 ?_
          · rintro new N' ⟨_, rfl⟩ y hy
            cases hy
          · rintro s6 new N' ⟨rfl, rfl⟩ G6
            exact sg_nil (sg_nil (sg_nil (sg_nil (kont _ s6 _ imm' n' hsub rfl G6))))
        · have es : (s4B k pt px pe x s1 d) = (.yes, []) := by unfold s4B; rw [if_pos hb, if_neg c0, if_pos c1, ite_f hb9]
          rw [es] at hout kont
          rw [st49_e]
          exact sg_nil (sg_nil (sg_nil (sg_nil (kont _ _ (.bool true) imm n (fun _ h => h) rfl ⟨⟨_, bv3, nB3, acc, cc, F8, mPs_ok, fun y hy => N8 _ (.tail _ (.tail _ hy)), hbr5, hacc⟩, hS, hB, hBS, hlen, hos⟩))))
      · have es : (s4B k pt px pe x s1 d) = (.pend pe (!(s1 == pe)), []) := by unfold s4B; rw [if_pos hb, if_neg c0, if_neg c1]
        rw [es] at hout kont
        have e2 : nsV (nsB pt px x d) = .none := by
          generalize nsB pt px x d = w at c0 c1
          match w, c0, c1 with
          | 0, c0, _ => exact absurd rfl c0
          | 1, _, c1 => exact absurd rfl c1
          | _ + 2, _, _ => rfl
        rw [e2] at F6
        refine sg_T e48 hA (fun E => T8n (s := { s with heap := h3, toks := tk3 }) B' X Tp hk hd hu F6 N5) (fun _ h4 tk4 F7 N7 => ?_) (fun e => by cases e)
        rw [st48_b]
        have N9' : News h₀ L h4 ((pq, tup2 (.int 3 u3) (.int pe u4)) :: (a, tup2 (.int 3 u5) (.int s1 u6)) :: (B, listOf bv3.toArray nB3) :: (S, lobj acc cc) :: imm) := fun y hy => by
          rcases List.mem_cons.mp hy with rfl | hy
          · exact N7 _ (.tail _ (.tail _ mp))
          rcases List.mem_cons.mp hy with rfl | hy
          · exact N7 _ (.tail _ (.tail _ ma))
          · exact N7 _ hy
        refine sg_N hA (fun E => S8 (s := { s with heap := h4, toks := tk4 }) B' X Tp hk hd hu F7 N9') ?_ (.tail _ (.tail _ (.head _))) (.tail _ (.tail _ (.tail _ (.head _)))) (fun y hy => .tail _ (.tail _ (.tail _ (.tail _ hy)))) hbr5 hacc hS hB hBS hlen hos ?_
        · rintro new N' ⟨D, _, rfl⟩ y hy
          rw [List.mem_singleton.mp hy]
        · rintro s6 new N' ⟨D, rfl, rfl⟩ G6
          exact sg_nil (sg_nil (sg_nil (kont _ s6 _ _ n (fun y h => .tail _ h) ⟨D, pq, u3, u4, rfl, .head _, .tail _ mp⟩ G6)))
  · have es : (s4B k pt px pe x s1 d) = (.no, []) := by unfold s4B; rw [ite_f hb]
    rw [es] at hout kont
    rw [st46_e]
    exact sg_nil (sg_nil (kont _ _ (.bool false) imm n (fun _ h => h) rfl ⟨⟨_, bv, nB, acc, cc, F4, mPs_ok, fun y hy => N4 _ (.tail _ hy), hbr, hacc⟩, hS, hB, hBS, hlen, hos⟩))
end
end Mine
end
section
open PySem PySem.W PySem.Spec PySem.Calls PyProof.Rows PyProof.V
set_option maxHeartbeats 4000000
namespace Mine
noncomputable def nextC (line : Str) (e1 : Int) : Str := Txt.slice line (some e1) (some (e1 + 1))
noncomputable def s3C (line : Str) (e1 s1 : Int) : List Out := if gapB (nextC line e1) = true then (if (!(occP (nextC line e1))) = true then [] else [(s1, m231)]) else []
theorem st3_if : ∃ p, st3 = .If (ifTest st3) (ifBody st3) (ifElse st3) p := ⟨_, rfl⟩
theorem st31_if : ∃ p, st31 = .If (ifTest st31) (ifBody st31) (ifElse st31) p := ⟨_, rfl⟩
theorem st32_if : ∃ p, st32 = .If (ifTest st32) (ifBody st32) (ifElse st32) p := ⟨_, rfl⟩
theorem st33_if : ∃ p, st33 = .If (ifTest st33) (ifBody st33) (ifElse st33) p := ⟨_, rfl⟩
theorem st34_if : ∃ p, st34 = .If (ifTest st34) (ifBody st34) (ifElse st34) p := ⟨_, rfl⟩
theorem st35_if : ∃ p, st35 = .If (ifTest st35) (ifBody st35) (ifElse st35) p := ⟨_, rfl⟩
theorem st3_b : ifBody st3 = [(ifBody st3).getD 0 passS, st31] := rfl
theorem st31_b : ifBody st31 = [st32] := rfl
theorem st31_e : ifElse st31 = [] := rfl
theorem st32_e : ifElse st32 = [st33] := rfl
theorem st33_e : ifElse st33 = [st34] := rfl
theorem st34_e : ifElse st34 = [st35] := rfl
theorem st35_e : ifElse st35 = [(ifElse st35).getD 0 passS] := rfl
theorem st35_b : ∃ p, ifBody st35 = [.Pass p] := ⟨_, rfl⟩
theorem y35 : ∃ yp p, (ifElse st35).getD 0 passS = .Expr (.Yield (some (yExp ((ifElse st35).getD 0 passS))) yp) p := ⟨_, _, rfl⟩
theorem mPs_ok3 {k pt : Int} {x line : Str} {a b O B : Nat} {N PT PE v : Value} {t1 t2 t3 t4 : Tok} {u : Str → Option Value} : ∀ p ∈ mPs k x line a b O B N PT PE pt t1 t2 t3 t4, kstB u ((Str.ofString "next_char", v) :: mPs k x line a b O B N PT PE pt t1 t2 t3 t4) p.1 = some p.2 := by
  intro p hp
  unfold mPs at hp ⊢
  simp only [List.mem_cons, List.not_mem_nil, or_false] at hp
  rcases hp with rfl | rfl | rfl | rfl | rfl | rfl | rfl | rfl | rfl | rfl | rfl <;> (with_unfolding_all rfl)
section
variable {c : Cx} {base : Heap} {imm : Led} {dp un : Nat} {gd : Option (List Code)} {cn : Str} {cs : Scope} {a₀ : Addr} {ccd : Value} {cl : List (Str × Addr)} {outer : List Env} {L₀ : Addr} {h₀ : Heap} {L : Addr} {s s₀ : Shared}
  {k pt : Int} {x line px : Str} {a b O B S D q pq n d i : Nat} {t1 t2 t3 t4 u1 u2 u3 u4 u5 u6 u7 u8 u9 : Tok} {p pe s1 : Int} {bb : Bool} {outs : List Out} {os : OsG}
  {fb rest : List Stmt} {it : Value} {κ : Result → Sem PySem.Fin} {lvl : List Value} {pp : Pos} {K : Flow → Sem PySem.Fin} {H : Value → Sem PySem.Fin} {R : GenEnd} {lv : List Value → List Value}
theorem sgC {N PT PE : Value} {e1 : Int} (h0 : 0 ≤ e1) (h1 : e1 < line.length) (hl : line.length ≤ 1000) (B' : Below (ktrTop dp un gd cn cs L₀ a₀ ccd cl outer) base (envX cn cs L₀ a₀ ccd cl :: outer) h₀) (X : (frag c.w.params).In h₀) (Tp : Top c.p c.loose c.mean c.mg c.mb h₀) (hk : cs.kind = .function) (hd : dp + 10 < recursionLimit) (hu : un + 128 < cLine)
    (ma : (a, tup2 (.int 3 u5) (.int s1 u6)) ∈ imm) (mb : (b, tup2 (.int 3 u7) (.int e1 u8)) ∈ imm)
    (G : GF h₀ L S B outs os (mPs 54 (Str.ofString ",") line a b O B N PT PE pt t1 t2 t3 t4) d i n imm s)
    (hout : ∀ o ∈ (s3C line e1 s1), outs[i]? = some o)
    (kont : ∀ s₁ s' imm' n', (∀ p ∈ imm, p ∈ imm') → GF h₀ L S B outs os (mPs 54 (Str.ofString ",") line a b O B N PT PE pt t1 t2 t3 t4) d (i + (s3C line e1 s1).length) n' imm' s' →
      Seg (MM c.w) (ktrTop dp un gd cn cs L₀ a₀ ccd cl outer) R (YY h₀ L S outs os) n' s₁ (.forLoop mTgt it mBody [] (mEnv L)) ((execs rest (mEnv L)).wrap K H id lv) [.ret κ none false lvl (.func fb (mEnv L)) pp []] s') :
    Seg (MM c.w) (ktrTop dp un gd cn cs L₀ a₀ ccd cl outer) R (YY h₀ L S outs os) n s₀ (.forLoop mTgt it mBody [] (mEnv L)) ((execs (st3 :: rest) (mEnv L)).wrap K H id lv) [.ret κ none false lvl (.func fb (mEnv L)) pp []] s := by
  obtain ⟨⟨m, bv, nB, acc, cc, F, hps, Ne, hbr, hacc⟩, hS, hB, hBS, hlen, hos⟩ := G
  have F1 := fr_named F hps
  have hA := over_for (dp := dp) (un := un) (gd := gd) (cn := cn) (cs := cs) (L := L₀) (a := a₀) (ccd := ccd) (cl := cl) (outer := outer) fb mBody [] mTgt it (mEnv L) (mEnv L) (k := κ) (g := false) (l := lvl) (p := pp)
  obtain ⟨p3, e3⟩ := st3_if
  refine sg_T e3 hA (fun E => Q0 B' X Tp hk hd hu F1 Ne) (fun _ h' tk' F2 N2 => ?_) (fun e => by cases e)
  rw [st3_b]
  have N3 : News h₀ L h' ((b, tup2 (.int 3 u7) (.int e1 u8)) :: (B, listOf bv.toArray nB) :: (S, lobj acc cc) :: imm) := fun y hy => by
    rcases List.mem_cons.mp hy with rfl | hy
    · exact N2 _ (.tail _ (.tail _ mb))
    · exact N2 _ hy
  refine sg_stmt hA fun E => wpAny_mono (Q1 (s := { s with heap := h', toks := tk' }) h0 h1 hl B' X Tp hk hd hu F2 N3) (fun f s' h => ?_) fun _ _ y => y
  obtain ⟨rfl, h3, tk3, m3, N', new, rfl, F4, N4, ⟨rfl, tn, rfl⟩, hps4⟩ := h
  refine ⟨rfl, ?_⟩
  have F5 := fr_named F4 hps4
  have N5 : News h₀ L h3 ((B, listOf bv.toArray nB) :: (S, lobj acc cc) :: imm) := fun y hy => N4 _ (.tail _ hy)
  obtain ⟨p31, e31⟩ := st31_if
  refine sg_T e31 hA (fun E => Q2 (s := { s with heap := h3, toks := tk3 }) B' X Tp hk hd hu F5 N5) (fun hb h4 tk4 F6 N6 => ?_) (fun hb h4 tk4 F6 N6 => ?_)
  · rw [st31_b]
    obtain ⟨p32, e32⟩ := st32_if
    refine sg_T e32 hA (fun E => Q32 (s := { s with heap := h4, toks := tk4 }) B' X Tp hk hd hu F6 N6) (fun e => by cases e) (fun _ h5 tk5 F7 N7 => ?_)
    rw [st32_e]
    obtain ⟨p33, e33⟩ := st33_if
    refine sg_T e33 hA (fun E => Q33 (s := { s with heap := h5, toks := tk5 }) B' X Tp hk hd hu F7 N7) (fun e => by cases e) (fun _ h6 tk6 F8 N8 => ?_)
    rw [st33_e]
    obtain ⟨p34, e34⟩ := st34_if
    refine sg_T e34 hA (fun E => Q34 (s := { s with heap := h6, toks := tk6 }) B' X Tp hk hd hu F8 N8) (fun e => by cases e) (fun _ h7 tk7 F9 N9 => ?_)
    rw [st34_e]
    obtain ⟨p35, e35⟩ := st35_if
    refine sg_T e35 hA (fun E => Q35 (s := { s with heap := h7, toks := tk7 }) B' X Tp hk hd hu F9 N9) (fun hb2 h8 tk8 FA NA => ?_) (fun hb2 h8 tk8 FA NA => ?_)
    · have es : (s3C line e1 s1) = [] := by unfold s3C nextC; rw [if_pos hb, if_pos hb2]
      rw [es] at hout kont
      obtain ⟨pq', eq'⟩ := st35_b
      rw [eq']
      refine sg_stmt hA fun E => wpAny_bind (wpAny_standAt (wpAny_pure ⟨rfl, ?_⟩))
      exact sg_nil (sg_nil (sg_nil (sg_nil (sg_nil (sg_nil (kont _ _ imm n (fun _ h => h) ⟨⟨_, bv, nB, acc, cc, FA, mPs_ok3, NA, hbr, hacc⟩, hS, hB, hBS, hlen, hos⟩))))))
    · have es : (s3C line e1 s1) = [(s1, m231)] := by unfold s3C nextC; rw [if_pos hb, ite_f hb2]
      rw [es] at hout kont
      have ho := hout _ (.head _)
      obtain ⟨n', rfl⟩ : ∃ n', n = n' + 1 := ⟨n - 1, by
        have : i < outs.length := (List.getElem?_eq_some_iff.mp ho).1
        omega⟩
      rw [st35_e]
      obtain ⟨yp, p5, e5⟩ := y35
      refine sg_Y e5 hA rfl rfl rfl (fun E => Y231 (s := { s with heap := h8, toks := tk8 }) B' X Tp hk hd hu FA NA) mPs_ok3 (.head _) (.tail _ (.head _)) (fun y hy => .tail _ (.tail _ hy)) hbr hacc hS hB hBS hlen hos ma ho ?_
      intro s'' imm' hsub G'
      exact sg_nil (sg_nil (sg_nil (sg_nil (sg_nil (sg_nil (kont _ s'' imm' n' hsub G'))))))
  · have es : (s3C line e1 s1) = [] := by unfold s3C nextC; rw [ite_f hb]
    rw [es] at hout kont
    rw [st31_e]
    exact sg_nil (sg_nil (kont _ _ imm n (fun _ h => h) ⟨⟨_, bv, nB, acc, cc, F6, mPs_ok3, N6, hbr, hacc⟩, hS, hB, hBS, hlen, hos⟩))
end
end Mine
end
section
open PySem PySem.W PySem.Spec PySem.Calls PyProof.Rows PyProof.V
set_option maxHeartbeats 4000000
namespace Mine
noncomputable def s4 (ns : NS) (pt : Int) (pv : Option (Str × Int)) (d : Nat) (k : Int) (x : Str) (s1 : Int) : NS × List Out := match pv with
  | none => (ns, [])
  | some (px, pe) => match ns with
    | .no => s4B k pt px pe x s1 d
    | .yes => s4Y px pe x s1
    | .pend p b => s4D p b px pe x s1
noncomputable def PVV (imm : Led) (PT PE : Value) : Option (Str × Int) → Prop
  | none => PT = .none ∧ PE = .none
  | some (px, pe) => (0 < px.length ∧ px.length < 20) ∧ ∃ (u9 : Tok) (pq : Nat) (u3 u4 : Tok), PT = .str px u9 ∧ PE = .ref pq ∧ (pq, tup2 (.int 3 u3) (.int pe u4)) ∈ imm
theorem PVV.mono {imm imm' : Led} (h : ∀ p ∈ imm, p ∈ imm') {PT PE : Value} {pv : Option (Str × Int)} (x : PVV imm PT PE pv) : PVV imm' PT PE pv := by
  cases pv with
  | none => exact x
  | some v =>
    obtain ⟨hl, u9, pq, u3, u4, e1, e2, m⟩ := x
    exact ⟨hl, u9, pq, u3, u4, e1, e2, h _ m⟩
section
variable {c : Cx} {base : Heap} {imm : Led} {dp un : Nat} {gd : Option (List Code)} {cn : Str} {cs : Scope} {a₀ : Addr} {ccd : Value} {cl : List (Str × Addr)} {outer : List Env} {L₀ : Addr} {h₀ : Heap} {L : Addr} {s s₀ : Shared}
  {k pt : Int} {x line px : Str} {a b O B S D q pq n d i : Nat} {t1 t2 t3 t4 u1 u2 u3 u4 u5 u6 u7 u8 u9 : Tok} {p pe s1 : Int} {bb : Bool} {outs : List Out} {os : OsG}
  {fb rest : List Stmt} {it : Value} {κ : Result → Sem PySem.Fin} {lvl : List Value} {pp : Pos} {K : Flow → Sem PySem.Fin} {H : Value → Sem PySem.Fin} {R : GenEnd} {lv : List Value → List Value}
theorem sg4 {N PT PE : Value} {ns : NS} {pv : Option (Str × Int)} (k3 : k = 1 ∨ k = 2 ∨ k = 54) (B' : Below (ktrTop dp un gd cn cs L₀ a₀ ccd cl outer) base (envX cn cs L₀ a₀ ccd cl :: outer) h₀) (X : (frag c.w.params).In h₀) (Tp : Top c.p c.loose c.mean c.mg c.mb h₀) (hk : cs.kind = .function) (hd : dp + 10 < recursionLimit) (hu : un + 128 < cLine) (mO : (O, tup2 (.int 54 u1) (.int 1 u2)) ∈ imm) (ma : (a, tup2 (.int 3 u5) (.int s1 u6)) ∈ imm)
    (hN : NSV imm N ns) (hP : PVV imm PT PE pv) (hnp : pv = none → ns = .no)
    (G : GF h₀ L S B outs os (mPs k x line a b O B N PT PE pt t1 t2 t3 t4) d i n imm s)
    (hout : ∀ o ∈ (s4 ns pt pv d k x s1).2, outs[i]? = some o)
    (kont : ∀ s₁ s' N' imm' n', (∀ p ∈ imm, p ∈ imm') → NSV imm' N' (s4 ns pt pv d k x s1).1 → GF h₀ L S B outs os (mPs k x line a b O B N' PT PE pt t1 t2 t3 t4) d (i + (s4 ns pt pv d k x s1).2.length) n' imm' s' →
      Seg (MM c.w) (ktrTop dp un gd cn cs L₀ a₀ ccd cl outer) R (YY h₀ L S outs os) n' s₁ (.forLoop mTgt it mBody [] (mEnv L)) ((execs rest (mEnv L)).wrap K H id lv) [.ret κ none false lvl (.func fb (mEnv L)) pp []] s') :
    Seg (MM c.w) (ktrTop dp un gd cn cs L₀ a₀ ccd cl outer) R (YY h₀ L S outs os) n s₀ (.forLoop mTgt it mBody [] (mEnv L)) ((execs (st4 :: rest) (mEnv L)).wrap K H id lv) [.ret κ none false lvl (.func fb (mEnv L)) pp []] s := by
  cases pv with
  | none =>
    obtain rfl := hnp rfl
    obtain ⟨rfl, rfl⟩ := hP
    have hN : N = .bool false := hN
    subst hN
    exact sgN0 k3 B' X Tp hk hd hu mO G fun s₁ s' G' => kont s₁ s' (.bool false) imm n (fun _ h => h) rfl G'
  | some v =>
    obtain ⟨px, pe⟩ := v
    obtain ⟨hl, u9, pq, u3, u4, rfl, rfl, mp⟩ := hP
    cases ns with
    | no =>
      have hN : N = .bool false := hN
      subst hN
      exact sgB hl k3 B' X Tp hk hd hu mO mp ma G hout kont
    | yes =>
      have hN : N = .bool true := hN
      subst hN
      exact sgY B' X Tp hk hd hu mp ma G hout kont
    | pend p b' =>
      obtain ⟨D, q, w1, w2, rfl, mD, mq⟩ := hN
      exact sgD B' X Tp hk hd hu mD mq mp ma G hout kont
end
end Mine
end
section
open PySem PySem.W PySem.Spec PySem.Calls PyProof.Rows PyProof.V
set_option maxHeartbeats 4000000
namespace Mine
theorem mBody_eq : mBody = mBody.getD 0 passS :: mBody.getD 1 passS :: st3 :: st4 :: ([mBody.getD 4 passS, mBody.getD 5 passS, mBody.getD 6 passS] ++ []) := rfl
noncomputable def oC (line x : Str) (e1 s1 : Int) : List Out := if x = Str.ofString "," then s3C line e1 s1 else []
theorem s3C_len (line : Str) (e1 s1 : Int) : (s3C line e1 s1).length ≤ 1 := by
  unfold s3C
  split
  · split <;> simp
  · simp
theorem s4_len (ns : NS) (pt : Int) (pv : Option (Str × Int)) (d : Nat) (k : Int) (x : Str) (s1 : Int) : (s4 ns pt pv d k x s1).2.length ≤ 1 := by
  unfold s4
  cases pv with
  | none => simp
  | some v =>
    obtain ⟨px, pe⟩ := v
    cases ns with
    | no =>
      show (s4B k pt px pe x s1 d).2.length ≤ 1
      unfold s4B
      split
      · split
        · simp
        · split
          · split <;> simp
          · simp
      · simp
    | yes =>
      show (s4Y px pe x s1).2.length ≤ 1
      unfold s4Y
      split
      · simp
      · split <;> simp
    | pend p b =>
      show (s4D p b px pe x s1).2.length ≤ 1
      unfold s4D
      split
      · split <;> simp
      · split
        · simp
        · split
          · simp
          · split <;> simp
theorem one_mem {α : Type} {l : List α} (h : l.length ≤ 1) {o : α} (ho : o ∈ l) : l[0]? = some o := by
  match l, h with
  | [], _ => cases ho
  | [a], _ => rcases List.mem_cons.mp ho with rfl | h
              · rfl
              · cases h
  | a :: b :: t, h => simp at h
section
variable {c : Cx} {base : Heap} {imm : Led} {dp un : Nat} {gd : Option (List Code)} {cn : Str} {cs : Scope} {a₀ : Addr} {ccd : Value} {cl : List (Str × Addr)} {outer : List Env} {L₀ : Addr} {h₀ : Heap} {L : Addr} {s s₀ : Shared}
  {k pt : Int} {x line px : Str} {a b O B S D q pq n d d' i : Nat} {t1 t2 t3 t4 u1 u2 u3 u4 u5 u6 u7 u8 u9 : Tok} {p pe s1 e1 : Int} {bb : Bool} {outs : List Out} {os : OsG}
  {fb rest : List Stmt} {it : Value} {κ : Result → Sem PySem.Fin} {lvl : List Value} {pp : Pos} {K : Flow → Sem PySem.Fin} {H : Value → Sem PySem.Fin} {R : GenEnd} {lv : List Value → List Value}
theorem gf_mid {f : Flow} {s s' : Shared} {ps : List (Str × Value)} {acc : Array Value} {cc : Nat} (h : MMid h₀ L ((S, lobj acc cc) :: imm) B d ps s f s') (hacc : AccOk outs os imm i acc) (hS : ∀ p ∈ imm, p.1 ≠ S) (hB : ∀ p ∈ imm, p.1 ≠ B) (hBS : B ≠ S) (hlen : i + n = outs.length) (hos : osG s os) : f = .next ∧ GF h₀ L S B outs os ps d i n imm s' := by
  obtain ⟨rfl, h', tk', m', bv, nB, rfl, F, N, hb, hp⟩ := h
  exact ⟨rfl, ⟨m', bv, nB, acc, cc, F, hp, N, hb, hacc⟩, hS, hB, hBS, hlen, hos⟩
theorem gf_open {ps : List (Str × Value)} {P : Prop} (G : GF h₀ L S B outs os ps d i n imm s)
    (h : ∀ m bv nB acc cc, Fr h₀ L s.heap (kstB m ps) → News h₀ L s.heap ((B, listOf bv.toArray nB) :: (S, lobj acc cc) :: imm) → BrV bv d → AccOk outs os imm i acc → (∀ p ∈ (S, lobj acc cc) :: imm, p.1 ≠ B) → P) : P := by
  obtain ⟨⟨m, bv, nB, acc, cc, F, hps, Ne, hbr, hacc⟩, hS, hB, hBS, hlen, hos⟩ := G
  refine h m bv nB acc cc (fr_named F hps) Ne hbr hacc fun p hp => ?_
  rcases List.mem_cons.mp hp with rfl | hp
  · exact fun e => hBS e.symm
  · exact hB _ hp
theorem sg_mid {M : Model} {A A' : Around} {Y : Protocol} {co : Code} {fs : List Frame} {env : Env} {gd' : Bool → Bool} {st : Stmt} {ps ps' : List (Str × Value)} (hA : A.over co fs = A') (G : GF h₀ L S B outs os ps d i n imm s)
    (h : ∀ m bv nB acc cc E, Fr h₀ L s.heap (kstB m ps) → News h₀ L s.heap ((B, listOf bv.toArray nB) :: (S, lobj acc cc) :: imm) → BrV bv d → (∀ p ∈ (S, lobj acc cc) :: imm, p.1 ≠ B) →
      wpAny M A' (exec st env) (MMid h₀ L ((S, lobj acc cc) :: imm) B d' ps' s) E s)
    (kont : ∀ s', GF h₀ L S B outs os ps' d' i n imm s' → Seg M A R Y n s₀ co ((execs rest env).wrap K H gd' lv) fs s') :
    Seg M A R Y n s₀ co ((execs (st :: rest) env).wrap K H gd' lv) fs s :=
  gf_open G fun m bv nB acc cc F Ne hbr hacc hB => sg_stmt hA fun E => wpAny_mono (h m bv nB acc cc E F Ne hbr hB) (fun f s' h' => by
    obtain ⟨e, g⟩ := gf_mid h' hacc G.nS G.nB G.BS G.len G.os
    exact ⟨e, kont s' g⟩) fun _ _ y => y
theorem sg_midA {M : Model} {A A' : Around} {Y : Protocol} {co : Code} {fs : List Frame} {env : Env} {gd' : Bool → Bool} {sts : List Stmt} {ps ps' : List (Str × Value)} (hA : A.over co fs = A') (G : GF h₀ L S B outs os ps d i n imm s)
    (h : ∀ m bv nB acc cc E, Fr h₀ L s.heap (kstB m ps) → News h₀ L s.heap ((B, listOf bv.toArray nB) :: (S, lobj acc cc) :: imm) → BrV bv d → (∀ p ∈ (S, lobj acc cc) :: imm, p.1 ≠ B) →
      wpAny M A' (execs sts env) (MMid h₀ L ((S, lobj acc cc) :: imm) B d' ps' s) E s)
    (kont : ∀ s', GF h₀ L S B outs os ps' d' i n imm s' → Seg M A R Y n s₀ co ((execs rest env).wrap K H gd' lv) fs s') :
    Seg M A R Y n s₀ co ((execs (sts ++ rest) env).wrap K H gd' lv) fs s :=
  gf_open G fun m bv nB acc cc F Ne hbr hacc hB => sg_app hA sts fun E => wpAny_mono (h m bv nB acc cc E F Ne hbr hB) (fun f s' h' => by
    obtain ⟨e, g⟩ := gf_mid h' hacc G.nS G.nB G.BS G.len G.os
    exact ⟨e, kont s' g⟩) fun _ _ y => y
theorem sgTurn {N PT PE : Value} {ns : NS} {pv : Option (Str × Int)} (hx : XOk k x) (hcm : x = Str.ofString "," → k = 54 ∧ 0 ≤ e1 ∧ e1 < line.length ∧ line.length ≤ 1000) (hbd : x = Str.ofString "(" → d ≤ 1)
    (B' : Below (ktrTop dp un gd cn cs L₀ a₀ ccd cl outer) base (envX cn cs L₀ a₀ ccd cl :: outer) h₀) (X : (frag c.w.params).In h₀) (Tp : Top c.p c.loose c.mean c.mg c.mb h₀) (hk : cs.kind = .function) (hd : dp + 10 < recursionLimit) (hu : un + 128 < cLine)
    (mO : (O, tup2 (.int 54 u1) (.int 1 u2)) ∈ imm) (ma : (a, tup2 (.int 3 u5) (.int s1 u6)) ∈ imm) (mb : (b, tup2 (.int 3 u7) (.int e1 u8)) ∈ imm)
    (hN : NSV imm N ns) (hP : PVV imm PT PE pv) (hnp : pv = none → ns = .no)
    (G : GF h₀ L S B outs os (mPs k x line a b O B N PT PE pt t1 t2 t3 t4) d i n imm s)
    (hout : ∀ j o, (oC line x e1 s1 ++ (s4 ns pt pv (brNext k x d) k x s1).2)[j]? = some o → outs[i + j]? = some o)
    (kont : ∀ s₁ s' N' imm' n', (∀ p ∈ imm, p ∈ imm') → NSV imm' N' (s4 ns pt pv (brNext k x d) k x s1).1 → GF h₀ L S B outs os (mPs k x line a b O B N' (.str x t2) (.ref b) k t1 t2 t3 t1) (brNext k x d) (i + (oC line x e1 s1 ++ (s4 ns pt pv (brNext k x d) k x s1).2).length) n' imm' s' →
      Seg (MM c.w) (ktrTop dp un gd cn cs L₀ a₀ ccd cl outer) R (YY h₀ L S outs os) n' s₁ (.forLoop mTgt it mBody [] (mEnv L)) ((execs [] (mEnv L)).wrap K H id lv) [.ret κ none false lvl (.func fb (mEnv L)) pp []] s') :
    Seg (MM c.w) (ktrTop dp un gd cn cs L₀ a₀ ccd cl outer) R (YY h₀ L S outs os) n s₀ (.forLoop mTgt it mBody [] (mEnv L)) ((execs mBody (mEnv L)).wrap K H id lv) [.ret κ none false lvl (.func fb (mEnv L)) pp []] s := by
  have hA := over_for (dp := dp) (un := un) (gd := gd) (cn := cn) (cs := cs) (L := L₀) (a := a₀) (ccd := ccd) (cl := cl) (outer := outer) fb mBody [] mTgt it (mEnv L) (mEnv L) (k := κ) (g := false) (l := lvl) (p := pp)
  refine Eq.mpr (congrArg (fun t => Seg (MM c.w) (ktrTop dp un gd cn cs L₀ a₀ ccd cl outer) R (YY h₀ L S outs os) n s₀ (.forLoop mTgt it mBody [] (mEnv L)) ((execs t (mEnv L)).wrap K H id lv) [.ret κ none false lvl (.func fb (mEnv L)) pp []] s) mBody_eq) ?_
  refine sg_mid hA G (fun m bv nB acc cc E F Ne hbr hB => mS1 hx hbd hbr B' X Tp hk hd hu hB F Ne) fun s2 G2 => ?_
  refine sg_mid hA G2 (fun m bv nB acc cc E F Ne hbr hB => mS2 hx hbr B' X Tp hk hd hu hB F Ne) fun s3 G3 => ?_
  have last : ∀ (s₁ s' : Shared) (N' : Value) (imm' : Led) (n' : Nat) (nn : NS) (i' : Nat), i' = (i + (oC line x e1 s1 ++ (s4 ns pt pv (brNext k x d) k x s1).2).length) → (∀ p ∈ imm, p ∈ imm') → nn = (s4 ns pt pv (brNext k x d) k x s1).1 → NSV imm' N' nn → GF h₀ L S B outs os (mPs k x line a b O B N' PT PE pt t1 t2 t3 t4) (brNext k x d) i' n' imm' s' →
      Seg (MM c.w) (ktrTop dp un gd cn cs L₀ a₀ ccd cl outer) R (YY h₀ L S outs os) n' s₁ (.forLoop mTgt it mBody [] (mEnv L)) ((execs ([mBody.getD 4 passS, mBody.getD 5 passS, mBody.getD 6 passS] ++ []) (mEnv L)).wrap K H id lv) [.ret κ none false lvl (.func fb (mEnv L)) pp []] s' := by
    rintro s₁ s' N' imm' n' _ _ rfl hsub rfl hN' G'
    exact sg_midA hA G' (fun m bv nB acc cc E F Ne hbr hB => mS567 (i := i) hbr B' X Tp hk hd hu hB F Ne) fun s5 G5 => kont s₁ s5 N' imm' n' hsub hN' G5
  by_cases hc : x = Str.ofString ","
  · obtain ⟨rfl, h0, h1, hl⟩ := hcm hc
    subst hc
    have eC : oC line (Str.ofString ",") e1 s1 = s3C line e1 s1 := if_pos rfl
    rw [eC] at hout last
    refine sgC h0 h1 hl B' X Tp hk hd hu ma mb G3 (fun o ho => ?_) ?_
    · have h9 := hout 0 o (by rw [List.getElem?_append_left (by have := List.length_pos_of_mem ho; omega)]; exact one_mem (s3C_len _ _ _) ho)
      simpa using h9
    · intro s₁ s4' imm4 n4 hsub4 G4
      refine sg4 (.inr (.inr rfl)) B' X Tp hk hd hu (hsub4 _ mO) (hsub4 _ ma) (hN.mono hsub4) (hP.mono hsub4) hnp G4 (fun o ho => ?_) ?_
      · have h9 := hout (s3C line e1 s1).length o (by rw [List.getElem?_append_right (Nat.le_refl _), Nat.sub_self]; exact one_mem (s4_len _ _ _ _ _ _ _) ho)
        exact h9
      · intro s₂ s5 N5 imm5 n5 hsub5 hN5 G5
        exact last s₂ s5 N5 imm5 n5 _ _ (by rw [List.length_append]; omega) (fun p hp => hsub5 _ (hsub4 _ hp)) rfl hN5 G5
  · have eC : oC line x e1 s1 = [] := if_neg hc
    rw [eC] at hout last
    refine sg_mid hA G3 (fun m bv nB acc cc E F Ne hbr hB => mS3n hx hc hbr B' X Tp hk hd hu hB F Ne) fun s4' G4 => ?_
    refine sg4 hx.k3 B' X Tp hk hd hu mO ma hN hP hnp G4 (fun o ho => ?_) ?_
    · have h9 := hout 0 o (by rw [List.nil_append]; exact one_mem (s4_len _ _ _ _ _ _ _) ho)
      simpa using h9
    · intro s₂ s5 N5 imm5 n5 hsub5 hN5 G5
      exact last s₂ s5 N5 imm5 n5 _ _ (by rw [List.nil_append]) hsub5 rfl hN5 G5
end
end Mine
end
section
open PySem PySem.W PySem.Spec PySem.Calls PyProof.Rows PyProof.V
set_option maxHeartbeats 4000000
namespace Mine
structure GW (prog : Program) (w : World) (A : Around) (I S : Addr) (n : Nat) (St : Nat → Array Value → Nat → Shared → Prop) (Fin : Array Value → Nat → Shared → Prop) : Prop where
  item : ∀ i acc c (s : Shared) (Q : Option Value → Shared → Prop) (E : Value → Shared → Prop), i < n → St i acc c s →
    (∀ v s' (acc : Array Value) c, acc.size = i → s'.heap.get? S = some (lobj acc c) → (∀ (h' : Heap) c', h'.get? S = some (lobj (acc.push v) c') → (∀ b o, b ≠ S → s'.heap.get? b = some o → h'.get? b = some o) → St (i + 1) (acc.push v) c' { s' with heap := h' }) → Q (some v) s') →
    wpAny (model prog w) A (pyNext (.ref I)) Q E s
  done : ∀ acc c (s : Shared) (Q : Option Value → Shared → Prop) (E : Value → Shared → Prop), St n acc c s → (∀ s' acc' c', Fin acc' c' s' → Q none s') → wpAny (model prog w) A (pyNext (.ref I)) Q E s
section
variable {prog : Program} {w : World} {A : Around} {R : Result → Shared → Prop} {I S : Addr} {n : Nat} {St : Nat → Array Value → Nat → Shared → Prop} {Fin : Array Value → Nat → Shared → Prop}
theorem gw_loop (W : GW prog w A.in1 I S n St Fin) (hn : n ≤ sizeLine) (res : Value) :
    ∀ (k i : Nat) (s : Shared) (acc : Array Value) (c : Nat), n - i = k → i ≤ n → acc.size = i → St i acc c s →
    (∀ s' acc' c', Fin acc' c' s' → R (.ok (.ret res)) s') →
    codeAny (model prog w) A (.builtin "list.extend.loop" ⟨[.ref S, .ref I, res], []⟩) R s := by
  intro k
  induction k with
  | zero =>
    intro i s acc c hk hi hsz hst hR
    have hin : i = n := by omega
    subst hin
    refine codeAny_builtin F.entry_extend_loop ?_
    rw [Around.under_plainId F.plain_extend_loop _]
    show wpAny _ A.in1 (pyNext (.ref I) >>= _) _ _ s
    refine wpAny_bind (W.done acc c s _ _ hst fun s' acc' c' hm => ?_)
    exact wpAny_pure (hR s' acc' c' hm)
  | succ k ih =>
    intro i s acc c hk hi hsz hst hR
    have hlt : i < n := by omega
    refine codeAny_builtin F.entry_extend_loop ?_
    rw [Around.under_plainId F.plain_extend_loop _]
    show wpAny _ A.in1 (pyNext (.ref I) >>= _) _ _ s
    refine wpAny_bind (W.item i acc c s _ _ hlt hst fun v s' acc c hsz hS' hnx => ?_)
    show wpAny _ A.in1 (updateSeq S (·.push v) >>= _) _ _ _
    refine wpAny_bind ?_
    refine wpAny_updateSeq hS' rfl (wpAny_pure ⟨plainId_quiet F.plain_extend_loop _, ih (i + 1) _ (acc.push v) _ (by omega) hlt (by rw [Array.size_push, hsz]) (hnx _ _ (Heap.get?_update_self _ hS' rfl) fun b o hb e => ?_) hR⟩)
      (by rw [hsz]; omega) (by show (acc.push v).size ≤ sizeLine + 1; rw [Array.size_push, hsz]; omega)
    exact (Heap.get?_update_other _ _ (Ne.symm hb)).trans e
theorem gw_extend {s : Shared} (W : GW prog w A.in1 I S n St Fin) (hT : s.TypeIs (.ref I) "generator") (hI : ∀ Q E, Q (.ref I) s → wpAny (model prog w) A.in1 (pyIter (.ref I)) Q E s) (res : Value) (c₀ : Nat) (hSI : S ≠ I)
    (hS : s.heap.get? S = some (lobj #[] c₀)) (hst : ∀ h' c, h'.get? S = some (lobj #[] c) → (∀ b o, b ≠ S → s.heap.get? b = some o → h'.get? b = some o) → St 0 #[] c { s with heap := h' })
    (hR : ∀ s' acc' c', Fin acc' c' s' → R (.ok (.ret res)) s') (hn : n ≤ sizeLine) :
    wpAny (model prog w) A.in1 (Builtin.List.listExtendWith (.ref S) (.ref I) res)
      (fun fin s' => match fin with | .done f => R (.ok f) s' | .again c' => c'.quiet = true ∧ codeAny (model prog w) A c' R s') (fun e s' => R (.error e) s') s := by
  unfold Builtin.List.listExtendWith
  refine wpAny_bind (wpAny_typeOf hT ?_)
  have h1 : Builtin.List.listSameRef (.ref S) (.ref I) = false := by simp [Builtin.List.listSameRef, hSI]
  have h2 : (Value.type "generator" == Value.type "list") = false := by decide
  have h3 : (Value.type "generator" == Value.type "tuple") = false := by decide
  simp only [h1, h2, h3, Bool.or_false, Bool.false_eq_true, if_false]
  refine wpAny_bind (hI _ _ ?_)
  refine wpAny_bind (wpAny_holding ?_)
  unfold Builtin.List.listLengthHint
  refine wpAny_bind (wpAny_specialOf hT F.gen_no_len ?_)
  show wpAny _ A.in1 (specialOf (Value.ref I) (Str.ofString "__length_hint__") >>= _) _ _ _
  refine wpAny_bind (wpAny_specialOf hT F.gen_no_hint ?_)
  refine wpAny_pure ?_
  show wpAny _ A.in1 (rule "list.extend.makes-room" >>= fun _ => Builtin.List.listTouch (.ref S) >>= fun _ =>
    again (.builtin "list.extend.loop" ⟨[.ref S, .ref I, res], []⟩)) _ _ _
  refine wpAny_bind (wpAny_rule ?_)
  refine wpAny_bind ?_
  show wpAny _ A.in1 (updateSeq S (·.push .none) >>= fun _ => updateSeq S (·.pop)) _ _ _
  refine wpAny_bind (wpAny_updateSeq hS rfl ?_)
  have hS₂ := Heap.get?_update_self (Obj.mapSeq (·.push Value.none)) hS rfl
  refine wpAny_updateSeq (hz := by seq_fits) hS₂ rfl ?_
  have hS₃ := Heap.get?_update_self (Obj.mapSeq (·.pop)) hS₂ rfl
  have oth : ∀ b o, b ≠ S → s.heap.get? b = some o → ((s.heap.update S (Obj.mapSeq (·.push Value.none))).update S (Obj.mapSeq (·.pop))).get? b = some o :=
    fun b o hb e => (Heap.get?_update_other _ _ (Ne.symm hb)).trans ((Heap.get?_update_other _ _ (Ne.symm hb)).trans e)
  exact wpAny_pure ⟨plainId_quiet F.plain_extend_loop _, gw_loop W hn _ n 0 _ _ _ rfl (Nat.zero_le _) rfl (hst _ _ hS₃ oth) hR⟩
theorem gw_init {s : Shared} (W : GW prog w A.in1 I S n St Fin) (hT : ∀ h', (∀ b o, b ≠ S → s.heap.get? b = some o → h'.get? b = some o) → Shared.TypeIs { s with heap := h' } (.ref I) "generator")
    (hI : ∀ h', (∀ b o, b ≠ S → s.heap.get? b = some o → h'.get? b = some o) → ∀ Q E, Q (.ref I) { s with heap := h' } → wpAny (model prog w) A.in1 (pyIter (.ref I)) Q E { s with heap := h' }) (hSI : S ≠ I)
    (hS : s.heap.get? S = some (lobj #[] 0)) (hst : ∀ h' c, h'.get? S = some (lobj #[] c) → (∀ b o, b ≠ S → s.heap.get? b = some o → h'.get? b = some o) → St 0 #[] c { s with heap := h' })
    (hR : ∀ s' acc' c', Fin acc' c' s' → R (.ok (.ret .none)) s') (hn : n ≤ sizeLine) :
    wpAny (model prog w) A.in1 (Builtin.«list.__init__» ⟨[.ref S, .ref I], []⟩)
      (fun fin s' => match fin with | .done f => R (.ok f) s' | .again c' => c'.quiet = true ∧ codeAny (model prog w) A c' R s') (fun e s' => R (.error e) s') s := by
  show wpAny _ A.in1 (do let old ← Builtin.List.listItems (.ref S); Builtin.List.listUpdate (.ref S) (fun _ => #[]); letGo old.toList.reverse; Builtin.List.listExtendWith (.ref S) (.ref I) .none) _ _ s
  refine wpAny_bind ?_
  unfold Builtin.List.listItems
  refine wpAny_bind (wpAny_seqItems hS rfl (wpAny_pure ?_))
  show wpAny _ A.in1 (updateSeq S (fun _ => #[]) >>= fun _ => letGo (#[] : Array Value).toList.reverse >>= fun _ => Builtin.List.listExtendWith (.ref S) (.ref I) .none) _ _ s
  refine wpAny_bind (wpAny_updateSeq hS rfl ?_)
  have hS₂ := Heap.get?_update_self (Obj.mapSeq (fun _ => (#[] : Array Value))) hS rfl
  have oth : ∀ b o, b ≠ S → s.heap.get? b = some o → (s.heap.update S (Obj.mapSeq (fun _ => (#[] : Array Value)))).get? b = some o :=
    fun b o hb e => (Heap.get?_update_other _ _ (Ne.symm hb)).trans e
  refine wpAny_bind (wpAny_letGo ?_)
  exact gw_extend W (hT _ oth) (hI _ oth) .none _ hSI hS₂ (fun h' c h1 h2 => hst h' c h1 fun b o hb e => h2 b o hb (oth b o hb e)) hR hn
end
section
variable {prog : Program} {w : World} {A : Around} {E : Value → Shared → Prop} {s : Shared} {I : Addr} {n : Nat} {St : Nat → Array Value → Nat → Shared → Prop} {Fin : Array Value → Nat → Shared → Prop}
theorem gw_list {Q : Value → Shared → Prop} {g : Nat} (hI : s.heap.IsGen I g) (W : GW prog w A.in1.in1 I s.heap.objs.size n St Fin)
    (hst : ∀ h' c, h'.get? s.heap.objs.size = some (lobj #[] c) → (∀ b o, s.heap.get? b = some o → h'.get? b = some o) → St 0 #[] c { s with heap := h' })
    (hQ : ∀ s' acc' c', Fin acc' c' s' → Q (.ref s.heap.objs.size) s') (hn : n ≤ sizeLine) :
    wpAny (model prog w) A (call (.type "list") [.ref I]) Q E s := by
  have hlt : I < s.heap.objs.size := by obtain ⟨o, _, _, e, _⟩ := hI; exact Heap.lt_size e
  have hSI : s.heap.objs.size ≠ I := Nat.ne_of_gt hlt
  refine callType_codes (Q₁ := fun obj s₁ => obj = .ref s.heap.objs.size ∧ s₁ = { s with heap := s.heap.push { cls := .type "list", data := .seq #[] } }) F.called_list (F.typeCall_list_1 _) F.entry_list_init
    (code_list_new _ ⟨rfl, rfl⟩) fun obj s₁ h₁ => ?_
  obtain ⟨rfl, rfl⟩ := h₁
  have hS : (s.heap.push { cls := .type "list", data := .seq #[] }).get? s.heap.objs.size = some { cls := .type "list", data := .seq #[] } := Heap.get?_push_size _ rfl
  have up : ∀ b o, s.heap.get? b = some o → b ≠ s.heap.objs.size ∧ (s.heap.push { cls := .type "list", data := .seq #[] }).get? b = some o := fun b o e => ⟨Nat.ne_of_lt (Heap.lt_size e), Heap.get?_push_of_some _ e⟩
  have gen : ∀ h' : Heap, (∀ b o, b ≠ s.heap.objs.size → (s.heap.push { cls := .type "list", data := .seq #[] }).get? b = some o → h'.get? b = some o) → h'.IsGen I g := fun h' k => hI.keeps fun b o e => k b o (up b o e).1 (up b o e).2
  refine ⟨⟨_, hS, rfl⟩, F.args_list_init_2 _ _, gw_init W (fun h' k => (gen h' k).typeIs) (fun h' k Q E q => wpAny_pyIter_gen (gen h' k) q) hSI hS (fun h' c h1 h2 => hst h' c h1 fun b o e => h2 b o (up b o e).1 (up b o e).2) (fun s' acc' c' hm => ?_) hn⟩
  exact ⟨rfl, hQ s' acc' c' hm⟩
end
end Mine
end
section
open PySem PySem.W PySem.Spec PySem.Calls PyProof.Rows PyProof.V
set_option maxHeartbeats 4000000
namespace Mine
noncomputable def lPs (O B : Nat) (N PT PE : Value) (pt : Int) (t4 : Tok) : List (Str × Value) :=
  [(Str.ofString "need_space", N), (Str.ofString "prev_type", .int pt t4), (Str.ofString "prev_text", PT), (Str.ofString "prev_end", PE), (Str.ofString "operator_types", .ref O), (Str.ofString "brace_stack", .ref B)]
structure AsgE (h₀ : Heap) (L : Addr) (led : Led) (ps : List (Str × Value)) (s s' : Shared) : Prop where
  ex : ∃ (h' : Heap) (tk' : Nat) (m' : Str → Option Value), s' = { s with heap := h', toks := tk' } ∧ Fr h₀ L h' m' ∧ News h₀ L h' led ∧ ∀ p ∈ ps, m' p.1 = some p.2
section
variable {c : Cx} {base : Heap} {led : Led} {dp un : Nat} {gd : Option (List Code)} {cn : Str} {cs : Scope} {a₀ : Addr} {ccd : Value} {cl : List (Str × Addr)} {outer : List Env} {L₀ : Addr} {h₀ : Heap} {L : Addr} {s : Shared} {E : Value → Shared → Prop}
  {k pt : Int} {x line : Str} {a b O B D dx : Nat} {N PT PE : Value} {t1 t2 t3 t4 : Tok} {u : Str → Option Value}
theorem mPs_okA {u : Str → Option Value} : ∀ p ∈ mPs k x line a b O B N PT PE pt t1 t2 t3 t4, (fun y => if y = Str.ofString "line" then some (Value.str line t3) else if y = Str.ofString "end" then some (.ref b) else if y = Str.ofString "start" then some (.ref a) else if y = Str.ofString "text" then some (.str x t2) else if y = Str.ofString "token_type" then some (.int k t1) else kstB u (lPs O B N PT PE pt t4) y) p.1 = some p.2 := by
  intro p hp
  unfold mPs at hp
  unfold lPs
  simp only [List.mem_cons, List.not_mem_nil, or_false] at hp
  rcases hp with rfl | rfl | rfl | rfl | rfl | rfl | rfl | rfl | rfl | rfl | rfl <;> (with_unfolding_all rfl)
theorem mAssign (B' : Below (ktrTop dp un gd cn cs L₀ a₀ ccd cl outer) base (envX cn cs L₀ a₀ ccd cl :: outer) h₀) (X : (frag c.w.params).In h₀) (Tp : Top c.p c.loose c.mean c.mg c.mb h₀) (hk : cs.kind = .function) (hd : dp + 10 < recursionLimit) (hu : un + 128 < cLine)
    (hD : (D, tokObj dx #[.int k t1, .str x t2, .ref a, .ref b, .str line t3]) ∈ led)
    (F : Fr h₀ L s.heap (kstB u (lPs O B N PT PE pt t4))) (Ne : News h₀ L s.heap led) :
    wpAny (MM c.w) ((ktrTop dp un gd cn cs L₀ a₀ ccd cl outer).deeper (mEnv L)) (assign mTgt (mEnv L) (.ref D)) (fun _ s' => AsgE h₀ L led (mPs k x line a b O B N PT PE pt t1 t2 t3 t4) s s') E s := by
  refine tok_assign rfl X F Ne hD rfl rfl fun h' F Ne => ?_
  unfold MM
  revert X; k_fill; intro X
  unfold lPs at F
  k_steps
  dsimp only
  exact ⟨_, _, _, rfl, by assumption, by assumption, mPs_okA⟩
end
end Mine
end
section
open PySem PySem.W PySem.Spec PySem.Calls PyProof.Rows PyProof.V
set_option maxHeartbeats 4000000
namespace Mine
structure MS where
  ns : NS
  pt : Int
  pv : Option (Str × Int)
  d : Nat
noncomputable def mStep (st : MS) (k : TokD) : MS := ⟨(s4 st.ns st.pt st.pv (brNext k.1 k.2.1 st.d) k.1 k.2.1 k.2.2.1).1, k.1, some (k.2.1, k.2.2.2), brNext k.1 k.2.1 st.d⟩
noncomputable def mOut (line : Str) (st : MS) (k : TokD) : List Out := oC line k.2.1 k.2.2.2 k.2.2.1 ++ (s4 st.ns st.pt st.pv (brNext k.1 k.2.1 st.d) k.1 k.2.1 k.2.2.1).2
noncomputable def mRun (line : Str) : MS → List TokD → List Out
  | _, [] => []
  | st, k :: r => mOut line st k ++ mRun line (mStep st k) r
structure TokOk (line : Str) (k : TokD) (d : Nat) : Prop where
  x : XOk k.1 k.2.1
  cm : k.2.1 = Str.ofString "," → k.1 = 54 ∧ 0 ≤ k.2.2.2 ∧ k.2.2.2 < line.length ∧ line.length ≤ 1000
  br : k.2.1 = Str.ofString "(" → d ≤ 1
noncomputable def RunOk (line : Str) : MS → List TokD → Prop
  | _, [] => True
  | st, k :: r => TokOk line k st.d ∧ RunOk line (mStep st k) r
theorem NSV.monoC {imm imm' : Led} (h : ∀ p ∈ imm, p.2.cls = .type "tuple" → p ∈ imm') {N : Value} {ns : NS} (x : NSV imm N ns) : NSV imm' N ns := by
  cases ns with
  | no => exact x
  | yes => exact x
  | pend p b =>
    obtain ⟨D, q, t1, t2, e, m1, m2⟩ := x
    exact ⟨D, q, t1, t2, e, h _ m1 rfl, h _ m2 rfl⟩
theorem OutV.monoC {imm imm' : Led} (h : ∀ p ∈ imm, p.2.cls = .type "tuple" → p ∈ imm') {v : Value} {o : Out} (x : OutV imm v o) : OutV imm' v o := by
  obtain ⟨D, q, t, t1, t2, e, m1, m2⟩ := x
  exact ⟨D, q, t, t1, t2, e, h _ m1 rfl, h _ m2 rfl⟩
section
variable {h₀ : Heap} {L S B d i n : Nat} {outs : List Out} {os : OsG} {ps : List (Str × Value)} {imm imm' : Led} {s : Shared}
theorem gf_sub (G : GF h₀ L S B outs os ps d i n imm' s) (h1 : ∀ p ∈ imm, p ∈ imm') (h2 : ∀ p ∈ imm', p.2.cls = .type "tuple" → p ∈ imm) (h3 : ∀ p ∈ os.base, p ∈ imm) : GF h₀ L S B outs os ps d i n imm s := by
  obtain ⟨⟨m, bv, nB, acc, cc, F, hps, Ne, hbr, hacc⟩, hS, hB, hBS, hlen, hos⟩ := G
  refine ⟨⟨m, bv, nB, acc, cc, F, hps, fun p hp => ?_, hbr, ⟨hacc.size, hacc.rel.mono fun _ _ y => y.monoC h2, h3⟩⟩, fun p hp => hS p (h1 p hp), fun p hp => hB p (h1 p hp), hBS, hlen, hos⟩
  rcases List.mem_cons.mp hp with rfl | hp
  · exact Ne _ (.head _)
  rcases List.mem_cons.mp hp with rfl | hp
  · exact Ne _ (.tail _ (.head _))
  · exact Ne _ (.tail _ (.tail _ (h1 p hp)))
theorem gf_ps {ps' : List (Str × Value)} (G : GF h₀ L S B outs os ps d i n imm s) (h : ∀ p ∈ ps', p ∈ ps) : GF h₀ L S B outs os ps' d i n imm s := by
  obtain ⟨⟨m, bv, nB, acc, cc, F, hps, Ne, hbr, hacc⟩, hS, hB, hBS, hlen, hos⟩ := G
  exact ⟨⟨m, bv, nB, acc, cc, F, fun p hp => hps p (h p hp), Ne, hbr, hacc⟩, hS, hB, hBS, hlen, hos⟩
end
/-- at the head of the generator's loop, j tokens are behind -/
structure LH (h₀ : Heap) (L S B I F O : Nat) (outs : List Out) (os : OsG) (line : Str) (fv : List Value) (toks : List TokD) (st : MS) (j i n : Nat) (s : Shared) : Prop where
  ex : ∃ (N PT PE : Value) (tp : Tok) (imm : Led) (o : Obj) (u1 u2 : Tok) (nF : Nat), GF h₀ L S B outs os (lPs O B N PT PE st.pt tp) st.d i n imm s ∧ News h₀ L s.heap [(I, o)] ∧ o.cls = .type "list_iterator" ∧ o.data = .fields #[.ref F, .int j 0] ∧ (∀ p ∈ imm, p.1 ≠ I) ∧
    NSV imm N st.ns ∧ PVV imm PT PE st.pv ∧ (O, tup2 (.int 54 u1) (.int 1 u2)) ∈ imm ∧ (F, listOf fv.toArray nF) ∈ imm ∧ AllRel (TokV imm line) fv toks
  np : st.pv = none → st.ns = .no
  IS : I ≠ S
  IB : I ≠ B
/-- behind the loop -/
noncomputable def LE (h₀ : Heap) (L S : Nat) (outs : List Out) (os : OsG) (s : Shared) : Prop := ∃ (m : Str → Option Value) (acc : Array Value) (cc : Nat) (imm : Led), Fr h₀ L s.heap m ∧ News h₀ L s.heap ((S, lobj acc cc) :: imm) ∧ AccOk outs os imm outs.length acc ∧ osG s os
section
variable {c : Cx} {base : Heap} {dp un : Nat} {gd : Option (List Code)} {cn : Str} {cs : Scope} {a₀ : Addr} {ccd : Value} {cl : List (Str × Addr)} {outer : List Env} {L₀ : Addr} {h₀ : Heap} {L : Addr}
  {line : Str} {O B S I F : Nat} {outs : List Out} {os : OsG} {fv : List Value} {toks : List TokD}
  {fb : List Stmt} {κ : Result → Sem PySem.Fin} {lvl : List Value} {pp : Pos} {R : GenEnd}
theorem lh_next {s : Shared} {st : MS} {j i n : Nat} (G : LH h₀ L S B I F O outs os line fv toks st j i n s) {A : Around} {E : Value → Shared → Prop} {Q : Option Value → Shared → Prop} {k : TokD} (hk : toks[j]? = some k)
    (h : ∀ h' D N PT PE tp imm o u1 u2 nF, GF h₀ L S B outs os (lPs O B N PT PE st.pt tp) st.d i n imm { s with heap := h' } → News h₀ L h' [(I, o)] → o.cls = .type "list_iterator" → o.data = .fields #[.ref F, .int (j + 1 : Nat) 0] → (∀ p ∈ imm, p.1 ≠ I) →
      NSV imm N st.ns → PVV imm PT PE st.pv → (O, tup2 (.int 54 u1) (.int 1 u2)) ∈ imm → (F, listOf fv.toArray nF) ∈ imm → AllRel (TokV imm line) fv toks → TokIn imm line k D → Q (some (.ref D)) { s with heap := h' }) :
    wpAny (MM c.w) A (pyNext (.ref I)) Q E s := by
  obtain ⟨⟨N, PT, PE, tp, imm, o, u1, u2, nF, G1, NI, oc, od, hI, hN, hP, mO, mF, hA⟩, np, IS, IB⟩ := G
  obtain ⟨⟨m, bv, nB, acc, cc, Fm, hps, Ne, hbr, hacc⟩, hS, hB, hBS, hlen, hos⟩ := G1
  have hjl : j < toks.length := (List.getElem?_eq_some_iff.mp hk).1
  have hjf : j < fv.length := by rw [hA.len]; exact hjl
  have hv : TokV imm line fv[j] k := by
    have := hA.get j hjf hjl
    rw [List.getElem?_eq_getElem hjl] at hk
    rw [← Option.some.inj hk]; exact this
  obtain ⟨D, eD, hD⟩ := hv
  have hl : s.heap.IsList F fv.toArray := ⟨_, (Ne _ (.tail _ (.tail _ mF))).1, rfl, nF, rfl⟩
  refine wpAny_pyNext_list_item (x := fv[j]) ⟨o, (NI _ (.head _)).1, oc, od⟩ hl (by simp [hjf]) fun h' hit hs => ?_
  obtain ⟨o', ho', oc', od'⟩ := hit
  have F' := Fm.update NI (.head _) hs
  have NI' := NI.setHead (fun p hp => nomatch hp) hs ho'
  have oth : ∀ p ∈ (B, listOf bv.toArray nB) :: (S, lobj acc cc) :: imm, p.1 ≠ I := fun p hp => by
    rcases List.mem_cons.mp hp with rfl | hp
    · exact fun e => IB e.symm
    rcases List.mem_cons.mp hp with rfl | hp
    · exact fun e => IS e.symm
    · exact hI _ hp
  have Ne' : News h₀ L h' ((B, listOf bv.toArray nB) :: (S, lobj acc cc) :: imm) := fun p hp => ⟨(hs.2 _ (oth p hp)).trans (Ne p hp).1, (Ne p hp).2⟩
  rw [eD]
  exact h h' D N PT PE tp imm o' u1 u2 nF ⟨⟨m, bv, nB, acc, cc, F', hps, Ne', hbr, hacc⟩, hS, hB, hBS, hlen, hos⟩ NI' oc' od' hI hN hP mO mF hA hD
theorem lh_end {s : Shared} {st : MS} {j i n : Nat} (G : LH h₀ L S B I F O outs os line fv toks st j i n s) {A : Around} (hh : A.handled = none) {E : Value → Shared → Prop} {Q : Option Value → Shared → Prop} (hj : j = toks.length) (hi : i = outs.length)
    (h : ∀ h', LE h₀ L S outs os { s with heap := h' } → Q none { s with heap := h' }) :
    wpAny (MM c.w) A (pyNext (.ref I)) Q E s := by
  subst hj
  obtain ⟨⟨N, PT, PE, tp, imm, o, u1, u2, nF, G1, NI, oc, od, hI, hN, hP, mO, mF, hA⟩, np, IS, IB⟩ := G
  obtain ⟨⟨m, bv, nB, acc, cc, Fm, hps, Ne, hbr, hacc⟩, hS, hB, hBS, hlen, hos⟩ := G1
  have hl : s.heap.IsList F fv.toArray := ⟨_, (Ne _ (.tail _ (.tail _ mF))).1, rfl, nF, rfl⟩
  refine wpAny_pyNext_list_end hh ⟨o, (NI _ (.head _)).1, oc, od⟩ hl (by simp [hA.len]) fun h' he => h h' ⟨m, acc, cc, imm, ?_, fun p hp => ⟨he _ _ ?_ (Ne p (.tail _ hp)).1, (Ne p (.tail _ hp)).2⟩, hi ▸ hacc, hos⟩
  · have hIL := (NI _ (.head _)).2.1
    have hI0 := (NI _ (.head _)).2.2
    exact ⟨Fm.ns.extBut he (fun e => hIL e.symm), fun b o e => he b o (fun e' => by rw [e'] at e; rw [hI0] at e; cases e) (Fm.keep b o e), Fm.above⟩
  · rcases List.mem_cons.mp hp with rfl | hp
    · exact fun e => IS e.symm
    · exact hI _ hp
end
end Mine
end
section
open PySem PySem.W PySem.Spec PySem.Calls PyProof.Rows PyProof.V
set_option maxHeartbeats 4000000
namespace Mine
theorem gf_mono {h₀ : Heap} {L S B d i n : Nat} {outs : List Out} {os : OsG} {ps : List (Str × Value)} {imm : Led} {s : Shared} {I : Addr} {o : Obj} (G : GF h₀ L S B outs os ps d i n imm s) (NI : News h₀ L s.heap [(I, o)]) (IS : I ≠ S) (IB : I ≠ B) : GF h₀ L S B outs os ps d i n ((I, o) :: imm) s := by
  obtain ⟨⟨m, bv, nB, acc, cc, F, hps, Ne, hbr, hacc⟩, hS, hB, hBS, hlen, hos⟩ := G
  refine ⟨⟨m, bv, nB, acc, cc, F, hps, fun p hp => ?_, hbr, hacc.mono fun p hp => .tail _ hp⟩, fun p hp => ?_, fun p hp => ?_, hBS, hlen, hos⟩
  · rcases List.mem_cons.mp hp with rfl | hp
    · exact Ne _ (.head _)
    rcases List.mem_cons.mp hp with rfl | hp
    · exact Ne _ (.tail _ (.head _))
    rcases List.mem_cons.mp hp with rfl | hp
    · exact NI _ (.head _)
    · exact Ne _ (.tail _ (.tail _ hp))
  · rcases List.mem_cons.mp hp with rfl | hp
    · exact IS
    · exact hS _ hp
  · rcases List.mem_cons.mp hp with rfl | hp
    · exact IB
    · exact hB _ hp
theorem gf_base {h₀ : Heap} {L S B d i n : Nat} {outs : List Out} {os : OsG} {ps : List (Str × Value)} {imm : Led} {s : Shared} (G : GF h₀ L S B outs os ps d i n imm s) : ∀ p ∈ os.base, p ∈ imm := by
  obtain ⟨⟨m, bv, nB, acc, cc, F, hps, Ne, hbr, hacc⟩, hS, hB, hBS, hlen, hos⟩ := G
  exact hacc.base
theorem lPs_sub {k pt : Int} {x line : Str} {a b O B : Nat} {N PT PE : Value} {t1 t2 t3 t4 : Tok} : ∀ p ∈ lPs O B N PT PE pt t4, p ∈ mPs k x line a b O B N PT PE pt t1 t2 t3 t4 := by
  intro p hp
  exact .tail _ (.tail _ (.tail _ (.tail _ (.tail _ hp))))
theorem s4_np {pt : Int} {pv : Option (Str × Int)} {d : Nat} {k : Int} {x : Str} {s1 : Int} (st : MS) (k' : TokD) : (mStep st k').pv = none → (mStep st k').ns = .no := fun e => by cases e
section
variable {c : Cx} {base : Heap} {dp un : Nat} {gd : Option (List Code)} {cn : Str} {cs : Scope} {a₀ : Addr} {ccd : Value} {cl : List (Str × Addr)} {outer : List Env} {L₀ : Addr} {h₀ : Heap} {L : Addr}
  {line : Str} {O B S I F : Nat} {outs : List Out} {os : OsG} {fv : List Value} {toks : List TokD}
  {fb : List Stmt} {κ : Result → Sem PySem.Fin} {lvl : List Value} {pp : Pos} {R : GenEnd}
theorem sgLoop (B' : Below (ktrTop dp un gd cn cs L₀ a₀ ccd cl outer) base (envX cn cs L₀ a₀ ccd cl :: outer) h₀) (X : (frag c.w.params).In h₀) (Tp : Top c.p c.loose c.mean c.mg c.mb h₀) (hk : cs.kind = .function) (hd : dp + 10 < recursionLimit) (hu : un + 128 < cLine)
    (fin : ∀ s₁ s', LE h₀ L S outs os s' → Seg (MM c.w) (ktrTop dp un gd cn cs L₀ a₀ ccd cl outer) R (YY h₀ L S outs os) 0 s₁ (.forLoop mTgt (.ref I) mBody [] (mEnv L)) (.pure (.again (.block [] (mEnv L)))) [.ret κ none false lvl (.func fb (mEnv L)) pp []] s') :
    ∀ (r : List TokD) (j i n : Nat) (st : MS) (s s₀ : Shared), toks.drop j = r → RunOk line st r → (∀ jj o, (mRun line st r)[jj]? = some o → outs[i + jj]? = some o) → outs.length = i + (mRun line st r).length → j ≤ toks.length → i + n = outs.length →
      LH h₀ L S B I F O outs os line fv toks st j i n s →
      Seg (MM c.w) (ktrTop dp un gd cn cs L₀ a₀ ccd cl outer) R (YY h₀ L S outs os) n s₀ (.forLoop mTgt (.ref I) mBody [] (mEnv L)) ((MM c.w).den (.forLoop mTgt (.ref I) mBody [] (mEnv L))) [.ret κ none false lvl (.func fb (mEnv L)) pp []] s := by
  have hA := over_for (dp := dp) (un := un) (gd := gd) (cn := cn) (cs := cs) (L := L₀) (a := a₀) (ccd := ccd) (cl := cl) (outer := outer) fb mBody [] mTgt (.ref I) (mEnv L) (mEnv L) (k := κ) (g := false) (l := lvl) (p := pp)
  intro r
  induction r with
  | nil =>
    intro j i n st s s₀ hdrop _ _ hlen hj hin G
    have hjl : j = toks.length := by
      have := congrArg List.length hdrop
      rw [List.length_drop] at this
      simp at this
      omega
    have hi : i = outs.length := by
      have h0 : (mRun line st []).length = 0 := rfl
      omega
    obtain rfl : n = 0 := by omega
    refine seg_forLoop fun E => ?_
    rw [hA]
    exact lh_end G rfl hjl hi fun h' hle => fin _ _ hle
  | cons k r ih =>
    intro j i n st s s₀ hdrop hok hout hlen hj hin G
    obtain ⟨hok1, hok2⟩ := hok
    have hjl : j < toks.length := by
      have := congrArg List.length hdrop
      rw [List.length_drop] at this
      simp at this
      omega
    have hk' : toks[j]? = some k := by
      have h1 : (toks.drop j)[0]? = some k := by rw [hdrop]; rfl
      rw [List.getElem?_drop] at h1
      simpa using h1
    have hdrop' : toks.drop (j + 1) = r := by
      rw [← List.tail_drop, hdrop]; rfl
    have hnp := G.np
    have IS := G.IS
    have IB := G.IB
    refine seg_forLoop fun E => ?_
    rw [hA]
    refine lh_next G hk' fun h' D N PT PE tp imm o u1 u2 nF G1 NI oc od hI hN hP mO mF hAl hD => ?_
    refine letGo_listiter ⟨o, (NI _ (.head _)).1, oc, od⟩ ?_
    obtain ⟨dx, a, b, t1, t2, t3, u5, u6, u7, u8, mD, ma, mb⟩ := hD
    refine gf_open G1 fun m bv nB acc cc Fm Ne hbr hacc hBn => ?_
    have N0 : News h₀ L h' ((I, o) :: (B, listOf bv.toArray nB) :: (S, lobj acc cc) :: imm) := fun p hp => by
      rcases List.mem_cons.mp hp with rfl | hp
      · exact NI _ (.head _)
      · exact Ne _ hp
    refine wpAny_mono (mAssign (s := { s with heap := h' }) B' X Tp hk hd hu (.tail _ (.tail _ (.tail _ mD))) Fm N0) (fun _ s2 h2 => ?_) fun _ _ y => y
    obtain ⟨h3, tk3, m3, rfl, F3, N3, hps3⟩ := h2
    have G3 : GF h₀ L S B outs os (mPs k.1 k.2.1 line a b O B N PT PE st.pt t1 t2 t3 tp) st.d i n imm { s with heap := h3, toks := tk3 } :=
      ⟨⟨m3, bv, nB, acc, cc, F3, hps3, fun p hp => N3 p (.tail _ hp), hbr, hacc⟩, G1.nS, G1.nB, G1.BS, G1.len, G1.os⟩
    have NI3 : News h₀ L h3 [(I, o)] := fun p hp => by
      rcases List.mem_cons.mp hp with rfl | hp
      · exact N3 _ (.head _)
      · cases hp
    refine sgTurn hok1.x hok1.cm hok1.br B' X Tp hk hd hu (.tail _ mO) (.tail _ ma) (.tail _ mb) (hN.mono fun p hp => .tail _ hp) (hP.mono fun p hp => .tail _ hp) hnp (gf_mono G3 NI3 IS IB) (fun jj o' ho' => hout jj o' ?_) ?_
    · show (mOut line st k ++ mRun line (mStep st k) r)[jj]? = some o'
      have hlt : jj < (mOut line st k).length := (List.getElem?_eq_some_iff.mp ho').1
      rw [List.getElem?_append_left hlt]
      exact ho'
    intro s₁ s4' N' imm' n' hsub hN' G4
    refine seg_execs_nil (seg_again rfl ?_)
    have hmem : ∀ p ∈ imm, p ∈ imm'.filter (fun p => decide (p.1 ≠ I)) := fun p hp => List.mem_filter.mpr ⟨hsub p (.tail _ hp), by simpa using hI p hp⟩
    have htup : ∀ p ∈ imm', p.2.cls = .type "tuple" → p ∈ imm'.filter (fun p => decide (p.1 ≠ I)) := fun p hp hc => by
      refine List.mem_filter.mpr ⟨hp, ?_⟩
      have : p.1 ≠ I := fun e => by
        obtain ⟨⟨m9, bv9, nB9, acc9, cc9, F9, hps9, Ne9, hbr9, hacc9⟩, _⟩ := G4
        have e1 := (Ne9 _ (.tail _ (.tail _ hp))).1
        have e2 := (Ne9 _ (.tail _ (.tail _ (hsub _ (.head _))))).1
        rw [e] at e1
        have e3 := Option.some.inj (e1.symm.trans e2)
        have e3 : p.2 = o := e3
        rw [e3, oc] at hc
        simp at hc
      simpa using this
    have G5 := gf_sub (gf_ps G4 lPs_sub) (fun p hp => (List.mem_filter.mp hp).1) htup (fun p hp => hmem p (gf_base G1 p hp))
    have NI5 : News h₀ L s4'.heap [(I, o)] := fun p hp => by
      obtain ⟨⟨m9, bv9, nB9, acc9, cc9, F9, hps9, Ne9, hbr9, hacc9⟩, _⟩ := G4
      rcases List.mem_cons.mp hp with rfl | hp
      · exact Ne9 _ (.tail _ (.tail _ (hsub _ (.head _))))
      · cases hp
    have eL : (mRun line st (k :: r)).length = (mOut line st k).length + (mRun line (mStep st k) r).length := List.length_append
    refine ih (j + 1) (i + (mOut line st k).length) n' (mStep st k) s4' s₁ hdrop' hok2 (fun jj o' ho' => ?_) ?_ (by omega) G5.len ?_
    · have h9 := hout ((mOut line st k).length + jj) o' (by
        show (mOut line st k ++ mRun line (mStep st k) r)[(mOut line st k).length + jj]? = some o'
        rw [List.getElem?_append_right (Nat.le_add_right _ _), Nat.add_sub_cancel_left]
        exact ho')
      rw [Nat.add_assoc]
      exact h9
    · omega
    · refine ⟨⟨N', .str k.2.1 t2, .ref b, t1, _, o, u1, u2, nF, G5, NI5, oc, od, fun p hp => by simpa using (List.mem_filter.mp hp).2, hN'.monoC htup, ?_, hmem _ mO, hmem _ mF, hAl.mono fun _ _ ⟨D, e, hD⟩ => ⟨D, e, hD.mono hmem⟩⟩, (fun e => by cases e), IS, IB⟩
      exact ⟨⟨hok1.x.n8, hok1.x.n9⟩, t2, b, u7, u8, rfl, rfl, hmem _ mb⟩
end
end Mine
end
section
open PySem PySem.W PySem.Spec PySem.Calls PyProof.Rows PyProof.V
set_option maxHeartbeats 4000000
namespace Mine
local macro_rules | `(tactic| k_all) => `(tactic| assumption)
local macro_rules | `(tactic| k_mem) => `(tactic| assumption)
noncomputable def mPre : List Stmt := [(fnBody (topSt 15)).getD 0 passS, (fnBody (topSt 15)).getD 1 passS, (fnBody (topSt 15)).getD 2 passS, (fnBody (topSt 15)).getD 3 passS, (fnBody (topSt 15)).getD 4 passS, (fnBody (topSt 15)).getD 5 passS]
noncomputable abbrev mFor : Stmt := (fnBody (topSt 15)).getD 6 passS
theorem fn_eq : fnBody (topSt 15) = mPre ++ [mFor] := rfl
structure PreE (h₀ : Heap) (L : Addr) (led : Led) (F : Nat) (s : Shared) (f : Flow) (s' : Shared) : Prop where
  nx : f = .next
  ex : ∃ (h' : Heap) (tk' : Nat) (m' : Str → Option Value) (O B nB : Nat) (u1 u2 t : Tok), s' = { s with heap := h', toks := tk' } ∧ Fr h₀ L h' m' ∧ News h₀ L h' ((B, listOf #[] nB) :: (O, tup2 (.int 54 u1) (.int 1 u2)) :: led) ∧ (∀ p ∈ lPs O B (.bool false) .none .none 54 t, m' p.1 = some p.2) ∧ m' (Str.ofString "tokens") = some (.ref F) ∧ (∀ p ∈ (O, tup2 (.int 54 u1) (.int 1 u2)) :: led, p.1 ≠ B) ∧ (∀ p ∈ led, p.1 ≠ O)
section
variable {c : Cx} {base : Heap} {led : Led} {dp un : Nat} {gd : Option (List Code)} {cn : Str} {cs : Scope} {a₀ : Addr} {ccd : Value} {cl : List (Str × Addr)} {outer : List Env} {L₀ : Addr} {h₀ : Heap} {L : Addr} {s : Shared} {E : Value → Shared → Prop}
  {F : Nat} {lg : Value} {u : Str → Option Value}
theorem mPreW (B' : Below (ktrTop dp un gd cn cs L₀ a₀ ccd cl outer) base (envX cn cs L₀ a₀ ccd cl :: outer) h₀) (X : (frag c.w.params).In h₀) (Tp : Top c.p c.loose c.mean c.mg c.mb h₀) (hk : cs.kind = .function) (hd : dp + 10 < recursionLimit) (hu : un + 128 < cLine)
    (F0 : Fr h₀ L s.heap (kstB u [(Str.ofString "tokens", .ref F)])) (Ne : News h₀ L s.heap led) :
    wpAny (MM c.w) ((ktrTop dp un gd cn cs L₀ a₀ ccd cl outer).deeper (mEnv L)) (execs mPre (mEnv L)) (PreE h₀ L led F s) E s := by
  unfold MM
  revert X; k_fill; intro X
  unfold mPre
  conv in execs _ _ => arg 1; (arg 1; whnf)
  conv in execs _ _ => arg 1; arg 2; (arg 1; whnf)
  conv in execs _ _ => arg 1; arg 2; arg 2; (arg 1; whnf)
  conv in execs _ _ => arg 1; arg 2; arg 2; arg 2; (arg 1; whnf)
  conv in execs _ _ => arg 1; arg 2; arg 2; arg 2; arg 2; (arg 1; whnf)
  conv in execs _ _ => arg 1; arg 2; arg 2; arg 2; arg 2; arg 2; (arg 1; whnf)
  k_steps
  all_goals dsimp only
  rename_i D _ hD _ _ l _ hl _ F1 N1
  refine ⟨rfl, _, _, _, D, l, 0, 279, 267, 279, rfl, F1, N1, fun p hp => ?_, rfl, fun p hp => ?_, fun p hp => Nat.ne_of_lt (hD p hp)⟩
  · unfold lPs at hp
    simp only [List.mem_cons, List.not_mem_nil, or_false] at hp
    rcases hp with rfl | rfl | rfl | rfl | rfl | rfl <;> (with_unfolding_all rfl)
  · rcases List.mem_cons.mp hp with rfl | hp
    · exact Nat.ne_of_lt hl.1
    · exact Nat.ne_of_lt (ktn_ltOf hl.2 p hp)
end
end Mine
end
section
open PySem PySem.W PySem.Spec PySem.Calls PyProof.Rows PyProof.V
set_option maxHeartbeats 4000000
namespace Mine
local macro_rules | `(tactic| k_all) => `(tactic| assumption)
local macro_rules | `(tactic| k_mem) => `(tactic| assumption)
theorem mFor_eq : ∃ p q, mFor = .For mTgt (.Name (Str.ofString "tokens") p) mBody [] q := ⟨_, _, rfl⟩
noncomputable def st0 : MS := ⟨.no, 54, none, 0⟩
structure EvF (h₀ : Heap) (L : Addr) (led : Led) (F : Nat) (m : Str → Option Value) (s : Shared) (v : Value) (s' : Shared) : Prop where
  v : v = .ref F
  ex : ∃ (h' : Heap) (tk' : Nat), s' = { s with heap := h', toks := tk' } ∧ Fr h₀ L h' m ∧ News h₀ L h' led
section
variable {c : Cx} {base : Heap} {led : Led} {dp un : Nat} {gd : Option (List Code)} {cn : Str} {cs : Scope} {a₀ : Addr} {ccd : Value} {cl : List (Str × Addr)} {outer : List Env} {L₀ : Addr} {h₀ : Heap} {L : Addr} {s s₀ : Shared} {E : Value → Shared → Prop}
  {F S nF cc : Nat} {lg : Value} {u : Str → Option Value} {fv : List Value} {toks : List TokD} {line : Str} {imm : Led} {os : OsG} {outs : List Out}
theorem evTok {p : Pos} (X : (frag c.w.params).In h₀) (Tp : Top c.p c.loose c.mean c.mg c.mb h₀) (hk : cs.kind = .function) (hd : dp + 10 < recursionLimit) (hu : un + 128 < cLine)
    (F0 : Fr h₀ L s.heap (kstB u [(Str.ofString "tokens", .ref F)])) (Ne : News h₀ L s.heap led) :
    wpAny (MM c.w) ((ktrTop dp un gd cn cs L₀ a₀ ccd cl outer).deeper (mEnv L)) (eval (.Name (Str.ofString "tokens") p) (mEnv L)) (EvF h₀ L led F (kstB u [(Str.ofString "tokens", .ref F)]) s) E s := by
  unfold MM
  revert X; k_fill; intro X
  k_steps
  all_goals (first | (dsimp only; exact ⟨rfl, _, _, rfl, by assumption, by assumption⟩) | exact ⟨rfl, _, _, rfl, by assumption, by assumption⟩)
theorem sgBody (B' : Below (ktrTop dp un gd cn cs L₀ a₀ ccd cl outer) base (envX cn cs L₀ a₀ ccd cl :: outer) h₀) (X : (frag c.w.params).In h₀) (Tp : Top c.p c.loose c.mean c.mg c.mb h₀) (hk : cs.kind = .function) (hd : dp + 10 < recursionLimit) (hu : un + 128 < cLine)
    (F0 : Fr h₀ L s.heap (kstB u [(Str.ofString "tokens", .ref F)])) (Ne : News h₀ L s.heap ((S, lobj #[] cc) :: imm)) (hS : ∀ p ∈ imm, p.1 ≠ S) (hb : ∀ p ∈ os.base, p ∈ imm) (hos : osG s os)
    (mF : (F, listOf fv.toArray nF) ∈ imm) (hA : AllRel (TokV imm line) fv toks) (hrun : RunOk line st0 toks) (hout : outs = mRun line st0 toks) :
    Seg (MM c.w) (ktrTop dp un gd cn cs L₀ a₀ ccd cl outer) (RR h₀ L S outs os) (YY h₀ L S outs os) outs.length s₀ (.func (fnBody (topSt 15)) (mEnv L)) ((MM c.w).den (.func (fnBody (topSt 15)) (mEnv L))) [] s := by
  refine seg_func ?_
  show Seg _ _ _ _ _ _ _ (Sem.wrap _ _ _ _ (execs (mPre ++ [mFor]) _)) _ _
  refine sg_app (over_func _ _) mPre fun E => wpAny_mono (mPreW B' X Tp hk hd hu F0 Ne) (fun f s1 h => ?_) fun _ _ y => y
  obtain ⟨rfl, h1, tk1, m1, O, B, nB, u1, u2, t, rfl, F1, N1, hps, htk, hB, hO⟩ := h
  refine ⟨rfl, ?_⟩
  obtain ⟨p, q, e⟩ := mFor_eq
  rw [e]
  refine seg_execs_cons (seg_For (fun x => rfl) ?_)
  show wpAny (MM c.w) ((ktrTop dp un gd cn cs L₀ a₀ ccd cl outer).deeper (mEnv L)) _ _ _ _
  have F1' : Fr h₀ L h1 (kstB m1 [(Str.ofString "tokens", .ref F)]) := fr_named F1 (fun p hp => by
    rcases List.mem_cons.mp hp with rfl | hp
    · exact htk
    · cases hp)
  refine wpAny_mono (evTok (s := { s with heap := h1, toks := tk1 }) X Tp hk hd hu F1' N1) (fun v s2 h => ?_) fun _ _ y => y
  obtain ⟨rfl, h2, tk2, rfl, F2, N2⟩ := h
  have mF2 := (N2 _ (.tail _ (.tail _ (.tail _ mF)))).1
  have hl : h2.IsList F fv.toArray := ⟨_, mF2, rfl, nF, rfl⟩
  refine wpAny_pyIter_list (s := { s with heap := h2, toks := tk2 }) hl ?_
  intro pp
  have F3 := F2.push { cls := .type "list_iterator", data := .fields #[.ref F, .int 0 0] }
  have N3 := N2.push F2 { cls := .type "list_iterator", data := .fields #[.ref F, .int 0 0] }
  have hap : ∀ p ∈ (B, listOf #[] nB) :: (O, tup2 (.int 54 u1) (.int 1 u2)) :: (S, lobj #[] cc) :: imm, p.1 ≠ h2.objs.size := fun p hp => Nat.ne_of_lt (Heap.lt_size (N2 p hp).1)
  refine sgLoop (I := h2.objs.size) (O := O) (B := B) (F := F) (line := line) (fv := fv) (toks := toks) (os := os) (S := S) (outs := outs) B' X Tp hk hd hu ?_ toks 0 0 outs.length st0 _ _ rfl hrun ?_ ?_ (Nat.zero_le _) (Nat.zero_add _) ?_
  · intro s₁ s' hle
    refine seg_again rfl ?_
    obtain ⟨m, acc, cc', imm', F9, N9, hacc, hos9⟩ := hle
    refine seg_leaf (.ok .next) ?_
    exact seg_end (.ok (.ret .none)) ⟨rfl, rfl, acc, cc', imm', m, F9, N9, hacc, hos9⟩
  · intro jj o ho
    rw [Nat.zero_add, hout]; exact ho
  · rw [hout, Nat.zero_add]
  · have hm1 : ∀ p ∈ lPs O B (.bool false) .none .none 54 t, kstB m1 [(Str.ofString "tokens", .ref F)] p.1 = some p.2 := fun p hp => by
      rw [kstB_self _ _ (fun q hq => by
        rcases List.mem_cons.mp hq with rfl | hq
        · exact htk
        · cases hq)]
      exact hps p hp
    refine ⟨⟨.bool false, .none, .none, t, (O, tup2 (.int 54 u1) (.int 1 u2)) :: imm, { cls := .type "list_iterator", data := .fields #[.ref F, .int 0 0] }, u1, u2, nF, ⟨⟨_, [], nB, #[], cc, F3, hm1, fun p hp => ?_, .b0, ⟨rfl, .nil, fun p hp => .tail _ (hb p hp)⟩⟩, ?_, ?_, ?_, Nat.zero_add _, hos⟩, fun p hp => ?_, rfl, rfl, ?_, rfl, ⟨rfl, rfl⟩, .head _, .tail _ mF, ?_⟩, fun _ => rfl, ?_, ?_⟩
    · rcases List.mem_cons.mp hp with rfl | hp
      · exact N3 _ (.tail _ (.head _))
      rcases List.mem_cons.mp hp with rfl | hp
      · exact N3 _ (.tail _ (.tail _ (.tail _ (.head _))))
      rcases List.mem_cons.mp hp with rfl | hp
      · exact N3 _ (.tail _ (.tail _ (.head _)))
      · exact N3 _ (.tail _ (.tail _ (.tail _ (.tail _ hp))))
    · intro p hp
      rcases List.mem_cons.mp hp with rfl | hp
      · exact fun e => hO _ (.head _) e.symm
      · exact hS p hp
    · intro p hp
      rcases List.mem_cons.mp hp with rfl | hp
      · exact hB _ (.head _)
      · exact hB _ (.tail _ (.tail _ hp))
    · exact fun e => hB _ (.tail _ (.head _)) e.symm
    · rcases List.mem_cons.mp hp with rfl | hp
      · exact N3 _ (.head _)
      · cases hp
    · intro p hp
      rcases List.mem_cons.mp hp with rfl | hp
      · exact hap _ (.tail _ (.head _))
      · exact hap _ (.tail _ (.tail _ (.tail _ hp)))
    · exact hA.mono fun _ _ ⟨D, e, hD⟩ => ⟨D, e, hD.mono fun p hp => .tail _ hp⟩
    · exact fun e => hap _ (.tail _ (.tail _ (.head _))) e.symm
    · exact fun e => hap _ (.head _) e.symm
end
end Mine
end
section
open PySem PySem.W PySem.Spec PySem.Calls PyProof.Rows PyProof.V
set_option maxHeartbeats 4000000
namespace Mine
local macro_rules | `(tactic| k_all) => `(tactic| assumption)
local macro_rules | `(tactic| k_mem) => `(tactic| assumption)
section
variable {p : Program} {loose : List Str} {mean : ExcName → Option Value} {mg mb : Str → Option Value} {prog : Program} {w : World} {A₀ A : Around} {s : Shared} {base h₀ : Heap} {outer : List Env} {L : Addr} {m : Str → Option Value} {news : List (Addr × Obj)} {K : Frag}
theorem gen_def {env : Env} {R : Result → Shared → Prop} {name qual : Str} {params : Arguments} {body : List Stmt} {scope : Scope} {dV kV doc pm cdv ct oc : Value} {an od : Option Addr} {osl : Array (Option Value)} {f : Addr} {args : Args} {binds : List (Str × Value)}
    (B : Below A₀ base outer h₀) (F : Fr h₀ L s.heap m) (X₀ : K.In h₀) (N : News h₀ L s.heap news) (T : Top p loose mean mg mb h₀) (hA : A.frames = some (env :: outer)) (hf : env.frame = some L) (hke : env.scope.kind = .function)
    (ho : K.lookup f = some ⟨oc, od, .func (fnOf name qual params body scope dV kV doc pm an cdv ct), osl⟩) (hcd : codeIn K cdv qual = true) (hroom : A.depth < recursionLimit)
    (hbind : BindsTo s (fnOf name qual params body scope dV kV doc pm an cdv ct) args binds) (hloc : ∀ y ∈ binds, scope.names.lookup y.1 = some .local)
    (h : ∀ g L' h₁ G tk, Fr h₀ L g m → Fr g L' h₁ (fun y => binds.reverse.lookup y) → News g L' h₁ ((G, genObj s.gens.size name qual tk) :: news) → Below A base (env :: outer) g → K.In g → Top p loose mean mg mb g → (∀ p ∈ news, @LT.lt Nat _ p.1 L') → @LT.lt Nat _ L' G → Back h₀ L m g →
      R (.ok (.ret (.ref G))) { s with gens := s.gens.push (.fresh (.func body (envOf qual scope L' f cdv))), heap := h₁, toks := tk + 1 + 1 })
    (hcell : ∀ x ∈ scope.names, x.2 ≠ .cell) (hco : scope.isCoroutine = false) (hgen : scope.isGenerator = true) (hk : scope.kind = .function) : codeAny (model prog w) A (.call (.ref f) args) R s :=
  call_genX (cl := []) B F N T.nolimit hA hf hke ((X₀.keeps F.keep) _ _ ho) rfl (codeRec_of (X₀.keeps F.keep) hcd) hroom hbind hloc (fun g L' h₁ G tk Fg F' N' B' st l1 l2 bk => h g L' h₁ G tk Fg F' N' B' (X₀.keeps st) (T.keeps st) l1 l2 bk) hcell hco hgen hk
end
noncomputable abbrev mwQ : Str := Str.ofString "missing_whitespace"
/-- the generator stands, not yet begun -/
structure GenRdy (c : Cx) (base h₀ : Heap) (L : Addr) (m : Str → Option Value) (news : Led) (dp un : Nat) (gd : Option (List Code)) (cn : Str) (cs : Scope) (a : Addr) (ccd : Value) (cl : List (Str × Addr)) (outer : List Env) (F G : Nat) (s s₁ : Shared) : Prop where
  os : s₁.os = s.os
  ex : ∃ (g : Heap) (L' : Addr) (tk : Tok) (u : Str → Option Value), s₁.gens = s.gens.push (.fresh (.func (fnBody (topSt 15)) (mEnv L'))) ∧ Fr g L' s₁.heap (kstB u [(Str.ofString "tokens", .ref F)]) ∧ News g L' s₁.heap ((G, genObj s.gens.size mwQ mwQ tk) :: news) ∧
    Below (ktrTop dp un gd cn cs L a ccd cl outer) base (envX cn cs L a ccd cl :: outer) g ∧ (frag c.w.params).In g ∧ Top c.p c.loose c.mean c.mg c.mb g ∧ Back h₀ L m g
section
variable {c : Cx} {base : Heap} {news : Led} {dp un : Nat} {gd : Option (List Code)} {cn : Str} {cs : Scope} {a : Addr} {ccd : Value} {cl : List (Str × Addr)} {outer : List Env} {A₀ : Around} {h₀ : Heap} {L : Addr} {m : Str → Option Value} {s : Shared} {Q E : Value → Shared → Prop} {lg : Str} {tl : Tok} {F : Nat}
theorem gen_make (B : Below A₀ base outer h₀) (F0 : Fr h₀ L s.heap m) (X : (frag c.w.params).In h₀) (N : News h₀ L s.heap news) (T : Top c.p c.loose c.mean c.mg c.mb h₀) (hk : cs.kind = .function) (hd : dp + 10 < recursionLimit) (hu : un + 131 < cLine)
    (ret : ∀ G s₁ tk, GenRdy c base h₀ L m news dp un gd cn cs a ccd cl outer F G s s₁ → Fr h₀ L s₁.heap m → News h₀ L s₁.heap ((G, genObj s.gens.size mwQ mwQ tk) :: news) → (∀ p ∈ news, @LT.lt Nat _ p.1 G) → Q (.ref G) s₁) :
    wpAny (MM c.w) (ktrTop dp un gd cn cs L a ccd cl outer) (call (.ref 208) [.str lg tl, .ref F]) Q E s := by
  unfold MM
  revert X; k_fill; intro X
  refine wpAny_call ?_
  refine' gen_def ?k1 ?k2 ?k3 ?k4 ?k5 ?kA ?kF ?kK ?k6 ?k7 ?k8 ?k9 ?kB ?_ ?c2 ?c3 ?c4 ?c5
  case kA => exact rfl
  case kF => exact rfl
  case kK => assumption
  case k1 => exact B
  case k2 => k_asm
  case k3 => k_asm
  case k4 => k_asm
  case k5 => k_asm
  case k6 => k_is
  case k7 => k_is
  case k8 => ktr_room
  case k9 => exact BindsTo.of_eq rfl
  case kB => exact locs rfl
  case c2 => decide
  case c3 => exact rfl
  case c4 => exact rfl
  case c5 => exact rfl
  intro g L' h₁ G tk Fg F' N' B' X' T' l1 l2 bk
  have FN := bk.go _ _ _ _ F' N'
  refine ret G _ tk ⟨rfl, g, L', tk, _, rfl, fr_named F' (fun p hp => ?_), N', B', X', T', bk⟩ FN.1 FN.2 fun p hp => Nat.lt_trans (l1 p hp) l2
  rcases List.mem_cons.mp hp with rfl | hp
  · with_unfolding_all rfl
  · cases hp
end
end Mine
end
section
open PySem PySem.W PySem.Spec PySem.Calls PyProof.Rows PyProof.V
set_option maxHeartbeats 4000000
namespace Mine
theorem set_push {α : Type} (a : Array α) (x y : α) : (a.push x).setIfInBounds a.size y = a.push y := by
  apply Array.ext
  · simp
  · intro i h1 h2
    simp at h1 h2
    rw [Array.getElem_setIfInBounds (by simpa using h1)]
    by_cases e : a.size = i
    · subst e; simp
    · have hi : i < a.size := by omega
      rw [if_neg e, Array.getElem_push, Array.getElem_push, dif_pos hi, dif_pos hi]
theorem isGen_obj {h : Heap} {G k : Nat} {nm qn : Str} {tk : Tok} (e : h.get? G = some (genObj k nm qn tk)) : h.IsGen G k := ⟨_, _, _, e, rfl, rfl, rfl⟩
/-- between two wakings of the generator -/
structure GSt (M : Model) (A : Around) (g : Heap) (L' S G : Addr) (outs : List Out) (os : OsG) (gs0 : Array GenState) (i : Nat) (s : Shared) : Prop where
  ex : ∃ gs : GenState, s.gens = gs0.push gs ∧ gs.Goes M A (RR g L' S outs os) (YY g L' S outs os) (outs.length - i) (.send .none) (s.setGen gs0.size .running)
  os : s.os = os.o
  G : s.heap.IsGen G gs0.size
  lim : s.heap.NoLimit
structure GFin (g : Heap) (L' S : Addr) (outs : List Out) (base : Led) (gs0 : Array GenState) (o : OsState) (acc : Array Value) (cc : Nat) (s : Shared) : Prop where
  ex : ∃ (imm : Led) (mm : Str → Option Value), Fr g L' s.heap mm ∧ News g L' s.heap ((S, lobj acc cc) :: imm) ∧ AllRel (OutV imm) acc.toList outs ∧ (∀ p ∈ base, p ∈ imm)
  gens : s.gens = gs0.push .finished
  os : s.os = o
section
variable {prog : Program} {w : World} {A : Around} {g : Heap} {L' S G : Addr} {outs : List Out} {gs0 : Array GenState} {o : OsState} {base : Led} {nm qn : Str} {tk : Tok}
theorem gst_walk (hh : A.handled = none) (hroom : A.depth < recursionLimit) (hlim : g.NoLimit) (hG : (G, genObj gs0.size nm qn tk) ∈ base) :
    GW prog w A G S outs.length (fun i _ _ s => GSt (model prog w) A.in1 g L' S G outs ⟨o, gs0.push .running, base⟩ gs0 i s) (GFin g L' S outs base gs0 o) where
  item := by
    intro i acc c s Q E hi hst hQ
    obtain ⟨⟨gs, hgs, hgo⟩, hos, hIG, hl⟩ := hst
    have e1 : outs.length - i = (outs.length - (i + 1)) + 1 := by omega
    rw [e1] at hgo
    refine wpAny_pyNext_gen (P := fun n _ s₁ => n = 0 ∧ ∃ (acc : Array Value) (cc : Nat) (imm : Led) (mm : Str → Option Value), Fr g L' s₁.heap mm ∧ News g L' s₁.heap ((S, lobj acc cc) :: imm) ∧ AccOk outs ⟨o, gs0.push .running, base⟩ imm outs.length acc ∧ osG s₁ ⟨o, gs0.push .running, base⟩) hh hl hroom hIG (by rw [hgs]; simp) hgo ?_ ?_
    · rintro v s₁ gs' ⟨i', acc', cc', imm, mm, oo, hi', F1, N1, hS1, hacc, ho, hv, hos1, hk⟩
      have ei : i' = i := by omega
      subst ei
      refine hQ v _ acc' cc' hacc.size (N1 _ (.head _)).1 fun h' c' hS' hoth => ?_
      have F2 : Fr g L' h' mm := ⟨F1.ns.extBut (b := S) (fun a o ha e => hoth a o ha e) (fun e => (N1 _ (.head _)).2.1 e.symm), fun b o e => hoth b o (fun e' => by have := (N1 _ (.head _)).2.2; rw [e'] at e; rw [this] at e; cases e) (F1.keep b o e), F1.above⟩
      have N2 : News g L' h' ((S, lobj (acc'.push v) c') :: imm) := fun p hp => by
        rcases List.mem_cons.mp hp with rfl | hp
        · exact ⟨hS', (N1 _ (.head _)).2⟩
        · exact ⟨hoth _ _ (hS1 _ hp) (N1 _ (.tail _ hp)).1, (N1 _ (.tail _ hp)).2⟩
      have eg : s₁.gens = gs0.push .running := hos1.2
      refine ⟨⟨gs', ?_, ?_⟩, hos1.1, isGen_obj (N2 _ (.tail _ (hacc.base _ hG))).1, hlim.keeps F2.keep⟩
      · show s₁.gens.setIfInBounds gs0.size gs' = _
        rw [eg, set_push]
      · refine hk _ c' F2 N2 ⟨hos1.1, ?_⟩
        show (s₁.gens.setIfInBounds gs0.size gs').setIfInBounds gs0.size .running = _
        rw [eg, set_push, set_push]
    · rintro s₁ ⟨hn, _⟩
      omega
  done := by
    intro acc c s Q E hst hQ
    obtain ⟨⟨gs, hgs, hgo⟩, hos, hIG, hl⟩ := hst
    rw [Nat.sub_self] at hgo
    refine wpAny_pyNext_gen (P := fun n _ s₁ => n = 0 ∧ ∃ (acc : Array Value) (cc : Nat) (imm : Led) (mm : Str → Option Value), Fr g L' s₁.heap mm ∧ News g L' s₁.heap ((S, lobj acc cc) :: imm) ∧ AccOk outs ⟨o, gs0.push .running, base⟩ imm outs.length acc ∧ osG s₁ ⟨o, gs0.push .running, base⟩) hh hl hroom hIG (by rw [hgs]; simp) hgo ?_ ?_
    · rintro v s₁ gs' ⟨i', acc', cc', imm, mm, oo, hi', F1, N1, hS1, hacc, ho, hv, hos1, hk⟩
      exfalso
      have hS := (N1 _ (.head _)).1
      have hsb := Heap.SameBut.update (h := s₁.heap) (a := S) (f := Obj.mapSeq (·.push v))
      refine hk { s₁ with heap := s₁.heap.update S (Obj.mapSeq (·.push v)) } _ (F1.update N1 (.head _) hsb) (N1.setHead hS1 hsb (Heap.get?_update_self _ hS rfl)) hos1
    · rintro s₁ ⟨hn, acc', cc', imm, mm, F1, N1, hacc, hos1⟩ h' hk
      refine hQ _ acc' cc' ⟨⟨imm, mm, F1.keeps hk, N1.grown hk, ?_, hacc.base⟩, ?_, hos1.1⟩
      · have := hacc.rel
        rw [List.take_of_length_le (Nat.le_refl _)] at this
        exact this
      · show s₁.gens.setIfInBounds gs0.size .finished = _
        rw [hos1.2, set_push]
end
section
variable {c : Cx} {base : Heap} {news : Led} {dp un : Nat} {gd : Option (List Code)} {cn : Str} {cs : Scope} {a : Addr} {ccd : Value} {cl : List (Str × Addr)} {outer : List Env} {h₀ : Heap} {L : Addr} {m : Str → Option Value} {s s₁ : Shared} {Q E : Value → Shared → Prop} {F G nF : Nat}
  {fv : List Value} {toks : List TokD} {line : Str} {outs : List Out}
theorem gen_list (R : GenRdy c base h₀ L m news dp un gd cn cs a ccd cl outer F G s s₁) (hk : cs.kind = .function) (hd : dp + 10 < recursionLimit) (hu : un + 140 < cLine)
    (mF : (F, listOf fv.toArray nF) ∈ news) (hA : AllRel (TokV news line) fv toks) (hrun : RunOk line st0 toks) (hout : outs = mRun line st0 toks) (hn : outs.length ≤ sizeLine)
    (ret : ∀ S acc cc imm s' tk, Fr h₀ L s'.heap m → News h₀ L s'.heap ((S, lobj acc cc) :: imm) → (∀ p ∈ (G, genObj s.gens.size mwQ mwQ tk) :: news, p ∈ imm) → AllRel (OutV imm) acc.toList outs → s'.gens = s.gens.push .finished → s'.os = s.os → Q (.ref S) s') :
    wpAny (MM c.w) (ktrTop dp un gd cn cs L a ccd cl outer) (call (.type "list") [.ref G]) Q E s₁ := by
  obtain ⟨hos, g, L', tk, u, hg, F1, N1, B1, X1, T1, bk⟩ := R
  have hIG : s₁.heap.IsGen G s.gens.size := isGen_obj (N1 _ (.head _)).1
  have hrm : dp < recursionLimit := by omega
  refine gw_list hIG (gst_walk (o := s.os) (gs0 := s.gens) (g := g) (L' := L') (outs := outs) (base := (G, genObj s.gens.size mwQ mwQ tk) :: news) rfl hrm T1.nolimit (.head _)) ?_ ?_ hn
  · intro h' cc hS hk'
    have F2 := F1.keeps hk'
    have hlt : ∀ p ∈ (G, genObj s.gens.size mwQ mwQ tk) :: news, p.1 ≠ s₁.heap.objs.size := fun p hp => Nat.ne_of_lt (Heap.lt_size (N1 p hp).1)
    have N2 : News g L' h' ((s₁.heap.objs.size, lobj #[] cc) :: (G, genObj s.gens.size mwQ mwQ tk) :: news) := fun p hp => by
      rcases List.mem_cons.mp hp with rfl | hp
      · exact ⟨hS, Nat.ne_of_gt F1.ns.lt, Heap.get?_none_of_le (Nat.le_trans F1.above (Nat.le_of_lt F1.ns.lt))⟩
      · exact ⟨hk' _ _ (N1 p hp).1, (N1 p hp).2⟩
    refine ⟨⟨.fresh (.func (fnBody (topSt 15)) (mEnv L')), hg, rfl, ?_⟩, hos, hIG.keeps hk', T1.nolimit.keeps F2.keep⟩
    have B3 : Below (ktrTop dp (un + 3) gd cn cs L a ccd cl outer) base (envX cn cs L a ccd cl :: outer) g := ⟨B1.stack, B1.stays, B1.frames⟩
    rw [Nat.sub_zero]
    refine sgBody (c := c) (dp := dp) (un := un + 3) (gd := gd) (cn := cn) (cs := cs) (a₀ := a) (ccd := ccd) (cl := cl) (outer := outer) (L₀ := L) B3 X1 T1 hk hd (by omega) (u := u) (F := F) (cc := cc) (fv := fv) (toks := toks) (line := line) (nF := nF) (imm := (G, genObj s.gens.size mwQ mwQ tk) :: news) F2 N2 hlt (fun p hp => hp) ⟨hos, ?_⟩ (.tail _ mF) (hA.mono fun _ _ ⟨D, e, hD⟩ => ⟨D, e, hD.mono fun p hp => .tail _ hp⟩) hrun hout
    show s₁.gens.setIfInBounds s.gens.size .running = _
    rw [hg, set_push]
  · rintro s' acc cc ⟨⟨imm, mm, F2, N2, hr, hb⟩, hg2, ho2⟩
    have FN := bk.go _ _ _ _ F2 N2
    exact ret _ acc cc imm s' tk FN.1 FN.2 hb hr hg2 ho2
end
end Mine
end
section
open PySem PySem.W PySem.Spec PySem.Calls PyProof.Rows PyProof.V
set_option maxHeartbeats 8000000
namespace Mine
local macro_rules | `(tactic| k_mem) => `(tactic| assumption)
noncomputable abbrev wEnv (L fa : Nat) (cd : Value) : Env := envOfC (Str.ofString "law") (fnScope (topSt 25)) L fa cd
noncomputable abbrev wAr (dp un : Nat) (gd : Option (List Code)) (L fa : Nat) (cd : Value) : Around := ktrTop dp un gd (Str.ofString "law") (fnScope (topSt 25)) L fa cd (cellsFrom (L + 1) (fnScope (topSt 25)).names []) []
noncomputable abbrev wS (i : Nat) : Stmt := (fnBody (topSt 25)).getD i passS
theorem w_body : fnBody (topSt 25) = [wS 0, wS 1, wS 2, wS 3] := rfl
local macro_rules | `(tactic| walk_at "call ref") => `(tactic| ((with_reducible show wpAny _ _ (call (Value.ref 251) _) _ _ _); refine stop ?_))
local macro_rules | `(tactic| walk_at "storeName") => `(tactic| ((with_reducible refine inCellsS ?_); (rename Fr _ _ _ _ => F'); (rename News _ _ _ _ => N'); first
  | (with_unfolding_all refine stCNk (own := [_, _, _, _, _, _]) (rest := []) F' N' rfl (by assumption) (by cells_apart) (by cells_apart) ?_; intro _ _ _ _ _)
  | (with_unfolding_all refine stCNk (own := [_, _, _, _, _]) (rest := [_]) F' N' rfl (by assumption) (by cells_apart) (by cells_apart) ?_; intro _ _ _ _ _)))
/-- what stands behind the law's first statement -/
structure W1E (h₀ : Heap) (L l : Nat) (ns : List Int) (s : Shared) (f : Flow) (s' : Shared) : Prop where
  nx : f = .next
  ex : ∃ (h' : Heap) (tk' : Nat) (m' : Str → Option Value) (W G S nW nG nS : Nat) (wv gv sv : List Value) (o1 o2 o3 : Obj), s' = { s with heap := h', toks := tk' } ∧ Fr h₀ L h' m' ∧ News h₀ L h' [(L + 1 + 1 + 1, o3), (L + 1 + 1, o2), (L + 1, o1), (W, listOf wv.toArray nW), (G, listOf gv.toArray nG), (S, listOf sv.toArray nS)] ∧
    m' (Str.ofString "gaps") = some (.ref G) ∧ m' (Str.ofString "spots") = some (.ref S) ∧ o1.data = .cell (some (.ref W)) ∧ o2.data = .cell (some (.bool (builtIs ns))) ∧ o3.data = .cell none ∧
    StrsAre wv (builtB ns).ws ∧ IntsAre gv (builtB ns).gs ∧ IntsAre sv (builtB ns).ss ∧ wv.length ≤ 40 ∧ gv.length ≤ 40 ∧ sv.length ≤ 40
section
variable {c : Cx} {vs : List Value} {ns : List Int} {l fa : Nat} {cd : Value} {h₀ : Heap} {L : Addr} {s : Shared} {E : Value → Shared → Prop} {o1 o2 o3 : Obj} {u : Str → Option Value} {dp un : Nat} {gd : Option (List Code)}
theorem wS1 (hS : Scr h₀ l vs ns) (K0 : Below callerA h₀ [] h₀) (hd : dp + 40 < recursionLimit) (hu : un + 400 < cLine) (X : (frag c.w.params).In h₀) (Tp : Top c.p c.loose c.mean c.mg c.mb h₀)
    (F : Fr h₀ L s.heap (kstB u [(Str.ofString "script", .ref l)])) (Ne : News h₀ L s.heap [(L + 1 + 1 + 1, o3), (L + 1 + 1, o2), (L + 1, o1)]) (e1 : o1.data = .cell none) (e2 : o2.data = .cell none) (e3 : o3.data = .cell none) :
    wpAny (MM c.w) (wAr dp un gd L fa cd) (exec (wS 0) (wEnv L fa cd)) (W1E h₀ L l ns s) E s := by
  unfold MM
  revert X; k_fill; intro X
  conv in exec _ _ => (arg 1; whnf)
  k_steps
  constructor
  (refine' (builtT (c := _) (base := _) (news := _) (by assumption)).use ?k1 ?k2 ?k3 ?k4 ?k5 ?kK ?kd ?ku ?_; (case k1 => k_asm); (case k2 => k_asm); (case k3 => k_asm); (case k4 => k_asm); (case k5 => k_asm); (case kK => first | exact rfl | assumption); (case kd => ktr_room); (case ku => ktr_units))
  intro v9 own9 h9 tk9 F9 N9 hR9
  obtain ⟨T9, W9, G9, S9, wv9, gv9, sv9, nW9, nG9, nS9, rfl, rfl, hw9, hg9, hs9, hl9, hl9', hl9''⟩ := hR9
  simp only [List.cons_append, List.nil_append] at N9
  k_steps
  all_goals dsimp only
  rename_i _ _ oa ha _ _ _ _ h5 ob F5 N5 hb
  refine ⟨rfl, h5, _, _, W9, G9, S9, nW9, nG9, nS9, wv9, gv9, sv9, oa, ob, o3, rfl, F5, fun p hp => N5 p ?_, rfl, rfl, ha, hb, e3, hw9, hg9, hs9, hl9, hl9', hl9''⟩
  simp only [List.cons_append, List.nil_append, List.mem_cons, List.not_mem_nil, or_false] at hp ⊢
  rcases hp with hp | hp | hp | hp | hp | hp <;> simp only [hp, true_or, or_true]
end
end Mine
end
section
open PySem PySem.W PySem.Spec PySem.Calls PyProof.Rows PyProof.V
set_option maxHeartbeats 8000000
namespace Mine
/-- what stands behind the law's second statement -/
structure W2E (h₀ : Heap) (L : Nat) (ns : List Int) (W S nW nS : Nat) (wv sv : List Value) (o1 o2 : Obj) (s : Shared) (f : Flow) (s' : Shared) : Prop where
  nx : f = .next
  ex : ∃ (h' : Heap) (tk' : Nat) (m' : Str → Option Value) (R nR : Nat) (fv : List Value) (o3 : Obj) (imm : Led), s' = { s with heap := h', toks := tk' } ∧ Fr h₀ L h' m' ∧ News h₀ L h' ((L + 1 + 1 + 1, o3) :: (L + 1 + 1, o2) :: (L + 1, o1) :: (W, listOf wv.toArray nW) :: (S, listOf sv.toArray nS) :: (R, listOf fv.toArray nR) :: imm) ∧
    m' (Str.ofString "spots") = some (.ref S) ∧ o3.data = .cell (some (.ref R)) ∧ AllRel (TokV imm (lineOf (builtB ns).ws (builtB ns).gs)) fv (toksOf (builtB ns).ws (builtB ns).gs)
theorem TokIn.monoC {imm imm' : Led} (h : ∀ p ∈ imm, (∀ v, p.2.data ≠ .cell v) → p ∈ imm') {line : Str} {k : Int × Str × Int × Int} {D : Addr} (x : TokIn imm line k D) : TokIn imm' line k D := by
  obtain ⟨dx, a, b, t1, t2, t3, t4, t5, t6, t7, m1, m2, m3⟩ := x
  exact ⟨dx, a, b, t1, t2, t3, t4, t5, t6, t7, h _ m1 (fun v e => by cases e), h _ m2 (fun v e => by cases e), h _ m3 (fun v e => by cases e)⟩
section
variable {c : Cx} {ns : List Int} {fa : Nat} {cd : Value} {h₀ : Heap} {L : Addr} {s : Shared} {E : Value → Shared → Prop} {o1 o2 o3 : Obj} {m : Str → Option Value} {dp un : Nat} {gd : Option (List Code)} {W G S nW nG nS : Nat} {wv gv sv : List Value}
theorem st_tok {M : Model} {A : Around} {led : Led} {v : Value} {v0 : Option Value} {Q : Unit → Shared → Prop} (F : Fr h₀ L s.heap m) (N : News h₀ L s.heap led) (hm : (L + 1 + 1 + 1, o3) ∈ led) (hd : o3.data = .cell v0)
    (h : ∀ h' o', Fr h₀ L h' m → Heap.SameBut (L + 1 + 1 + 1) s.heap h' → h'.get? (L + 1 + 1 + 1) = some o' → o'.data = .cell (some v) → Q () { s with heap := h' }) :
    wpAny M A (storeName (wEnv L fa cd) (Str.ofString "tokens") v) Q E s := by
  refine wpAny_storeName_cell rfl rfl rfl ⟨o3, (N _ hm).1, hd⟩ fun h' hv hs => ?_
  obtain ⟨o', ho', hd'⟩ := hv
  exact h h' o' (F.update N hm hs) hs ho' hd'
theorem wS2 (K0 : Below callerA h₀ [] h₀) (hd : dp + 40 < recursionLimit) (hu : un + 400 < cLine) (X : (frag c.w.params).In h₀) (Tp : Top c.p c.loose c.mean c.mg c.mb h₀) (hok : WOk (builtB ns).ws (builtB ns).gs)
    (F : Fr h₀ L s.heap (kstB m [(Str.ofString "gaps", .ref G), (Str.ofString "spots", .ref S)])) (Ne : News h₀ L s.heap [(L + 1 + 1 + 1, o3), (L + 1 + 1, o2), (L + 1, o1), (W, listOf wv.toArray nW), (G, listOf gv.toArray nG), (S, listOf sv.toArray nS)])
    (e1 : o1.data = .cell (some (.ref W))) (e2 : o2.data = .cell (some (.bool (builtIs ns)))) (e3 : o3.data = .cell none) (hw : StrsAre wv (builtB ns).ws) (hg : IntsAre gv (builtB ns).gs) :
    wpAny (MM c.w) (wAr dp un gd L fa cd) (exec (wS 1) (wEnv L fa cd)) (W2E h₀ L ns W S nW nS wv sv o1 o2 s) E s := by
  unfold MM
  revert X; k_fill; intro X
  conv in exec _ _ => (arg 1; whnf)
  k_steps
  have mW : (W, listOf wv.toArray nW) ∈ [(L + 1 + 1 + 1, o3), (L + 1 + 1, o2), (L + 1, o1), (W, listOf wv.toArray nW), (G, listOf gv.toArray nG), (S, listOf sv.toArray nS)] := .tail _ (.tail _ (.tail _ (.head _)))
  have mG : (G, listOf gv.toArray nG) ∈ [(L + 1 + 1 + 1, o3), (L + 1 + 1, o2), (L + 1, o1), (W, listOf wv.toArray nW), (G, listOf gv.toArray nG), (S, listOf sv.toArray nS)] := .tail _ (.tail _ (.tail _ (.tail _ (.head _))))
  refine (tokensT (c := c) (base := h₀) mW mG hw hg hok).use K0 F X Ne Tp rfl ?kd ?ku ?_
  case kd => omega
  case ku => omega
  intro v own h9 tk9 F9 N9 hR
  obtain ⟨R, fv, nR, imm, rfl, rfl, hA⟩ := hR
  have m3 : (L + 1 + 1 + 1, o3) ∈ (R, listOf fv.toArray nR) :: imm ++ [(L + 1 + 1 + 1, o3), (L + 1 + 1, o2), (L + 1, o1), (W, listOf wv.toArray nW), (G, listOf gv.toArray nG), (S, listOf sv.toArray nS)] := List.mem_append_right _ (.head _)
  refine st_tok F9 N9 m3 e3 fun h5 o5 F5 hs5 ho5 hd5 => ?_
  have key : ∀ p ∈ (R, listOf fv.toArray nR) :: imm ++ [(L + 1 + 1 + 1, o3), (L + 1 + 1, o2), (L + 1, o1), (W, listOf wv.toArray nW), (G, listOf gv.toArray nG), (S, listOf sv.toArray nS)], (∀ v, p.2.data ≠ .cell v) → p.1 ≠ L + 1 + 1 + 1 := fun p hp hne e => by
    have h4 := (N9 p hp).1
    rw [e] at h4
    have e2 : p.2 = o3 := Option.some.inj (h4.symm.trans (N9 _ m3).1)
    exact hne none (by rw [e2]; exact e3)
  have up : ∀ p ∈ (R, listOf fv.toArray nR) :: imm ++ [(L + 1 + 1 + 1, o3), (L + 1 + 1, o2), (L + 1, o1), (W, listOf wv.toArray nW), (G, listOf gv.toArray nG), (S, listOf sv.toArray nS)], p.1 ≠ L + 1 + 1 + 1 → h5.get? p.1 = some p.2 ∧ p.1 ≠ L ∧ h₀.get? p.1 = none := fun p hp hne => ⟨(hs5.2 _ hne).trans (N9 p hp).1, (N9 p hp).2⟩
  refine ⟨rfl, h5, _, _, R, nR, fv, o5, imm.filter (fun p => decide (p.1 ≠ L + 1 + 1 + 1)), rfl, F5, fun p hp => ?_, rfl, hd5, hA.mono fun _ _ ⟨D, e, hD⟩ => ⟨D, e, hD.monoC fun p hp hne => List.mem_filter.mpr ⟨hp, by simpa using key p (List.mem_append_left _ (.tail _ hp)) hne⟩⟩⟩
  rcases List.mem_cons.mp hp with rfl | hp
  · exact ⟨ho5, (N9 _ m3).2⟩
  rcases List.mem_cons.mp hp with rfl | hp
  · exact up _ (List.mem_append_right _ (.tail _ (.head _))) (Nat.ne_of_lt (Nat.lt_succ_self _))
  rcases List.mem_cons.mp hp with rfl | hp
  · exact up _ (List.mem_append_right _ (.tail _ (.tail _ (.head _)))) (Nat.ne_of_lt (Nat.lt_succ_of_lt (Nat.lt_succ_self _)))
  rcases List.mem_cons.mp hp with rfl | hp
  · exact up _ (List.mem_append_right _ (.tail _ (.tail _ (.tail _ (.head _))))) (key _ (List.mem_append_right _ (.tail _ (.tail _ (.tail _ (.head _))))) (fun v e => by cases e))
  rcases List.mem_cons.mp hp with rfl | hp
  · exact up _ (List.mem_append_right _ (.tail _ (.tail _ (.tail _ (.tail _ (.tail _ (.head _))))))) (key _ (List.mem_append_right _ (.tail _ (.tail _ (.tail _ (.tail _ (.tail _ (.head _))))))) (fun v e => by cases e))
  rcases List.mem_cons.mp hp with rfl | hp
  · exact up _ (List.mem_append_left _ (.head _)) (key _ (List.mem_append_left _ (.head _)) (fun v e => by cases e))
  · obtain ⟨hp1, hp2⟩ := List.mem_filter.mp hp
    exact up _ (List.mem_append_left _ (.tail _ hp1)) (by simpa using hp2)
end
end Mine
end
section
open PySem PySem.W PySem.Spec PySem.Calls PyProof.Rows PyProof.V
set_option maxHeartbeats 8000000
namespace Mine
local macro_rules | `(tactic| k_mem) => `(tactic| (refine List.Mem.tail _ (List.Mem.tail _ (List.Mem.tail _ ?_)); assumption))
noncomputable def DueV (imm : Led) (v : Value) : Option Out → Prop
  | none => v = .none
  | some o => OutV imm v o
theorem DueV.mono {imm imm' : Led} (h : ∀ p ∈ imm, p ∈ imm') {v : Value} {o : Option Out} (x : DueV imm v o) : DueV imm' v o := by
  cases o with
  | none => exact x
  | some o => exact OutV.mono h x
noncomputable def cmpElt : Stmt → Expr
  | .Assign _ (.ListComp e _ _ _) _ => e
  | _ => .Name Str.empty ⟨0, 0, 0, 0⟩
noncomputable def cmpScope : Stmt → Scope
  | .Assign _ (.ListComp _ _ s _) _ => s
  | _ => fnScope passS
/-- between two turns of the comprehension -/
structure DInv (L : Nat) (ns : List Int) (W S R nW nS nR : Nat) (wv sv fv : List Value) (o1 o2 o3 : Obj) (line : Str) (toks : List TokD) (i : Nat) (ys : List Value) (news : Led) : Prop where
  c3 : (L + 1 + 1 + 1, o3) ∈ news
  c2 : (L + 1 + 1, o2) ∈ news
  c1 : (L + 1, o1) ∈ news
  w : (W, listOf wv.toArray nW) ∈ news
  s : (S, listOf sv.toArray nS) ∈ news
  r : (R, listOf fv.toArray nR) ∈ news
  t : AllRel (TokV news line) fv toks
  d : AllRel (DueV news) ys (((builtB ns).ss.take i).map fun a => dueAt toks (builtIs ns) a.toNat)
section
variable {c : Cx} {ns : List Int} {fa : Nat} {cd : Value} {h₀ : Heap} {L : Addr} {s : Shared} {E : Value → Shared → Prop} {o1 o2 o3 : Obj} {m : Str → Option Value} {dp un : Nat} {gd : Option (List Code)} {W S R nW nS nR : Nat} {wv sv fv : List Value} {imm : Led} {line : Str} {toks : List TokD}
theorem due_turn {I C D at' : Nat} {ta : Tok} {oI oC : Obj} {ys : List Value} {m₂ : Str → Option Value} {Q : Value → Shared → Prop} (K0 : Below callerA h₀ [] h₀) (hd : dp + 40 < recursionLimit) (hu : un + 400 < cLine) (X : (frag c.w.params).In h₀) (Tp : Top c.p c.loose c.mean c.mg c.mb h₀)
    (F : Fr h₀ L s.heap m) (Ne : News h₀ L s.heap ((I, oI) :: (C, oC) :: (D, LCg.lst ys) :: imm)) (m3 : (L + 1 + 1 + 1, o3) ∈ imm) (m2 : (L + 1 + 1, o2) ∈ imm) (m1 : (L + 1, o1) ∈ imm)
    (e1 : o1.data = .cell (some (.ref W))) (e2 : o2.data = .cell (some (.bool (builtIs ns)))) (e3 : o3.data = .cell (some (.ref R))) (hC : LCg.NsObj oC m₂) (hx : m₂ (Str.ofString "at") = some (.int (at' : Int) ta))
    (hW : (W, listOf wv.toArray nW) ∈ imm) (hF : (R, listOf fv.toArray nR) ∈ imm) (hw : StrsAre wv (builtB ns).ws) (hA : AllRel (TokV imm line) fv toks)
    (hwt : (builtB ns).ws = toks.map (·.2.1)) (hl : toks.length ≤ 40) (h0 : 1 ≤ at') (h1 : at' + 1 < toks.length)
    (hret : ∀ v own h' tk', Fr h₀ L h' m → News h₀ L h' (own ++ (I, oI) :: (C, oC) :: (D, LCg.lst ys) :: imm) → DueR imm ((I, oI) :: (C, oC) :: (D, LCg.lst ys) :: imm) (dueAt toks (builtIs ns) at') v own → Q v { s with heap := h', toks := tk' }) :
    wpAny (MM c.w) (wAr dp un gd L fa cd) (eval (cmpElt (wS 2)) (compEnvC (cmpScope (wS 2)) [(Str.ofString "words", L + 1), (Str.ofString "tokens", L + 1 + 1 + 1), (Str.ofString "is_call", L + 1 + 1)] C (wEnv L fa cd))) Q E s := by
  unfold MM
  revert X; k_fill; intro X
  conv in eval _ _ => (arg 1; whnf)
  k_steps
  refine (dueT (c := c) (base := h₀) (tl := imm) (.tail _ (.tail _ (.tail _ hW))) (.tail _ (.tail _ (.tail _ hF))) hw (fun p hp => .tail _ (.tail _ (.tail _ hp))) hA hwt hl h0 h1).use K0 F X Ne Tp rfl ?kd ?ku hret
  case kd => omega
  case ku => omega
theorem ints_nth : ∀ {vs : List Value} {ns : List Int}, IntsAre vs ns → ∀ (i : Nat) (v : Value), vs[i]? = some v → ∃ (n : Int) (t : Tok), ns[i]? = some n ∧ v = Value.int n t
  | _, _, .nil, i, v, h => by simp at h
  | _, _, .cons n t r, 0, v, h => ⟨n, t, rfl, (Option.some.inj h).symm⟩
  | _, _, .cons n t r, i + 1, v, h => ints_nth r i v h
theorem due_rest {Fin : List Value → Led → Prop} (K0 : Below callerA h₀ [] h₀) (hd : dp + 40 < recursionLimit) (hu : un + 400 < cLine) (X : (frag c.w.params).In h₀) (Tp : Top c.p c.loose c.mean c.mg c.mb h₀)
    (e1 : o1.data = .cell (some (.ref W))) (e2 : o2.data = .cell (some (.bool (builtIs ns)))) (e3 : o3.data = .cell (some (.ref R))) (hw : StrsAre wv (builtB ns).ws) (hs : IntsAre sv (builtB ns).ss)
    (hwt : (builtB ns).ws = toks.map (·.2.1)) (hl : toks.length ≤ 40) (hsp : ∀ a ∈ (builtB ns).ss, ∃ n : Nat, a = n ∧ 1 ≤ n ∧ n + 1 < toks.length)
    (fin : ∀ ys news, DInv L ns W S R nW nS nR wv sv fv o1 o2 o3 line toks sv.length ys news → Fin ys news) :
    ∀ (k i : Nat) (ys : List Value) (news : Led), i + k = sv.length → DInv L ns W S R nW nS nR wv sv fv o1 o2 o3 line toks i ys news →
      LCg.CompRest (PySem.Challenge.rw_bd0047_01.row.prog) c.w (wAr dp un gd L fa cd) h₀ L m (wEnv L fa cd) (cmpElt (wS 2)) (Str.ofString "at") (cmpScope (wS 2)) [(Str.ofString "words", L + 1), (Str.ofString "tokens", L + 1 + 1 + 1), (Str.ofString "is_call", L + 1 + 1)] s (LCg.SrcAt h₀ S sv.toArray) (fun i v => sv.toArray[i]? = some v) Fin k i ys news := by
  intro k
  induction k with
  | zero =>
    intro i ys news hik D
    obtain rfl : i = sv.length := by omega
    exact LCg.CompRest.zero (fin ys news D)
  | succ k ih =>
    intro i ys news hik D
    refine LCg.CompRest.succ ?_
    intro v I oI C oC Da m₂ h tk E' hP hC hx F N off ne
    have hP : sv[i]? = some v := by simpa using hP
    obtain ⟨n, t, hn, rfl⟩ := ints_nth hs i v hP
    obtain ⟨at', rfl, h0, h1⟩ := hsp n (List.mem_of_getElem? hn)
    refine due_turn (s := { s with heap := h, toks := tk }) K0 hd hu X Tp F N D.c3 D.c2 D.c1 e1 e2 e3 hC hx D.w D.r hw D.t hwt hl h0 h1 fun v own h' tk' F' N' hR => ?_
    have od := off.mem
    have hv : DueV (own ++ news) v (dueAt toks (builtIs ns) at') ∧ ∀ p ∈ own, p.1 ≠ I ∧ p.1 ≠ C ∧ p.1 ≠ Da := by
      unfold DueR at hR
      cases hd' : dueAt toks (builtIs ns) at' with
      | none =>
        rw [hd'] at hR
        obtain ⟨rfl, rfl⟩ := hR
        exact ⟨rfl, fun p hp => nomatch hp⟩
      | some o =>
        rw [hd'] at hR
        obtain ⟨D', q, t', t1, t2, rfl, rfl, mq, ml⟩ := hR
        refine ⟨⟨D', q, t', t1, t2, rfl, .head _, .tail _ mq⟩, fun p hp => ?_⟩
        rcases List.mem_cons.mp hp with rfl | hp
        · exact ⟨Nat.ne_of_gt (ktn_ltOf ml _ (.head _)), Nat.ne_of_gt (ktn_ltOf ml _ (.tail _ (.head _))), Nat.ne_of_gt (ktn_ltOf ml _ (.tail _ (.tail _ (.head _))))⟩
        · cases hp
    refine LCg.CompEnd.intro F' N' (own ++ news) (fun p hp => ?_) (LCg.Off3.of fun p hp => ?_) (.inr ⟨_, List.mem_append_right _ D.s, rfl, _, rfl⟩) (ih (i + 1) (ys ++ [v]) (own ++ news) (by omega) ?_)
    · rcases List.mem_cons.mp hp with rfl | hp
      · exact List.mem_append_right _ (.head _)
      rcases List.mem_cons.mp hp with rfl | hp
      · exact List.mem_append_right _ (.tail _ (.head _))
      rcases List.mem_cons.mp hp with rfl | hp
      · exact List.mem_append_right _ (.tail _ (.tail _ (.head _)))
      · rcases List.mem_append.mp hp with hp | hp
        · exact List.mem_append_left _ hp
        · exact List.mem_append_right _ (.tail _ (.tail _ (.tail _ hp)))
    · rcases List.mem_append.mp hp with hp | hp
      · exact hv.2 p hp
      · exact od p hp
    · have R := fun p (hp : p ∈ news) => List.mem_append_right own hp
      refine ⟨R _ D.c3, R _ D.c2, R _ D.c1, R _ D.w, R _ D.s, R _ D.r, D.t.mono fun _ _ ⟨D9, e, hD⟩ => ⟨D9, e, hD.mono R⟩, ?_⟩
      rw [List.take_add_one, hn, Option.toList_some, List.map_append, List.map_singleton]
      exact AllRel.snoc hv.1 (D.d.mono fun _ _ y => y.mono R)
theorem wS3 (K0 : Below callerA h₀ [] h₀) (hd : dp + 40 < recursionLimit) (hu : un + 400 < cLine) (X : (frag c.w.params).In h₀) (Tp : Top c.p c.loose c.mean c.mg c.mb h₀)
    (e1 : o1.data = .cell (some (.ref W))) (e2 : o2.data = .cell (some (.bool (builtIs ns)))) (e3 : o3.data = .cell (some (.ref R))) (hw : StrsAre wv (builtB ns).ws) (hs : IntsAre sv (builtB ns).ss)
    (hwt : (builtB ns).ws = toks.map (·.2.1)) (hl : toks.length ≤ 40) (hsp : ∀ a ∈ (builtB ns).ss, ∃ n : Nat, a = n ∧ 1 ≤ n ∧ n + 1 < toks.length) (hsl : sv.length ≤ 40)
    (F : Fr h₀ L s.heap (kstB m [(Str.ofString "spots", .ref S)])) (Ne : News h₀ L s.heap imm) (D0 : DInv L ns W S R nW nS nR wv sv fv o1 o2 o3 line toks 0 [] imm) (Q : Flow → Shared → Prop)
    (hret : ∀ Dl ys news h' tk', Fr h₀ L h' (fun z => if z = Str.ofString "due" then some (.ref Dl) else kstB m [(Str.ofString "spots", .ref S)] z) → News h₀ L h' ((Dl, LCg.lst ys) :: news) → LCg.Off1 Dl news → DInv L ns W S R nW nS nR wv sv fv o1 o2 o3 line toks sv.length ys news → Q .next { s with heap := h', toks := tk' }) :
    wpAny (MM c.w) (wAr dp un gd L fa cd) (exec (wS 2) (wEnv L fa cd)) Q E s := by
  unfold MM
  revert X; k_fill; intro X
  conv in exec _ _ => (arg 1; whnf)
  refine LCg.Assign_ListComp_U (F₀ := F) rfl (by with_unfolding_all rfl) (by with_unfolding_all rfl) (by decide) (by rfl) (by decide) (by rfl) (by rfl) (by rfl) ?_
  k_steps
  refine LCg.CompSrc.ledger rfl F Ne D0.s (by simp only [List.size_toArray]; exact Nat.le_trans hsl (by decide)) fun g => ?_
  refine due_rest (s := { s with heap := g }) K0 hd hu X Tp e1 e2 e3 hw hs hwt hl hsp (fun ys news D => ?_) sv.toArray.size 0 [] imm (by simp) D0
  intro Dl h' tk' F' N' o1'
  exact hret Dl ys news h' tk' F' N' o1' D
end
end Mine
end
section
open PySem PySem.W PySem.Spec PySem.Calls PyProof.Rows PyProof.V
set_option maxHeartbeats 8000000
namespace Mine
noncomputable def retExpr : Stmt → Expr
  | .Return (some e) _ => e
  | _ => .Name Str.empty ⟨0, 0, 0, 0⟩
noncomputable def cmpRight : Expr → Expr
  | .Compare _ _ [e] _ => e
  | _ => .Name Str.empty ⟨0, 0, 0, 0⟩
noncomputable def lcElt : Expr → Expr
  | .ListComp e _ _ _ => e
  | _ => .Name Str.empty ⟨0, 0, 0, 0⟩
noncomputable def lcScope : Expr → Scope
  | .ListComp _ _ s _ => s
  | _ => fnScope passS
noncomputable def lcTest : Expr → Expr
  | .ListComp _ [⟨_, _, [c], _⟩] _ _ => c
  | _ => .Name Str.empty ⟨0, 0, 0, 0⟩
noncomputable abbrev wLc : Expr := cmpRight (retExpr (wS 3))
section
variable {c : Cx} {fa : Nat} {cd : Value} {h₀ : Heap} {L : Addr} {s : Shared} {E : Value → Shared → Prop} {m : Str → Option Value} {dp un : Nat} {gd : Option (List Code)} {Dl : Nat} {ys : List Value} {news : Led} {ds : List (Option Out)}
theorem flt_turn {v : Value} {o : Option Out} {I C D i k n : Nat} {oI oC : Obj} {zs : List Value} {m₂ : Str → Option Value} {st : Shared} {Fin : List Value → Led → Prop} (hd : dp + 40 < recursionLimit) (hu : un + 400 < cLine) (X : (frag c.w.params).In h₀) (Tp : Top c.p c.loose c.mean c.mg c.mb h₀)
    (hv : DueV news v o) (F : Fr h₀ L s.heap m) (Ne : News h₀ L s.heap ((I, oI) :: (C, oC) :: (D, LCg.lst zs) :: news)) (off : LCg.Off3 I C D news) (hC : LCg.NsObj oC m₂) (hx : m₂ (Str.ofString "one") = some v) (mD : (Dl, LCg.lst ys) ∈ news)
    (next : ∀ zs', zs' = zs ++ (o.map fun _ => v).toList → LCt.CompRestT (PySem.Challenge.rw_bd0047_01.row.prog) c.w (wAr dp un gd L fa cd) h₀ L m (wEnv L fa cd) (lcTest wLc) (lcElt wLc) (Str.ofString "one") (lcScope wLc) [] st (LCg.SrcAt h₀ Dl ys.toArray) (fun i v => ys.toArray[i]? = some v) Fin k (i + 1) zs' news) :
    wpAny (MM c.w) (wAr dp un gd L fa cd) (isTrue (lcTest wLc) (compEnvC (lcScope wLc) [] C (wEnv L fa cd)) (eval (lcTest wLc) (compEnvC (lcScope wLc) [] C (wEnv L fa cd)))) (fun ok s' => if ok = true then
        wpAny (MM c.w) (wAr dp un gd L fa cd) (eval (lcElt wLc) (compEnvC (lcScope wLc) [] C (wEnv L fa cd))) (LCg.CompEnd h₀ L m s I oI C oC D (LCg.lst zs) (LCg.SrcAt h₀ Dl ys.toArray) (fun y news' => LCt.CompRestT (PySem.Challenge.rw_bd0047_01.row.prog) c.w (wAr dp un gd L fa cd) h₀ L m (wEnv L fa cd) (lcTest wLc) (lcElt wLc) (Str.ofString "one") (lcScope wLc) [] st (LCg.SrcAt h₀ Dl ys.toArray) (fun i v => ys.toArray[i]? = some v) Fin k (i + 1) (zs ++ [y]) news')) E s'
        else LCg.CompEnd h₀ L m s I oI C oC D (LCg.lst zs) (LCg.SrcAt h₀ Dl ys.toArray) (fun _ news' => LCt.CompRestT (PySem.Challenge.rw_bd0047_01.row.prog) c.w (wAr dp un gd L fa cd) h₀ L m (wEnv L fa cd) (lcTest wLc) (lcElt wLc) (Str.ofString "one") (lcScope wLc) [] st (LCg.SrcAt h₀ Dl ys.toArray) (fun i v => ys.toArray[i]? = some v) Fin k (i + 1) zs news') Value.none s') E s := by
  cases o with
  | none =>
    have hv : v = .none := hv
    subst hv
    unfold MM
    revert X; k_fill; intro X
    conv in isTrue _ _ _ => (arg 1; whnf)
    conv in eval (lcTest _) _ => (arg 1; whnf)
    k_steps
    exact LCg.CompEnd.intro F Ne news (fun p hp => hp) off (.inr ⟨_, mD, rfl, _, rfl⟩) (next zs (by simp))
  | some o =>
    obtain ⟨D', q, t, t1, t2, rfl, r1, r2⟩ := hv
    unfold MM
    revert X; k_fill; intro X
    conv in isTrue _ _ _ => (arg 1; whnf)
    conv in eval (lcTest _) _ => (arg 1; whnf)
    k_steps
    conv in eval _ _ => (arg 1; whnf)
    k_steps
    exact LCg.CompEnd.intro F Ne news (fun p hp => hp) off (.inr ⟨_, mD, rfl, _, rfl⟩) (next (zs ++ [.ref D']) (by simp))
theorem allRel_nth {α : Type} {R : Value → α → Prop} : ∀ {vs : List Value} {as : List α}, AllRel R vs as → ∀ (i : Nat) (v : Value), vs[i]? = some v → ∃ a, as[i]? = some a ∧ R v a
  | _, _, .nil, i, v, h => by simp at h
  | _, _, .cons r _, 0, v, h => ⟨_, rfl, by rw [← Option.some.inj h]; exact r⟩
  | _, _, .cons _ r, i + 1, v, h => allRel_nth r i v h
theorem flt_rest {st : Shared} {Fin : List Value → Led → Prop} (hd : dp + 40 < recursionLimit) (hu : un + 400 < cLine) (X : (frag c.w.params).In h₀) (Tp : Top c.p c.loose c.mean c.mg c.mb h₀)
    (hy : AllRel (DueV news) ys ds) (mD : (Dl, LCg.lst ys) ∈ news) (fin : ∀ zs, AllRel (OutV news) zs (ds.filterMap id) → Fin zs news) :
    ∀ (k i : Nat) (zs : List Value), i + k = ys.length → AllRel (OutV news) zs ((ds.take i).filterMap id) →
      LCt.CompRestT (PySem.Challenge.rw_bd0047_01.row.prog) c.w (wAr dp un gd L fa cd) h₀ L m (wEnv L fa cd) (lcTest wLc) (lcElt wLc) (Str.ofString "one") (lcScope wLc) [] st (LCg.SrcAt h₀ Dl ys.toArray) (fun i v => ys.toArray[i]? = some v) Fin k i zs news := by
  intro k
  induction k with
  | zero =>
    intro i zs hik hz
    refine LCt.CompRestT.zero (fin zs ?_)
    rw [List.take_of_length_le (by have := hy.len; omega)] at hz
    exact hz
  | succ k ih =>
    intro i zs hik hz
    refine LCt.CompRestT.succ ?_
    intro v I oI C oC Da m₂ h tk E' hP hC hx F N off ne
    have hP : ys[i]? = some v := by simpa using hP
    obtain ⟨o, ho, hv⟩ := allRel_nth hy i v hP
    refine flt_turn (s := { st with heap := h, toks := tk }) (n := 0) hd hu X Tp hv F N off hC hx mD fun zs' e => ih (i + 1) zs' (by omega) ?_
    subst e
    rw [List.take_add_one, ho, Option.toList_some, List.filterMap_append]
    cases o with
    | none => simpa using hz
    | some o => exact AllRel.snoc (R := OutV news) hv hz
end
noncomputable def outD (o : Out) : Dat := .tuple [.tuple [.int 3, .int o.1], .str o.2]
theorem out_in {imm : Led} {v : Value} {o : Out} (x : OutV imm v o) : DatIn imm v (outD o) := by
  obtain ⟨D, q, t, t1, t2, rfl, m1, m2⟩ := x
  exact .tuple (vs := [.ref q, .str o.2 t]) m1 (.cons (.tuple (vs := [.int 3 t1, .int o.1 t2]) m2 (.cons (.int _ _) (.cons (.int _ _) .nil))) (.cons (.str _ _) .nil))
theorem outs_in {imm : Led} : ∀ {vs : List Value} {os : List Out}, AllRel (OutV imm) vs os → DatAll imm vs (os.map outD)
  | _, _, .nil => .nil
  | _, _, .cons r rs => .cons (out_in r) (outs_in rs)
theorem out_ok (o : Out) (h : PyData.strOk o.2 = true) : kqdOk 8 (outD o) = true := by
  simp [outD, kqdOk, h]
section
variable {c : Cx} {ns : List Int} {fa : Nat} {cd : Value} {h₀ : Heap} {L : Addr} {s : Shared} {E : Value → Shared → Prop} {o1 o2 o3 : Obj} {m : Str → Option Value} {dp un : Nat} {gd : Option (List Code)} {W S R nW nS nR Dl : Nat} {wv sv fv ys : List Value} {news : Led} {line : Str} {toks : List TokD} {outs : List Out} {i : Nat}
theorem wS4 (K0 : Below callerA h₀ [] h₀) (hd : dp + 40 < recursionLimit) (hu : un + 400 < cLine) (X : (frag c.w.params).In h₀) (Tp : Top c.p c.loose c.mean c.mg c.mb h₀) (e3 : o3.data = .cell (some (.ref R))) (hfl : ys.length ≤ 40)
    (F : Fr h₀ L s.heap (kstB m [(Str.ofString "due", .ref Dl)])) (Ne : News h₀ L s.heap ((L + 1 + 1 + 1, o3) :: (Dl, LCg.lst ys) :: news)) (D0 : DInv L ns W S R nW nS nR wv sv fv o1 o2 o3 line toks i ys news) (hrun : RunOk line st0 toks) (hout : outs = mRun line st0 toks) (hn : outs.length ≤ sizeLine) (hmsg : ∀ o ∈ outs, PyData.strOk o.2 = true)
    (hlaw : outs = (((builtB ns).ss.take i).map fun a => dueAt toks (builtIs ns) a.toNat).filterMap id)
    (Q : Flow → Shared → Prop) (hret : ∀ s', (∃ m', Fr h₀ L s'.heap m') → s'.gens = s.gens.push .finished → s'.os = s.os → Q (.ret (.bool true)) s') :
    wpAny (MM c.w) (wAr dp un gd L fa cd) (exec (wS 3) (wEnv L fa cd)) Q E s := by
  unfold MM
  revert X; k_fill; intro X
  conv in exec _ _ => (arg 1; whnf)
  k_steps
  refine gen_make K0 F X Ne Tp rfl (by omega) (by omega) ?_
  intro G s1 tkG hR F1 N1 lG
  k_steps
  have mRl : (R, listOf fv.toArray nR) ∈ (L + 1 + 1 + 1, o3) :: (Dl, LCg.lst ys) :: news := .tail _ (.tail _ D0.r)
  refine gen_list hR rfl (by omega) (by omega) mRl (D0.t.mono fun _ _ ⟨D9, e, hD⟩ => ⟨D9, e, hD.mono fun p hp => .tail _ (.tail _ hp)⟩) hrun hout hn ?_
  intro S' acc cc imm s2 tk2 F2 N2 hsub hacc hg2 ho2
  refine LCt.ListComp_T (F₀ := F2) (by with_unfolding_all rfl) (by decide) (by rfl) (by decide) (by rfl) ?_
  k_steps
  have mD : (Dl, LCg.lst ys) ∈ (S', lobj acc cc) :: imm := .tail _ (hsub _ (.tail _ (.tail _ (.head _))))
  have hn' : ∀ p ∈ news, p ∈ (S', lobj acc cc) :: imm := fun p hp => .tail _ (hsub _ (.tail _ (.tail _ (.tail _ hp))))
  refine LCt.CompSrcT.ledger rfl F2 N2 mD (by simp only [List.size_toArray]; exact Nat.le_trans hfl (by decide)) fun g => ?_
  refine flt_rest (st := { s2 with heap := g }) hd hu X Tp (D0.d.mono fun _ _ y => y.mono hn') mD (fun zs hz => ?_) ys.toArray.size 0 [] (by simp) .nil
  rw [← hlaw] at hz
  intro Z h' tk' F' N' o1'
  refine kqd_eq N' (.tail _ (.head _)) rfl rfl (outs_in hacc) (fun p hp => .tail _ (.tail _ hp)) (.head _) rfl rfl (outs_in hz) (fun p hp => .tail _ hp) (fun d hd' => ?_) (fun d hd' => ?_) (by show un + 64 < cLine; omega) ?_
  · obtain ⟨o, ho, rfl⟩ := List.mem_map.mp hd'
    exact out_ok o (hmsg o ho)
  · obtain ⟨o, ho, rfl⟩ := List.mem_map.mp hd'
    exact out_ok o (hmsg o ho)
  · have e9 : ∀ (d : Decidable (outs.map outD = outs.map outD)), @decide _ d = true := fun d => @decide_eq_true _ d rfl
    rw [e9]
    exact hret _ ⟨_, F'⟩ hg2 ho2
end
end Mine
end
section
open PySem PySem.W PySem.Spec PySem.Calls PyProof.Rows PyProof.V
set_option maxHeartbeats 4000000
namespace Mine
noncomputable abbrev bT (ns : List Int) : List TokD := toksOf (builtB ns).ws (builtB ns).gs
noncomputable abbrev bL (ns : List Int) : Str := lineOf (builtB ns).ws (builtB ns).gs
noncomputable def dues (ns : List Int) : List (Option Out) := (builtB ns).ss.map fun a => dueAt (bT ns) (builtIs ns) a.toNat
/-- what the law asks, with no program in sight -/
structure PureOk (ns : List Int) : Prop where
  wok : WOk (builtB ns).ws (builtB ns).gs
  wt : (builtB ns).ws = (bT ns).map (·.2.1)
  few : (bT ns).length ≤ 40
  sp : ∀ a ∈ (builtB ns).ss, ∃ n : Nat, a = n ∧ 1 ≤ n ∧ n + 1 < (bT ns).length
  run : RunOk (bL ns) st0 (bT ns)
  law : mRun (bL ns) st0 (bT ns) = (dues ns).filterMap id
  msg : ∀ o ∈ (dues ns).filterMap id, PyData.strOk o.2 = true
section
variable {c : Cx} {vs : List Value} {ns : List Int} {l fa : Nat} {cd : Value} {h₀ : Heap} {L : Addr} {s : Shared} {E : Value → Shared → Prop} {o1 o2 o3 : Obj} {u : Str → Option Value} {dp un : Nat} {gd : Option (List Code)}
theorem lawW (P : PureOk ns) (hS : Scr h₀ l vs ns) (K0 : Below callerA h₀ [] h₀) (hd : dp + 40 < recursionLimit) (hu : un + 400 < cLine) (X : (frag c.w.params).In h₀) (Tp : Top c.p c.loose c.mean c.mg c.mb h₀)
    (F : Fr h₀ L s.heap (kstB u [(Str.ofString "script", .ref l)])) (Ne : News h₀ L s.heap [(L + 1 + 1 + 1, o3), (L + 1 + 1, o2), (L + 1, o1)]) (e1 : o1.data = .cell none) (e2 : o2.data = .cell none) (e3 : o3.data = .cell none)
    (Q : Flow → Shared → Prop) (hret : ∀ s', (∃ m', Fr h₀ L s'.heap m') → s'.gens = s.gens.push .finished → s'.os = s.os → Q (.ret (.bool true)) s') :
    wpAny (MM c.w) (wAr dp un gd L fa cd) (execs (fnBody (topSt 25)) (wEnv L fa cd)) Q E s := by
  rw [w_body, execs_cons]
  refine wpAny_bind (wpAny_mono (wS1 hS K0 hd hu X Tp F Ne e1 e2 e3) (fun f s1 h1 => ?_) fun _ _ y => y)
  obtain ⟨rfl, h1, tk1, m1, W, G, S, nW, nG, nS, wv, gv, sv, p1, p2, p3, rfl, F1, N1, mg1, ms1, d1, d2, d3, hw, hg, hs, l1, l2, l3⟩ := h1
  show wpAny _ _ (execs [wS 1, wS 2, wS 3] _) _ _ _
  rw [execs_cons]
  have F1' : Fr h₀ L h1 (kstB m1 [(Str.ofString "gaps", .ref G), (Str.ofString "spots", .ref S)]) := fr_named F1 (fun p hp => by
    rcases List.mem_cons.mp hp with rfl | hp
    · exact mg1
    rcases List.mem_cons.mp hp with rfl | hp
    · exact ms1
    · cases hp)
  refine wpAny_bind (wpAny_mono (wS2 (s := { s with heap := h1, toks := tk1 }) K0 hd hu X Tp P.wok F1' N1 d1 d2 d3 hw hg) (fun f s2 h2 => ?_) fun _ _ y => y)
  obtain ⟨rfl, h2, tk2, m2, R, nR, fv, q3, imm, rfl, F2, N2, ms2, d3', hA⟩ := h2
  show wpAny _ _ (execs [wS 2, wS 3] _) _ _ _
  rw [execs_cons]
  have F2' : Fr h₀ L h2 (kstB m2 [(Str.ofString "spots", .ref S)]) := fr_named F2 (fun p hp => by
    rcases List.mem_cons.mp hp with rfl | hp
    · exact ms2
    · cases hp)
  have D0 : DInv L ns W S R nW nS nR wv sv fv p1 p2 q3 (bL ns) (bT ns) 0 [] ((L + 1 + 1 + 1, q3) :: (L + 1 + 1, p2) :: (L + 1, p1) :: (W, listOf wv.toArray nW) :: (S, listOf sv.toArray nS) :: (R, listOf fv.toArray nR) :: imm) :=
    ⟨.head _, .tail _ (.head _), .tail _ (.tail _ (.head _)), .tail _ (.tail _ (.tail _ (.head _))), .tail _ (.tail _ (.tail _ (.tail _ (.head _)))), .tail _ (.tail _ (.tail _ (.tail _ (.tail _ (.head _))))),
      hA.mono fun _ _ ⟨D9, e, hD⟩ => ⟨D9, e, hD.mono fun p hp => .tail _ (.tail _ (.tail _ (.tail _ (.tail _ (.tail _ hp)))))⟩, .nil⟩
  refine wpAny_bind (wS3 (s := { s with heap := h2, toks := tk2 }) K0 hd hu X Tp d1 d2 d3' hw hs P.wt P.few P.sp l3 F2' N2 D0 _ fun Dl ys news h3 tk3 F3 N3 _ D3 => ?_)
  show wpAny _ _ (execs [wS 3] _) _ _ _
  rw [execs_cons]
  have F3' : Fr h₀ L h3 (kstB (fun z => if z = Str.ofString "due" then some (.ref Dl) else kstB m2 [(Str.ofString "spots", .ref S)] z) [(Str.ofString "due", .ref Dl)]) := fr_named F3 (fun p hp => by
    rcases List.mem_cons.mp hp with rfl | hp
    · with_unfolding_all rfl
    · cases hp)
  have N3' : News h₀ L h3 ((L + 1 + 1 + 1, q3) :: (Dl, LCg.lst ys) :: news) := fun p hp => by
    rcases List.mem_cons.mp hp with rfl | hp
    · exact N3 _ (.tail _ D3.c3)
    · exact N3 _ hp
  have hsl : (builtB ns).ss.take sv.length = (builtB ns).ss := List.take_of_length_le (by rw [hs.length]; exact Nat.le_refl _)
  have hyl : ys.length ≤ 40 := by
    rw [D3.d.len, List.length_map, hsl, ← hs.length]; exact l3
  have hlaw : mRun (bL ns) st0 (bT ns) = (((builtB ns).ss.take sv.length).map fun a => dueAt (bT ns) (builtIs ns) a.toNat).filterMap id := by rw [hsl]; exact P.law
  have hlen : (mRun (bL ns) st0 (bT ns)).length ≤ sizeLine := by
    rw [P.law]
    refine Nat.le_trans (List.length_filterMap_le _ _) ?_
    unfold dues
    rw [List.length_map, ← hs.length]
    exact Nat.le_trans l3 (by decide)
  refine wpAny_bind (wS4 (s := { s with heap := h3, toks := tk3 }) K0 hd hu X Tp d3' hyl F3' N3' D3 P.run rfl hlen (fun o ho => P.msg o (P.law ▸ ho)) hlaw _ fun s' hf hg' ho' => ?_)
  exact wpAny_pure (hret s' hf hg' ho')
end
end Mine
end
section
open PySem PySem.W PySem.Spec PySem.Calls PyProof.Rows PyProof.V
set_option maxHeartbeats 4000000
namespace Mine
noncomputable def endS : List Str := ["a", "x1", "12", "b", ")"]
noncomputable def iniS : List Str := ["f", "(", "return", "c"]
noncomputable abbrev opnS : List Str := unS ++ moS
noncomputable abbrev allW : List Str := allS ++ (opnS ++ (endS ++ iniS))
/-- the sort of a sign: a comma, the plain equals, one that needs blanks, one that can do without -/
noncomputable def scl (x : Str) : Nat := if x == Str.ofString "," then 0 else if x == Str.ofString "=" then 1 else if needB x then 2 else 3
noncomputable def nsT (n d : Nat) : Nat := match n with
  | 0 => 0
  | 1 => if d = 0 then 1 else 0
  | 2 => 1
  | _ => 2
noncomputable def inertB (x : Str) : Bool := !(neeS.any (· == x)) && !(unaS.any (· == x)) && !(optS.any (· == x)) && !(x == Str.ofString ",")
theorem f3 : ∀ px ∈ endS, ∀ x ∈ allS, nsB (kindv px) px x 0 = nsT (scl x) 0 ∧ nsB (kindv px) px x 1 = nsT (scl x) 1 := by decide +kernel
theorem f2 : ∀ u ∈ unS, nsB 54 (Str.ofString "(") u 1 = 0 ∧ nsB 1 (Str.ofString "return") u 0 = 0 := by decide +kernel
theorem f8 : ∀ x ∈ allS, scl x ≠ 3 → ∀ y ∈ opnS, nsB (kindv x) x y 0 = 0 ∧ nsB (kindv x) x y 1 = 0 := by decide +kernel
theorem f5 : ∀ y ∈ opnS, inP y = false ∧ (y == Str.ofString ":") = false ∧ (y == Str.ofString ",") = false ∧ (y == Str.ofString "(") = false ∧ (y == Str.ofString ")") = false := by decide +kernel
theorem f6 : ∀ x ∈ allS, opB (kindv x) = true ∧ (x == Str.ofString "(") = false ∧ (x == Str.ofString ")") = false := by decide +kernel
theorem f7 : ∀ x ∈ allS, scl x = 3 → (x == Str.ofString "%") = false → (ariS.any (· == x)) = !([Str.ofString "|", Str.ofString "<<", Str.ofString "&", Str.ofString ">>"].any fun y => y == x) := by decide +kernel
theorem f9 : ∀ x ∈ moS ++ (endS ++ iniS), inertB x = true := by decide +kernel
theorem f10 : ∀ x ∈ moS, x ∈ endS := by decide +kernel
theorem f1 : ∀ x ∈ allW, (kindv x = 1 ∨ kindv x = 2 ∨ kindv x = 54) ∧ x ≠ Str.ofString "[" ∧ x ≠ Str.ofString "{" ∧ x ≠ Str.ofString "]" ∧ x ≠ Str.ofString "}" ∧ (x == Str.ofString "lambda") = false ∧ x ≠ Str.ofString ";" ∧ x ≠ Str.ofString ":" ∧ 0 < x.length ∧ x.length < 20 := by decide +kernel
theorem f11 : kindv (Str.ofString ",") = 54 ∧ kindv (Str.ofString "(") = 54 ∧ kindv (Str.ofString ")") = 54 ∧ kindv (Str.ofString "return") = 1 := by decide +kernel
theorem f12 : ∀ y ∈ opnS, gapB (Txt.item y 0) = true ∧ occP (Txt.item y 0) = true := by decide +kernel
theorem f13 : gapB (Str.ofString " ") = false := by decide +kernel
theorem f14 : PyData.strOk m225 = true ∧ PyData.strOk m231 = true ∧ PyData.strOk m226 = true ∧ PyData.strOk m227 = true ∧ PyData.strOk m228 = true := by decide +kernel
theorem xok {x : Str} (h : x ∈ allW) : XOk (kindv x) x := by
  obtain ⟨a, b, c, d, e, f, g, i, j, k⟩ := f1 x h
  exact ⟨a, b, c, d, e, f, g, i, j, k⟩
theorem inert_ns {x : Str} (h : inertB x = true) (pt : Int) (px : Str) (d : Nat) : nsB pt px x d = 0 := by
  simp only [inertB, Bool.and_eq_true, Bool.not_eq_true'] at h
  obtain ⟨⟨⟨h1, h2⟩, h3⟩, h4⟩ := h
  have hr : nsR pt px x = 0 := by
    unfold nsR
    rw [h1, h2, h3]; rfl
  match d with
  | 0 => simp [nsB, hr]
  | 1 => simp [nsB, hr]
  | n + 2 => simp [nsB, hr]
theorem inert_comma {x : Str} (h : inertB x = true) : x ≠ Str.ofString "," := by
  intro e
  subst e
  revert h
  decide +kernel
theorem s4_no {pt : Int} {pv : Option (Str × Int)} {d : Nat} {k : Int} {x : Str} {s1 : Int} (h : ∀ px pe, pv = some (px, pe) → nsB pt px x d = 0) : s4 .no pt pv d k x s1 = (.no, []) := by
  cases pv with
  | none => rfl
  | some v =>
    obtain ⟨px, pe⟩ := v
    show s4B k pt px pe x s1 d = _
    unfold s4B
    rw [h px pe rfl]
    split <;> rfl
/-- the comma's own message, by the token behind it -/
noncomputable def cmO (k : TokD) (r : List TokD) : List Out := if k.2.1 = Str.ofString "," then (match r with | [] => [] | k' :: _ => if k'.2.2.1 = k.2.2.2 then [(k.2.2.1, m231)] else []) else []
noncomputable def sO (st : MS) (k : TokD) : List Out := (s4 st.ns st.pt st.pv (brNext k.1 k.2.1 st.d) k.1 k.2.1 k.2.2.1).2
noncomputable def mR2 : MS → List TokD → List Out
  | _, [] => []
  | st, k :: r => cmO k r ++ (sO st k ++ mR2 (mStep st k) r)
noncomputable def mEnd (st : MS) (T : List TokD) : MS := T.foldl mStep st
theorem mEnd_app (st : MS) (A B : List TokD) : mEnd st (A ++ B) = mEnd (mEnd st A) B := List.foldl_append
theorem cmO_no {k : TokD} {r : List TokD} (h : k.2.1 ≠ Str.ofString ",") : cmO k r = [] := if_neg h
theorem mR2_app : ∀ (A B : List TokD) (st : MS), (∀ k, A.getLast? = some k → k.2.1 ≠ Str.ofString ",") → mR2 st (A ++ B) = mR2 st A ++ mR2 (mEnd st A) B
  | [], B, st, _ => rfl
  | [k], B, st, h => by
    have hk := h k rfl
    show cmO k B ++ (sO st k ++ mR2 (mStep st k) B) = (cmO k [] ++ (sO st k ++ [])) ++ mR2 (mStep st k) B
    rw [cmO_no hk, cmO_no hk]; simp
  | k :: k' :: r, B, st, h => by
    have ih := mR2_app (k' :: r) B (mStep st k) (fun q hq => h q (by rw [List.getLast?_cons_cons]; exact hq))
    show cmO k (k' :: r ++ B) ++ (sO st k ++ mR2 (mStep st k) (k' :: r ++ B)) = (cmO k (k' :: r) ++ (sO st k ++ mR2 (mStep st k) (k' :: r))) ++ mR2 (mEnd (mStep st k) (k' :: r)) B
    rw [ih]
    have : cmO k (k' :: r ++ B) = cmO k (k' :: r) := rfl
    rw [this]
    simp only [List.append_assoc]
/-- the tokens of words with gaps ahead, from a place on -/
noncomputable def tk : Int → List (Str × Int) → List TokD
  | _, [] => []
  | e, (x, g) :: r => (kindv x, x, e + g, e + g + x.length) :: tk (e + g + x.length) r
noncomputable def endp : Int → List (Str × Int) → Int
  | e, [] => e
  | e, (x, g) :: r => endp (e + g + x.length) r
theorem tk_app : ∀ (A B : List (Str × Int)) (e : Int), tk e (A ++ B) = tk e A ++ tk (endp e A) B
  | [], B, e => rfl
  | (x, g) :: r, B, e => by
    show _ :: tk _ (r ++ B) = _ :: (tk _ r ++ tk (endp _ r) B)
    rw [tk_app r B]
theorem endp_app : ∀ (A B : List (Str × Int)) (e : Int), endp e (A ++ B) = endp (endp e A) B
  | [], B, e => rfl
  | (x, g) :: r, B, e => endp_app r B _
theorem tk_len : ∀ (A : List (Str × Int)) (e : Int), (tk e A).length = A.length
  | [], e => rfl
  | (x, g) :: r, e => by show (tk _ r).length + 1 = r.length + 1; rw [tk_len r]
/-- a word that says nothing -/
theorem step_in {st : MS} {x : Str} {g e : Int} (hn : st.ns = .no) (h : inertB x = true) :
    sO st (kindv x, x, e + g, e + g + x.length) = [] ∧ mStep st (kindv x, x, e + g, e + g + x.length) = ⟨.no, kindv x, some (x, e + g + x.length), brNext (kindv x) x st.d⟩ := by
  unfold sO mStep
  dsimp only
  rw [hn, s4_no fun px pe _ => inert_ns h _ _ _]
  exact ⟨rfl, rfl⟩
theorem br_no {x : Str} {k : Int} {d : Nat} (h1 : (x == Str.ofString "(") = false) (h2 : (x == Str.ofString ")") = false) : brNext k x d = d := by
  have e1 : x ≠ Str.ofString "(" := fun e => by rw [e] at h1; simp at h1
  have e2 : x ≠ Str.ofString ")" := fun e => by rw [e] at h2; simp at h2
  unfold brNext
  rw [if_neg (fun q => e1 q.2), if_neg (fun q => e2 q.2)]
/-- a sign and the word behind it -/
theorem scl_cases (x : Str) : (x = Str.ofString "," ∧ scl x = 0) ∨ ((x == Str.ofString ",") = false ∧ x = Str.ofString "=" ∧ scl x = 1) ∨ ((x == Str.ofString ",") = false ∧ (x == Str.ofString "=") = false ∧ needB x = true ∧ scl x = 2) ∨ ((x == Str.ofString ",") = false ∧ (x == Str.ofString "=") = false ∧ needB x = false ∧ scl x = 3) := by
  unfold scl
  by_cases h1 : (x == Str.ofString ",") = true
  · left
    rw [if_pos h1]
    exact ⟨by simpa using h1, rfl⟩
  · have h1' : (x == Str.ofString ",") = false := by simpa using h1
    right
    rw [if_neg h1]
    by_cases h2 : (x == Str.ofString "=") = true
    · left
      rw [if_pos h2]
      exact ⟨h1', by simpa using h2, rfl⟩
    · have h2' : (x == Str.ofString "=") = false := by simpa using h2
      right
      rw [if_neg h2]
      by_cases h3 : needB x = true
      · left
        rw [if_pos h3]
        exact ⟨h1', h2', h3, rfl⟩
      · right
        rw [if_neg h3]
        exact ⟨h1', h2', by simpa using h3, rfl⟩
/-- a sign, from between two operands -/
theorem s4_sign {x px : Str} {e s1 : Int} {d : Nat} (hx : x ∈ allS) (hp : px ∈ endS) (hd : d = 0 ∨ d = 1) :
    s4 .no (kindv px) (some (px, e)) d (kindv x) x s1 = (if nsT (scl x) d = 0 then (.no, []) else if nsT (scl x) d = 1 then (if (s1 == e) = true then (.no, [(e, m225)]) else (.yes, [])) else (.pend e (!(s1 == e)), [])) := by
  show s4B (kindv x) (kindv px) px e x s1 d = _
  unfold s4B
  rw [if_pos (f6 x hx).1]
  have h3 := f3 px hp x hx
  rcases hd with rfl | rfl
  · rw [h3.1]
  · rw [h3.2]
theorem s4_back {x y : Str} {e s1 : Int} {d : Nat} (hx : x ∈ allS) (hy : y ∈ opnS) (hd : d = 0 ∨ d = 1) (hn : scl x ≠ 3) : s4 .no (kindv x) (some (x, e)) d (kindv y) y s1 = (.no, []) := by
  refine s4_no fun px pe h => ?_
  obtain ⟨rfl, rfl⟩ := Prod.mk.inj (Option.some.inj h)
  have h8 := f8 x hx hn y hy
  rcases hd with rfl | rfl
  · exact h8.1
  · exact h8.2
theorem sign_core {x y px : Str} {e g g' E : Int} {d : Nat} {isc : Bool} (hx : x ∈ allS) (hy : y ∈ opnS) (hp : px ∈ endS) (hg : g = 0 ∨ g = 1) (hg' : g' = 0 ∨ g' = 1) (hd : (isc = false ∧ d = 0) ∨ (isc = true ∧ d = 1)) :
    (s4 (s4 .no (kindv px) (some (px, e)) d (kindv x) x (e + g)).1 (kindv x) (some (x, E)) d (kindv y) y (E + g')).1 = .no ∧
    (if x = Str.ofString "," then (if E + g' = E then [(e + g, m231)] else []) else []) ++ ((s4 .no (kindv px) (some (px, e)) d (kindv x) x (e + g)).2 ++ (s4 (s4 .no (kindv px) (some (px, e)) d (kindv x) x (e + g)).1 (kindv x) (some (x, E)) d (kindv y) y (E + g')).2) =
      (dueOf x e (e + g) E (E + g') isc).toList := by
  obtain ⟨c1, c2', c3, c4, c5⟩ := f5 y hy
  have hcy : c2 x y = false := by unfold c2; rw [c1, c2']; simp
  have hd' : d = 0 ∨ d = 1 := hd.imp And.right And.right
  have q1 : (e + g == e) = decide (g = 0) := by rcases hg with rfl | rfl <;> simp <;> omega
  have q2 : (E + g' == E) = decide (g' = 0) := by rcases hg' with rfl | rfl <;> simp <;> omega
  have q3 : (e + g = e) = (g = 0) := propext ⟨fun h => by omega, fun h => by omega⟩
  have q4 : (E + g' = E) = (g' = 0) := propext ⟨fun h => by omega, fun h => by omega⟩
  have n1 : ((1 : Nat) = 0) = False := by simp
  have i1 : ((1 : Int) = 0) = False := by simp
  rw [s4_sign hx hp hd']
  unfold dueOf
  simp only [q1, q3, q4, q2]
  rcases scl_cases x with ⟨rfl, hs⟩ | ⟨h1, rfl, hs⟩ | ⟨h1, h2, h3, hs⟩ | ⟨h1, h2, h3, hs⟩
  · rw [hs]
    simp only [nsT, if_true]
    rw [s4_back hx hy hd' (by rw [hs]; decide)]
    simp only [beq_self_eq_true, if_true, List.append_nil]
    refine ⟨trivial, ?_⟩
    rcases hg' with rfl | rfl <;> simp
  · have hne : scl (Str.ofString "=") ≠ 3 := by rw [hs]; decide
    have nE : Str.ofString "=" ≠ Str.ofString "," := fun e => by rw [e] at h1; simp at h1
    have nB : needB (Str.ofString "=") = true := by decide +kernel
    rw [hs, h1, nB, if_neg nE]
    simp only [beq_self_eq_true, if_true, Bool.false_eq_true, if_false, List.nil_append]
    rcases hd with ⟨rfl, rfl⟩ | ⟨rfl, rfl⟩
    · simp only [nsT, if_true, n1, if_false, Bool.false_eq_true]
      rcases hg with rfl | rfl
      · simp only [decide_true, if_true]
        rw [s4_back hx hy hd' hne]
        exact ⟨rfl, rfl⟩
      · simp only [i1, decide_false, Bool.false_eq_true, if_false]
        show (s4Y _ E y (E + g')).1 = _ ∧ _ ++ (s4Y _ E y (E + g')).2 = _
        unfold s4Y
        rw [q2, hcy]
        rcases hg' with rfl | rfl <;> simp
    · simp only [nsT, n1, if_false, if_true]
      rw [s4_back hx hy hd' hne]
      exact ⟨rfl, rfl⟩
  · have hne : scl x ≠ 3 := by rw [hs]; decide
    have nE : x ≠ Str.ofString "," := fun e => by rw [e] at h1; simp at h1
    rw [hs, h1, h2, h3, if_neg nE]
    simp only [nsT, n1, if_false, if_true, Bool.false_eq_true, List.nil_append]
    rcases hg with rfl | rfl
    · simp only [decide_true, if_true]
      rw [s4_back hx hy hd' hne]
      exact ⟨rfl, rfl⟩
    · simp only [i1, decide_false, Bool.false_eq_true, if_false]
      show (s4Y _ E y (E + g')).1 = _ ∧ _ ++ (s4Y _ E y (E + g')).2 = _
      unfold s4Y
      rw [q2, hcy]
      rcases hg' with rfl | rfl <;> simp
  · have nE : x ≠ Str.ofString "," := fun e => by rw [e] at h1; simp at h1
    have h7 := f7 x hx hs
    rw [hs, h1, h3, if_neg nE]
    simp only [nsT, Bool.false_eq_true, if_false, List.nil_append, show (2 : Nat) ≠ 0 from by decide, show (2 : Nat) ≠ 1 from by decide]
    show (s4D e _ x E y (E + g')).1 = _ ∧ (s4D e _ x E y (E + g')).2 = _
    unfold s4D
    rw [q2, hcy]
    rcases hg with rfl | rfl <;> rcases hg' with rfl | rfl
    · simp only [decide_true, Bool.not_true, Bool.false_eq_true, if_false, if_true, bne_self_eq_false]
      by_cases k1 : (x == Str.ofString "**") = true
      · rw [k1]; simp
      · have k1' : (x == Str.ofString "**") = false := by simpa using k1
        rw [k1']
        simp only [Bool.not_false, if_true, Bool.false_eq_true, if_false]
        refine ⟨trivial, ?_⟩
        unfold msgS
        by_cases k2 : (x == Str.ofString "%") = true
        · rw [if_pos k2, if_pos k2]; rfl
        · have k2' : (x == Str.ofString "%") = false := by simpa using k2
          rw [if_neg k2, if_neg k2, h7 k2']
          by_cases k3 : ([Str.ofString "|", Str.ofString "<<", Str.ofString "&", Str.ofString ">>"].any fun y => y == x) = true
          · rw [k3]; rfl
          · have k3' : ([Str.ofString "|", Str.ofString "<<", Str.ofString "&", Str.ofString ">>"].any fun y => y == x) = false := by simpa using k3
            rw [k3']; rfl
    · simp [i1]
    · simp [i1]
    · simp [i1]
theorem sign_pair {x y px : Str} {e g g' : Int} {d : Nat} {isc : Bool} (hx : x ∈ allS) (hy : y ∈ opnS) (hp : px ∈ endS) (hg : g = 0 ∨ g = 1) (hg' : g' = 0 ∨ g' = 1) (hd : (isc = false ∧ d = 0) ∨ (isc = true ∧ d = 1)) (r : List TokD) :
    (mStep (mStep ⟨.no, kindv px, some (px, e), d⟩ (kindv x, x, e + g, e + g + x.length)) (kindv y, y, e + g + x.length + g', e + g + x.length + g' + y.length)) = ⟨.no, kindv y, some (y, e + g + x.length + g' + y.length), d⟩ ∧
    cmO (kindv x, x, e + g, e + g + x.length) ((kindv y, y, e + g + x.length + g', e + g + x.length + g' + y.length) :: r) ++ (sO ⟨.no, kindv px, some (px, e), d⟩ (kindv x, x, e + g, e + g + x.length) ++ sO (mStep ⟨.no, kindv px, some (px, e), d⟩ (kindv x, x, e + g, e + g + x.length)) (kindv y, y, e + g + x.length + g', e + g + x.length + g' + y.length)) =
      (dueOf x e (e + g) (e + g + x.length) (e + g + x.length + g') isc).toList := by
  obtain ⟨hk, b1, b2⟩ := f6 x hx
  obtain ⟨c1, c2', c3, c4, c5⟩ := f5 y hy
  have brx : ∀ k, brNext k x d = d := fun k => br_no b1 b2
  have bry : ∀ k, brNext k y d = d := fun k => br_no c4 c5
  have core := sign_core (E := e + g + x.length) (e := e) hx hy hp hg hg' hd
  unfold mStep sO cmO
  dsimp only
  simp only [brx, bry]
  exact ⟨by rw [core.1], core.2⟩
end Mine
end
section
open PySem PySem.W PySem.Spec PySem.Calls PyProof.Rows PyProof.V
set_option maxHeartbeats 4000000
namespace Mine
abbrev Items := List (Str × Int)
noncomputable def parZ (par : Bool) : Items := if par then [(Str.ofString "(", 0), (Str.ofString "c", 0), (Str.ofString ")", 0)] else []
noncomputable def tailZ (z : Str) (a : Int) (par : Bool) : Items := (z, a) :: parZ par
noncomputable def tailU (u : Option Str) (z : Str) (a : Int) (par : Bool) : Items := match u with
  | none => tailZ z a par
  | some w => (w, a) :: tailZ z 0 par
noncomputable def Okst (st : MS) (e : Int) (d : Nat) : Prop := ∃ px ∈ endS, st = ⟨.no, kindv px, some (px, e), d⟩
noncomputable def RunOk2 : MS → List TokD → Prop
  | _, [] => True
  | st, k :: r => (k.2.1 ∈ allW ∧ k.1 = kindv k.2.1 ∧ (k.2.1 = Str.ofString "(" → st.d ≤ 1)) ∧ RunOk2 (mStep st k) r
theorem runOk2_app : ∀ (A B : List TokD) (st : MS), RunOk2 st A → RunOk2 (mEnd st A) B → RunOk2 st (A ++ B)
  | [], B, st, _, h => h
  | k :: r, B, st, h, h' => ⟨h.1, runOk2_app r B _ h.2 h'⟩
theorem tk_cons (e : Int) (x : Str) (g : Int) (r : Items) : tk e ((x, g) :: r) = (kindv x, x, e + g, e + g + x.length) :: tk (e + g + x.length) r := rfl
theorem tk_nil (e : Int) : tk e [] = [] := rfl
theorem endp_cons (e : Int) (x : Str) (g : Int) (r : Items) : endp e ((x, g) :: r) = endp (e + g + x.length) r := rfl
theorem endp_nil (e : Int) : endp e [] = e := rfl
theorem mEnd_cons (st : MS) (k : TokD) (r : List TokD) : mEnd st (k :: r) = mEnd (mStep st k) r := rfl
theorem mEnd_nil (st : MS) : mEnd st [] = st := rfl
theorem mR2_cons (st : MS) (k : TokD) (r : List TokD) : mR2 st (k :: r) = cmO k r ++ (sO st k ++ mR2 (mStep st k) r) := rfl
theorem mR2_nil (st : MS) : mR2 st [] = [] := rfl
theorem run2_cons (st : MS) (k : TokD) (r : List TokD) : RunOk2 st (k :: r) = ((k.2.1 ∈ allW ∧ k.1 = kindv k.2.1 ∧ (k.2.1 = Str.ofString "(" → st.d ≤ 1)) ∧ RunOk2 (mStep st k) r) := rfl
theorem run2_nil (st : MS) : RunOk2 st [] = True := rfl
theorem tailZ_eq (z : Str) (a : Int) (par : Bool) : tailZ z a par = (z, a) :: parZ par := rfl
theorem tailU_no (z : Str) (a : Int) (par : Bool) : tailU none z a par = (z, a) :: parZ par := rfl
theorem tailU_so (w z : Str) (a : Int) (par : Bool) : tailU (some w) z a par = (w, a) :: tailZ z 0 par := rfl
theorem w_in : (∀ x ∈ moS, x ∈ allW) ∧ (∀ x ∈ unS, x ∈ allW) ∧ (∀ x ∈ allS, x ∈ allW) ∧ (∀ x ∈ endS, x ∈ allW) ∧ (∀ x ∈ iniS, x ∈ allW) :=
  ⟨fun x h => List.mem_append_right _ (List.mem_append_left _ (List.mem_append_right _ h)), fun x h => List.mem_append_right _ (List.mem_append_left _ (List.mem_append_left _ h)), fun x h => List.mem_append_left _ h,
    fun x h => List.mem_append_right _ (List.mem_append_right _ (List.mem_append_left _ h)), fun x h => List.mem_append_right _ (List.mem_append_right _ (List.mem_append_right _ h))⟩
theorem mo_ne : ∀ x ∈ moS, (x == Str.ofString "(") = false ∧ (x == Str.ofString ")") = false := by decide +kernel
theorem un_ne : ∀ x ∈ unS, (x == Str.ofString "(") = false ∧ (x == Str.ofString ")") = false := by decide +kernel
theorem ne_of_beq {x y : Str} (h : (x == y) = false) : x ≠ y := fun e => by rw [e] at h; simp at h
theorem p_facts : Str.ofString "(" ∈ iniS ∧ Str.ofString "c" ∈ iniS ∧ Str.ofString ")" ∈ endS ∧ (Str.ofString "c" == Str.ofString "(") = false ∧ (Str.ofString "c" == Str.ofString ")") = false ∧ (Str.ofString ")" == Str.ofString "(") = false ∧
    inertB (Str.ofString "(") = true ∧ inertB (Str.ofString "c") = true ∧ inertB (Str.ofString ")") = true := by decide +kernel
/-- one word that says nothing -/
theorem one_in {st : MS} {x : Str} {g e : Int} {r : List TokD} (hn : st.ns = .no) (h : inertB x = true) :
    mR2 st ((kindv x, x, e + g, e + g + x.length) :: r) = mR2 ⟨.no, kindv x, some (x, e + g + x.length), brNext (kindv x) x st.d⟩ r ∧ mStep st (kindv x, x, e + g, e + g + x.length) = ⟨.no, kindv x, some (x, e + g + x.length), brNext (kindv x) x st.d⟩ := by
  obtain ⟨s1, s2⟩ := step_in (st := st) (x := x) (g := g) (e := e) hn h
  refine ⟨?_, s2⟩
  rw [mR2_cons, cmO_no (inert_comma h), s1, s2, List.nil_append, List.nil_append]
theorem three_run {st : MS} {e : Int} {d : Nat} {x1 x2 x3 : Str} (hn : st.ns = .no) (hsd : st.d = d) (hd : d ≤ 1) (i1 : inertB x1 = true) (i2 : inertB x2 = true) (i3 : inertB x3 = true) (b1 : brNext (kindv x1) x1 d = d + 1) (b2 : brNext (kindv x2) x2 (d + 1) = d + 1) (b3 : brNext (kindv x3) x3 (d + 1) = d)
    (w1 : x1 ∈ allW) (w2 : x2 ∈ allW) (w3 : x3 ∈ allW) (n2 : x2 ≠ Str.ofString "(") (n3 : x3 ≠ Str.ofString "(") (he : x3 ∈ endS) :
    mR2 st (tk e [(x1, 0), (x2, 0), (x3, 0)]) = [] ∧ Okst (mEnd st (tk e [(x1, 0), (x2, 0), (x3, 0)])) (endp e [(x1, 0), (x2, 0), (x3, 0)]) d ∧ RunOk2 st (tk e [(x1, 0), (x2, 0), (x3, 0)]) := by
  have s1 := fun r => one_in (st := st) (x := x1) (g := 0) (e := e) (r := r) hn i1
  have s2 := fun r => one_in (st := ⟨.no, kindv x1, some (x1, e + 0 + x1.length), d + 1⟩) (x := x2) (g := 0) (e := e + 0 + x1.length) (r := r) rfl i2
  have s3 := fun r => one_in (st := ⟨.no, kindv x2, some (x2, e + 0 + x1.length + 0 + x2.length), d + 1⟩) (x := x3) (g := 0) (e := e + 0 + x1.length + 0 + x2.length) (r := r) rfl i3
  dsimp only at s1 s2 s3
  rw [hsd, b1] at s1
  rw [b2] at s2
  rw [b3] at s3
  simp only [tk_cons, tk_nil, endp_cons, endp_nil]
  refine ⟨?_, ⟨x3, he, ?_⟩, ?_⟩
  · rw [(s1 _).1, (s2 _).1, (s3 _).1, mR2_nil]
  · rw [mEnd_cons, mEnd_cons, mEnd_cons, mEnd_nil, (s1 []).2, (s2 []).2, (s3 []).2]
  · rw [run2_cons, (s1 []).2, run2_cons, (s2 []).2, run2_cons, run2_nil]
    exact ⟨⟨w1, rfl, fun _ => by rw [hsd]; exact hd⟩, ⟨w2, rfl, fun q => absurd q n2⟩, ⟨w3, rfl, fun q => absurd q n3⟩, trivial⟩
theorem par_run {st : MS} {e : Int} {d : Nat} (h : Okst st e d) (hd : d ≤ 1) (par : Bool) : mR2 st (tk e (parZ par)) = [] ∧ Okst (mEnd st (tk e (parZ par))) (endp e (parZ par)) d ∧ RunOk2 st (tk e (parZ par)) := by
  cases par with
  | false =>
    have hp : parZ false = [] := if_neg (by decide)
    rw [hp, tk_nil, mR2_nil, mEnd_nil, endp_nil, run2_nil]
    exact ⟨rfl, h, trivial⟩
  | true =>
    obtain ⟨q1, q2, q3, q4, q5, q6, q7, q8, q9⟩ := p_facts
    obtain ⟨_, k1, k2, _⟩ := f11
    have b1 : brNext (kindv (Str.ofString "(")) (Str.ofString "(") d = d + 1 := by unfold brNext; rw [if_pos ⟨k1, rfl⟩]
    have b3 : brNext (kindv (Str.ofString ")")) (Str.ofString ")") (d + 1) = d := by
      unfold brNext
      rw [if_neg (fun q => ne_of_beq q6 q.2), if_pos ⟨k2, rfl⟩, Nat.add_sub_cancel]
    have hn : st.ns = .no ∧ st.d = d := by
      obtain ⟨px, hp, e⟩ := h
      rw [e]
      exact ⟨rfl, rfl⟩
    have hp : parZ true = [(Str.ofString "(", 0), (Str.ofString "c", 0), (Str.ofString ")", 0)] := if_pos rfl
    rw [hp]
    exact three_run hn.1 hn.2 hd q7 q8 q9 b1 (br_no q4 q5) b3 (w_in.2.2.2.2 _ q1) (w_in.2.2.2.2 _ q2) (w_in.2.2.2.1 _ q3) (ne_of_beq q4) (ne_of_beq q6) q3
theorem tailZ_run {st : MS} {e a : Int} {d : Nat} {z : Str} (hz : z ∈ moS) (hn : st.ns = .no) (hsd : st.d = d) (hd : d ≤ 1) (par : Bool) :
    mR2 st (tk e (tailZ z a par)) = [] ∧ Okst (mEnd st (tk e (tailZ z a par))) (endp e (tailZ z a par)) d ∧ RunOk2 st (tk e (tailZ z a par)) := by
  have hi := f9 z (List.mem_append_left _ hz)
  have hne := mo_ne z hz
  have s1 := fun r => one_in (st := st) (x := z) (g := a) (e := e) (r := r) hn hi
  rw [hsd, br_no hne.1 hne.2] at s1
  obtain ⟨p1, p2, p3⟩ := par_run (st := ⟨.no, kindv z, some (z, e + a + z.length), d⟩) ⟨z, f10 z hz, rfl⟩ hd par
  rw [tailZ_eq, tk_cons, endp_cons, (s1 _).1, mEnd_cons, (s1 []).2, run2_cons, (s1 []).2]
  exact ⟨p1, p2, ⟨w_in.1 _ hz, rfl, fun q => absurd q (ne_of_beq hne.1)⟩, p3⟩
/-- the first operand: no sign ahead -/
theorem tailU_run {st : MS} {e a : Int} {d : Nat} {z : Str} {u : Option Str} (hz : z ∈ moS) (hu : ∀ w, u = some w → w ∈ unS ∧ ∀ px pe, st.pv = some (px, pe) → nsB st.pt px w d = 0) (hn : st.ns = .no) (hsd : st.d = d) (hd : d ≤ 1) (par : Bool) :
    mR2 st (tk e (tailU u z a par)) = [] ∧ Okst (mEnd st (tk e (tailU u z a par))) (endp e (tailU u z a par)) d ∧ RunOk2 st (tk e (tailU u z a par)) := by
  cases u with
  | none => exact tailZ_run hz hn hsd hd par
  | some w =>
    obtain ⟨hw, hns⟩ := hu w rfl
    have hne := un_ne w hw
    have h5 := f5 w (List.mem_append_left _ hw)
    have e1 : mStep st (kindv w, w, e + a, e + a + w.length) = ⟨.no, kindv w, some (w, e + a + w.length), d⟩ := by
      unfold mStep
      dsimp only
      rw [br_no hne.1 hne.2, hn, hsd, s4_no hns]
    have e2 : sO st (kindv w, w, e + a, e + a + w.length) = [] := by
      unfold sO
      dsimp only
      rw [br_no hne.1 hne.2, hn, hsd, s4_no hns]
    obtain ⟨p1, p2, p3⟩ := tailZ_run (st := ⟨.no, kindv w, some (w, e + a + w.length), d⟩) (e := e + a + w.length) (a := 0) hz rfl rfl hd par
    rw [tailU_so, tk_cons, endp_cons, mR2_cons, cmO_no (ne_of_beq h5.2.2.1), e2, e1, mEnd_cons, e1, run2_cons, e1, List.nil_append, List.nil_append]
    exact ⟨p1, p2, ⟨w_in.2.1 _ hw, rfl, fun q => absurd q (ne_of_beq hne.1)⟩, p3⟩
/-- a sign and its operand -/
theorem grp_run {px x z : Str} {e g a : Int} {d : Nat} {isc : Bool} {u : Option Str} (hp : px ∈ endS) (hx : x ∈ allS) (hz : z ∈ moS) (hu : ∀ w, u = some w → w ∈ unS) (hg : g = 0 ∨ g = 1) (ha : a = 0 ∨ a = 1) (hd : (isc = false ∧ d = 0) ∨ (isc = true ∧ d = 1)) (par : Bool) :
    mR2 ⟨.no, kindv px, some (px, e), d⟩ (tk e ((x, g) :: tailU u z a par)) = (dueOf x e (e + g) (e + g + x.length) (e + g + x.length + a) isc).toList ∧
    Okst (mEnd ⟨.no, kindv px, some (px, e), d⟩ (tk e ((x, g) :: tailU u z a par))) (endp e ((x, g) :: tailU u z a par)) d ∧ RunOk2 ⟨.no, kindv px, some (px, e), d⟩ (tk e ((x, g) :: tailU u z a par)) := by
  have hd1 : d ≤ 1 := by rcases hd with ⟨_, rfl⟩ | ⟨_, rfl⟩ <;> decide
  have hx6 := f6 x hx
  cases u with
  | none =>
    have hne := mo_ne z hz
    obtain ⟨c1, c2⟩ := sign_pair (y := z) (e := e) hx (List.mem_append_right _ hz) hp hg ha hd (tk (e + g + x.length + a + z.length) (parZ par))
    obtain ⟨p1, p2, p3⟩ := par_run (st := ⟨.no, kindv z, some (z, e + g + x.length + a + z.length), d⟩) ⟨z, f10 z hz, rfl⟩ hd1 par
    rw [tailU_no, tk_cons, tk_cons, endp_cons, endp_cons, mR2_cons, mR2_cons, mEnd_cons, mEnd_cons, run2_cons, run2_cons, c1, p1, cmO_no (k := (kindv z, z, _, _)) (ne_of_beq (f5 z (List.mem_append_right _ hz)).2.2.1), List.nil_append, List.append_nil]
    exact ⟨c2, p2, ⟨w_in.2.2.1 _ hx, rfl, fun q => absurd q (ne_of_beq hx6.2.1)⟩, ⟨w_in.1 _ hz, rfl, fun q => absurd q (ne_of_beq hne.1)⟩, p3⟩
  | some w =>
    have hw := hu w rfl
    have hne := un_ne w hw
    obtain ⟨c1, c2⟩ := sign_pair (y := w) (e := e) hx (List.mem_append_left _ hw) hp hg ha hd (tk (e + g + x.length + a + w.length) (tailZ z 0 par))
    obtain ⟨p1, p2, p3⟩ := tailZ_run (st := ⟨.no, kindv w, some (w, e + g + x.length + a + w.length), d⟩) (e := e + g + x.length + a + w.length) (a := 0) hz rfl rfl hd1 par
    rw [tailU_so, tk_cons, tk_cons, endp_cons, endp_cons, mR2_cons, mR2_cons, mEnd_cons, mEnd_cons, run2_cons, run2_cons, c1, p1, cmO_no (k := (kindv w, w, _, _)) (ne_of_beq (f5 w (List.mem_append_left _ hw)).2.2.1), List.nil_append, List.append_nil]
    exact ⟨c2, p2, ⟨w_in.2.2.1 _ hx, rfl, fun q => absurd q (ne_of_beq hx6.2.1)⟩, ⟨w_in.2.1 _ hw, rfl, fun q => absurd q (ne_of_beq hne.1)⟩, p3⟩
end Mine
end
section
open PySem PySem.W PySem.Spec PySem.Calls PyProof.Rows PyProof.V
set_option maxHeartbeats 4000000
namespace Mine
theorem getD_in {l : List Str} {i : Nat} (h : i < l.length) : l.getD i Str.empty ∈ l := by
  rw [List.getD_eq_getElem?_getD, List.getElem?_eq_getElem h]
  exact List.getElem_mem h
theorem fm_nat {a b : Int} (hb : 0 < b) {n : Nat} (hn : (n : Int) = b) : (a.fmod b).toNat < n := by
  have h1 := Int.fmod_nonneg_of_pos a hb
  have h2 := Int.fmod_lt_of_pos a hb
  omega
theorem sign_in (ns : List Int) (i : Nat) : signv ns i ∈ allS := getD_in (fm_nat (by decide) (by rfl))
noncomputable def uOf (ns : List Int) (i : Nat) : Option Str := if (numv ns i).fmod 3 = 1 then some (unS.getD (((numv ns i).fdiv 3).fmod 4).toNat Str.empty) else none
noncomputable def zOf (ns : List Int) (i : Nat) : Str := moS.getD (((numv ns i).fdiv 12).fmod 4).toNat Str.empty
noncomputable def pOf (ns : List Int) (i : Nat) : Bool := decide (((numv ns i).fdiv 144).fmod 4 = 1)
theorem u_in {ns : List Int} {i : Nat} : ∀ w, uOf ns i = some w → w ∈ unS := by
  intro w h
  unfold uOf at h
  split at h
  · rw [← Option.some.inj h]; exact getD_in (fm_nat (by decide) (by rfl))
  · cases h
theorem z_in (ns : List Int) (i : Nat) : zOf ns i ∈ moS := getD_in (fm_nat (by decide) (by rfl))
theorem sides_in (ns : List Int) (i : Nat) : ((sidesv ns i).fmod 2 = 0 ∨ (sidesv ns i).fmod 2 = 1) ∧ ((sidesv ns i).fdiv 2 = 0 ∨ (sidesv ns i).fdiv 2 = 1) := by
  have h : 0 ≤ sidesv ns i ∧ sidesv ns i < 4 := by
    unfold sidesv
    split
    · decide
    · exact ⟨Int.fmod_nonneg_of_pos _ (by decide), Int.fmod_lt_of_pos _ (by decide)⟩
  obtain ⟨h1, h2⟩ := h
  have : sidesv ns i = 0 ∨ sidesv ns i = 1 ∨ sidesv ns i = 2 ∨ sidesv ns i = 3 := by omega
  rcases this with e | e | e | e <;> rw [e] <;> decide
/-- a builder's state over a list of words with gaps -/
structure OfIt (b : BS) (it : Items) : Prop where
  ws : b.ws = it.map (·.1)
  gs : b.gs = it.map (·.2)
theorem OfIt.app {b b' : BS} {it more : Items} (h : OfIt b it) (h1 : b'.ws = b.ws ++ more.map (·.1)) (h2 : b'.gs = b.gs ++ more.map (·.2)) : OfIt b' (it ++ more) :=
  ⟨by rw [h1, h.ws, List.map_append], by rw [h2, h.gs, List.map_append]⟩
theorem tail_step (ns : List Int) (i : Nat) (b : BS) : (bPar ns i (bMore ns i (bUn ns i b))).ws = b.ws ++ (tailU (uOf ns i) (zOf ns i) b.ah (pOf ns i)).map (·.1) ∧
    (bPar ns i (bMore ns i (bUn ns i b))).gs = b.gs ++ (tailU (uOf ns i) (zOf ns i) b.ah (pOf ns i)).map (·.2) ∧ (bPar ns i (bMore ns i (bUn ns i b))).ss = b.ss := by
  unfold bPar bMore bUn uOf zOf pOf
  by_cases h1 : (numv ns i).fmod 3 = 1 <;> by_cases h2 : ((numv ns i).fdiv 144).fmod 4 = 1 <;>
    simp [h1, h2, tailU, tailZ, parZ]
/-- behind a comma an operand begins -/
noncomputable def CmR : Items → Prop
  | [] => True
  | (x, _) :: r => (x = Str.ofString "," → ∃ y g' B, r = (y, g') :: B ∧ y ∈ opnS) ∧ CmR r
theorem cmR_app : ∀ {A B : Items}, CmR A → CmR B → CmR (A ++ B)
  | [], _, _, h => h
  | (x, g) :: r, B, h, h' => ⟨fun e => by
      obtain ⟨y, g', B', e1, e2⟩ := h.1 e
      exact ⟨y, g', B' ++ B, by rw [e1]; rfl, e2⟩, cmR_app h.2 h'⟩
theorem cmR_no : ∀ {A : Items}, (∀ p ∈ A, p.1 ≠ Str.ofString ",") → CmR A
  | [], _ => trivial
  | (x, g) :: r, h => ⟨fun e => absurd e (h _ (.head _)), cmR_no fun p hp => h p (.tail _ hp)⟩
/-- what the builder has laid, and what the machine says of it -/
structure Inv (isc : Bool) (d : Nat) (n : Nat) (b : BS) (it : Items) : Prop where
  of : OfIt b it
  len : it.length ≤ n
  wd : ∀ p ∈ it, p.1 ∈ allW ∧ (p.2 = 0 ∨ p.2 = 1)
  ne : it ≠ []
  st : Okst (mEnd st0 (tk 0 it)) (endp 0 it) d
  out : mR2 st0 (tk 0 it) = (b.ss.map fun a => dueAt (tk 0 it) isc a.toNat).filterMap id
  run : RunOk2 st0 (tk 0 it)
  sp : ∀ a ∈ b.ss, ∃ n : Nat, a = n ∧ 1 ≤ n ∧ n + 1 < it.length
  cm : CmR it
theorem tail_wd {u : Option Str} {z : Str} {a : Int} {par : Bool} (hz : z ∈ moS) (hu : ∀ w, u = some w → w ∈ unS) (ha : a = 0 ∨ a = 1) : ∀ p ∈ tailU u z a par, p.1 ∈ allW ∧ (p.2 = 0 ∨ p.2 = 1) := by
  obtain ⟨q1, q2, q3, _⟩ := p_facts
  have hp : ∀ p ∈ parZ par, p.1 ∈ allW ∧ (p.2 = 0 ∨ p.2 = 1) := by
    intro p hp
    cases par with
    | false => cases hp
    | true =>
      simp only [parZ, if_true, List.mem_cons, List.not_mem_nil, or_false] at hp
      rcases hp with rfl | rfl | rfl
      · exact ⟨w_in.2.2.2.2 _ q1, .inl rfl⟩
      · exact ⟨w_in.2.2.2.2 _ q2, .inl rfl⟩
      · exact ⟨w_in.2.2.2.1 _ q3, .inl rfl⟩
  have hzz : ∀ a, (a = 0 ∨ a = 1) → ∀ p ∈ tailZ z a par, p.1 ∈ allW ∧ (p.2 = 0 ∨ p.2 = 1) := by
    intro a ha p hp'
    rcases List.mem_cons.mp hp' with rfl | hp'
    · exact ⟨w_in.1 _ hz, ha⟩
    · exact hp p hp'
  cases u with
  | none => exact hzz a ha
  | some w =>
    intro p hp'
    rcases List.mem_cons.mp hp' with rfl | hp'
    · exact ⟨w_in.2.1 _ (hu w rfl), ha⟩
    · exact hzz 0 (.inl rfl) p hp'
theorem tail_len (u : Option Str) (z : Str) (a : Int) (par : Bool) : (tailU u z a par).length ≤ 5 ∧ 1 ≤ (tailU u z a par).length := by
  cases u <;> cases par <;> simp [tailU, tailZ, parZ]
theorem okst_last {T : List TokD} {st : MS} {e : Int} {d : Nat} (h : Okst (mEnd st T) e d) : ∀ k, T.getLast? = some k → k.2.1 ≠ Str.ofString "," ∧ k.2.2.2 = e := by
  intro k hk
  obtain ⟨A, rfl⟩ : ∃ A, T = A ++ [k] := by
    obtain ⟨ys, e⟩ := List.getLast?_eq_some_iff.mp hk
    exact ⟨ys, e⟩
  obtain ⟨px, hp, e1⟩ := h
  rw [mEnd_app] at e1
  have e2 : (mEnd (mEnd st A) [k]).pv = some (k.2.1, k.2.2.2) := rfl
  rw [e1] at e2
  have e3 := Prod.mk.inj (Option.some.inj e2)
  refine ⟨?_, e3.2.symm⟩
  rw [← e3.1]
  exact inert_comma (f9 px (List.mem_append_right _ (List.mem_append_left _ hp)))
theorem getD_app {α : Type} {A B : List α} {d : α} {i : Nat} (h : i < A.length) : (A ++ B).getD i d = A.getD i d := by
  rw [List.getD_eq_getElem?_getD, List.getD_eq_getElem?_getD, List.getElem?_append_left h]
theorem dueAt_app {A B : List TokD} {isc : Bool} {n : Nat} (h : n + 1 < A.length) : dueAt (A ++ B) isc n = dueAt A isc n := by
  unfold dueAt
  rw [getD_app (by omega), getD_app (by omega), getD_app (by omega)]
theorem dueAt_new {A r : List TokD} {k k' : TokD} {isc : Bool} {e : Int} (hA : A ≠ []) (he : ∀ q, A.getLast? = some q → q.2.2.2 = e) : dueAt (A ++ k :: k' :: r) isc A.length = dueOf k.2.1 e k.2.2.1 k.2.2.2 k'.2.2.1 isc := by
  have hl : 0 < A.length := List.length_pos_iff.mpr hA
  have e1 : (A ++ k :: k' :: r).getD A.length default = k := by
    rw [List.getD_eq_getElem?_getD, List.getElem?_append_right (Nat.le_refl _), Nat.sub_self]; rfl
  have e2 : (A ++ k :: k' :: r).getD (A.length + 1) default = k' := by
    rw [List.getD_eq_getElem?_getD, List.getElem?_append_right (by omega), Nat.add_sub_cancel_left]; rfl
  have e3 : ((A ++ k :: k' :: r).getD (A.length - 1) default).2.2.2 = e := by
    rw [getD_app (by omega), List.getD_eq_getElem?_getD]
    have := List.getLast?_eq_getElem? (l := A)
    rw [← this]
    cases hq : A.getLast? with
    | none => rw [List.getLast?_eq_none_iff] at hq; exact absurd hq hA
    | some q => exact he q hq
  unfold dueAt
  rw [e1, e2, e3]
theorem no_comma : ∀ x ∈ opnS ++ (endS ++ iniS), (x == Str.ofString ",") = false := by decide +kernel
theorem tail_cm {u : Option Str} {z : Str} {a : Int} {par : Bool} (hz : z ∈ moS) (hu : ∀ w, u = some w → w ∈ unS) : ∀ p ∈ tailU u z a par, p.1 ≠ Str.ofString "," := by
  obtain ⟨q1, q2, q3, _⟩ := p_facts
  have nc := fun x h => ne_of_beq (no_comma x h)
  have hp : ∀ p ∈ parZ par, p.1 ≠ Str.ofString "," := by
    intro p hp
    cases par with
    | false => cases hp
    | true =>
      simp only [parZ, if_true, List.mem_cons, List.not_mem_nil, or_false] at hp
      rcases hp with rfl | rfl | rfl
      · exact nc _ (List.mem_append_right _ (List.mem_append_right _ q1))
      · exact nc _ (List.mem_append_right _ (List.mem_append_right _ q2))
      · exact nc _ (List.mem_append_right _ (List.mem_append_left _ q3))
  have hzz : ∀ a, ∀ p ∈ tailZ z a par, p.1 ≠ Str.ofString "," := by
    intro a p hp'
    rcases List.mem_cons.mp hp' with rfl | hp'
    · exact nc _ (List.mem_append_left _ (List.mem_append_right _ hz))
    · exact hp p hp'
  cases u with
  | none => exact hzz a
  | some w =>
    intro p hp'
    rcases List.mem_cons.mp hp' with rfl | hp'
    · exact nc _ (List.mem_append_left _ (List.mem_append_left _ (hu w rfl)))
    · exact hzz 0 p hp'
theorem tail_head' {u : Option Str} {z : Str} {a : Int} {par : Bool} (hz : z ∈ moS) (hu : ∀ w, u = some w → w ∈ unS) : ∃ y g' B, tailU u z a par = (y, g') :: B ∧ y ∈ opnS := by
  cases u with
  | none => exact ⟨z, a, parZ par, rfl, List.mem_append_right _ hz⟩
  | some w => exact ⟨w, a, tailZ z 0 par, rfl, List.mem_append_left _ (hu w rfl)⟩
theorem tail_head (u : Option Str) (z : Str) (a : Int) (par : Bool) : ∃ y r, tailU u z a par = (y, a) :: r := by
  cases u with
  | none => exact ⟨z, parZ par, rfl⟩
  | some w => exact ⟨w, tailZ z 0 par, rfl⟩
/-- one more sign and operand -/
theorem inv_step {ns : List Int} {i n d : Nat} {b : BS} {it : Items} {isc : Bool} (hi : 0 < i) (hd : (isc = false ∧ d = 0) ∨ (isc = true ∧ d = 1)) (h : Inv isc d n b it) : ∃ it', Inv isc d (n + 6) (bStep ns i b) it' := by
  have hs := sides_in ns i
  obtain ⟨px, hp, hst⟩ := h.st
  have hb : bSign ns i b = ⟨b.ws ++ [signv ns i], b.gs ++ [(sidesv ns i).fmod 2], b.ss ++ [(b.ws.length : Int)], (sidesv ns i).fdiv 2⟩ := by
    unfold bSign
    rw [if_pos (by omega)]
  obtain ⟨t1, t2, t3⟩ := tail_step ns i (bSign ns i b)
  have hG := grp_run (px := px) (x := signv ns i) (z := zOf ns i) (u := uOf ns i) (e := endp 0 it) (g := (sidesv ns i).fmod 2) (a := (sidesv ns i).fdiv 2) hp (sign_in ns i) (z_in ns i) u_in hs.1 hs.2 hd (pOf ns i)
  have hwl : b.ws.length = it.length := by rw [h.of.ws, List.length_map]
  have hlast := okst_last ⟨px, hp, hst⟩
  have hne : tk 0 it ≠ [] := fun e => h.ne (by have := congrArg List.length e; rw [tk_len] at this; exact List.length_eq_zero_iff.mp this)
  obtain ⟨y, r, hy⟩ := tail_head (uOf ns i) (zOf ns i) ((sidesv ns i).fdiv 2) (pOf ns i)
  have hT := tail_len (uOf ns i) (zOf ns i) ((sidesv ns i).fdiv 2) (pOf ns i)
  have hah : (bSign ns i b).ah = (sidesv ns i).fdiv 2 := by rw [hb]
  have hws : (bSign ns i b).ws = b.ws ++ [signv ns i] := by rw [hb]
  have hgs : (bSign ns i b).gs = b.gs ++ [(sidesv ns i).fmod 2] := by rw [hb]
  have hss : (bSign ns i b).ss = b.ss ++ [(b.ws.length : Int)] := by rw [hb]
  rw [hah] at t1 t2
  refine ⟨it ++ ((signv ns i, (sidesv ns i).fmod 2) :: tailU (uOf ns i) (zOf ns i) ((sidesv ns i).fdiv 2) (pOf ns i)), ?_, ?_, ?_, ?_, ?_, ?_, ?_, ?_, cmR_app h.cm ⟨fun _ => tail_head' (z_in ns i) u_in, cmR_no (tail_cm (z_in ns i) u_in)⟩⟩
  · refine h.of.app ?_ ?_
    · show (bPar ns i (bMore ns i (bUn ns i (bSign ns i b)))).ws = _
      rw [t1, hws]; simp
    · show (bPar ns i (bMore ns i (bUn ns i (bSign ns i b)))).gs = _
      rw [t2, hgs]; simp
  · have := h.len
    rw [List.length_append, List.length_cons]; omega
  · intro p hp'
    rcases List.mem_append.mp hp' with hp' | hp'
    · exact h.wd p hp'
    rcases List.mem_cons.mp hp' with rfl | hp'
    · exact ⟨w_in.2.2.1 _ (sign_in ns i), hs.1⟩
    · exact tail_wd (z_in ns i) u_in hs.2 p hp'
  · simp
  · rw [tk_app, mEnd_app, endp_app, hst]; exact hG.2.1
  · have hnew : ∀ T, dueAt (tk 0 it ++ tk (endp 0 it) ((signv ns i, (sidesv ns i).fmod 2) :: (y, (sidesv ns i).fdiv 2) :: T)) isc it.length = dueOf (signv ns i) (endp 0 it) (endp 0 it + (sidesv ns i).fmod 2) (endp 0 it + (sidesv ns i).fmod 2 + (signv ns i).length) (endp 0 it + (sidesv ns i).fmod 2 + (signv ns i).length + (sidesv ns i).fdiv 2) isc := by
      intro T
      have := dueAt_new (A := tk 0 it) (r := tk (endp 0 it + (sidesv ns i).fmod 2 + (signv ns i).length + (sidesv ns i).fdiv 2 + y.length) T) (k := (kindv (signv ns i), signv ns i, endp 0 it + (sidesv ns i).fmod 2, endp 0 it + (sidesv ns i).fmod 2 + (signv ns i).length)) (k' := (kindv y, y, endp 0 it + (sidesv ns i).fmod 2 + (signv ns i).length + (sidesv ns i).fdiv 2, endp 0 it + (sidesv ns i).fmod 2 + (signv ns i).length + (sidesv ns i).fdiv 2 + y.length)) (isc := isc) hne (fun q hq => (hlast q hq).2)
      rw [tk_len] at this
      exact this
    rw [tk_app, mR2_app _ _ _ (fun k hk => (hlast k hk).1), hst, hG.1, h.out]
    show _ = ((bPar ns i (bMore ns i (bUn ns i (bSign ns i b)))).ss.map _).filterMap id
    rw [t3, hss, List.map_append, List.filterMap_append]
    congr 1
    · congr 1
      refine List.map_congr_left fun a ha => ?_
      obtain ⟨m, rfl, _, hm⟩ := h.sp a ha
      rw [Int.toNat_natCast, dueAt_app (by rw [tk_len]; exact hm)]
    · rw [List.map_singleton, Int.toNat_natCast, hwl, hy, hnew r]
      cases dueOf (signv ns i) (endp 0 it) (endp 0 it + (sidesv ns i).fmod 2) (endp 0 it + (sidesv ns i).fmod 2 + (signv ns i).length) (endp 0 it + (sidesv ns i).fmod 2 + (signv ns i).length + (sidesv ns i).fdiv 2) isc <;> rfl
  · rw [tk_app]
    refine runOk2_app _ _ _ h.run ?_
    rw [hst]; exact hG.2.2
  · show ∀ a ∈ (bPar ns i (bMore ns i (bUn ns i (bSign ns i b)))).ss, _
    rw [t3, hss]
    intro a ha
    rw [List.length_append, List.length_cons]
    rcases List.mem_append.mp ha with ha | ha
    · obtain ⟨m, e1, e2, e3⟩ := h.sp a ha
      exact ⟨m, e1, e2, by omega⟩
    · rw [List.mem_singleton.mp ha]
      have : 0 < it.length := List.length_pos_iff.mpr h.ne
      exact ⟨b.ws.length, rfl, by omega, by omega⟩
end Mine
end
section
open PySem PySem.W PySem.Spec PySem.Calls PyProof.Rows PyProof.V
set_option maxHeartbeats 4000000
namespace Mine
/-- the first operand, behind what stands ahead of all -/
theorem inv_first {ns : List Int} {d : Nat} {b : BS} {pre : Items} {isc : Bool} (hd : d ≤ 1) (of : OfIt b pre) (hss : b.ss = []) (hah : b.ah = 0 ∨ b.ah = 1) (hl : pre.length ≤ 2) (hw : ∀ p ∈ pre, p.1 ∈ allW ∧ (p.2 = 0 ∨ p.2 = 1)) (hc : ∀ p ∈ pre, p.1 ≠ Str.ofString ",")
    (hn : (mEnd st0 (tk 0 pre)).ns = .no) (hsd : (mEnd st0 (tk 0 pre)).d = d) (hu : ∀ w ∈ unS, ∀ px pe, (mEnd st0 (tk 0 pre)).pv = some (px, pe) → nsB (mEnd st0 (tk 0 pre)).pt px w d = 0)
    (ho : mR2 st0 (tk 0 pre) = []) (hlast : ∀ k, (tk 0 pre).getLast? = some k → k.2.1 ≠ Str.ofString ",") (hr : RunOk2 st0 (tk 0 pre)) : ∃ it, Inv isc d 8 (bStep ns 0 b) it := by
  have hb : bSign ns 0 b = b := by unfold bSign; rw [if_neg (by decide)]
  obtain ⟨t1, t2, t3⟩ := tail_step ns 0 b
  have hG := tailU_run (st := mEnd st0 (tk 0 pre)) (e := endp 0 pre) (a := b.ah) (u := uOf ns 0) (z_in ns 0) (fun w e => ⟨u_in w e, hu w (u_in w e)⟩) hn hsd hd (pOf ns 0)
  have hT := tail_len (uOf ns 0) (zOf ns 0) b.ah (pOf ns 0)
  have hstep : bStep ns 0 b = bPar ns 0 (bMore ns 0 (bUn ns 0 b)) := by unfold bStep; rw [hb]
  rw [hstep]
  refine ⟨pre ++ tailU (uOf ns 0) (zOf ns 0) b.ah (pOf ns 0), of.app t1 t2, ?_, ?_, ?_, ?_, ?_, ?_, ?_, cmR_app (cmR_no hc) (cmR_no (tail_cm (z_in ns 0) u_in))⟩
  · rw [List.length_append]; omega
  · intro p hp
    rcases List.mem_append.mp hp with hp | hp
    · exact hw p hp
    · exact tail_wd (z_in ns 0) u_in hah p hp
  · intro e
    have := congrArg List.length e
    rw [List.length_append, List.length_nil] at this
    omega
  · rw [tk_app, mEnd_app, endp_app]; exact hG.2.1
  · rw [tk_app, mR2_app _ _ _ hlast, ho, hG.1, t3, hss]; rfl
  · rw [tk_app]; exact runOk2_app _ _ _ hr hG.2.2
  · rw [t3, hss]; intro a ha; cases ha
noncomputable def dOf (ns : List Int) : Nat := if (cellv ns 1).fmod 2 = 1 then 1 else 0
theorem d_ok (ns : List Int) : (builtIs ns = false ∧ dOf ns = 0) ∨ (builtIs ns = true ∧ dOf ns = 1) := by
  unfold builtIs dOf
  by_cases h : (cellv ns 1).fmod 2 = 1
  · right; simp [h]
  · left; simp [h]
theorem pre_call : (mEnd st0 (tk 0 [(Str.ofString "f", 0), (Str.ofString "(", 0)])) = ⟨.no, 54, some (Str.ofString "(", 2), 1⟩ ∧ mR2 st0 (tk 0 [(Str.ofString "f", 0), (Str.ofString "(", 0)]) = [] := by
  have i1 : inertB (Str.ofString "f") = true := by decide +kernel
  have i2 : inertB (Str.ofString "(") = true := by decide +kernel
  have k2 : kindv (Str.ofString "(") = 54 := by decide +kernel
  have n1 : (Str.ofString "f" == Str.ofString "(") = false ∧ (Str.ofString "f" == Str.ofString ")") = false := by decide +kernel
  have l1 : (Str.ofString "f").length = 1 ∧ (Str.ofString "(").length = 1 := by decide +kernel
  have s1 := fun r => one_in (st := st0) (x := Str.ofString "f") (g := 0) (e := 0) (r := r) rfl i1
  have s2 := fun r => one_in (st := ⟨.no, kindv (Str.ofString "f"), some (Str.ofString "f", 0 + 0 + (Str.ofString "f").length), 0⟩) (x := Str.ofString "(") (g := 0) (e := 0 + 0 + (Str.ofString "f").length) (r := r) rfl i2
  rw [br_no n1.1 n1.2] at s1
  have b1 : brNext (kindv (Str.ofString "(")) (Str.ofString "(") 0 = 1 := by unfold brNext; rw [if_pos ⟨k2, rfl⟩]
  dsimp only at s2
  rw [b1] at s2
  constructor
  · show mStep (mStep st0 _) _ = _
    rw [(s1 []).2]
    refine (s2 []).2.trans ?_
    rw [k2, l1.1, l1.2]; rfl
  · show mR2 st0 [_, _] = []
    rw [(s1 _).1]
    exact (s2 []).1
theorem pre_ret : (mEnd st0 (tk 0 [(Str.ofString "return", 0)])) = ⟨.no, 1, some (Str.ofString "return", 6), 0⟩ ∧ mR2 st0 (tk 0 [(Str.ofString "return", 0)]) = [] := by
  have i1 : inertB (Str.ofString "return") = true := by decide +kernel
  have k2 : kindv (Str.ofString "return") = 1 := by decide +kernel
  have n1 : (Str.ofString "return" == Str.ofString "(") = false ∧ (Str.ofString "return" == Str.ofString ")") = false := by decide +kernel
  have l1 : (Str.ofString "return").length = 6 := by decide +kernel
  have s1 := fun r => one_in (st := st0) (x := Str.ofString "return") (g := 0) (e := 0) (r := r) rfl i1
  rw [br_no n1.1 n1.2] at s1
  constructor
  · refine (s1 []).2.trans ?_
    rw [k2, l1]; rfl
  · exact (s1 []).1
theorem ini_in : Str.ofString "f" ∈ iniS ∧ Str.ofString "(" ∈ iniS ∧ Str.ofString "return" ∈ iniS ∧ (Str.ofString "f" == Str.ofString ",") = false ∧ (Str.ofString "(" == Str.ofString ",") = false ∧ (Str.ofString "return" == Str.ofString ",") = false ∧ (Str.ofString "return" == Str.ofString "(") = false ∧ (Str.ofString "f" == Str.ofString "(") = false := by decide +kernel
theorem inv_one (ns : List Int) : ∃ it, Inv (builtIs ns) (dOf ns) 8 (bStep ns 0 (b00 ns)) it := by
  obtain ⟨a1, a2, a3, a4, a5, a6, a7, a8⟩ := ini_in
  unfold b00
  by_cases h1 : (cellv ns 1).fmod 2 = 1
  · rw [if_pos h1]
    have ed : dOf ns = 1 := if_pos h1
    rw [ed]
    obtain ⟨p1, p2⟩ := pre_call
    refine inv_first (pre := [(Str.ofString "f", 0), (Str.ofString "(", 0)]) (by decide) ⟨rfl, rfl⟩ rfl (.inl rfl) (by decide) ?_ ?_ (by rw [p1]) (by rw [p1]) ?_ p2 ?_ ?_
    · intro p hp
      simp only [List.mem_cons, List.not_mem_nil, or_false] at hp
      rcases hp with rfl | rfl
      · exact ⟨w_in.2.2.2.2 _ a1, .inl rfl⟩
      · exact ⟨w_in.2.2.2.2 _ a2, .inl rfl⟩
    · intro p hp
      simp only [List.mem_cons, List.not_mem_nil, or_false] at hp
      rcases hp with rfl | rfl
      · exact ne_of_beq a4
      · exact ne_of_beq a5
    · intro w hw px pe he
      rw [p1] at he ⊢
      obtain ⟨rfl, rfl⟩ := Prod.mk.inj (Option.some.inj he)
      exact (f2 w hw).1
    · intro k hk
      have : k = _ := (Option.some.inj hk).symm
      rw [this]; exact ne_of_beq a5
    · refine ⟨⟨w_in.2.2.2.2 _ a1, rfl, fun q => absurd q (ne_of_beq a8)⟩, ⟨w_in.2.2.2.2 _ a2, rfl, fun _ => ?_⟩, trivial⟩
      have i1 : inertB (Str.ofString "f") = true := by decide +kernel
      have n1 : (Str.ofString "f" == Str.ofString ")") = false := by decide +kernel
      have s1 := one_in (st := st0) (x := Str.ofString "f") (g := 0) (e := 0) (r := []) rfl i1
      rw [br_no a8 n1] at s1
      rw [s1.2]; exact Nat.zero_le _
  · rw [if_neg h1]
    have ed : dOf ns = 0 := if_neg h1
    rw [ed]
    by_cases h2 : ((cellv ns 2).fdiv 48).fmod 3 = 1
    · rw [if_pos h2]
      obtain ⟨p1, p2⟩ := pre_ret
      refine inv_first (pre := [(Str.ofString "return", 0)]) (by decide) ⟨rfl, rfl⟩ rfl (.inr rfl) (by decide) ?_ ?_ (by rw [p1]) (by rw [p1]) ?_ p2 ?_ ?_
      · intro p hp
        simp only [List.mem_cons, List.not_mem_nil, or_false] at hp
        rcases hp with rfl
        exact ⟨w_in.2.2.2.2 _ a3, .inl rfl⟩
      · intro p hp
        simp only [List.mem_cons, List.not_mem_nil, or_false] at hp
        rcases hp with rfl
        exact ne_of_beq a6
      · intro w hw px pe he
        rw [p1] at he ⊢
        obtain ⟨rfl, rfl⟩ := Prod.mk.inj (Option.some.inj he)
        exact (f2 w hw).2
      · intro k hk
        have : k = _ := (Option.some.inj hk).symm
        rw [this]; exact ne_of_beq a6
      · exact ⟨⟨w_in.2.2.2.2 _ a3, rfl, fun q => absurd q (ne_of_beq a7)⟩, trivial⟩
    · rw [if_neg h2]
      refine inv_first (pre := []) (by decide) ⟨rfl, rfl⟩ rfl (.inl rfl) (by decide) (fun p hp => by cases hp) (fun p hp => by cases hp) rfl rfl (fun w hw px pe he => by cases he) rfl (fun k hk => by cases hk) trivial
theorem inv_iter (ns : List Int) : ∀ m, ∃ it, Inv (builtIs ns) (dOf ns) (8 + 6 * m) (bIter ns (b00 ns) (m + 1)) it
  | 0 => inv_one ns
  | m + 1 => by
    obtain ⟨it, h⟩ := inv_iter ns m
    obtain ⟨it', h'⟩ := inv_step (i := m + 1) (Nat.succ_pos m) (d_ok ns) h
    exact ⟨it', (show 8 + 6 * (m + 1) = 8 + 6 * m + 6 by omega) ▸ h'⟩
/-- the whole -/
structure Fin2 (isc : Bool) (b : BS) (it : Items) : Prop where
  of : OfIt b it
  len : it.length ≤ 40
  wd : ∀ p ∈ it, p.1 ∈ allW ∧ (p.2 = 0 ∨ p.2 = 1)
  out : mR2 st0 (tk 0 it) = (b.ss.map fun a => dueAt (tk 0 it) isc a.toNat).filterMap id
  run : RunOk2 st0 (tk 0 it)
  sp : ∀ a ∈ b.ss, ∃ n : Nat, a = n ∧ 1 ≤ n ∧ n + 1 < it.length
  cm : CmR it
theorem fin_all (ns : List Int) : ∃ it, Fin2 (builtIs ns) (builtB ns) it := by
  have hm : ∃ m, (1 + (cellv ns 0).fmod 6).toNat = m + 1 ∧ m ≤ 5 := by
    have h1 := Int.fmod_nonneg_of_pos (cellv ns 0) (show (0 : Int) < 6 by decide)
    have h2 := Int.fmod_lt_of_pos (cellv ns 0) (show (0 : Int) < 6 by decide)
    exact ⟨((cellv ns 0).fmod 6).toNat, by omega, by omega⟩
  obtain ⟨m, e, hm⟩ := hm
  obtain ⟨it, h⟩ := inv_iter ns m
  have hlen := h.len
  unfold builtB bFin
  rw [e]
  by_cases h1 : (cellv ns 1).fmod 2 = 1
  · rw [if_pos h1]
    obtain ⟨px, hp, hst⟩ := h.st
    have i2 : inertB (Str.ofString ")") = true := by decide +kernel
    have n2 : (Str.ofString ")" == Str.ofString "(") = false ∧ (Str.ofString ")" == Str.ofString ",") = false := by decide +kernel
    have q3 := p_facts.2.2.1
    have s1 := one_in (st := ⟨.no, kindv px, some (px, endp 0 it), dOf ns⟩) (x := Str.ofString ")") (g := 0) (e := endp 0 it) (r := []) rfl i2
    have hlast := okst_last ⟨px, hp, hst⟩
    refine ⟨it ++ [(Str.ofString ")", 0)], h.of.app rfl rfl, ?_, ?_, ?_, ?_, ?_, cmR_app h.cm (cmR_no fun p hp => ?_)⟩
    · rw [List.length_append, List.length_singleton]; omega
    · intro p hp
      rcases List.mem_append.mp hp with hp | hp
      · exact h.wd p hp
      · rw [List.mem_singleton.mp hp]
        exact ⟨w_in.2.2.2.1 _ q3, .inl rfl⟩
    · rw [tk_app, mR2_app _ _ _ (fun k hk => (hlast k hk).1), hst, h.out]
      show _ ++ mR2 _ [_] = _
      rw [s1.1]
      show _ ++ [] = _
      rw [List.append_nil]
      congr 1
      refine List.map_congr_left fun a ha => ?_
      obtain ⟨k, rfl, _, hk⟩ := h.sp a ha
      rw [Int.toNat_natCast, dueAt_app (by rw [tk_len]; exact hk)]
    · rw [tk_app]
      refine runOk2_app _ _ _ h.run ?_
      exact ⟨⟨w_in.2.2.2.1 _ q3, rfl, fun q => absurd q (ne_of_beq n2.1)⟩, trivial⟩
    · intro a ha
      obtain ⟨k, e1, e2, e3⟩ := h.sp a ha
      exact ⟨k, e1, e2, by rw [List.length_append]; omega⟩
    · rw [List.mem_singleton.mp hp]; exact ne_of_beq n2.2
  · rw [if_neg h1]
    exact ⟨it, h.of, by omega, h.wd, h.out, h.run, h.sp, h.cm⟩
end Mine
end
section
open PySem PySem.W PySem.Spec PySem.Calls PyProof.Rows PyProof.V
set_option maxHeartbeats 4000000
namespace Mine
theorem s_assoc (a b c : Str) : a ++ b ++ c = a ++ (b ++ c) := by
  cases a; cases b; cases c
  exact congrArg Str.mk Array.append_assoc
theorem s_nil (a : Str) : a ++ Str.ofString "" = a := by
  have e : Str.ofString "" = ⟨#[]⟩ := by decide +kernel
  rw [e]
  cases a
  exact congrArg Str.mk Array.append_empty
theorem nil_s (a : Str) : Str.ofString "" ++ a = a := by
  have e : Str.ofString "" = ⟨#[]⟩ := by decide +kernel
  rw [e]
  cases a
  exact congrArg Str.mk Array.empty_append
noncomputable abbrev gapS (g : Int) : Str := Txt.mul (Str.ofString " ") g
noncomputable def lnS : Items → Str
  | [] => Str.ofString ""
  | (x, g) :: r => gapS g ++ x ++ lnS r
theorem lnS_app : ∀ (A B : Items), lnS (A ++ B) = lnS A ++ lnS B
  | [], B => (nil_s _).symm
  | (x, g) :: r, B => by
    show gapS g ++ x ++ lnS (r ++ B) = gapS g ++ x ++ lnS r ++ lnS B
    rw [lnS_app r B, s_assoc (gapS g ++ x)]
theorem gap_len {g : Int} (h : g = 0 ∨ g = 1) : ((gapS g).length : Int) = g := by
  have h1 := gap1_len (Str.ofString "") (g := g) (by rcases h with rfl | rfl <;> decide)
  unfold gap1 at h1
  rw [nil_s] at h1
  have e : (Str.ofString "").length = 0 := by decide +kernel
  rw [e] at h1
  simpa using h1
theorem lnS_len : ∀ (A : Items) (e : Int), (∀ p ∈ A, p.2 = 0 ∨ p.2 = 1) → endp e A = e + ((lnS A).length : Int)
  | [], e, _ => by
    have h : (Str.ofString "").length = 0 := by decide +kernel
    show e = e + ((Str.ofString "").length : Int)
    rw [h]; simp
  | (x, g) :: r, e, h => by
    have ih := lnS_len r (e + g + x.length) fun p hp => h p (.tail _ hp)
    have hg := gap_len (h _ (.head _))
    show endp (e + g + x.length) r = e + ((gapS g ++ x ++ lnS r).length : Int)
    rw [ih, Str.length_append, Str.length_append]
    have hg : ((gapS g).length : Int) = g := hg
    omega
theorem item_zero {r : Str} (h : 0 < r.length) : Txt.item r 0 = ⟨#[r.cps[0]'h]⟩ := by
  unfold Txt.item Txt.charAt
  have e : seqIndex? 0 r.length = some 0 := by
    unfold seqIndex?
    simp
    omega
  rw [e]
  show Str.mk #[(r.cps[0]?).getD 0] = _
  rw [Array.getElem?_eq_getElem h]; rfl
theorem slice_at {p r : Str} (hr : 0 < r.length) : Txt.slice (p ++ r) (some (p.length : Int)) (some ((p.length : Int) + 1)) = Txt.item r 0 := by
  have hl : (p ++ r).length = p.length + r.length := Str.length_append ..
  have hi : Builtin.Str.strSliceIndices (some (p.length : Int)) (some ((p.length : Int) + 1)) 1 (p ++ r).length = [p.length] := by
    have h9 := PySem.StrLaws.strSliceIndices_plain (a := p.length) (b := p.length + 1) (len := (p ++ r).length) (by omega) (by omega)
    rw [Int.natCast_add, Nat.add_sub_cancel_left] at h9
    exact h9
  have hg : (p ++ r).cps[p.length]? = some (r.cps[0]'hr) := by
    cases p with | mk p => cases r with | mk r =>
    show (p ++ r)[p.size]? = _
    rw [Array.getElem?_append_right (Nat.le_refl _), Nat.sub_self]
    exact Array.getElem?_eq_getElem hr
  rw [item_zero hr]
  unfold Txt.slice
  rw [hi]
  split
  · rename_i hc
    have hz : p.length = 0 ∧ r.length = 1 := by
      simp at hc
      omega
    have hp : p = Str.ofString "" := by
      have e : Str.ofString "" = ⟨#[]⟩ := by decide +kernel
      rw [e]
      cases p with | mk p => exact congrArg Str.mk (Array.eq_empty_of_size_eq_zero hz.1)
    rw [hp, nil_s]
    cases r with | mk r =>
    refine congrArg Str.mk ?_
    apply Array.ext
    · exact hz.2
    · intro i h1 h2
      have : i = 0 := by simp at h2; omega
      subst this; rfl
  · simp [hg]
theorem first_app {a b : Str} (h : 0 < a.length) : Txt.item (a ++ b) 0 = Txt.item a 0 := by
  have hl : 0 < (a ++ b).length := by rw [Str.length_append]; omega
  rw [item_zero h, item_zero hl]
  cases a with | mk a => cases b with | mk b =>
  have : (a ++ b)[0]? = a[0]? := Array.getElem?_append_left h
  rw [Array.getElem?_eq_getElem (show 0 < (a ++ b).size from hl), Array.getElem?_eq_getElem h] at this
  exact congrArg (fun z => Str.mk #[z]) (Option.some.inj this)
theorem gap_cases : gapS 0 = Str.ofString "" ∧ gapS 1 = Str.ofString " " := by decide +kernel
theorem sp_item : Txt.item (Str.ofString " ") 0 = Str.ofString " " ∧ 0 < (Str.ofString " ").length := by decide +kernel
theorem comma_line {p B y : Str} {g' s1 : Int} (hy : y ∈ opnS) (hg : g' = 0 ∨ g' = 1) : s3C (p ++ (gapS g' ++ y ++ B)) p.length s1 = if (p.length : Int) + g' = p.length then [(s1, m231)] else [] := by
  have hyl : 0 < y.length := (xok (List.mem_append_right _ (List.mem_append_left _ hy))).n8
  have hl : 0 < (gapS g' ++ y ++ B).length := by rw [Str.length_append, Str.length_append]; omega
  unfold s3C nextC
  rw [slice_at hl]
  rcases hg with rfl | rfl
  · rw [gap_cases.1, nil_s, first_app hyl, (f12 y hy).1, (f12 y hy).2]
    simp
  · rw [gap_cases.2, s_assoc, first_app sp_item.2, sp_item.1, f13]
    simp
    omega
theorem run_eq : ∀ (it : Items) (pre line : Str) (st : MS), line = pre ++ (lnS it ++ Str.ofString "\n") → line.length ≤ 1000 → CmR it → (∀ p ∈ it, p.2 = 0 ∨ p.2 = 1) → RunOk2 st (tk pre.length it) →
    mRun line st (tk pre.length it) = mR2 st (tk pre.length it) ∧ RunOk line st (tk pre.length it)
  | [], pre, line, st, _, _, _, _, _ => ⟨rfl, trivial⟩
  | (x, g) :: r, pre, line, st, hl, h1000, hc, hg, hr => by
    have hgx := gap_len (hg _ (.head _))
    have hgx : ((gapS g).length : Int) = g := hgx
    have epos : (pre.length : Int) + g + x.length = ((pre ++ (gapS g ++ x)).length : Nat) := by
      rw [Str.length_append, Str.length_append]; omega
    have hl2 : line = (pre ++ (gapS g ++ x)) ++ (lnS r ++ Str.ofString "\n") := by
      rw [hl]
      show pre ++ (gapS g ++ x ++ lnS r ++ Str.ofString "\n") = _
      simp only [s_assoc]
    have hlen : ((pre ++ (gapS g ++ x)).length : Nat) < line.length := by
      rw [hl2, Str.length_append (pre ++ (gapS g ++ x)), Str.length_append (lnS r)]
      have : (Str.ofString "\n").length = 1 := by decide +kernel
      omega
    have hr2 : RunOk2 (mStep st (kindv x, x, pre.length + g, pre.length + g + x.length)) (tk ((pre ++ (gapS g ++ x)).length : Nat) r) := by rw [← epos]; exact hr.2
    obtain ⟨i1, i2⟩ := run_eq r (pre ++ (gapS g ++ x)) line (mStep st (kindv x, x, pre.length + g, pre.length + g + x.length)) hl2 h1000 hc.2 (fun p hp => hg p (.tail _ hp)) hr2
    rw [← epos] at i1 i2
    have hcm : oC line x (pre.length + g + x.length) (pre.length + g) = cmO (kindv x, x, pre.length + g, pre.length + g + x.length) (tk (pre.length + g + x.length) r) := by
      unfold oC cmO
      dsimp only
      by_cases hx : x = Str.ofString ","
      · rw [if_pos hx, if_pos hx]
        obtain ⟨y, g', B, rfl, hy⟩ := hc.1 hx
        have e2 : line = (pre ++ (gapS g ++ x)) ++ (gapS g' ++ y ++ (lnS B ++ Str.ofString "\n")) := by
          rw [hl2]
          show (pre ++ (gapS g ++ x)) ++ (gapS g' ++ y ++ lnS B ++ Str.ofString "\n") = _
          simp only [s_assoc]
        rw [epos, e2, comma_line hy (hg (y, g') (.tail _ (.head _)))]
        rfl
      · rw [if_neg hx, if_neg hx]
    constructor
    · show (oC line x (pre.length + g + x.length) (pre.length + g) ++ sO st _) ++ mRun line (mStep st _) (tk _ r) = cmO _ (tk _ r) ++ (sO st _ ++ mR2 (mStep st _) (tk _ r))
      rw [hcm, i1, List.append_assoc]
    · refine ⟨⟨xok hr.1.1, fun e => ?_, fun e => hr.1.2.2 e⟩, i2⟩
      have e : x = Str.ofString "," := e
      refine ⟨by rw [e]; exact f11.1, ?_, ?_, h1000⟩
      · show 0 ≤ (pre.length : Int) + g + x.length
        rw [epos]; omega
      · show (pre.length : Int) + g + x.length < line.length
        rw [epos]; omega
end Mine
end
section
open PySem PySem.W PySem.Spec PySem.Calls PyProof.Rows PyProof.V
set_option maxHeartbeats 4000000
namespace Mine
theorem tk_words : ∀ (it : Items) (e : Int), (tk e it).map (·.2.1) = it.map (·.1)
  | [], _ => rfl
  | (x, g) :: r, e => by show x :: (tk _ r).map _ = x :: r.map _; rw [tk_words r]
theorem dueOf_msg {w : Str} {e0 s1 e1 s2 : Int} {isc : Bool} {o : Out} (h : dueOf w e0 s1 e1 s2 isc = some o) : PyData.strOk o.2 = true := by
  obtain ⟨k1, k2, k3, k4, k5⟩ := f14
  have key : ∀ {p : Int} {m : Str}, some (p, m) = some o → PyData.strOk m = true → PyData.strOk o.2 = true := fun e h => by rw [← Option.some.inj e]; exact h
  unfold dueOf at h
  split at h
  · split at h
    · exact key h k2
    · cases h
  split at h
  · split at h
    · split at h
      · cases h
      split at h
      · exact key h k1
      split at h
      · exact key h k1
      · cases h
    split at h
    · exact key h k1
    split at h
    · exact key h k1
    · cases h
  split at h
  · split at h
    · exact key h k1
    · exact key h k1
  split at h
  · split at h
    · cases h
    split at h
    · exact key h k5
    split at h
    · exact key h k4
    · exact key h k3
  · cases h
theorem lnIter_eq {it : Items} (hg : ∀ p ∈ it, p.2 = 0 ∨ p.2 = 1) : ∀ i, i ≤ it.length → (lnIter (it.map (·.1)) (it.map (·.2)) i).1 = lnS (it.take i) ∧ (lnIter (it.map (·.1)) (it.map (·.2)) i).2.map tokOf = tk 0 (it.take i)
  | 0, _ => ⟨rfl, rfl⟩
  | i + 1, h => by
    have hi : i < it.length := h
    obtain ⟨e1, e2⟩ := lnIter_eq hg i (by omega)
    have hx : (it.map (·.1)).getD i Str.empty = it[i].1 := by
      rw [List.getD_eq_getElem?_getD, List.getElem?_map, List.getElem?_eq_getElem hi]; rfl
    have hy : (it.map (·.2)).getD i 0 = it[i].2 := by
      rw [List.getD_eq_getElem?_getD, List.getElem?_map, List.getElem?_eq_getElem hi]; rfl
    have ht : it.take (i + 1) = it.take i ++ [it[i]] := by
      rw [List.take_add_one, List.getElem?_eq_getElem hi]; rfl
    have hgi := hg it[i] (List.getElem_mem hi)
    have hl := gap1_len (lnS (it.take i)) (g := it[i].2) (by rcases hgi with h | h <;> rw [h] <;> decide)
    have hend := lnS_len (it.take i) 0 fun p hp => hg p (List.mem_of_mem_take hp)
    show (gap1 (lnIter (it.map (·.1)) (it.map (·.2)) i).1 ((it.map (·.2)).getD i 0) ++ (it.map (·.1)).getD i Str.empty) = _ ∧ (((lnIter (it.map (·.1)) (it.map (·.2)) i).2 ++ [((it.map (·.1)).getD i Str.empty, ((gap1 (lnIter (it.map (·.1)) (it.map (·.2)) i).1 ((it.map (·.2)).getD i 0)).length : Int))]).map tokOf) = _
    rw [hx, hy, e1, List.map_append, e2, ht, lnS_app, tk_app]
    constructor
    · show lnS (it.take i) ++ gapS it[i].2 ++ it[i].1 = lnS (it.take i) ++ (gapS it[i].2 ++ it[i].1 ++ Str.ofString "")
      rw [s_nil, s_assoc]
    · congr 1
      show [tokOf (it[i].1, ((gap1 (lnS (it.take i)) it[i].2).length : Int))] = [(kindv it[i].1, it[i].1, endp 0 (it.take i) + it[i].2, endp 0 (it.take i) + it[i].2 + it[i].1.length)]
      unfold tokOf
      dsimp only
      rw [hl, hend, Int.zero_add]
theorem pureOk (ns : List Int) : PureOk ns := by
  obtain ⟨it, h⟩ := fin_all ns
  have hg : ∀ p ∈ it, p.2 = 0 ∨ p.2 = 1 := fun p hp => (h.wd p hp).2
  have hws := h.of.ws
  have hgs := h.of.gs
  have hwl : (builtB ns).ws.length = it.length := by rw [hws, List.length_map]
  have wok : WOk (builtB ns).ws (builtB ns).gs := by
    refine ⟨by rw [hws, hgs, List.length_map, List.length_map], by rw [hwl]; exact h.len, fun x hx => ?_, fun g hg' => ?_⟩
    · rw [hws] at hx
      obtain ⟨p, hp, rfl⟩ := List.mem_map.mp hx
      have := xok (h.wd p hp).1
      exact ⟨this.n8, this.n9⟩
    · rw [hgs] at hg'
      obtain ⟨p, hp, rfl⟩ := List.mem_map.mp hg'
      rcases hg p hp with e | e <;> rw [e] <;> decide
  obtain ⟨l1, l2⟩ := lnIter_eq hg it.length (Nat.le_refl _)
  rw [List.take_length] at l1 l2
  have eT : bT ns = tk 0 it := by
    show toksOf (builtB ns).ws (builtB ns).gs = _
    unfold toksOf
    rw [hwl, hws, hgs]; exact l2
  have eL : bL ns = lnS it ++ Str.ofString "\n" := by
    show lineOf (builtB ns).ws (builtB ns).gs = _
    unfold lineOf
    rw [hwl, hws, hgs, l1]
  have hlen : (bL ns).length ≤ 1000 := by
    have hb := lnIter_bound wok _ (Nat.le_refl _)
    have hfew := wok.few
    have hn : (Str.ofString "\n").length = 1 := by decide +kernel
    show ((lnIter (builtB ns).ws (builtB ns).gs (builtB ns).ws.length).1 ++ Str.ofString "\n").length ≤ 1000
    rw [Str.length_append]; omega
  have z : ((Str.ofString "").length : Int) = 0 := by decide +kernel
  have hR := run_eq it (Str.ofString "") (bL ns) st0 (by rw [nil_s]; exact eL) hlen h.cm hg (by rw [z]; exact h.run)
  rw [z] at hR
  have eD : (dues ns).filterMap id = ((builtB ns).ss.map fun a => dueAt (tk 0 it) (builtIs ns) a.toNat).filterMap id := by
    unfold dues
    rw [eT]
  refine ⟨wok, ?_, ?_, ?_, ?_, ?_, fun o ho => ?_⟩
  · rw [eT, tk_words]; exact hws
  · rw [eT, tk_len]; exact h.len
  · rw [eT, tk_len]; exact h.sp
  · rw [eT]; exact hR.2
  · rw [eT, eD, hR.1]; exact h.out
  · obtain ⟨d, hd, hd'⟩ := List.mem_filterMap.mp ho
    unfold dues at hd
    obtain ⟨a, _, rfl⟩ := List.mem_map.mp hd
    exact dueOf_msg hd'
end Mine
end
section
open PySem PySem.W PySem.W.X PySem.Spec PySem.Calls PyProof.Rows PyProof.V
set_option Elab.async true
set_option maxHeartbeats 8000000
namespace Mine
noncomputable def top.tw9059672392935016618 : Nat := 0
noncomputable def top.tw12342655685612074800 : Nat := 0
noncomputable def top.tw342308947776675178 : Nat := 0
noncomputable def top.tw3776753064480771068 : Nat := 0
noncomputable def top.tw4159251561096739476 : Nat := 0
noncomputable def top.tw11334350811105764591 : Nat := 0
noncomputable def top.tw3195968871104189447 : Nat := 0
noncomputable def top.tw13370750898655102155 : Nat := 0
noncomputable def top.tw9382581127745807760 : Nat := 0
noncomputable def top.tw9614876229902214918 : Nat := 0
noncomputable def top.tw12622177474791663080 : Nat := 0
noncomputable def top.tw795583310449317561 : Nat := 0
noncomputable def top.tw10006222313960134694 : Nat := 0
noncomputable def top.tw7444641836354208208 : Nat := 0
noncomputable def top.tw4655869559712951663 : Nat := 0
noncomputable def top.tw8813761850579938390 : Nat := 0
noncomputable def top.tw1676862907878916244 : Nat := 0
noncomputable def top.tw575894324575664597 : Nat := 0
noncomputable def top.tw16713831800681072344 : Nat := 0
noncomputable def top.tw14823308797102314842 : Nat := 0
noncomputable def top.tw17355269125676882429 : Nat := 0
noncomputable def top.tw5868845118606482295 : Nat := 0
noncomputable def top.tw7527032243904285869 : Nat := 0
noncomputable def top.tw14371913498598963198 : Nat := 0
noncomputable def top.tw2822501910515967889 : Nat := 0
noncomputable def top.tw2514443458684651071 : Nat := 0
noncomputable def top.tw10648311167861321448 : Nat := 0
noncomputable def top.tw864819663365544661 : Nat := 0
noncomputable def top.tw6898770573198911631 : Nat := 0
noncomputable def top.tw16885616592811714743 : Nat := 0
noncomputable def top.tw15646934709686841381 : Nat := 0
noncomputable def top.tw13303987763403120937 : Nat := 0
noncomputable def top.tw72247145696351765 : Nat := 0
noncomputable def top.tw16196420915677631385 : Nat := 0
noncomputable def top.tw620129878449983639 : Nat := 0
noncomputable def top.tw17999740536609906810 : Nat := 0
noncomputable def top.tw18085771088847121727 : Nat := 0
noncomputable def top.tw13822267516522204269 : Nat := 0
noncomputable def top.tw4873603975901500873 : Nat := 0
noncomputable def top.tw10674252106467599216 : Nat := 0
noncomputable def top.tw16949553291189137431 : Nat := 0
noncomputable def top.tw4292695720768233569 : Nat := 0
noncomputable def top.tw6815640781856848509 : Nat := 0
noncomputable def top.tw13044034144603486326 : Nat := 0
noncomputable def top.tw11203750815551599093 : Nat := 0
noncomputable def top.tw1617357707322924660 : Nat := 0
noncomputable def top.tw17620759639134147866 : Nat := 0
noncomputable def top.tw15988258018655671626 : Nat := 0
noncomputable def top.tw9229161468869434483 : Nat := 0
noncomputable def top.tw1284575025550258836 : Nat := 0
noncomputable def top.tw5915399644114372684 : Nat := 0
noncomputable def top.tw105208000716104510 : Nat := 0
noncomputable def top.tw2443449257678562572 : Nat := 0
noncomputable def top.tw9335426496214029073 : Nat := 0
noncomputable def top.tw9437893007894698314 : Nat := 0
noncomputable def top.tw14399533941689437369 : Nat := 0
noncomputable def top.tw6442268759946869923 : Nat := 0
noncomputable def top.tw7537321990764116385 : Nat := 0
noncomputable def top.tw5260120468566392776 : Nat := 0
noncomputable def top.tw9111013012932687307 : Nat := 0
noncomputable def top.tw16228763044005930535 : Nat := 0
noncomputable def top.tw13829181886748113429 : Nat := 0
noncomputable def top.tw11500880152897323899 : Nat := 0
noncomputable def top.tw11556547117343562602 : Nat := 0
noncomputable def top.tw302691153249300577 : Nat := 0
noncomputable def top.tw3561193834555079511 : Nat := 0
noncomputable def top.tw6919701780365589675 : Nat := 0
noncomputable def top.tw17046948494117081484 : Nat := 0
noncomputable def top.tw9068506458530023791 : Nat := 0
noncomputable def top.tw12166907935582030026 : Nat := 0
noncomputable def top.tw4076138812419527698 : Nat := 0
noncomputable def top.tw15341898488219893427 : Nat := 0
noncomputable def top.tw6240723676877644813 : Nat := 0
noncomputable def top.tw7250933059871147345 : Nat := 0
noncomputable def top.tw2145171640123136144 : Nat := 0
noncomputable def top.tw8363718466572441477 : Nat := 0
noncomputable def top.tw3408912560995172562 : Nat := 0
noncomputable def top.tw2462062305354472974 : Nat := 0
noncomputable def top.tw18435518465128075966 : Nat := 0
noncomputable def top.tw10915162052029792233 : Nat := 0
noncomputable def top.tw14917401599646851644 : Nat := 0
noncomputable def top.tw65185946172857156 : Nat := 0
noncomputable def top.tw14263998999751124003 : Nat := 0
noncomputable def top.tw2835187731363253809 : Nat := 0
noncomputable def top.tw814325599930780420 : Nat := 0
noncomputable def top.tw9059832203979395877 : Nat := 0
noncomputable def top.tw5581607755468803823 : Nat := 0
noncomputable def top.tw7297446738713254254 : Nat := 0
noncomputable def top.tw6812286434817487243 : Nat := 0
noncomputable def top.tw6761616313442571491 : Nat := 0
noncomputable def top.tw14142502885225118848 : Nat := 0
noncomputable def top.tw4571971715460732019 : Nat := 0
noncomputable def top.tw15058813355848621054 : Nat := 0
noncomputable def top.tw370947364307004932 : Nat := 0
noncomputable def top.tw9768079942903668216 : Nat := 0
noncomputable def top.tw9378254376102152143 : Nat := 0
noncomputable def top.tw11423202765487971197 : Nat := 0
noncomputable def top.tw7557910624720293991 : Nat := 0
noncomputable def top.tw9789752135977152278 : Nat := 0
noncomputable def top.tw7990429038631628895 : Nat := 0
noncomputable def top.tw10956490626425055710 : Nat := 0
noncomputable def top.tw14789260269991461300 : Nat := 0
noncomputable def top.tw13369591340354186047 : Nat := 0
noncomputable def top.tw5766051744304087583 : Nat := 0
noncomputable def top.tw5058314954733539658 : Nat := 0
noncomputable def top.tw877433047237710547 : Nat := 0
noncomputable def top.tw17677739895239870133 : Nat := 0
noncomputable def top.tw6505410396798821541 : Nat := 0
noncomputable def top.tw708234853630380328 : Nat := 0
noncomputable def top.tw9631074621892390191 : Nat := 0
noncomputable def top.tw4784893810139332661 : Nat := 0
noncomputable def top.tw7458633546980236471 : Nat := 0
noncomputable def top.tw956942650209027819 : Nat := 0
noncomputable def top.tw887695700811335699 : Nat := 0
noncomputable def top.tw14431434948796671202 : Nat := 0
noncomputable def top.tw788273225186049534 : Nat := 0
noncomputable def top.tw8598144960395782539 : Nat := 0
noncomputable def top.tw6491118196486620199 : Nat := 0
noncomputable def top.tw11133666699803404755 : Nat := 0
noncomputable def top.tw2732273902793177162 : Nat := 0
noncomputable def top.tw5278709424875269971 : Nat := 0
noncomputable def top.tw81815255157605957 : Nat := 0
noncomputable def top.tw1275901062530889299 : Nat := 0
noncomputable def top.tw2985252069258134486 : Nat := 0
noncomputable def top.tw13272337422414781067 : Nat := 0
noncomputable def top.tw7847650389618582240 : Nat := 0
noncomputable def top.tw18063644159110109576 : Nat := 0
noncomputable def top.tw384309743976971632 : Nat := 0
noncomputable def top.tw7743179893348639699 : Nat := 0
noncomputable def top.tw8603640566273661877 : Nat := 0
noncomputable def top.tw13889484949932952446 : Nat := 0
noncomputable def top.tw7954222556457327267 : Nat := 0
noncomputable def top.tw14402358008270493973 : Nat := 0
noncomputable def top.tw14608685727046917156 : Nat := 0
noncomputable def top.tw8107780213005350392 : Nat := 0
noncomputable def top.tw1149218181149386328 : Nat := 0
noncomputable def top.tw2812155379371279736 : Nat := 0
noncomputable def top.tw2249405535684624136 : Nat := 0
noncomputable def top.tw7692434775506437653 : Nat := 0
noncomputable def top.tw3626153506385105462 : Nat := 0
noncomputable def top.tw5889316905344633881 : Nat := 0
noncomputable def top.tw8443935842833279946 : Nat := 0
noncomputable def top.tw9483010483732582722 : Nat := 0
noncomputable def top.tw1139600151236580504 : Nat := 0
noncomputable def top.tw781163304430954582 : Nat := 0
noncomputable def top.tw13160728816969591200 : Nat := 0
noncomputable def top.tw4859757453598101857 : Nat := 0
noncomputable def top.tw4205137553216949640 : Nat := 0
noncomputable def top.tw6749217079512962374 : Nat := 0
noncomputable def top.tw987869383939708018 : Nat := 0
noncomputable def top.tw13748010675633495249 : Nat := 0
noncomputable def top.tw13944665495482194548 : Nat := 0
theorem top : PySem.Challenge.rw_bd0047_01.Holds := by
  (w_on; o_law; o_head (kHook Mine.frag Mine.fragAs (fun _ => rfl)); (case hw => w_witness2))
  k_fill
  intro w s₀ s₁ mg mb G Y fa o pm cd doc dV kV ho hd hcd hD hmg hg args vals as hpre hlay hrd hwl hlo
  have KX := kIn_of Y
  have X := (Ground.X G).1
  have V := (Ground.X G).2
  refine Ground.open G ?_
  intro T B D TE TW
  try (refine guard_noD D (by decide +kernel) ?_; clear D)
  wrow_args hpre hlay hrd hwl hlo
  all_goals (first | refine callC_kw (enter_call ?_) | refine enter_call ?_)
  w_top on
  have K0 := below_caller (Top.heap T)
  w_call any ho hd hcd hD T F
  clear hd
  k_drop
  have hI := ‹IntsAre _ _›
  have hL := ‹s₁.heap.IsList _ _›
  have hc := ‹¬ ((63 : Nat) : Int) < _›
  have N0 := ‹News _ _ _ [_, _, _]›
  refine lawW (c := ⟨w, _, _, _, mg, mb⟩) (pureOk _) ⟨hL, hI, by omega⟩ K0 (by decide) (by decide) KX T (fr_named F (fun p hp => ?_)) N0 ?_ ?_ ?_ _ ?_
  · rcases List.mem_cons.mp hp with rfl | hp
    · with_unfolding_all rfl
    · cases hp
  · first | assumption | exact (by assumption : _ = _).trans (by with_unfolding_all rfl)
  · first | assumption | exact (by assumption : _ = _).trans (by with_unfolding_all rfl)
  · first | assumption | exact (by assumption : _ = _).trans (by with_unfolding_all rfl)
  · rintro s' ⟨m', F'⟩ hg' ho'
    refine ⟨.inl ⟨.bool true, .bool true, [], rfl, raisesW_false (by wrow_none_raised), readsW_of_reads (.bool true), postW_of (by wrow_shape) (by wtm_val) (by str_meet; first | done | w_fin), by first | exact unshared_nil | exact fun h => absurd h (by decide)⟩, OldK.of_keep F'.keep, ho', ?_⟩
    rw [hg', hg]
    exact AllBare.empty.push rfl
end Mine
end
theorem PySem.Challenge.cw_bd0047_01_holds : PySem.Challenge.rw_bd0047_01.Holds :=
  Mine.top
