import PyProof.Rows.All
import Wide.All
import OpenK.AllK
import Wide.FinOn
import PySem.Challenge.RW_sh0064_01
set_option Elab.async false
set_option compiler.extract_closed false
set_option linter.all false
namespace Mine
section
open PySem PySem.W PyProof.Rows PySem.Spec PySem.Calls
section
open PySem PySem.W PyProof.Rows
set_option maxRecDepth 1000000
/-- the text -/
noncomputable abbrev pr : Program := PySem.Challenge.pw_sh0064_01
noncomputable def nthS : List Stmt → Nat → Stmt
  | [], _ => .Pass default
  | a :: _, 0 => a
  | _ :: r, n + 1 => nthS r n
noncomputable def topSt (i : Nat) : Stmt := nthS pr.main.body i
noncomputable def clsSt (i j : Nat) : Stmt := match topSt i with
  | .ClassDef (body := b) .. => nthS b j
  | _ => .Pass default
noncomputable def fnO (st : Stmt) (qual : Str) (dV kV pm cd : Value) : Obj := match st with
  | .FunctionDef (name := n) (args := a) (body := b) (scope := sc) .. => ⟨.type "function", none, .func { name := n, qualname := qual, params := a, body := .stmts b, scope := sc, globals := 3, closure := [], defaults := dV, kwdefaults := kV, doc := .none, pyModule := pm, annotations := none, code := cd, closureTuple := .none, builtins := 0 }, #[]⟩
  | _ => ⟨.none, none, .plain, #[]⟩
noncomputable def heap : Params → Frag := fun P =>
  (nat_lit 2, ⟨.none, none, .dict #[⟨PyData.keyHash P (PySem.Str.mk #[105, 109, 112, 111, 114, 116, 46, 108, 111, 97, 100, 101, 100, 46, 95, 115, 114, 101]), (.str (PySem.Str.mk #[105, 109, 112, 111, 114, 116, 46, 108, 111, 97, 100, 101, 100, 46, 95, 115, 114, 101]) 183), (.bool true)⟩, ⟨PyData.keyHash P (Str.ofString "class._frozen_importlib.BuiltinImporter"), (.str (Str.ofString "class._frozen_importlib.BuiltinImporter") 185), (.ref 14)⟩, ⟨PyData.keyHash P (PySem.Str.mk #[119, 97, 116, 99, 104, 101, 100, 46, 105, 109, 112, 111, 114, 116]), (.str (PySem.Str.mk #[119, 97, 116, 99, 104, 101, 100, 46, 105, 109, 112, 111, 114, 116]) 206), (.ref 18)⟩, ⟨PyData.keyHash P (Str.ofString "class._frozen_importlib.ModuleSpec"), (.str (Str.ofString "class._frozen_importlib.ModuleSpec") 216), (.ref 22)⟩, ⟨PyData.keyHash P (Str.ofString "sys.modules.booked-epoch"), (.str (Str.ofString "sys.modules.booked-epoch") 245), (.int 3 0)⟩, ⟨PyData.keyHash P (PySem.Str.mk #[105, 109, 112, 111, 114, 116, 46, 108, 97, 116, 101, 114, 45, 108, 97, 105, 100, 46, 95, 115, 114, 101]), (.str (PySem.Str.mk #[105, 109, 112, 111, 114, 116, 46, 108, 97, 116, 101, 114, 45, 108, 97, 105, 100, 46, 95, 115, 114, 101]) 270), (.bool true)⟩, ⟨PyData.keyHash P (Str.ofString "watched.library"), (.str (Str.ofString "watched.library") 272), (.ref 27)⟩, ⟨PyData.keyHash P (Str.ofString "watched.library-objects"), (.str (Str.ofString "watched.library-objects") 0), (.str (PySem.Str.mk #[12]) 0)⟩, ⟨PyData.keyHash P (Str.ofString "watched.library-deep._sre"), (.str (Str.ofString "watched.library-deep._sre") 273), (.str (PySem.Str.mk #[4, 0, 0, 11, 4, 0, 0, 11, 4, 0, 0, 3, 4, 0, 0, 11, 8, 4, 100, 105, 99, 116, 2]) 0)⟩] 9, #[]⟩) ::
  (nat_lit 3, ⟨(.type "dict"), none, .dict #[⟨PyData.keyHash P (Str.ofString "__name__"), (.str (Str.ofString "__name__") 165), (.str (Str.ofString "law_sh0064_01") 816)⟩, ⟨PyData.keyHash P (Str.ofString "__doc__"), (.str (Str.ofString "__doc__") 166), .none⟩, ⟨PyData.keyHash P (Str.ofString "__package__"), (.str (Str.ofString "__package__") 167), .none⟩, ⟨PyData.keyHash P (Str.ofString "__loader__"), (.str (Str.ofString "__loader__") 168), (.builtin "__main__.__loader__#opaque")⟩, ⟨PyData.keyHash P (Str.ofString "__spec__"), (.str (Str.ofString "__spec__") 169), .none⟩, ⟨PyData.keyHash P (Str.ofString "__annotations__"), (.str (Str.ofString "__annotations__") 170), (.ref 6)⟩, ⟨PyData.keyHash P (Str.ofString "__builtins__"), (.str (Str.ofString "__builtins__") 171), (.ref 4)⟩, ⟨PyData.keyHash P (Str.ofString "__file__"), (.str (Str.ofString "__file__") 173), (.str (Str.ofString "/claim/cut.py") 172)⟩, ⟨PyData.keyHash P (Str.ofString "__cached__"), (.str (Str.ofString "__cached__") 174), .none⟩, ⟨PyData.keyHash P (Str.ofString "_sre"), (.str (Str.ofString "_sre") 275), (.ref 12)⟩, ⟨PyData.keyHash P (Str.ofString "_wall"), (.str (Str.ofString "_wall") 288), (.ref 38)⟩, ⟨PyData.keyHash P (Str.ofString "LPAR"), (.str (Str.ofString "LPAR") 292), (.int 7 291)⟩, ⟨PyData.keyHash P (Str.ofString "RPAR"), (.str (Str.ofString "RPAR") 294), (.int 8 293)⟩, ⟨PyData.keyHash P (Str.ofString "LSQB"), (.str (Str.ofString "LSQB") 296), (.int 9 295)⟩, ⟨PyData.keyHash P (Str.ofString "RSQB"), (.str (Str.ofString "RSQB") 298), (.int 10 297)⟩, ⟨PyData.keyHash P (Str.ofString "COLON"), (.str (Str.ofString "COLON") 300), (.int 11 299)⟩, ⟨PyData.keyHash P (Str.ofString "COMMA"), (.str (Str.ofString "COMMA") 302), (.int 12 301)⟩, ⟨PyData.keyHash P (Str.ofString "SEMI"), (.str (Str.ofString "SEMI") 304), (.int 13 303)⟩, ⟨PyData.keyHash P (Str.ofString "PLUS"), (.str (Str.ofString "PLUS") 306), (.int 14 305)⟩, ⟨PyData.keyHash P (Str.ofString "MINUS"), (.str (Str.ofString "MINUS") 308), (.int 15 307)⟩, ⟨PyData.keyHash P (Str.ofString "STAR"), (.str (Str.ofString "STAR") 310), (.int 16 309)⟩, ⟨PyData.keyHash P (Str.ofString "SLASH"), (.str (Str.ofString "SLASH") 312), (.int 17 311)⟩, ⟨PyData.keyHash P (Str.ofString "VBAR"), (.str (Str.ofString "VBAR") 314), (.int 18 313)⟩, ⟨PyData.keyHash P (Str.ofString "AMPER"), (.str (Str.ofString "AMPER") 316), (.int 19 315)⟩, ⟨PyData.keyHash P (Str.ofString "LESS"), (.str (Str.ofString "LESS") 318), (.int 20 317)⟩, ⟨PyData.keyHash P (Str.ofString "GREATER"), (.str (Str.ofString "GREATER") 320), (.int 21 319)⟩, ⟨PyData.keyHash P (Str.ofString "EQUAL"), (.str (Str.ofString "EQUAL") 322), (.int 22 321)⟩, ⟨PyData.keyHash P (Str.ofString "DOT"), (.str (Str.ofString "DOT") 324), (.int 23 323)⟩, ⟨PyData.keyHash P (Str.ofString "PERCENT"), (.str (Str.ofString "PERCENT") 326), (.int 24 325)⟩, ⟨PyData.keyHash P (Str.ofString "LBRACE"), (.str (Str.ofString "LBRACE") 328), (.int 25 327)⟩, ⟨PyData.keyHash P (Str.ofString "RBRACE"), (.str (Str.ofString "RBRACE") 330), (.int 26 329)⟩, ⟨PyData.keyHash P (Str.ofString "EQEQUAL"), (.str (Str.ofString "EQEQUAL") 332), (.int 27 331)⟩, ⟨PyData.keyHash P (Str.ofString "NOTEQUAL"), (.str (Str.ofString "NOTEQUAL") 334), (.int 28 333)⟩, ⟨PyData.keyHash P (Str.ofString "LESSEQUAL"), (.str (Str.ofString "LESSEQUAL") 336), (.int 29 335)⟩, ⟨PyData.keyHash P (Str.ofString "GREATEREQUAL"), (.str (Str.ofString "GREATEREQUAL") 338), (.int 30 337)⟩, ⟨PyData.keyHash P (Str.ofString "TILDE"), (.str (Str.ofString "TILDE") 340), (.int 31 339)⟩, ⟨PyData.keyHash P (Str.ofString "CIRCUMFLEX"), (.str (Str.ofString "CIRCUMFLEX") 342), (.int 32 341)⟩, ⟨PyData.keyHash P (Str.ofString "LEFTSHIFT"), (.str (Str.ofString "LEFTSHIFT") 344), (.int 33 343)⟩, ⟨PyData.keyHash P (Str.ofString "RIGHTSHIFT"), (.str (Str.ofString "RIGHTSHIFT") 346), (.int 34 345)⟩, ⟨PyData.keyHash P (Str.ofString "DOUBLESTAR"), (.str (Str.ofString "DOUBLESTAR") 348), (.int 35 347)⟩, ⟨PyData.keyHash P (Str.ofString "PLUSEQUAL"), (.str (Str.ofString "PLUSEQUAL") 350), (.int 36 349)⟩, ⟨PyData.keyHash P (Str.ofString "MINEQUAL"), (.str (Str.ofString "MINEQUAL") 352), (.int 37 351)⟩, ⟨PyData.keyHash P (Str.ofString "STAREQUAL"), (.str (Str.ofString "STAREQUAL") 354), (.int 38 353)⟩, ⟨PyData.keyHash P (Str.ofString "SLASHEQUAL"), (.str (Str.ofString "SLASHEQUAL") 356), (.int 39 355)⟩, ⟨PyData.keyHash P (Str.ofString "PERCENTEQUAL"), (.str (Str.ofString "PERCENTEQUAL") 358), (.int 40 357)⟩, ⟨PyData.keyHash P (Str.ofString "AMPEREQUAL"), (.str (Str.ofString "AMPEREQUAL") 360), (.int 41 359)⟩, ⟨PyData.keyHash P (Str.ofString "VBAREQUAL"), (.str (Str.ofString "VBAREQUAL") 362), (.int 42 361)⟩, ⟨PyData.keyHash P (Str.ofString "CIRCUMFLEXEQUAL"), (.str (Str.ofString "CIRCUMFLEXEQUAL") 364), (.int 43 363)⟩, ⟨PyData.keyHash P (Str.ofString "LEFTSHIFTEQUAL"), (.str (Str.ofString "LEFTSHIFTEQUAL") 366), (.int 44 365)⟩, ⟨PyData.keyHash P (Str.ofString "RIGHTSHIFTEQUAL"), (.str (Str.ofString "RIGHTSHIFTEQUAL") 368), (.int 45 367)⟩, ⟨PyData.keyHash P (Str.ofString "DOUBLESTAREQUAL"), (.str (Str.ofString "DOUBLESTAREQUAL") 370), (.int 46 369)⟩, ⟨PyData.keyHash P (Str.ofString "DOUBLESLASH"), (.str (Str.ofString "DOUBLESLASH") 372), (.int 47 371)⟩, ⟨PyData.keyHash P (Str.ofString "DOUBLESLASHEQUAL"), (.str (Str.ofString "DOUBLESLASHEQUAL") 374), (.int 48 373)⟩, ⟨PyData.keyHash P (Str.ofString "AT"), (.str (Str.ofString "AT") 376), (.int 49 375)⟩, ⟨PyData.keyHash P (Str.ofString "ATEQUAL"), (.str (Str.ofString "ATEQUAL") 378), (.int 50 377)⟩, ⟨PyData.keyHash P (Str.ofString "RARROW"), (.str (Str.ofString "RARROW") 380), (.int 51 379)⟩, ⟨PyData.keyHash P (Str.ofString "ELLIPSIS"), (.str (Str.ofString "ELLIPSIS") 382), (.int 52 381)⟩, ⟨PyData.keyHash P (Str.ofString "COLONEQUAL"), (.str (Str.ofString "COLONEQUAL") 384), (.int 53 383)⟩, ⟨PyData.keyHash P (Str.ofString "EXCLAMATION"), (.str (Str.ofString "EXCLAMATION") 386), (.int 54 385)⟩, ⟨PyData.keyHash P (Str.ofString "NT_OFFSET"), (.str (Str.ofString "NT_OFFSET") 388), (.int 256 387)⟩, ⟨PyData.keyHash P (Str.ofString "EXACT_TOKEN_TYPES"), (.str (Str.ofString "EXACT_TOKEN_TYPES") 485), (.ref 39)⟩, ⟨PyData.keyHash P (Str.ofString "ISTERMINAL"), (.str (Str.ofString "ISTERMINAL") 492), (.ref 48)⟩, ⟨PyData.keyHash P (Str.ofString "TICK"), (.str (Str.ofString "TICK") 496), (.str (Str.ofString "'") 495)⟩, ⟨PyData.keyHash P (Str.ofString "_iter_escaped_chars"), (.str (Str.ofString "_iter_escaped_chars") 506), (.ref 55)⟩, ⟨PyData.keyHash P (Str.ofString "_strip_quoted_realnames"), (.str (Str.ofString "_strip_quoted_realnames") 518), (.ref 62)⟩, ⟨PyData.keyHash P (Str.ofString "_check_parenthesis"), (.str (Str.ofString "_check_parenthesis") 528), (.ref 69)⟩, ⟨PyData.keyHash P (Str.ofString "decode_rfc2231"), (.str (Str.ofString "decode_rfc2231") 536), (.ref 76)⟩, ⟨PyData.keyHash P (Str.ofString "_netrclex"), (.str (Str.ofString "_netrclex") 596), (.ref 114)⟩, ⟨PyData.keyHash P (Str.ofString "_name_disallowed_re"), (.str (Str.ofString "_name_disallowed_re") 624), (.ref 123)⟩, ⟨PyData.keyHash P (Str.ofString "_value_disallowed_re"), (.str (Str.ofString "_value_disallowed_re") 658), (.ref 128)⟩, ⟨PyData.keyHash P (Str.ofString "Headers"), (.str (Str.ofString "Headers") 815), (.ref 251)⟩, ⟨PyData.keyHash P (Str.ofString "_law_tree"), (.str (Str.ofString "_law_tree") 828), (.ref 262)⟩, ⟨PyData.keyHash P (Str.ofString "_law_text"), (.str (Str.ofString "_law_text") 835), (.ref 269)⟩, ⟨PyData.keyHash P (Str.ofString "_law_mark"), (.str (Str.ofString "_law_mark") 845), (.ref 276)⟩, ⟨PyData.keyHash P (Str.ofString "_law_dress"), (.str (Str.ofString "_law_dress") 851), (.ref 281)⟩, ⟨PyData.keyHash P (Str.ofString "_law_lexer"), (.str (Str.ofString "_law_lexer") 860), (.ref 288)⟩, ⟨PyData.keyHash P (Str.ofString "_law_read"), (.str (Str.ofString "_law_read") 873), (.ref 295)⟩, ⟨PyData.keyHash P (Str.ofString "_law_split"), (.str (Str.ofString "_law_split") 883), (.ref 302)⟩, ⟨PyData.keyHash P (Str.ofString "_law_play"), (.str (Str.ofString "_law_play") 898), (.ref 309)⟩, ⟨PyData.keyHash P (Str.ofString "_law_line"), (.str (Str.ofString "_law_line") 907), (.ref 316)⟩, ⟨PyData.keyHash P (Str.ofString "_law_worth"), (.str (Str.ofString "_law_worth") 917), (.ref 323)⟩, ⟨PyData.keyHash P (Str.ofString "_law_ways"), (.str (Str.ofString "_law_ways") 929), (.ref 330)⟩, ⟨PyData.keyHash P (Str.ofString "law"), (.str (Str.ofString "law") 935), (.ref 335)⟩] 83, #[]⟩) ::
  (nat_lit 32, ⟨(.type "tuple"), none, .seq #[] 0, #[]⟩) ::
  (nat_lit 34, ⟨(.type "tuple"), none, .seq #[(.str (Str.ofString "k") 285)] 0, #[]⟩) ::
  (nat_lit 35, ⟨(.type "tuple"), none, .seq #[] 0, #[]⟩) ::
  (nat_lit 37, ⟨(.type "code"), none, .fields #[(.str (Str.ofString "_wall") 282), (.str (Str.ofString "_wall") 283), (.str (Str.ofString "/claim/cut.py") 284), (.int 2 0), (.int 1 0), (.int 0 0), (.int 0 0), (.int 3 0), (.ref 32), (.bool true), (.int 276 0), (.ref 33), .none, (.ref 34), (.ref 35), (.ref 36), (.int 286 0), (.int 2 0), (.str (Str.ofString "/claim/cut.py") 287)], #[]⟩) ::
  (nat_lit 38, fnO (topSt 1) (Str.ofString "_wall") .none .none (.str (Str.ofString "__main__") 164) (.ref 37)) ::
  (nat_lit 39, ⟨(.type "dict"), none, .dict #[⟨PyData.keyHash P (Str.ofString "!"), (.str (Str.ofString "!") 389), (.int 54 385)⟩, ⟨PyData.keyHash P (Str.ofString "!="), (.str (Str.ofString "!=") 391), (.int 28 333)⟩, ⟨PyData.keyHash P (Str.ofString "%"), (.str (Str.ofString "%") 393), (.int 24 325)⟩, ⟨PyData.keyHash P (Str.ofString "%="), (.str (Str.ofString "%=") 395), (.int 40 357)⟩, ⟨PyData.keyHash P (Str.ofString "&"), (.str (Str.ofString "&") 397), (.int 19 315)⟩, ⟨PyData.keyHash P (Str.ofString "&="), (.str (Str.ofString "&=") 399), (.int 41 359)⟩, ⟨PyData.keyHash P (Str.ofString "("), (.str (Str.ofString "(") 401), (.int 7 291)⟩, ⟨PyData.keyHash P (Str.ofString ")"), (.str (Str.ofString ")") 403), (.int 8 293)⟩, ⟨PyData.keyHash P (Str.ofString "*"), (.str (Str.ofString "*") 405), (.int 16 309)⟩, ⟨PyData.keyHash P (Str.ofString "**"), (.str (Str.ofString "**") 407), (.int 35 347)⟩, ⟨PyData.keyHash P (Str.ofString "**="), (.str (Str.ofString "**=") 409), (.int 46 369)⟩, ⟨PyData.keyHash P (Str.ofString "*="), (.str (Str.ofString "*=") 411), (.int 38 353)⟩, ⟨PyData.keyHash P (Str.ofString "+"), (.str (Str.ofString "+") 413), (.int 14 305)⟩, ⟨PyData.keyHash P (Str.ofString "+="), (.str (Str.ofString "+=") 415), (.int 36 349)⟩, ⟨PyData.keyHash P (Str.ofString ","), (.str (Str.ofString ",") 417), (.int 12 301)⟩, ⟨PyData.keyHash P (Str.ofString "-"), (.str (Str.ofString "-") 419), (.int 15 307)⟩, ⟨PyData.keyHash P (Str.ofString "-="), (.str (Str.ofString "-=") 421), (.int 37 351)⟩, ⟨PyData.keyHash P (Str.ofString "->"), (.str (Str.ofString "->") 423), (.int 51 379)⟩, ⟨PyData.keyHash P (Str.ofString "."), (.str (Str.ofString ".") 425), (.int 23 323)⟩, ⟨PyData.keyHash P (Str.ofString "..."), (.str (Str.ofString "...") 427), (.int 52 381)⟩, ⟨PyData.keyHash P (Str.ofString "/"), (.str (Str.ofString "/") 429), (.int 17 311)⟩, ⟨PyData.keyHash P (Str.ofString "//"), (.str (Str.ofString "//") 431), (.int 47 371)⟩, ⟨PyData.keyHash P (Str.ofString "//="), (.str (Str.ofString "//=") 433), (.int 48 373)⟩, ⟨PyData.keyHash P (Str.ofString "/="), (.str (Str.ofString "/=") 435), (.int 39 355)⟩, ⟨PyData.keyHash P (Str.ofString ":"), (.str (Str.ofString ":") 437), (.int 11 299)⟩, ⟨PyData.keyHash P (Str.ofString ":="), (.str (Str.ofString ":=") 439), (.int 53 383)⟩, ⟨PyData.keyHash P (Str.ofString ";"), (.str (Str.ofString ";") 441), (.int 13 303)⟩, ⟨PyData.keyHash P (Str.ofString "<"), (.str (Str.ofString "<") 443), (.int 20 317)⟩, ⟨PyData.keyHash P (Str.ofString "<<"), (.str (Str.ofString "<<") 445), (.int 33 343)⟩, ⟨PyData.keyHash P (Str.ofString "<<="), (.str (Str.ofString "<<=") 447), (.int 44 365)⟩, ⟨PyData.keyHash P (Str.ofString "<="), (.str (Str.ofString "<=") 449), (.int 29 335)⟩, ⟨PyData.keyHash P (Str.ofString "="), (.str (Str.ofString "=") 451), (.int 22 321)⟩, ⟨PyData.keyHash P (Str.ofString "=="), (.str (Str.ofString "==") 453), (.int 27 331)⟩, ⟨PyData.keyHash P (Str.ofString ">"), (.str (Str.ofString ">") 455), (.int 21 319)⟩, ⟨PyData.keyHash P (Str.ofString ">="), (.str (Str.ofString ">=") 457), (.int 30 337)⟩, ⟨PyData.keyHash P (Str.ofString ">>"), (.str (Str.ofString ">>") 458), (.int 34 345)⟩, ⟨PyData.keyHash P (Str.ofString ">>="), (.str (Str.ofString ">>=") 459), (.int 45 367)⟩, ⟨PyData.keyHash P (Str.ofString "@"), (.str (Str.ofString "@") 460), (.int 49 375)⟩, ⟨PyData.keyHash P (Str.ofString "@="), (.str (Str.ofString "@=") 461), (.int 50 377)⟩, ⟨PyData.keyHash P (Str.ofString "["), (.str (Str.ofString "[") 462), (.int 9 295)⟩, ⟨PyData.keyHash P (Str.ofString "]"), (.str (Str.ofString "]") 463), (.int 10 297)⟩, ⟨PyData.keyHash P (Str.ofString "^"), (.str (Str.ofString "^") 464), (.int 32 341)⟩, ⟨PyData.keyHash P (Str.ofString "^="), (.str (Str.ofString "^=") 465), (.int 43 363)⟩, ⟨PyData.keyHash P (Str.ofString "{"), (.str (Str.ofString "{") 466), (.int 25 327)⟩, ⟨PyData.keyHash P (Str.ofString "|"), (.str (Str.ofString "|") 467), (.int 18 313)⟩, ⟨PyData.keyHash P (Str.ofString "|="), (.str (Str.ofString "|=") 468), (.int 42 361)⟩, ⟨PyData.keyHash P (Str.ofString "}"), (.str (Str.ofString "}") 469), (.int 26 329)⟩, ⟨PyData.keyHash P (Str.ofString "~"), (.str (Str.ofString "~") 470), (.int 31 339)⟩] 48, #[]⟩) ::
  (nat_lit 42, ⟨(.type "tuple"), none, .seq #[] 0, #[]⟩) ::
  (nat_lit 44, ⟨(.type "tuple"), none, .seq #[(.str (Str.ofString "x") 489)] 0, #[]⟩) ::
  (nat_lit 45, ⟨(.type "tuple"), none, .seq #[] 0, #[]⟩) ::
  (nat_lit 47, ⟨(.type "code"), none, .fields #[(.str (Str.ofString "ISTERMINAL") 486), (.str (Str.ofString "ISTERMINAL") 487), (.str (Str.ofString "/claim/cut.py") 488), (.int 56 0), (.int 1 0), (.int 0 0), (.int 0 0), (.int 3 0), (.ref 42), (.bool true), (.int 276 0), (.ref 43), .none, (.ref 44), (.ref 45), (.ref 46), (.int 490 0), (.int 56 0), (.str (Str.ofString "/claim/cut.py") 491)], #[]⟩) ::
  (nat_lit 48, fnO (topSt 53) (Str.ofString "ISTERMINAL") .none .none (.str (Str.ofString "cpy313.token") 289) (.ref 47)) ::
  (nat_lit 49, ⟨(.type "tuple"), none, .seq #[] 0, #[]⟩) ::
  (nat_lit 51, ⟨(.type "tuple"), none, .seq #[(.str (Str.ofString "addr") 500), (.str (Str.ofString "pos") 501), (.str (Str.ofString "escape") 502), (.str (Str.ofString "ch") 503)] 0, #[]⟩) ::
  (nat_lit 52, ⟨(.type "tuple"), none, .seq #[] 0, #[]⟩) ::
  (nat_lit 54, ⟨(.type "code"), none, .fields #[(.str (Str.ofString "_iter_escaped_chars") 497), (.str (Str.ofString "_iter_escaped_chars") 498), (.str (Str.ofString "/claim/cut.py") 499), (.int 60 0), (.int 1 0), (.int 0 0), (.int 0 0), (.int 35 0), (.ref 49), (.bool true), (.int 276 0), (.ref 50), .none, (.ref 51), (.ref 52), (.ref 53), (.int 504 0), (.int 60 0), (.str (Str.ofString "/claim/cut.py") 505)], #[]⟩) ::
  (nat_lit 55, fnO (topSt 56) (Str.ofString "_iter_escaped_chars") .none .none (.str (Str.ofString "cpy313.email.utils") 493) (.ref 54)) ::
  (nat_lit 56, ⟨(.type "tuple"), none, .seq #[] 0, #[]⟩) ::
  (nat_lit 58, ⟨(.type "tuple"), none, .seq #[(.str (Str.ofString "addr") 510), (.str (Str.ofString "start") 511), (.str (Str.ofString "open_pos") 512), (.str (Str.ofString "result") 513), (.str (Str.ofString "pos") 514), (.str (Str.ofString "ch") 515)] 0, #[]⟩) ::
  (nat_lit 59, ⟨(.type "tuple"), none, .seq #[] 0, #[]⟩) ::
  (nat_lit 61, ⟨(.type "code"), none, .fields #[(.str (Str.ofString "_strip_quoted_realnames") 507), (.str (Str.ofString "_strip_quoted_realnames") 508), (.str (Str.ofString "/claim/cut.py") 509), (.int 73 0), (.int 1 0), (.int 0 0), (.int 0 0), (.int 3 0), (.ref 56), (.bool true), (.int 276 0), (.ref 57), .none, (.ref 58), (.ref 59), (.ref 60), (.int 516 0), (.int 73 0), (.str (Str.ofString "/claim/cut.py") 517)], #[]⟩) ::
  (nat_lit 62, fnO (topSt 57) (Str.ofString "_strip_quoted_realnames") .none .none (.str (Str.ofString "cpy313.email.utils") 493) (.ref 61)) ::
  (nat_lit 63, ⟨(.type "tuple"), none, .seq #[] 0, #[]⟩) ::
  (nat_lit 65, ⟨(.type "tuple"), none, .seq #[(.str (Str.ofString "addr") 522), (.str (Str.ofString "opens") 523), (.str (Str.ofString "pos") 524), (.str (Str.ofString "ch") 525)] 0, #[]⟩) ::
  (nat_lit 66, ⟨(.type "tuple"), none, .seq #[] 0, #[]⟩) ::
  (nat_lit 68, ⟨(.type "code"), none, .fields #[(.str (Str.ofString "_check_parenthesis") 519), (.str (Str.ofString "_check_parenthesis") 520), (.str (Str.ofString "/claim/cut.py") 521), (.int 91 0), (.int 1 0), (.int 0 0), (.int 0 0), (.int 3 0), (.ref 63), (.bool true), (.int 276 0), (.ref 64), .none, (.ref 65), (.ref 66), (.ref 67), (.int 526 0), (.int 91 0), (.str (Str.ofString "/claim/cut.py") 527)], #[]⟩) ::
  (nat_lit 69, fnO (topSt 58) (Str.ofString "_check_parenthesis") .none .none (.str (Str.ofString "cpy313.email.utils") 493) (.ref 68)) ::
  (nat_lit 70, ⟨(.type "tuple"), none, .seq #[] 0, #[]⟩) ::
  (nat_lit 72, ⟨(.type "tuple"), none, .seq #[(.str (Str.ofString "s") 532), (.str (Str.ofString "parts") 533)] 0, #[]⟩) ::
  (nat_lit 73, ⟨(.type "tuple"), none, .seq #[] 0, #[]⟩) ::
  (nat_lit 75, ⟨(.type "code"), none, .fields #[(.str (Str.ofString "decode_rfc2231") 529), (.str (Str.ofString "decode_rfc2231") 530), (.str (Str.ofString "/claim/cut.py") 531), (.int 102 0), (.int 1 0), (.int 0 0), (.int 0 0), (.int 3 0), (.ref 70), (.bool true), (.int 276 0), (.ref 71), .none, (.ref 72), (.ref 73), (.ref 74), (.int 534 0), (.int 102 0), (.str (Str.ofString "/claim/cut.py") 535)], #[]⟩) ::
  (nat_lit 76, fnO (topSt 59) (Str.ofString "decode_rfc2231") .none .none (.str (Str.ofString "cpy313.email.utils") 493) (.ref 75)) ::
  (nat_lit 84, ⟨(.type "tuple"), none, .seq #[] 0, #[]⟩) ::
  (nat_lit 86, ⟨(.type "tuple"), none, .seq #[(.str (Str.ofString "self") 554), (.str (Str.ofString "fp") 555)] 0, #[]⟩) ::
  (nat_lit 87, ⟨(.type "tuple"), none, .seq #[] 0, #[]⟩) ::
  (nat_lit 89, ⟨(.type "code"), none, .fields #[(.str (Str.ofString "__init__") 551), (.str (Str.ofString "_netrclex.__init__") 552), (.str (Str.ofString "/claim/cut.py") 553), (.int 110 0), (.int 2 0), (.int 0 0), (.int 0 0), (.int 3 0), (.ref 84), (.bool true), (.int 276 0), (.ref 85), .none, (.ref 86), (.ref 87), (.ref 88), (.int 556 0), (.int 110 0), (.str (Str.ofString "/claim/cut.py") 557)], #[]⟩) ::
  (nat_lit 90, fnO (clsSt 61 0) (Str.ofString "_netrclex.__init__") .none .none (.str (Str.ofString "cpy313.netrc") 537) (.ref 89)) ::
  (nat_lit 91, ⟨(.type "tuple"), none, .seq #[] 0, #[]⟩) ::
  (nat_lit 93, ⟨(.type "tuple"), none, .seq #[(.str (Str.ofString "self") 562), (.str (Str.ofString "ch") 563)] 0, #[]⟩) ::
  (nat_lit 94, ⟨(.type "tuple"), none, .seq #[] 0, #[]⟩) ::
  (nat_lit 96, ⟨(.type "code"), none, .fields #[(.str (Str.ofString "_read_char") 559), (.str (Str.ofString "_netrclex._read_char") 560), (.str (Str.ofString "/claim/cut.py") 561), (.int 116 0), (.int 1 0), (.int 0 0), (.int 0 0), (.int 3 0), (.ref 91), (.bool true), (.int 276 0), (.ref 92), .none, (.ref 93), (.ref 94), (.ref 95), (.int 564 0), (.int 116 0), (.str (Str.ofString "/claim/cut.py") 565)], #[]⟩) ::
  (nat_lit 97, fnO (clsSt 61 1) (Str.ofString "_netrclex._read_char") .none .none (.str (Str.ofString "cpy313.netrc") 537) (.ref 96)) ::
  (nat_lit 98, ⟨(.type "tuple"), none, .seq #[] 0, #[]⟩) ::
  (nat_lit 100, ⟨(.type "tuple"), none, .seq #[(.str (Str.ofString "self") 570), (.str (Str.ofString "token") 571), (.str (Str.ofString "fiter") 572), (.str (Str.ofString "ch") 573)] 0, #[]⟩) ::
  (nat_lit 101, ⟨(.type "tuple"), none, .seq #[] 0, #[]⟩) ::
  (nat_lit 103, ⟨(.type "code"), none, .fields #[(.str (Str.ofString "get_token") 567), (.str (Str.ofString "_netrclex.get_token") 568), (.str (Str.ofString "/claim/cut.py") 569), (.int 122 0), (.int 1 0), (.int 0 0), (.int 0 0), (.int 3 0), (.ref 98), (.bool true), (.int 276 0), (.ref 99), .none, (.ref 100), (.ref 101), (.ref 102), (.int 574 0), (.int 122 0), (.str (Str.ofString "/claim/cut.py") 575)], #[]⟩) ::
  (nat_lit 104, fnO (clsSt 61 2) (Str.ofString "_netrclex.get_token") .none .none (.str (Str.ofString "cpy313.netrc") 537) (.ref 103)) ::
  (nat_lit 105, ⟨(.type "tuple"), none, .seq #[] 0, #[]⟩) ::
  (nat_lit 107, ⟨(.type "tuple"), none, .seq #[(.str (Str.ofString "self") 580), (.str (Str.ofString "token") 581)] 0, #[]⟩) ::
  (nat_lit 108, ⟨(.type "tuple"), none, .seq #[] 0, #[]⟩) ::
  (nat_lit 110, ⟨(.type "code"), none, .fields #[(.str (Str.ofString "push_token") 577), (.str (Str.ofString "_netrclex.push_token") 578), (.str (Str.ofString "/claim/cut.py") 579), (.int 149 0), (.int 2 0), (.int 0 0), (.int 0 0), (.int 3 0), (.ref 105), (.bool true), (.int 276 0), (.ref 106), .none, (.ref 107), (.ref 108), (.ref 109), (.int 582 0), (.int 149 0), (.str (Str.ofString "/claim/cut.py") 583)], #[]⟩) ::
  (nat_lit 111, fnO (clsSt 61 3) (Str.ofString "_netrclex.push_token") .none .none (.str (Str.ofString "cpy313.netrc") 537) (.ref 110)) ::
  (nat_lit 112, ⟨(.type "tuple"), none, .seq #[(.str (Str.ofString "instream") 585), (.str (Str.ofString "lineno") 586), (.str (Str.ofString "pushback") 587), (.str (Str.ofString "whitespace") 588)] 0, #[]⟩) ::
  (nat_lit 113, ⟨(.type "dict"), none, .dict #[⟨PyData.keyHash P (Str.ofString "__module__"), (.str (Str.ofString "__module__") 546), (.str (Str.ofString "cpy313.netrc") 537)⟩, ⟨PyData.keyHash P (Str.ofString "__firstlineno__"), (.str (Str.ofString "__firstlineno__") 550), (.int 108 549)⟩, ⟨PyData.keyHash P (Str.ofString "__init__"), (.str (Str.ofString "__init__") 558), (.ref 90)⟩, ⟨PyData.keyHash P (Str.ofString "_read_char"), (.str (Str.ofString "_read_char") 566), (.ref 97)⟩, ⟨PyData.keyHash P (Str.ofString "get_token"), (.str (Str.ofString "get_token") 576), (.ref 104)⟩, ⟨PyData.keyHash P (Str.ofString "push_token"), (.str (Str.ofString "push_token") 584), (.ref 111)⟩, ⟨PyData.keyHash P (Str.ofString "__static_attributes__"), (.str (Str.ofString "__static_attributes__") 589), (.ref 112)⟩, ⟨PyData.keyHash P (Str.ofString "__dict__"), (.str (Str.ofString "__dict__") 591), (.ref 115)⟩, ⟨PyData.keyHash P (Str.ofString "__weakref__"), (.str (Str.ofString "__weakref__") 593), (.ref 116)⟩, ⟨PyData.keyHash P (Str.ofString "__doc__"), (.str (Str.ofString "__doc__") 594), .none⟩] 4, #[]⟩) ::
  (nat_lit 114, ⟨(.type "type"), none, .cls ⟨(Str.ofString "_netrclex"), [(.type "object")], [(.ref 114), (.type "object")], 113, (Str.ofString "_netrclex"), true, [], [], false, none, false⟩, #[none, none, (some (.str (Str.ofString "_netrclex") 539)), (some (.str (Str.ofString "_netrclex") 547)), (some (.builtin "object.__new__")), (some (.bool true))]⟩) ::
  (nat_lit 115, ⟨(.type "getset_descriptor"), none, .fields #[(.str (Str.ofString "__dict__") 590), (.ref 114), (.builtin "function.__dict__"), (.builtin "function.__dict__#set")], #[]⟩) ::
  (nat_lit 116, ⟨(.type "getset_descriptor"), none, .fields #[(.str (Str.ofString "__weakref__") 592), (.ref 114), (.builtin "ExceptionGroup.__weakref__"), .none], #[]⟩) ::
  (nat_lit 122, ⟨(.type "tuple"), none, .seq #[(.int 14 0), (.int 10 0), (.int 4 0), (.int 1 0), (.int 1 0), (.int 22 0), (.int 0 0), (.int 31 0), (.int 16 0), (.int 127 0), (.int 0 0), (.int 13 0), (.int 7 0), (.int 22 0), (.int 0 0), (.int 31 0), (.int 16 0), (.int 127 0), (.int 0 0), (.int 1 0)] 0, #[]⟩) ::
  (nat_lit 123, ⟨(.type "re.Pattern"), none, .fields #[(.str (Str.ofString "[\\x00-\\x1F\\x7F]") 600), (.int 32 623), (.int 0 0), .none, .none, (.ref 122), (.int 0 0)], #[]⟩) ::
  (nat_lit 127, ⟨(.type "tuple"), none, .seq #[(.int 14 0), (.int 14 0), (.int 4 0), (.int 1 0), (.int 1 0), (.int 9 0), (.int 4294966783 0), (.int 0 0), (.int 0 0), (.int 2147483648 0), (.int 0 0), (.int 0 0), (.int 0 0), (.int 0 0), (.int 0 0), (.int 13 0), (.int 11 0), (.int 9 0), (.int 4294966783 0), (.int 0 0), (.int 0 0), (.int 2147483648 0), (.int 0 0), (.int 0 0), (.int 0 0), (.int 0 0), (.int 0 0), (.int 1 0)] 0, #[]⟩) ::
  (nat_lit 128, ⟨(.type "re.Pattern"), none, .fields #[(.str (Str.ofString "[\\x00-\\x08\\x0A-\\x1F\\x7F]") 626), (.int 32 657), (.int 0 0), .none, .none, (.ref 127), (.int 0 0)], #[]⟩) ::
  (nat_lit 136, ⟨(.type "tuple"), none, .seq #[.none] 0, #[]⟩) ::
  (nat_lit 137, ⟨(.type "tuple"), none, .seq #[] 0, #[]⟩) ::
  (nat_lit 139, ⟨(.type "tuple"), none, .seq #[(.str (Str.ofString "self") 674), (.str (Str.ofString "headers") 675), (.str (Str.ofString "k") 676), (.str (Str.ofString "v") 677)] 0, #[]⟩) ::
  (nat_lit 140, ⟨(.type "tuple"), none, .seq #[] 0, #[]⟩) ::
  (nat_lit 142, ⟨(.type "code"), none, .fields #[(.str (Str.ofString "__init__") 671), (.str (Str.ofString "Headers.__init__") 672), (.str (Str.ofString "/claim/cut.py") 673), (.int 156 0), (.int 2 0), (.int 0 0), (.int 0 0), (.int 3 0), (.ref 137), (.bool true), (.int 276 0), (.ref 138), .none, (.ref 139), (.ref 140), (.ref 141), (.int 678 0), (.int 156 0), (.str (Str.ofString "/claim/cut.py") 679)], #[]⟩) ::
  (nat_lit 143, fnO (clsSt 65 0) (Str.ofString "Headers.__init__") (.ref 136) .none (.str (Str.ofString "cpy313.wsgiref.headers") 597) (.ref 142)) ::
  (nat_lit 144, ⟨(.type "tuple"), none, .seq #[] 0, #[]⟩) ::
  (nat_lit 146, ⟨(.type "tuple"), none, .seq #[(.str (Str.ofString "self") 684), (.str (Str.ofString "value") 685), (.str (Str.ofString "name") 686), (.str (Str.ofString "regex") 687)] 0, #[]⟩) ::
  (nat_lit 147, ⟨(.type "tuple"), none, .seq #[] 0, #[]⟩) ::
  (nat_lit 149, ⟨(.type "code"), none, .fields #[(.str (Str.ofString "_convert_string_type") 681), (.str (Str.ofString "Headers._convert_string_type") 682), (.str (Str.ofString "/claim/cut.py") 683), (.int 166 0), (.int 2 0), (.int 0 0), (.int 1 0), (.int 3 0), (.ref 144), (.bool true), (.int 276 0), (.ref 145), .none, (.ref 146), (.ref 147), (.ref 148), (.int 688 0), (.int 166 0), (.str (Str.ofString "/claim/cut.py") 689)], #[]⟩) ::
  (nat_lit 150, fnO (clsSt 65 1) (Str.ofString "Headers._convert_string_type") .none .none (.str (Str.ofString "cpy313.wsgiref.headers") 597) (.ref 149)) ::
  (nat_lit 151, ⟨(.type "tuple"), none, .seq #[] 0, #[]⟩) ::
  (nat_lit 153, ⟨(.type "tuple"), none, .seq #[(.str (Str.ofString "self") 694)] 0, #[]⟩) ::
  (nat_lit 154, ⟨(.type "tuple"), none, .seq #[] 0, #[]⟩) ::
  (nat_lit 156, ⟨(.type "code"), none, .fields #[(.str (Str.ofString "__len__") 691), (.str (Str.ofString "Headers.__len__") 692), (.str (Str.ofString "/claim/cut.py") 693), (.int 174 0), (.int 1 0), (.int 0 0), (.int 0 0), (.int 3 0), (.ref 151), (.bool true), (.int 276 0), (.ref 152), .none, (.ref 153), (.ref 154), (.ref 155), (.int 695 0), (.int 174 0), (.str (Str.ofString "/claim/cut.py") 696)], #[]⟩) ::
  (nat_lit 157, fnO (clsSt 65 2) (Str.ofString "Headers.__len__") .none .none (.str (Str.ofString "cpy313.wsgiref.headers") 597) (.ref 156)) ::
  (nat_lit 158, ⟨(.type "tuple"), none, .seq #[] 0, #[]⟩) ::
  (nat_lit 160, ⟨(.type "tuple"), none, .seq #[(.str (Str.ofString "self") 701), (.str (Str.ofString "name") 702), (.str (Str.ofString "val") 703)] 0, #[]⟩) ::
  (nat_lit 161, ⟨(.type "tuple"), none, .seq #[] 0, #[]⟩) ::
  (nat_lit 163, ⟨(.type "code"), none, .fields #[(.str (Str.ofString "__setitem__") 698), (.str (Str.ofString "Headers.__setitem__") 699), (.str (Str.ofString "/claim/cut.py") 700), (.int 177 0), (.int 3 0), (.int 0 0), (.int 0 0), (.int 3 0), (.ref 158), (.bool true), (.int 276 0), (.ref 159), .none, (.ref 160), (.ref 161), (.ref 162), (.int 704 0), (.int 177 0), (.str (Str.ofString "/claim/cut.py") 705)], #[]⟩) ::
  (nat_lit 164, fnO (clsSt 65 3) (Str.ofString "Headers.__setitem__") .none .none (.str (Str.ofString "cpy313.wsgiref.headers") 597) (.ref 163)) ::
  (nat_lit 165, ⟨(.type "tuple"), none, .seq #[] 0, #[]⟩) ::
  (nat_lit 168, ⟨(.type "code"), none, .fields #[(.str (Str.ofString "__delitem__") 707), (.str (Str.ofString "Headers.__delitem__") 708), (.str (Str.ofString "/claim/cut.py") 709), (.int 181 0), (.int 2 0), (.int 0 0), (.int 0 0), (.int 3 0), (.ref 165), (.bool true), (.int 276 0), (.ref 166), .none, .none, .none, (.ref 167), (.int 710 0), (.int 181 0), (.str (Str.ofString "/claim/cut.py") 711)], #[]⟩) ::
  (nat_lit 169, fnO (clsSt 65 4) (Str.ofString "Headers.__delitem__") .none .none (.str (Str.ofString "cpy313.wsgiref.headers") 597) (.ref 168)) ::
  (nat_lit 170, ⟨(.type "tuple"), none, .seq #[] 0, #[]⟩) ::
  (nat_lit 172, ⟨(.type "tuple"), none, .seq #[(.str (Str.ofString "self") 716), (.str (Str.ofString "name") 717)] 0, #[]⟩) ::
  (nat_lit 173, ⟨(.type "tuple"), none, .seq #[] 0, #[]⟩) ::
  (nat_lit 175, ⟨(.type "code"), none, .fields #[(.str (Str.ofString "__getitem__") 713), (.str (Str.ofString "Headers.__getitem__") 714), (.str (Str.ofString "/claim/cut.py") 715), (.int 185 0), (.int 2 0), (.int 0 0), (.int 0 0), (.int 3 0), (.ref 170), (.bool true), (.int 276 0), (.ref 171), .none, (.ref 172), (.ref 173), (.ref 174), (.int 718 0), (.int 185 0), (.str (Str.ofString "/claim/cut.py") 719)], #[]⟩) ::
  (nat_lit 176, fnO (clsSt 65 5) (Str.ofString "Headers.__getitem__") .none .none (.str (Str.ofString "cpy313.wsgiref.headers") 597) (.ref 175)) ::
  (nat_lit 177, ⟨(.type "tuple"), none, .seq #[] 0, #[]⟩) ::
  (nat_lit 179, ⟨(.type "tuple"), none, .seq #[(.str (Str.ofString "self") 724), (.str (Str.ofString "name") 725)] 0, #[]⟩) ::
  (nat_lit 180, ⟨(.type "tuple"), none, .seq #[] 0, #[]⟩) ::
  (nat_lit 182, ⟨(.type "code"), none, .fields #[(.str (Str.ofString "__contains__") 721), (.str (Str.ofString "Headers.__contains__") 722), (.str (Str.ofString "/claim/cut.py") 723), (.int 188 0), (.int 2 0), (.int 0 0), (.int 0 0), (.int 3 0), (.ref 177), (.bool true), (.int 276 0), (.ref 178), .none, (.ref 179), (.ref 180), (.ref 181), (.int 726 0), (.int 188 0), (.str (Str.ofString "/claim/cut.py") 727)], #[]⟩) ::
  (nat_lit 183, fnO (clsSt 65 6) (Str.ofString "Headers.__contains__") .none .none (.str (Str.ofString "cpy313.wsgiref.headers") 597) (.ref 182)) ::
  (nat_lit 184, ⟨(.type "tuple"), none, .seq #[] 0, #[]⟩) ::
  (nat_lit 186, ⟨(.type "tuple"), none, .seq #[(.str (Str.ofString "self") 732), (.str (Str.ofString "name") 733)] 0, #[]⟩) ::
  (nat_lit 187, ⟨(.type "tuple"), none, .seq #[] 0, #[]⟩) ::
  (nat_lit 189, ⟨(.type "code"), none, .fields #[(.str (Str.ofString "get_all") 729), (.str (Str.ofString "Headers.get_all") 730), (.str (Str.ofString "/claim/cut.py") 731), (.int 191 0), (.int 2 0), (.int 0 0), (.int 0 0), (.int 3 0), (.ref 184), (.bool true), (.int 276 0), (.ref 185), .none, (.ref 186), (.ref 187), (.ref 188), (.int 734 0), (.int 191 0), (.str (Str.ofString "/claim/cut.py") 735)], #[]⟩) ::
  (nat_lit 190, fnO (clsSt 65 7) (Str.ofString "Headers.get_all") .none .none (.str (Str.ofString "cpy313.wsgiref.headers") 597) (.ref 189)) ::
  (nat_lit 191, ⟨(.type "tuple"), none, .seq #[.none] 0, #[]⟩) ::
  (nat_lit 192, ⟨(.type "tuple"), none, .seq #[] 0, #[]⟩) ::
  (nat_lit 194, ⟨(.type "tuple"), none, .seq #[(.str (Str.ofString "self") 740), (.str (Str.ofString "name") 741), (.str (Str.ofString "default") 742), (.str (Str.ofString "k") 743), (.str (Str.ofString "v") 744)] 0, #[]⟩) ::
  (nat_lit 195, ⟨(.type "tuple"), none, .seq #[] 0, #[]⟩) ::
  (nat_lit 197, ⟨(.type "code"), none, .fields #[(.str (Str.ofString "get") 737), (.str (Str.ofString "Headers.get") 738), (.str (Str.ofString "/claim/cut.py") 739), (.int 194 0), (.int 3 0), (.int 0 0), (.int 0 0), (.int 3 0), (.ref 192), (.bool true), (.int 276 0), (.ref 193), .none, (.ref 194), (.ref 195), (.ref 196), (.int 745 0), (.int 194 0), (.str (Str.ofString "/claim/cut.py") 746)], #[]⟩) ::
  (nat_lit 198, fnO (clsSt 65 8) (Str.ofString "Headers.get") (.ref 191) .none (.str (Str.ofString "cpy313.wsgiref.headers") 597) (.ref 197)) ::
  (nat_lit 199, ⟨(.type "tuple"), none, .seq #[] 0, #[]⟩) ::
  (nat_lit 202, ⟨(.type "code"), none, .fields #[(.str (Str.ofString "keys") 748), (.str (Str.ofString "Headers.keys") 749), (.str (Str.ofString "/claim/cut.py") 750), (.int 201 0), (.int 1 0), (.int 0 0), (.int 0 0), (.int 3 0), (.ref 199), (.bool true), (.int 276 0), (.ref 200), .none, .none, .none, (.ref 201), (.int 751 0), (.int 201 0), (.str (Str.ofString "/claim/cut.py") 752)], #[]⟩) ::
  (nat_lit 203, fnO (clsSt 65 9) (Str.ofString "Headers.keys") .none .none (.str (Str.ofString "cpy313.wsgiref.headers") 597) (.ref 202)) ::
  (nat_lit 204, ⟨(.type "tuple"), none, .seq #[] 0, #[]⟩) ::
  (nat_lit 207, ⟨(.type "code"), none, .fields #[(.str (Str.ofString "values") 754), (.str (Str.ofString "Headers.values") 755), (.str (Str.ofString "/claim/cut.py") 756), (.int 204 0), (.int 1 0), (.int 0 0), (.int 0 0), (.int 3 0), (.ref 204), (.bool true), (.int 276 0), (.ref 205), .none, .none, .none, (.ref 206), (.int 757 0), (.int 204 0), (.str (Str.ofString "/claim/cut.py") 758)], #[]⟩) ::
  (nat_lit 208, fnO (clsSt 65 10) (Str.ofString "Headers.values") .none .none (.str (Str.ofString "cpy313.wsgiref.headers") 597) (.ref 207)) ::
  (nat_lit 209, ⟨(.type "tuple"), none, .seq #[] 0, #[]⟩) ::
  (nat_lit 211, ⟨(.type "tuple"), none, .seq #[(.str (Str.ofString "self") 763)] 0, #[]⟩) ::
  (nat_lit 212, ⟨(.type "tuple"), none, .seq #[] 0, #[]⟩) ::
  (nat_lit 214, ⟨(.type "code"), none, .fields #[(.str (Str.ofString "items") 760), (.str (Str.ofString "Headers.items") 761), (.str (Str.ofString "/claim/cut.py") 762), (.int 207 0), (.int 1 0), (.int 0 0), (.int 0 0), (.int 3 0), (.ref 209), (.bool true), (.int 276 0), (.ref 210), .none, (.ref 211), (.ref 212), (.ref 213), (.int 764 0), (.int 207 0), (.str (Str.ofString "/claim/cut.py") 765)], #[]⟩) ::
  (nat_lit 215, fnO (clsSt 65 11) (Str.ofString "Headers.items") .none .none (.str (Str.ofString "cpy313.wsgiref.headers") 597) (.ref 214)) ::
  (nat_lit 216, ⟨(.type "tuple"), none, .seq #[] 0, #[]⟩) ::
  (nat_lit 218, ⟨(.type "tuple"), none, .seq #[(.str (Str.ofString "self") 770)] 0, #[]⟩) ::
  (nat_lit 219, ⟨(.type "tuple"), none, .seq #[] 0, #[]⟩) ::
  (nat_lit 221, ⟨(.type "code"), none, .fields #[(.str (Str.ofString "__repr__") 767), (.str (Str.ofString "Headers.__repr__") 768), (.str (Str.ofString "/claim/cut.py") 769), (.int 210 0), (.int 1 0), (.int 0 0), (.int 0 0), (.int 3 0), (.ref 216), (.bool true), (.int 276 0), (.ref 217), .none, (.ref 218), (.ref 219), (.ref 220), (.int 771 0), (.int 210 0), (.str (Str.ofString "/claim/cut.py") 772)], #[]⟩) ::
  (nat_lit 222, fnO (clsSt 65 12) (Str.ofString "Headers.__repr__") .none .none (.str (Str.ofString "cpy313.wsgiref.headers") 597) (.ref 221)) ::
  (nat_lit 223, ⟨(.type "tuple"), none, .seq #[] 0, #[]⟩) ::
  (nat_lit 226, ⟨(.type "code"), none, .fields #[(.str (Str.ofString "__str__") 774), (.str (Str.ofString "Headers.__str__") 775), (.str (Str.ofString "/claim/cut.py") 776), (.int 213 0), (.int 1 0), (.int 0 0), (.int 0 0), (.int 3 0), (.ref 223), (.bool true), (.int 276 0), (.ref 224), .none, .none, .none, (.ref 225), (.int 777 0), (.int 213 0), (.str (Str.ofString "/claim/cut.py") 778)], #[]⟩) ::
  (nat_lit 227, fnO (clsSt 65 13) (Str.ofString "Headers.__str__") .none .none (.str (Str.ofString "cpy313.wsgiref.headers") 597) (.ref 226)) ::
  (nat_lit 228, ⟨(.type "tuple"), none, .seq #[] 0, #[]⟩) ::
  (nat_lit 230, ⟨(.type "tuple"), none, .seq #[(.str (Str.ofString "self") 783)] 0, #[]⟩) ::
  (nat_lit 231, ⟨(.type "tuple"), none, .seq #[] 0, #[]⟩) ::
  (nat_lit 233, ⟨(.type "code"), none, .fields #[(.str (Str.ofString "__bytes__") 780), (.str (Str.ofString "Headers.__bytes__") 781), (.str (Str.ofString "/claim/cut.py") 782), (.int 216 0), (.int 1 0), (.int 0 0), (.int 0 0), (.int 3 0), (.ref 228), (.bool true), (.int 276 0), (.ref 229), .none, (.ref 230), (.ref 231), (.ref 232), (.int 784 0), (.int 216 0), (.str (Str.ofString "/claim/cut.py") 785)], #[]⟩) ::
  (nat_lit 234, fnO (clsSt 65 14) (Str.ofString "Headers.__bytes__") .none .none (.str (Str.ofString "cpy313.wsgiref.headers") 597) (.ref 233)) ::
  (nat_lit 235, ⟨(.type "tuple"), none, .seq #[] 0, #[]⟩) ::
  (nat_lit 237, ⟨(.type "tuple"), none, .seq #[(.str (Str.ofString "self") 790), (.str (Str.ofString "name") 791), (.str (Str.ofString "value") 792), (.str (Str.ofString "result") 793)] 0, #[]⟩) ::
  (nat_lit 238, ⟨(.type "tuple"), none, .seq #[] 0, #[]⟩) ::
  (nat_lit 240, ⟨(.type "code"), none, .fields #[(.str (Str.ofString "setdefault") 787), (.str (Str.ofString "Headers.setdefault") 788), (.str (Str.ofString "/claim/cut.py") 789), (.int 219 0), (.int 3 0), (.int 0 0), (.int 0 0), (.int 3 0), (.ref 235), (.bool true), (.int 276 0), (.ref 236), .none, (.ref 237), (.ref 238), (.ref 239), (.int 794 0), (.int 219 0), (.str (Str.ofString "/claim/cut.py") 795)], #[]⟩) ::
  (nat_lit 241, fnO (clsSt 65 15) (Str.ofString "Headers.setdefault") .none .none (.str (Str.ofString "cpy313.wsgiref.headers") 597) (.ref 240)) ::
  (nat_lit 242, ⟨(.type "tuple"), none, .seq #[] 0, #[]⟩) ::
  (nat_lit 244, ⟨(.type "tuple"), none, .seq #[(.str (Str.ofString "self") 800), (.str (Str.ofString "_name") 801), (.str (Str.ofString "_value") 802), (.str (Str.ofString "_params") 803)] 0, #[]⟩) ::
  (nat_lit 245, ⟨(.type "tuple"), none, .seq #[] 0, #[]⟩) ::
  (nat_lit 247, ⟨(.type "code"), none, .fields #[(.str (Str.ofString "add_header") 797), (.str (Str.ofString "Headers.add_header") 798), (.str (Str.ofString "/claim/cut.py") 799), (.int 227 0), (.int 3 0), (.int 0 0), (.int 0 0), (.int 11 0), (.ref 242), (.bool true), (.int 276 0), (.ref 243), .none, (.ref 244), (.ref 245), (.ref 246), (.int 804 0), (.int 227 0), (.str (Str.ofString "/claim/cut.py") 805)], #[]⟩) ::
  (nat_lit 248, fnO (clsSt 65 16) (Str.ofString "Headers.add_header") .none .none (.str (Str.ofString "cpy313.wsgiref.headers") 597) (.ref 247)) ::
  (nat_lit 249, ⟨(.type "tuple"), none, .seq #[(.str (Str.ofString "_headers") 807)] 0, #[]⟩) ::
  (nat_lit 250, ⟨(.type "dict"), none, .dict #[⟨PyData.keyHash P (Str.ofString "__module__"), (.str (Str.ofString "__module__") 666), (.str (Str.ofString "cpy313.wsgiref.headers") 597)⟩, ⟨PyData.keyHash P (Str.ofString "__firstlineno__"), (.str (Str.ofString "__firstlineno__") 670), (.int 154 669)⟩, ⟨PyData.keyHash P (Str.ofString "__init__"), (.str (Str.ofString "__init__") 680), (.ref 143)⟩, ⟨PyData.keyHash P (Str.ofString "_convert_string_type"), (.str (Str.ofString "_convert_string_type") 690), (.ref 150)⟩, ⟨PyData.keyHash P (Str.ofString "__len__"), (.str (Str.ofString "__len__") 697), (.ref 157)⟩, ⟨PyData.keyHash P (Str.ofString "__setitem__"), (.str (Str.ofString "__setitem__") 706), (.ref 164)⟩, ⟨PyData.keyHash P (Str.ofString "__delitem__"), (.str (Str.ofString "__delitem__") 712), (.ref 169)⟩, ⟨PyData.keyHash P (Str.ofString "__getitem__"), (.str (Str.ofString "__getitem__") 720), (.ref 176)⟩, ⟨PyData.keyHash P (Str.ofString "__contains__"), (.str (Str.ofString "__contains__") 728), (.ref 183)⟩, ⟨PyData.keyHash P (Str.ofString "get_all"), (.str (Str.ofString "get_all") 736), (.ref 190)⟩, ⟨PyData.keyHash P (Str.ofString "get"), (.str (Str.ofString "get") 747), (.ref 198)⟩, ⟨PyData.keyHash P (Str.ofString "keys"), (.str (Str.ofString "keys") 753), (.ref 203)⟩, ⟨PyData.keyHash P (Str.ofString "values"), (.str (Str.ofString "values") 759), (.ref 208)⟩, ⟨PyData.keyHash P (Str.ofString "items"), (.str (Str.ofString "items") 766), (.ref 215)⟩, ⟨PyData.keyHash P (Str.ofString "__repr__"), (.str (Str.ofString "__repr__") 773), (.ref 222)⟩, ⟨PyData.keyHash P (Str.ofString "__str__"), (.str (Str.ofString "__str__") 779), (.ref 227)⟩, ⟨PyData.keyHash P (Str.ofString "__bytes__"), (.str (Str.ofString "__bytes__") 786), (.ref 234)⟩, ⟨PyData.keyHash P (Str.ofString "setdefault"), (.str (Str.ofString "setdefault") 796), (.ref 241)⟩, ⟨PyData.keyHash P (Str.ofString "add_header"), (.str (Str.ofString "add_header") 806), (.ref 248)⟩, ⟨PyData.keyHash P (Str.ofString "__static_attributes__"), (.str (Str.ofString "__static_attributes__") 808), (.ref 249)⟩, ⟨PyData.keyHash P (Str.ofString "__dict__"), (.str (Str.ofString "__dict__") 810), (.ref 252)⟩, ⟨PyData.keyHash P (Str.ofString "__weakref__"), (.str (Str.ofString "__weakref__") 812), (.ref 253)⟩, ⟨PyData.keyHash P (Str.ofString "__doc__"), (.str (Str.ofString "__doc__") 813), .none⟩] 4, #[]⟩) ::
  (nat_lit 251, ⟨(.type "type"), none, .cls ⟨(Str.ofString "Headers"), [(.type "object")], [(.ref 251), (.type "object")], 250, (Str.ofString "Headers"), true, [], [], false, none, false⟩, #[none, none, (some (.str (Str.ofString "Headers") 659)), (some (.str (Str.ofString "Headers") 667)), (some (.builtin "object.__new__")), (some (.bool true))]⟩) ::
  (nat_lit 252, ⟨(.type "getset_descriptor"), none, .fields #[(.str (Str.ofString "__dict__") 809), (.ref 251), (.builtin "function.__dict__"), (.builtin "function.__dict__#set")], #[]⟩) ::
  (nat_lit 253, ⟨(.type "getset_descriptor"), none, .fields #[(.str (Str.ofString "__weakref__") 811), (.ref 251), (.builtin "ExceptionGroup.__weakref__"), .none], #[]⟩) ::
  (nat_lit 256, ⟨(.type "tuple"), none, .seq #[] 0, #[]⟩) ::
  (nat_lit 258, ⟨(.type "tuple"), none, .seq #[(.str (Str.ofString "digits") 821), (.str (Str.ofString "size") 822), (.str (Str.ofString "digit") 823), (.str (Str.ofString "left") 824), (.str (Str.ofString "one") 825)] 0, #[]⟩) ::
  (nat_lit 259, ⟨(.type "tuple"), none, .seq #[] 0, #[]⟩) ::
  (nat_lit 261, ⟨(.type "code"), none, .fields #[(.str (Str.ofString "_law_tree") 818), (.str (Str.ofString "_law_tree") 819), (.str (Str.ofString "/claim/cut.py") 820), (.int 230 0), (.int 2 0), (.int 0 0), (.int 0 0), (.int 3 0), (.ref 256), (.bool true), (.int 276 0), (.ref 257), .none, (.ref 258), (.ref 259), (.ref 260), (.int 826 0), (.int 230 0), (.str (Str.ofString "/claim/cut.py") 827)], #[]⟩) ::
  (nat_lit 262, fnO (topSt 67) (Str.ofString "_law_tree") .none .none (.str (Str.ofString "law_sh0064_01") 816) (.ref 261)) ::
  (nat_lit 263, ⟨(.type "tuple"), none, .seq #[] 0, #[]⟩) ::
  (nat_lit 265, ⟨(.type "tuple"), none, .seq #[(.str (Str.ofString "tree") 832)] 0, #[]⟩) ::
  (nat_lit 266, ⟨(.type "tuple"), none, .seq #[] 0, #[]⟩) ::
  (nat_lit 268, ⟨(.type "code"), none, .fields #[(.str (Str.ofString "_law_text") 829), (.str (Str.ofString "_law_text") 830), (.str (Str.ofString "/claim/cut.py") 831), (.int 237 0), (.int 1 0), (.int 0 0), (.int 0 0), (.int 3 0), (.ref 263), (.bool true), (.int 276 0), (.ref 264), .none, (.ref 265), (.ref 266), (.ref 267), (.int 833 0), (.int 237 0), (.str (Str.ofString "/claim/cut.py") 834)], #[]⟩) ::
  (nat_lit 269, fnO (topSt 68) (Str.ofString "_law_text") .none .none (.str (Str.ofString "law_sh0064_01") 816) (.ref 268)) ::
  (nat_lit 270, ⟨(.type "tuple"), none, .seq #[] 0, #[]⟩) ::
  (nat_lit 272, ⟨(.type "tuple"), none, .seq #[(.str (Str.ofString "text") 839), (.str (Str.ofString "number") 840), (.str (Str.ofString "place") 841), (.str (Str.ofString "remark") 842)] 0, #[]⟩) ::
  (nat_lit 273, ⟨(.type "tuple"), none, .seq #[] 0, #[]⟩) ::
  (nat_lit 275, ⟨(.type "code"), none, .fields #[(.str (Str.ofString "_law_mark") 836), (.str (Str.ofString "_law_mark") 837), (.str (Str.ofString "/claim/cut.py") 838), (.int 239 0), (.int 2 0), (.int 0 0), (.int 0 0), (.int 3 0), (.ref 270), (.bool true), (.int 276 0), (.ref 271), .none, (.ref 272), (.ref 273), (.ref 274), (.int 843 0), (.int 239 0), (.str (Str.ofString "/claim/cut.py") 844)], #[]⟩) ::
  (nat_lit 276, fnO (topSt 69) (Str.ofString "_law_mark") .none .none (.str (Str.ofString "law_sh0064_01") 816) (.ref 275)) ::
  (nat_lit 277, ⟨(.type "tuple"), none, .seq #[] 0, #[]⟩) ::
  (nat_lit 280, ⟨(.type "code"), none, .fields #[(.str (Str.ofString "_law_dress") 846), (.str (Str.ofString "_law_dress") 847), (.str (Str.ofString "/claim/cut.py") 848), (.int 243 0), (.int 2 0), (.int 0 0), (.int 0 0), (.int 3 0), (.ref 277), (.bool true), (.int 276 0), (.ref 278), .none, .none, .none, (.ref 279), (.int 849 0), (.int 243 0), (.str (Str.ofString "/claim/cut.py") 850)], #[]⟩) ::
  (nat_lit 281, fnO (topSt 70) (Str.ofString "_law_dress") .none .none (.str (Str.ofString "law_sh0064_01") 816) (.ref 280)) ::
  (nat_lit 282, ⟨(.type "tuple"), none, .seq #[] 0, #[]⟩) ::
  (nat_lit 284, ⟨(.type "tuple"), none, .seq #[(.str (Str.ofString "text") 855), (.str (Str.ofString "stream") 856)] 0, #[]⟩) ::
  (nat_lit 285, ⟨(.type "tuple"), none, .seq #[(.str (Str.ofString "rest") 857)] 0, #[]⟩) ::
  (nat_lit 287, ⟨(.type "code"), none, .fields #[(.str (Str.ofString "_law_lexer") 852), (.str (Str.ofString "_law_lexer") 853), (.str (Str.ofString "/claim/cut.py") 854), (.int 247 0), (.int 1 0), (.int 0 0), (.int 0 0), (.int 3 0), (.ref 282), (.bool true), (.int 276 0), (.ref 283), .none, (.ref 284), (.ref 285), (.ref 286), (.int 858 0), (.int 247 0), (.str (Str.ofString "/claim/cut.py") 859)], #[]⟩) ::
  (nat_lit 288, fnO (topSt 71) (Str.ofString "_law_lexer") .none .none (.str (Str.ofString "law_sh0064_01") 816) (.ref 287)) ::
  (nat_lit 289, ⟨(.type "tuple"), none, .seq #[] 0, #[]⟩) ::
  (nat_lit 291, ⟨(.type "tuple"), none, .seq #[(.str (Str.ofString "lexer") 864), (.str (Str.ofString "table") 865), (.str (Str.ofString "asked") 866), (.str (Str.ofString "word") 867), (.str (Str.ofString "low") 868), (.str (Str.ofString "high") 869), (.str (Str.ofString "name") 870)] 0, #[]⟩) ::
  (nat_lit 292, ⟨(.type "tuple"), none, .seq #[] 0, #[]⟩) ::
  (nat_lit 294, ⟨(.type "code"), none, .fields #[(.str (Str.ofString "_law_read") 861), (.str (Str.ofString "_law_read") 862), (.str (Str.ofString "/claim/cut.py") 863), (.int 252 0), (.int 2 0), (.int 0 0), (.int 0 0), (.int 3 0), (.ref 289), (.bool true), (.int 276 0), (.ref 290), .none, (.ref 291), (.ref 292), (.ref 293), (.int 871 0), (.int 252 0), (.str (Str.ofString "/claim/cut.py") 872)], #[]⟩) ::
  (nat_lit 295, fnO (topSt 72) (Str.ofString "_law_read") .none .none (.str (Str.ofString "law_sh0064_01") 816) (.ref 294)) ::
  (nat_lit 296, ⟨(.type "tuple"), none, .seq #[] 0, #[]⟩) ::
  (nat_lit 298, ⟨(.type "tuple"), none, .seq #[(.str (Str.ofString "formula") 877), (.str (Str.ofString "inner") 878), (.str (Str.ofString "k") 879), (.str (Str.ofString "kind") 880)] 0, #[]⟩) ::
  (nat_lit 299, ⟨(.type "tuple"), none, .seq #[] 0, #[]⟩) ::
  (nat_lit 301, ⟨(.type "code"), none, .fields #[(.str (Str.ofString "_law_split") 874), (.str (Str.ofString "_law_split") 875), (.str (Str.ofString "/claim/cut.py") 876), (.int 263 0), (.int 1 0), (.int 0 0), (.int 0 0), (.int 3 0), (.ref 296), (.bool true), (.int 276 0), (.ref 297), .none, (.ref 298), (.ref 299), (.ref 300), (.int 881 0), (.int 263 0), (.str (Str.ofString "/claim/cut.py") 882)], #[]⟩) ::
  (nat_lit 302, fnO (topSt 73) (Str.ofString "_law_split") .none .none (.str (Str.ofString "law_sh0064_01") 816) (.ref 301)) ::
  (nat_lit 303, ⟨(.type "tuple"), none, .seq #[] 0, #[]⟩) ::
  (nat_lit 305, ⟨(.type "tuple"), none, .seq #[(.str (Str.ofString "low") 887), (.str (Str.ofString "high") 888), (.str (Str.ofString "formula") 889), (.str (Str.ofString "table") 890), (.str (Str.ofString "line") 891), (.str (Str.ofString "kind") 892), (.str (Str.ofString "left") 893), (.str (Str.ofString "right") 894), (.str (Str.ofString "told") 895)] 0, #[]⟩) ::
  (nat_lit 306, ⟨(.type "tuple"), none, .seq #[] 0, #[]⟩) ::
  (nat_lit 308, ⟨(.type "code"), none, .fields #[(.str (Str.ofString "_law_play") 884), (.str (Str.ofString "_law_play") 885), (.str (Str.ofString "/claim/cut.py") 886), (.int 269 0), (.int 5 0), (.int 0 0), (.int 0 0), (.int 3 0), (.ref 303), (.bool true), (.int 276 0), (.ref 304), .none, (.ref 305), (.ref 306), (.ref 307), (.int 896 0), (.int 269 0), (.str (Str.ofString "/claim/cut.py") 897)], #[]⟩) ::
  (nat_lit 309, fnO (topSt 74) (Str.ofString "_law_play") .none .none (.str (Str.ofString "law_sh0064_01") 816) (.ref 308)) ::
  (nat_lit 310, ⟨(.type "tuple"), none, .seq #[] 0, #[]⟩) ::
  (nat_lit 312, ⟨(.type "tuple"), none, .seq #[(.str (Str.ofString "lexer") 902), (.str (Str.ofString "words") 903), (.str (Str.ofString "word") 904)] 0, #[]⟩) ::
  (nat_lit 313, ⟨(.type "tuple"), none, .seq #[] 0, #[]⟩) ::
  (nat_lit 315, ⟨(.type "code"), none, .fields #[(.str (Str.ofString "_law_line") 899), (.str (Str.ofString "_law_line") 900), (.str (Str.ofString "/claim/cut.py") 901), (.int 278 0), (.int 1 0), (.int 0 0), (.int 0 0), (.int 3 0), (.ref 310), (.bool true), (.int 276 0), (.ref 311), .none, (.ref 312), (.ref 313), (.ref 314), (.int 905 0), (.int 278 0), (.str (Str.ofString "/claim/cut.py") 906)], #[]⟩) ::
  (nat_lit 316, fnO (topSt 75) (Str.ofString "_law_line") .none .none (.str (Str.ofString "law_sh0064_01") 816) (.ref 315)) ::
  (nat_lit 317, ⟨(.type "tuple"), none, .seq #[] 0, #[]⟩) ::
  (nat_lit 319, ⟨(.type "tuple"), none, .seq #[(.str (Str.ofString "tree") 911), (.str (Str.ofString "known") 912), (.str (Str.ofString "one") 913), (.str (Str.ofString "two") 914)] 0, #[]⟩) ::
  (nat_lit 320, ⟨(.type "tuple"), none, .seq #[] 0, #[]⟩) ::
  (nat_lit 322, ⟨(.type "code"), none, .fields #[(.str (Str.ofString "_law_worth") 908), (.str (Str.ofString "_law_worth") 909), (.str (Str.ofString "/claim/cut.py") 910), (.int 285 0), (.int 2 0), (.int 0 0), (.int 0 0), (.int 3 0), (.ref 317), (.bool true), (.int 276 0), (.ref 318), .none, (.ref 319), (.ref 320), (.ref 321), (.int 915 0), (.int 285 0), (.str (Str.ofString "/claim/cut.py") 916)], #[]⟩) ::
  (nat_lit 323, fnO (topSt 76) (Str.ofString "_law_worth") .none .none (.str (Str.ofString "law_sh0064_01") 816) (.ref 322)) ::
  (nat_lit 324, ⟨(.type "tuple"), none, .seq #[] 0, #[]⟩) ::
  (nat_lit 326, ⟨(.type "tuple"), none, .seq #[(.str (Str.ofString "tree") 921), (.str (Str.ofString "lows") 922), (.str (Str.ofString "highs") 923), (.str (Str.ofString "known") 924), (.str (Str.ofString "worth") 925), (.str (Str.ofString "words") 926)] 0, #[]⟩) ::
  (nat_lit 327, ⟨(.type "tuple"), none, .seq #[] 0, #[]⟩) ::
  (nat_lit 329, ⟨(.type "code"), none, .fields #[(.str (Str.ofString "_law_ways") 918), (.str (Str.ofString "_law_ways") 919), (.str (Str.ofString "/claim/cut.py") 920), (.int 290 0), (.int 4 0), (.int 0 0), (.int 0 0), (.int 3 0), (.ref 324), (.bool true), (.int 276 0), (.ref 325), .none, (.ref 326), (.ref 327), (.ref 328), (.int 927 0), (.int 290 0), (.str (Str.ofString "/claim/cut.py") 928)], #[]⟩) ::
  (nat_lit 330, fnO (topSt 77) (Str.ofString "_law_ways") .none .none (.str (Str.ofString "law_sh0064_01") 816) (.ref 329)) ::
  (nat_lit 331, ⟨(.type "tuple"), none, .seq #[] 0, #[]⟩) ::
  (nat_lit 334, ⟨(.type "code"), none, .fields #[(.str (Str.ofString "law") 930), (.str (Str.ofString "law") 931), (.str (Str.ofString "/claim/cut.py") 932), (.int 298 0), (.int 1 0), (.int 0 0), (.int 0 0), (.int 3 0), (.ref 331), (.bool true), (.int 276 0), (.ref 332), .none, .none, .none, (.ref 333), (.int 933 0), (.int 298 0), (.str (Str.ofString "/claim/cut.py") 934)], #[]⟩) ::
  (nat_lit 335, fnO (topSt 78) (Str.ofString "law") .none .none (.str (Str.ofString "law_sh0064_01") 816) (.ref 334)) :: []
noncomputable def addrs : List Addr := [nat_lit 2, nat_lit 3, nat_lit 32, nat_lit 34, nat_lit 35, nat_lit 37, nat_lit 38, nat_lit 39, nat_lit 42, nat_lit 44, nat_lit 45, nat_lit 47, nat_lit 48, nat_lit 49, nat_lit 51, nat_lit 52, nat_lit 54, nat_lit 55, nat_lit 56, nat_lit 58, nat_lit 59, nat_lit 61, nat_lit 62, nat_lit 63, nat_lit 65, nat_lit 66, nat_lit 68, nat_lit 69, nat_lit 70, nat_lit 72, nat_lit 73, nat_lit 75, nat_lit 76, nat_lit 84, nat_lit 86, nat_lit 87, nat_lit 89, nat_lit 90, nat_lit 91, nat_lit 93, nat_lit 94, nat_lit 96, nat_lit 97, nat_lit 98, nat_lit 100, nat_lit 101, nat_lit 103, nat_lit 104, nat_lit 105, nat_lit 107, nat_lit 108, nat_lit 110, nat_lit 111, nat_lit 112, nat_lit 113, nat_lit 114, nat_lit 115, nat_lit 116, nat_lit 122, nat_lit 123, nat_lit 127, nat_lit 128, nat_lit 136, nat_lit 137, nat_lit 139, nat_lit 140, nat_lit 142, nat_lit 143, nat_lit 144, nat_lit 146, nat_lit 147, nat_lit 149, nat_lit 150, nat_lit 151, nat_lit 153, nat_lit 154, nat_lit 156, nat_lit 157, nat_lit 158, nat_lit 160, nat_lit 161, nat_lit 163, nat_lit 164, nat_lit 165, nat_lit 168, nat_lit 169, nat_lit 170, nat_lit 172, nat_lit 173, nat_lit 175, nat_lit 176, nat_lit 177, nat_lit 179, nat_lit 180, nat_lit 182, nat_lit 183, nat_lit 184, nat_lit 186, nat_lit 187, nat_lit 189, nat_lit 190, nat_lit 191, nat_lit 192, nat_lit 194, nat_lit 195, nat_lit 197, nat_lit 198, nat_lit 199, nat_lit 202, nat_lit 203, nat_lit 204, nat_lit 207, nat_lit 208, nat_lit 209, nat_lit 211, nat_lit 212, nat_lit 214, nat_lit 215, nat_lit 216, nat_lit 218, nat_lit 219, nat_lit 221, nat_lit 222, nat_lit 223, nat_lit 226, nat_lit 227, nat_lit 228, nat_lit 230, nat_lit 231, nat_lit 233, nat_lit 234, nat_lit 235, nat_lit 237, nat_lit 238, nat_lit 240, nat_lit 241, nat_lit 242, nat_lit 244, nat_lit 245, nat_lit 247, nat_lit 248, nat_lit 249, nat_lit 250, nat_lit 251, nat_lit 252, nat_lit 253, nat_lit 256, nat_lit 258, nat_lit 259, nat_lit 261, nat_lit 262, nat_lit 263, nat_lit 265, nat_lit 266, nat_lit 268, nat_lit 269, nat_lit 270, nat_lit 272, nat_lit 273, nat_lit 275, nat_lit 276, nat_lit 277, nat_lit 280, nat_lit 281, nat_lit 282, nat_lit 284, nat_lit 285, nat_lit 287, nat_lit 288, nat_lit 289, nat_lit 291, nat_lit 292, nat_lit 294, nat_lit 295, nat_lit 296, nat_lit 298, nat_lit 299, nat_lit 301, nat_lit 302, nat_lit 303, nat_lit 305, nat_lit 306, nat_lit 308, nat_lit 309, nat_lit 310, nat_lit 312, nat_lit 313, nat_lit 315, nat_lit 316, nat_lit 317, nat_lit 319, nat_lit 320, nat_lit 322, nat_lit 323, nat_lit 324, nat_lit 326, nat_lit 327, nat_lit 329, nat_lit 330, nat_lit 331, nat_lit 334, nat_lit 335]
noncomputable def q : Program := view pr [78]
noncomputable def loose : List Str := [Str.ofString "_sre", Str.ofString "_wall", Str.ofString "LPAR", Str.ofString "RPAR", Str.ofString "LSQB", Str.ofString "RSQB", Str.ofString "COLON", Str.ofString "COMMA", Str.ofString "SEMI", Str.ofString "PLUS", Str.ofString "MINUS", Str.ofString "STAR", Str.ofString "SLASH", Str.ofString "VBAR", Str.ofString "AMPER", Str.ofString "LESS", Str.ofString "GREATER", Str.ofString "EQUAL", Str.ofString "DOT", Str.ofString "PERCENT", Str.ofString "LBRACE", Str.ofString "RBRACE", Str.ofString "EQEQUAL", Str.ofString "NOTEQUAL", Str.ofString "LESSEQUAL", Str.ofString "GREATEREQUAL", Str.ofString "TILDE", Str.ofString "CIRCUMFLEX", Str.ofString "LEFTSHIFT", Str.ofString "RIGHTSHIFT", Str.ofString "DOUBLESTAR", Str.ofString "PLUSEQUAL", Str.ofString "MINEQUAL", Str.ofString "STAREQUAL", Str.ofString "SLASHEQUAL", Str.ofString "PERCENTEQUAL", Str.ofString "AMPEREQUAL", Str.ofString "VBAREQUAL", Str.ofString "CIRCUMFLEXEQUAL", Str.ofString "LEFTSHIFTEQUAL", Str.ofString "RIGHTSHIFTEQUAL", Str.ofString "DOUBLESTAREQUAL", Str.ofString "DOUBLESLASH", Str.ofString "DOUBLESLASHEQUAL", Str.ofString "AT", Str.ofString "ATEQUAL", Str.ofString "RARROW", Str.ofString "ELLIPSIS", Str.ofString "COLONEQUAL", Str.ofString "EXCLAMATION", Str.ofString "NT_OFFSET", Str.ofString "EXACT_TOKEN_TYPES", Str.ofString "ISTERMINAL", Str.ofString "TICK", Str.ofString "_iter_escaped_chars", Str.ofString "_strip_quoted_realnames", Str.ofString "_check_parenthesis", Str.ofString "decode_rfc2231", Str.ofString "_netrclex", Str.ofString "_name_disallowed_re", Str.ofString "_value_disallowed_re", Str.ofString "Headers", Str.ofString "_law_tree", Str.ofString "_law_text", Str.ofString "_law_mark", Str.ofString "_law_dress", Str.ofString "_law_lexer", Str.ofString "_law_read", Str.ofString "_law_split", Str.ofString "_law_play", Str.ofString "_law_line", Str.ofString "_law_worth", Str.ofString "_law_ways"]
theorem addrs_ok (P : Params) : addrs = (heap P).map (·.1) := by kernel_rfl
noncomputable abbrev H : Hook := kmHook heap addrs addrs_ok [283]
end
section
open PySem PySem.W PyProof.Rows
/-- the objects laid into a tree, each looked up again -/
noncomputable def treeOf : List Obj → Nat → BT → Option BT
  | [], _, t => some t
  | o :: r, n, t => match ((t.ins n o).get n).isSome with
    | true => treeOf r (n + 1) (t.ins n o)
    | false => none
theorem treeOf_abs (life : Life) : ∀ (l : List Obj) (n : Nat) (t t' : BT), treeOf l n t = some t' → absHeap t' (n + l.length) life = ⟨(absHeap t n life).objs ++ l.toArray, life⟩
  | [], n, t, t', h => by
    cases h
    show absHeap t n life = _
    simp only [Array.append_empty]
    rfl
  | o :: r, n, t, t', h => by
    unfold treeOf at h
    cases e : ((t.ins n o).get n).isSome with
    | false => rw [e] at h; cases h
    | true =>
      rw [e] at h
      have := treeOf_abs life r (n + 1) (t.ins n o) t' h
      rw [show n + (o :: r).length = n + 1 + r.length by simp only [List.length_cons]; omega, this, absHeap_ins e]
      show Heap.mk _ _ = Heap.mk _ _
      congr 1
      show ((absHeap t n life).objs.push o) ++ r.toArray = (absHeap t n life).objs ++ (o :: r).toArray
      simp
noncomputable def liftT (s : Shared) : Option SharedT := (treeOf s.heap.objs.toList 0 .nil).map fun t => ⟨t, s.heap.objs.size, s.heap.life, s.gens, s.drawn, s.toks, s.os⟩
theorem liftT_abs {s : Shared} {s' : SharedT} (h : liftT s = some s') : s'.abs = s := by
  unfold liftT at h
  obtain ⟨t, h1, h2⟩ := Option.map_eq_some_iff.mp h
  subst h2
  have := treeOf_abs s.heap.life _ 0 .nil t h1
  obtain ⟨⟨objs, life⟩, gens, drawn, toks, os⟩ := s
  show Shared.mk (absHeap t objs.size life) _ _ _ _ = _
  congr 1
  rw [show objs.size = 0 + objs.toList.length by simp, this]
  show Heap.mk _ _ = Heap.mk _ _
  congr 1
  show (absHeap .nil 0 life).objs ++ objs.toList.toArray = objs
  have h0 : (absHeap .nil 0 life).objs = #[] := Array.eq_empty_of_size_eq_zero (absHeap_size _ _ _)
  rw [h0]
  simp
noncomputable def goT (stp : SharedT → Thread → Option (SharedT × Thread)) (ok : Thread → Bool) (n : Nat) : SharedT → Thread → Option SharedT :=
  @Nat.rec (fun _ => SharedT → Thread → Option SharedT) (fun _ _ => none)
    (fun _ ih s t => @Bool.rec (fun _ => Option SharedT) (@Bool.rec (fun _ => Option SharedT) none (@Option.rec (SharedT × Thread) (fun _ => Option SharedT) none (fun x => ih x.1 x.2) (stp s t)) (ok t)) (some s) (through t)) n
theorem goT_run {tb : String → Option Builtin} {p : Program} {w : World} {n₀ : Nat} {ann : Option Value} : ∀ {n : Nat} {s s' : SharedT} {t : Thread}, goT (stepT (denote tb) p w) (stepOk n₀ ann) n s t = some s' → topRun tb p w n₀ ann n s.abs t = some s'.abs
  | 0, _, _, _, h => by cases h
  | n + 1, s, s', t, h => by
    have h' : @Bool.rec (fun _ => Option SharedT) (@Bool.rec (fun _ => Option SharedT) none (@Option.rec (SharedT × Thread) (fun _ => Option SharedT) none (fun x => goT (stepT (denote tb) p w) (stepOk n₀ ann) n x.1 x.2) (stepT (denote tb) p w s t)) (stepOk n₀ ann t)) (some s) (through t) = some s' := h
    unfold topRun
    cases he : through t with
    | true => rw [he] at h'; cases h'; rfl
    | false =>
      rw [he] at h'
      cases hk : stepOk n₀ ann t with
      | false => rw [hk] at h'; cases h'
      | true =>
        rw [hk] at h'
        cases hs : stepT (denote tb) p w s t with
        | none => rw [hs] at h'; cases h'
        | some r =>
          obtain ⟨s₂, t₂⟩ := r
          rw [hs] at h'
          dsimp only
          rw [stepT_spec hs]
          exact goT_run h'
/-- the heap laid out as a plain list, its cells built before they are used -/
noncomputable def listC {β : Type} (t : BT) (n : Nat) : List Obj → (List Obj → β) → β :=
  @Nat.rec (fun _ => List Obj → (List Obj → β) → β) (fun acc k => k acc) (fun i ih acc k => ih ((t.get i).getD default :: acc) k) n
theorem listC_eq {β : Type} (t : BT) : ∀ (n : Nat) (acc : List Obj) (k : List Obj → β), listC t n acc k = k (t.list n ++ acc)
  | 0, acc, k => rfl
  | n + 1, acc, k => by
    show listC t n ((t.get n).getD default :: acc) k = _
    rw [listC_eq t n]
    unfold BT.list
    rw [List.range_succ, List.map_append, List.append_assoc]
    rfl
noncomputable def flat {β : Type} (s : SharedT) (k : Shared → β) : β := listC s.tree s.n [] fun l => k ⟨⟨l.toArray, s.life⟩, s.gens, s.drawn, s.toks, s.os⟩
theorem flat_eq {β : Type} (s : SharedT) (k : Shared → β) : flat s k = k s.abs := by
  unfold flat
  rw [listC_eq, List.append_nil]
  rfl
noncomputable def getT (s : SharedT) (a : Addr) : Option Obj := match Nat.blt a s.n with
  | true => alive ((s.tree.get a).getD default)
  | false => none
theorem getT_eq (s : SharedT) (a : Addr) : s.abs.heap.get? a = getT s a := by
  obtain ⟨T, n, life, gens, drawn, toks, os⟩ := s
  show (absHeap T n life).get? a = match Nat.blt a n with | true => alive ((T.get a).getD default) | false => none
  cases e : Nat.blt a n with
  | false => exact abs_get_none fun q => by rw [show Nat.blt a n = true from Nat.ble_eq_true_of_le q] at e; cases e
  | true =>
    have lt : a < n := Nat.le_of_ble_eq_true e
    unfold Heap.get?
    rw [absHeap_at, if_pos lt]
    show (match some ((T.get a).getD default) with | some ⟨_, _, .freed, _⟩ => none | o => o) = alive _
    generalize (T.get a).getD default = o
    obtain ⟨c, d, dt, sl⟩ := o
    cases dt <;> rfl
noncomputable def topFromT {β : Type} (stp : SharedT → Thread → Option (SharedT × Thread)) (okk : Nat → Option Value → Thread → Bool) (p : Program) (N : Nat) (K : SharedT → Shared → β) (s₀ : Shared) : Option β :=
  match s₀.heap.isNs mainGlobals && s₀.gens.size == 0 with
  | true => (liftT s₀).bind fun sT => (goT stp (okk s₀.heap.objs.size (s₀.heap.nsMap mainGlobals "__annotations__")) N sT (topStub p)).bind fun sT' => flat sT' fun s₁ =>
      match staticsOk (importedModules p.main.body) s₀.heap s₁.heap && namesBound p s₁.heap && gensDone s₁ && laidKept s₀.heap s₁.heap with
      | true => some (K sT' s₁)
      | false => none
  | false => none
theorem topFromT_run {β : Type} {tb : String → Option Builtin} {p : Program} {w : World} {N : Nat} {K : SharedT → Shared → β} {s₀ : Shared} {y : β} (h : topFromT (stepT (denote tb) p w) stepOk p N K s₀ = some y) : ∃ sT : SharedT, topFrom tb p w N s₀ = some sT.abs ∧ K sT sT.abs = y := by
  unfold topFromT at h
  unfold topFrom
  cases e : s₀.heap.isNs mainGlobals && s₀.gens.size == 0 with
  | false => rw [e] at h; cases h
  | true =>
    rw [e] at h
    obtain ⟨sT, h1, h2⟩ := Option.bind_eq_some_iff.mp h
    obtain ⟨sT', h3, h4⟩ := Option.bind_eq_some_iff.mp h2
    rw [flat_eq] at h4
    have h5 := goT_run h3
    rw [liftT_abs h1] at h5
    refine ⟨sT', Option.bind_eq_some_iff.mpr ⟨_, h5, ?_⟩, ?_⟩
    · revert h4
      generalize (staticsOk (importedModules p.main.body) s₀.heap sT'.abs.heap && namesBound p sT'.abs.heap && gensDone sT'.abs && laidKept s₀.heap sT'.abs.heap) = b
      cases b
      · intro h4; cases h4
      · intro _; rfl
    · revert h4
      generalize (staticsOk (importedModules p.main.body) s₀.heap sT'.abs.heap && namesBound p sT'.abs.heap && gensDone sT'.abs && laidKept s₀.heap sT'.abs.heap) = b
      cases b
      · intro h4; cases h4
      · intro h4; exact Option.some.inj h4
theorem left_of_tree {tb : String → Option Builtin} {p : Program} {w : World} {N : Nat} {α : Type} {F : Shared → α} {as ts : List Addr} {y : α} {z : List (Option Obj) × List (Option Obj)}
    (h : (fencedOpening tb p w N).bind (topFromT (stepT (denote tb) p w) stepOk p N fun sT s => (F s, as.map (getT sT), ts.map (getT sT))) = some (y, z)) :
    (openEnds tb p w N).map (fun s => (F s, as.map s.heap.get?, ts.map s.heap.get?)) = some (y, z) := by
  obtain ⟨s₀, h3, h4⟩ := Option.bind_eq_some_iff.mp h
  obtain ⟨sT, h5, h6⟩ := topFromT_run h4
  refine Option.map_eq_some_iff.mpr ⟨_, Option.bind_eq_some_iff.mpr ⟨s₀, h3, h5⟩, ?_⟩
  have e : sT.abs.heap.get? = getT sT := funext (getT_eq sT)
  show (F sT.abs, as.map sT.abs.heap.get?, ts.map sT.abs.heap.get?) = _
  rw [e]
  exact h6
end
section
open PySem PySem.W PyProof.Rows
set_option maxRecDepth 1000000
set_option maxHeartbeats 0
noncomputable abbrev RO : OpenRow := PySem.Challenge.rw_sh0064_01.row
theorem said : PySem.Challenge.rw_sh0064_01.wellSaid = true := by
  rw [Fast.te9446332074065402090]
  kernel_rfl
theorem left_f (w : World) : (openEnds treeTable pr (w.withFollow "special-get-raises" false) 6600).map (fun s => (openSeen q loose (importedModules pr.main.body) (fun s => xlAt q [] s && recOk (RowW.records RO.toRowW) s) true s, Hook.obs H s)) = some (openGood q loose, Hook.val H (w.withFollow "special-get-raises" false)) := by
  refine left_of_tree ?_
  unfold fencedOpening topFromT
  rw [Fast.te14364793385576792824, Fast.te10274390034422433532, Fast.te1435165496053646825, Fast.te14289696077712309145, Fast.te10156331382660048174, Fast.te6613529449190102663, Fast.te11892475500146522536, Fast.te8920871248978507458, Fast.te5923862056798008813, Fast.te4187177175401517315]
  kernel_rfl
theorem left_t (w : World) : (openEnds treeTable pr (w.withFollow "special-get-raises" true) 6600).map (fun s => (openSeen q loose (importedModules pr.main.body) (fun s => xlAt q [] s && recOk (RowW.records RO.toRowW) s) true s, Hook.obs H s)) = some (openGood q loose, Hook.val H (w.withFollow "special-get-raises" true)) := by
  refine left_of_tree ?_
  unfold fencedOpening topFromT
  rw [Fast.te14364793385576792824, Fast.te10274390034422433532, Fast.te1435165496053646825, Fast.te14289696077712309145, Fast.te10156331382660048174, Fast.te6613529449190102663, Fast.te11892475500146522536, Fast.te8920871248978507458, Fast.te5923862056798008813, Fast.te4187177175401517315]
  kernel_rfl
theorem left_ok : LeftO pr q loose (fun s => xlAt q [] s && recOk (RowW.records RO.toRowW) s) (Hook.obs H) (Hook.val H) 6600 := byRow2 "special-get-raises" left_f left_t
theorem lawIn : ∃ d, defOf q (Str.ofString "law") = some (d, []) ∧ True := by
  exact ⟨_, by rfl, trivial⟩
end
section
local macro_rules | `(tactic| omega) => `(tactic| lia)
open PySem PySem.W PyProof.Rows PySem.Spec PySem.Calls
/-- what a call does, in any frame: from the ledger `news` to R -/
noncomputable def Fn (w : World) (t : Sem Value) (d u : Nat) (news : List (Addr × Obj)) (R : Value → List (Addr × Obj) → Prop) : Prop :=
  ∀ (dp un : Nat) (gd : Option (List Code)) (cn : Str) (cs : Scope) (a : Addr) (ccd : Value) (cl : List (Str × Addr)) (outer : List Env) (A₀ : Around) (base h₀ : Heap) (L : Addr) (m : Str → Option Value) (s : Shared)
    (p : Program) (loose : List Str) (mean : ExcName → Option Value) (mg mb : Str → Option Value) (Q E : Value → Shared → Prop),
    Below A₀ base outer h₀ → Fr h₀ L s.heap m → (heap w.params).In h₀ → News h₀ L s.heap news → Top p loose mean mg mb h₀ → cs.kind = .function → AllBare s.gens → dp + d < recursionLimit → un + u < cLine →
    (∀ r news' h' g' tk', Fr h₀ L h' m → News h₀ L h' news' → AllBare g' → R r news' → Q r ⟨h', g', s.drawn, tk', s.os⟩) →
    wpAny (model PySem.Challenge.rw_sh0064_01.prog w) (ktrTop dp un gd cn cs L a ccd cl outer) t Q E s
theorem fn_use {w : World} {t : Sem Value} {d u : Nat} {news : List (Addr × Obj)} {R : Value → List (Addr × Obj) → Prop} (C : Fn w t d u news R)
    {dp un : Nat} {gd : Option (List Code)} {cn : Str} {cs : Scope} {a : Addr} {ccd : Value} {cl : List (Str × Addr)} {outer : List Env} {A₀ : Around} {base h₀ : Heap} {L : Addr} {m : Str → Option Value} {s : Shared}
    {p : Program} {loose : List Str} {mean : ExcName → Option Value} {mg mb : Str → Option Value} {Q E : Value → Shared → Prop}
    (B : Below A₀ base outer h₀) (F : Fr h₀ L s.heap m) (X : (heap w.params).In h₀) (N : News h₀ L s.heap news) (T : Top p loose mean mg mb h₀) (hk : cs.kind = .function) (hG : AllBare s.gens) (hd : dp + d < recursionLimit) (hu : un + u < cLine)
    (h : ∀ r news' h' g' tk', Fr h₀ L h' m → News h₀ L h' news' → AllBare g' → R r news' → Q r ⟨h', g', s.drawn, tk', s.os⟩) :
    wpAny (model PySem.Challenge.rw_sh0064_01.prog w) (ktrTop dp un gd cn cs L a ccd cl outer) t Q E s := C _ _ _ _ _ _ _ _ _ _ _ _ _ _ _ _ _ _ _ _ _ _ B F X N T hk hG hd hu h

theorem room1 {dp j k N : Nat} (h : dp + k < N) (hj : 1 + j ≤ k) : dp + 1 + j < N := by omega
theorem room3 {un j k N : Nat} (h : un + k < N) (hj : 3 + j ≤ k) : un + 3 + j < N := by omega
theorem room0 {dp j k N : Nat} (h : dp + k < N) (hj : j ≤ k) : dp + j < N := by omega

inductive T where
  | leaf (c : Fin 10)
  | node (s : Bool) (l r : T)
noncomputable def letters : List Nat := [97, 66, 99, 68, 101, 65, 98, 67, 100, 69]
noncomputable def mk (l : List Nat) : Str := Str.mk l.toArray
noncomputable def letter (c : Fin 10) : Str := mk [letters.getD c.1 0]
noncomputable def sign (s : Bool) : Str := if s then mk [62] else mk [60]
noncomputable def T.text : T → Str
  | .leaf c => letter c
  | .node s l r => Str.ofString "(" ++ l.text ++ sign s ++ r.text ++ Str.ofString ")"
noncomputable def T.size : T → Nat
  | .leaf _ => 0
  | .node _ l r => l.size + r.size + 1
noncomputable def T.depth : T → Nat
  | .leaf _ => 1
  | .node _ l r => max l.depth r.depth + 1

section
variable {dp un k N : Nat} {s : Bool} {l r : T}
theorem roomL (h : dp + (T.node s l r).depth < N) : dp + 1 + l.depth < N := by simp only [T.depth] at h; omega
theorem roomR (h : dp + (T.node s l r).depth < N) : dp + 1 + r.depth < N := by simp only [T.depth] at h; omega
theorem roomLk (h : dp + ((T.node s l r).depth + k) < N) : dp + 1 + (l.depth + k) < N := by simp only [T.depth] at h; omega
theorem roomRk (h : dp + ((T.node s l r).depth + k) < N) : dp + 1 + (r.depth + k) < N := by simp only [T.depth] at h; omega
theorem unitL (h : un + 8 * (T.node s l r).depth < N) : un + 3 + 8 * l.depth < N := by simp only [T.depth] at h; omega
theorem unitR (h : un + 8 * (T.node s l r).depth < N) : un + 3 + 8 * r.depth < N := by simp only [T.depth] at h; omega
theorem unitLk (h : un + (8 * (T.node s l r).depth + k) < N) : un + 3 + (8 * l.depth + k) < N := by simp only [T.depth] at h; omega
theorem unitRk (h : un + (8 * (T.node s l r).depth + k) < N) : un + 3 + (8 * r.depth + k) < N := by simp only [T.depth] at h; omega
end
noncomputable abbrev tupO (vs : List Value) (n : Nat) : Obj := { cls := .type "tuple", data := .seq vs.toArray n }
inductive TreeIn (news : List (Addr × Obj)) : Value → T → Prop where
  | leaf {c : Fin 10} {tk : Tok} : TreeIn news (.str (letter c) tk) (.leaf c)
  | node {a : Addr} {s : Bool} {tk : Tok} {v v' : Value} {l r : T} {n : Nat} : (a, ({ cls := .type "tuple", data := .seq #[.str (sign s) tk, v, v'] n } : Obj)) ∈ news → TreeIn news v l → TreeIn news v' r → TreeIn news (.ref a) (.node s l r)
theorem TreeIn.mono {news news' : List (Addr × Obj)} {v : Value} {t : T} (h : TreeIn news v t) (hs : ∀ p ∈ news, p ∈ news') : TreeIn news' v t := by
  induction h with
  | leaf => exact .leaf
  | node hm _ _ ih1 ih2 => exact .node (hs _ hm) ih1 ih2
theorem len_sign (s : Bool) : (sign s).length = 1 := by cases s <;> rfl
theorem len_text : ∀ t : T, t.text.length = 1 + 4 * t.size
  | .leaf c => rfl
  | .node s l r => by
    simp only [T.text, Str.length_append, len_text l, len_text r, T.size, len_sign]
    have h1 : (Str.ofString "(").length = 1 := by decide +kernel
    have h2 : (Str.ofString ")").length = 1 := by decide +kernel
    omega
end
section
local macro_rules | `(tactic| omega) => `(tactic| lia)
open PySem PySem.W PyProof.Rows PySem.Spec PySem.Calls
set_option maxRecDepth 100000 in
set_option maxHeartbeats 8000000 in
theorem text_ok (w : World) : ∀ t news v, TreeIn news v t → t.size ≤ 10 → Fn w (call (.ref 269) [v]) t.depth (8 * t.depth) news (fun r news' => ∃ tk, r = .str t.text tk ∧ news = news') := by
  intro t
  induction t with
  | leaf c =>
    intro news v hR hs
    cases hR
    unfold Fn
    k_fill
    intro dp un gd cn cs a ccd cl outer A₀ base h₀ L m s p loose mean mg mb Q E B F X N Tp hk hG hd hu hret
    refine wpAny_call ?_
    k_dflt ktr_enter
    k_steps
    exact hret _ _ _ _ _ (by k_asm) (by k_asm) hG ⟨_, rfl, rfl⟩
  | node sg l r ihl ihr =>
    intro news v hR hs
    have hl : l.size ≤ 10 := by simp only [T.size] at hs; omega
    have hr : r.size ≤ 10 := by simp only [T.size] at hs; omega
    have ll := len_text l
    have lr := len_text r
    have ls := len_sign sg
    have l1 : (Str.ofString "(").length = 1 := by decide +kernel
    have l2 : (Str.ofString ")").length = 1 := by decide +kernel
    cases hR
    rename_i hv hv' _
    unfold Fn
    k_fill
    intro dp un gd cn cs a ccd cl outer A₀ base h₀ L m s p loose mean mg mb Q E B F X N Tp hk hG hd hu hret
    refine wpAny_call ?_
    k_dflt ktr_enter
    k_steps
    ((try unfold Hold); refine' fn_use ?IH ?k1 ?k2 ?k3 ?k4 ?k5 ?kK ?kG ?kd ?ku ?_; (case IH => exact ihl _ _ (by assumption) hl); (case k1 => k_asm); (case k2 => k_asm); (case k3 => k_asm); (case k4 => k_asm); (case k5 => k_asm); (case kK => first | exact rfl | assumption); (case kG => assumption); (case kd => (first | with_reducible apply roomL hd | with_reducible apply roomR hd | (simp only [T.depth] at hd; show dp + 1 + _ < _; first | exact room1 hd (by decide) | omega))); (case ku => (first | with_reducible apply unitL hu | with_reducible apply unitR hu | (simp only [T.depth] at hu; show un + 3 + _ < _; first | exact room3 hu (by decide) | omega))); intro r' news' h' g' tk' F' N' G' hR')
    obtain ⟨tkR, e1, e2⟩ := hR'; subst e1; subst e2
    k_steps
    ((try unfold Hold); refine' fn_use ?IH ?k1 ?k2 ?k3 ?k4 ?k5 ?kK ?kG ?kd ?ku ?_; (case IH => exact ihr _ _ (by assumption) hr); (case k1 => k_asm); (case k2 => k_asm); (case k3 => k_asm); (case k4 => k_asm); (case k5 => k_asm); (case kK => first | exact rfl | assumption); (case kG => assumption); (case kd => (first | with_reducible apply roomL hd | with_reducible apply roomR hd | (simp only [T.depth] at hd; show dp + 1 + _ < _; first | exact room1 hd (by decide) | omega))); (case ku => (first | with_reducible apply unitL hu | with_reducible apply unitR hu | (simp only [T.depth] at hu; show un + 3 + _ < _; first | exact room3 hu (by decide) | omega))); intro r' news' h' g' tk' F' N' G' hR')
    obtain ⟨tkR, e1, e2⟩ := hR'; subst e1; subst e2
    k_steps
    exact hret _ _ _ _ _ (by k_asm) (by k_asm) (by assumption) ⟨_, rfl, rfl⟩
end
section
open PySem PySem.W PyProof.Rows PySem.Spec PySem.Calls
section
variable {prog : Program} {w : World} {A : Around} {E : Value → Shared → Prop} {s : Shared} {env : Env}
/-- the loop's head: the source is at hand -/
noncomputable def ForGo (prog : Program) (w : World) (A : Around) (target : Expr) (body : List Stmt) (env : Env) (Q : Flow → Shared → Prop) (E : Value → Shared → Prop) (x : Value) (s₁ : Shared) : Prop :=
  wpAny (model prog w) A (pyIter x) (fun it s₂ => codeAny (model prog w) A (.forLoop target it body [] env) (fun r s' => match r with | .ok f => Q f s' | .error e => cameBackBy (model prog w) A env E e s') s₂) E s₁
theorem For_go {target iter : Expr} {body : List Stmt} {pos : Pos} {Q : Flow → Shared → Prop} (h : wpAny (model prog w) A (eval iter env) (ForGo prog w A target body env Q E) E s)
    (hs : ∀ x, foldedSetIterable iter env x = pure x := by intro _; rfl) : wpAny (model prog w) A (exec (.For target iter body [] pos) env) Q E s := wpAny_For h hs
/-- what one turn of a loop hands on -/
noncomputable def TurnEnd (R : Flow → Shared → Prop) (again : Shared → Prop) (f : Flow) (s : Shared) : Prop := match f with
  | .next | .cont => again s
  | .brk => R .next s
  | .ret v => R (.ret v) s
/-- a loop by its invariant; no turn raises -/
theorem for_inv {target : Expr} {it : Value} {body : List Stmt} {Q : Flow → Shared → Prop} (I : Nat → Shared → Prop)
    (turn : ∀ n s E' (G : Shared → Prop), (∀ m s₃, m < n → I m s₃ → G s₃) → I n s → wpAny (model prog w) A (pyNext it) (fun r s₁ => match r with
      | none => Q .next s₁
      | some v => wpAny (model prog w) A (letOwnedTupleGo target it v) (fun _ s₁' => wpAny (model prog w) A (assign target env v) (fun _ s₂ => wpAny (model prog w) A (execs body env) (TurnEnd Q G) E' s₂) E' s₁') E' s₁) E' s)
    (n : Nat) (h : I n s) : codeAny (model prog w) A (.forLoop target it body [] env) (fun r s' => match r with | .ok f => Q f s' | .error e => cameBackBy (model prog w) A env E e s') s := by
  refine codeAny_forLoop_any I (fun n s hI => ?_) n h
  refine wpAny_mono (turn n s _ (fun s₃ => ∃ m, m < n ∧ I m s₃) (fun m s₃ hm hi => ⟨m, hm, hi⟩) hI) (fun r s₁ h₁ => ?_) fun _ _ e => e
  cases r with
  | none => exact wpAny_execs_nil h₁
  | some v =>
    refine wpAny_mono h₁ (fun _ s₁' h₁' => wpAny_mono h₁' (fun _ s₂ h₂ => wpAny_mono h₂ (fun f s₃ h₃ => ?_) fun _ _ e => e) fun _ _ e => e) fun _ _ e => e
    cases f <;> exact h₃
theorem let_name {x : Str} {p : Pos} {it v : Value} {Q : Unit → Shared → Prop} (h : Q () s) : wpAny (model prog w) A (letOwnedTupleGo (.Name x p) it v) Q E s := wpAny_pure h
end
section
variable {prog : Program} {w : World} {A : Around} {E : Value → Shared → Prop} {s : Shared}
theorem sub_list {value slice : Expr} {l : Addr} {vs : List Value} {n : Nat} {k : Int} {u : Tok} {v : Value} {Q : Value → Shared → Prop} (ho : s.heap.get? l = some (PySem.W.listOf vs.toArray n)) (h0 : 0 ≤ k) (hhi : k < 2 ^ 63) (hx : vs[k.toNat]? = some v) (h : Q v s)
    (hs : subscripted slice false (.ref l) (.int k u) = operate [.ref l, .int k u] (getItem (.ref l) (.int k u)) := by with_unfolding_all rfl) : wpAny (model prog w) A (subscriptTail value slice (.ref l) (.int k u)) Q E s :=
  have hl : s.heap.IsList l vs.toArray := ⟨_, ho, rfl, n, rfl⟩
  tail_any hl.typeIs slot_list_getitem.lookup (wpAny_getItem_list hl h0 hhi (by simpa using hx) h) hs
theorem sub_tup {value slice : Expr} {l : Addr} {vs : List Value} {n : Nat} {k : Int} {u : Tok} {v : Value} {Q : Value → Shared → Prop} (ho : s.heap.get? l = some (tupO vs n)) (h0 : 0 ≤ k) (hhi : k < 2 ^ 63) (hx : vs[k.toNat]? = some v) (h : Q v s)
    (hs : subscripted slice false (.ref l) (.int k u) = operate [.ref l, .int k u] (getItem (.ref l) (.int k u)) := by with_unfolding_all rfl) : wpAny (model prog w) A (subscriptTail value slice (.ref l) (.int k u)) Q E s := by
  have ht : s.heap.IsTuple l vs.toArray := ⟨_, ho, rfl, n, rfl⟩
  have hn : k.toNat < vs.length := by
    rcases Nat.lt_or_ge k.toNat vs.length with q | q
    · exact q
    · rw [List.getElem?_eq_none q] at hx; cases hx
  exact tail_any ht.typeIs slot_tuple_getitem.lookup (getItem_tuple ht (by omega) hhi (by first | exact seqIndex_of h0 (by simpa using hn) | exact seqIndex_of h0 (by simp; omega)) (by simpa using hx) h) hs
end
theorem news_sub {h₀ h : Heap} {L : Addr} {news news' : List (Addr × Obj)} (N : News h₀ L h news) (hs : ∀ p ∈ news', p ∈ news) : News h₀ L h news' := fun p hp => N p (hs p hp)
noncomputable def Hold (p : Prop) : Prop := p
theorem hold_it {p : Prop} (h : Hold p) : p := h
theorem mem_skip {α : Type} {a b : α} {l : List α} : ∀ p ∈ a :: l, p ∈ a :: b :: l := fun p hp => by
  rcases List.mem_cons.mp hp with rfl | hp
  · exact .head _
  · exact .tail _ (.tail _ hp)
theorem item_letter (k : Int) (h0 : 0 ≤ k) (h1 : k < 10) : ∃ c, Txt.item (Str.ofString "aBcDeAbCdE") k = letter c := by
  obtain ⟨n, rfl⟩ := Int.eq_ofNat_of_zero_le h0
  have : n < 10 := by omega
  have key : ∀ c : Fin 10, Txt.item (Str.ofString "aBcDeAbCdE") ((c.1 : Nat) : Int) = letter c := by decide +kernel
  exact ⟨⟨n, this⟩, key ⟨n, this⟩⟩
theorem item_sign (k : Int) (h0 : 0 ≤ k) (h1 : k < 2) : ∃ s, Txt.item (Str.ofString "<>") k = sign s := by
  obtain ⟨n, rfl⟩ := Int.eq_ofNat_of_zero_le h0
  have : n < 2 := by omega
  match n, this with
  | 0, _ => exact ⟨false, by decide +kernel⟩
  | 1, _ => exact ⟨true, by decide +kernel⟩
theorem fmod_lt {a b : Int} (h : 0 < b) : 0 ≤ a.fmod b ∧ a.fmod b < b := ⟨Int.fmod_nonneg_of_pos a h, Int.fmod_lt_of_pos a h⟩
end
section
open PySem PySem.W PyProof.Rows PySem.Spec PySem.Calls
noncomputable def remarks : List Str := [Str.ofString "", Str.ofString "\"'(\"", Str.ofString "\")\\\"\""]
theorem remark_pick (n : Int) (t0 t1 t2 : Tok) : ∃ r t, ([Value.str (Str.ofString "") t0, Value.str (Str.ofString "\"'(\"") t1, Value.str (Str.ofString "\")\\\"\"") t2] : List Value)[(n.fmod 3).toNat]? = some (.str r t) ∧ r ∈ remarks := by
  have h := fmod_lt (a := n) (b := 3) (by decide)
  have : n.fmod 3 = 0 ∨ n.fmod 3 = 1 ∨ n.fmod 3 = 2 := by omega
  rcases this with e | e | e <;> rw [e]
  · exact ⟨_, _, rfl, .head _⟩
  · exact ⟨_, _, rfl, .tail _ (.head _)⟩
  · exact ⟨_, _, rfl, .tail _ (.tail _ (.head _))⟩
theorem remark_len {r : Str} (h : r ∈ remarks) : r.length ≤ 5 := by
  have : ∀ r ∈ remarks, r.length ≤ 5 := by decide +kernel
  exact this r h
local macro_rules | `(tactic| walk_at "subscriptTail") => `(tactic| ((with_reducible show wpAny _ _ (subscriptTail _ _ (Value.ref _) (Value.int _ _)) _ _ _); refine hold_it ?_))
set_option maxRecDepth 100000 in
set_option maxHeartbeats 8000000 in
theorem mark_ok (w : World) (x : Str) (n : Int) (t u : Tok) (news : List (Addr × Obj)) (hx : x.length = 17) : Fn w (call (.ref 276) [.str x t, .int n u]) 1 100 news (fun r news' => ∃ (k : Nat) (rm : Str) (tk : Tok), k < 16 ∧ rm ∈ remarks ∧ r = .str (Txt.slice x none (some (k : Int)) ++ rm ++ Txt.slice x (some (k : Int)) none ++ rm) tk ∧ news = news') := by
    unfold Fn
    k_fill
    intro dp un gd cn cs a ccd cl outer A₀ base h₀ L m s p loose mean mg mb Q E B F X N Tp hk hG hd hu hret
    refine wpAny_call ?_
    k_dflt ktr_enter
    k_steps
    have hb := fmod_lt (a := n) (b := 3) (by decide)
    obtain ⟨rm, tr, er, hr⟩ := remark_pick n _ _ _
    have hrl := remark_len hr
    unfold Hold
    (with_unfolding_all refine' sub_list (News.get ?N (.head _)) ?a ?b ?x ?_ ?hs); (case N => k_asm); (case a => exact hb.1); (case b => omega); (case x => exact er); (case hs => with_unfolding_all rfl)
    k_steps
    have hk16 := fmod_lt (a := n.fdiv 3) (b := 16) (by decide)
    obtain ⟨k, hk⟩ := Int.eq_ofNat_of_zero_le hk16.1
    simp only [hk]
    exact hret _ _ _ _ _ (by k_asm) (news_sub (by k_asm) (fun p hp => .tail _ hp)) (by assumption) ⟨k, rm, _, by omega, hr, rfl, rfl⟩
end
section
open PySem PySem.W PyProof.Rows PySem.Spec PySem.Calls
section
variable {M : Model} {A : Around} {R : GenEnd} {Y : Protocol} {n : Nat} {s₀ : Shared} {c : Code} {fs : List Frame} {s : Shared} {env : Env}
  {K : Flow → Sem Fin} {H : Value → Sem Fin} {gd : Bool → Bool} {lv : List Value → List Value}
theorem seg_plain {st : Stmt} (h : wpAny M (A.over c fs) (exec st env) (fun f s' => Seg M A R Y n s₀ c (K f) fs s') (fun _ _ => False) s) :
    Seg M A R Y n s₀ c ((exec st env).wrap K H gd lv) fs s := seg_wrap (wpAny_mono h (fun _ _ x => x) fun _ _ x => x.elim)
theorem seg_If {test : Expr} {body orelse : List Stmt} {pos : Pos}
    (h : wpAny M (A.over c fs) (isTrue test env (eval test env)) (fun b s' => Seg M A R Y n s₀ c ((if b = true then execs body env else execs orelse env).wrap K H gd lv) fs s') (fun _ _ => False) s) :
    Seg M A R Y n s₀ c ((exec (.If test body orelse pos) env).wrap K H gd lv) fs s := by
  show Seg M A R Y n s₀ c (.at pos fun _ => (isTrue test env (eval test env) >>= fun b => if b = true then execs body env else execs orelse env).wrap K H gd lv) fs s
  refine seg_at (seg_bind_wrap (wpAny_mono h (fun _ _ x => x) fun _ _ x => x.elim))
theorem seg_For {target iter : Expr} {body : List Stmt} {pos : Pos}
    (h : wpAny M (A.over c fs) (eval iter env) (fun x s₁ => wpAny M (A.over c fs) (pyIter x) (fun it s₂ => ∀ k, k (.ok .next) = K .next → ∀ p, Seg M A R Y n s₀ (.forLoop target it body [] env) (M.den (.forLoop target it body [] env)) (.ret k none (gd false) (lv []) c p [] :: fs) s₂)
      (fun _ _ => False) s₁) (fun _ _ => False) s)
    (hs : ∀ x, foldedSetIterable iter env x = pure x := by intro _; rfl) :
    Seg M A R Y n s₀ c ((exec (.For target iter body [] pos) env).wrap K H gd lv) fs s := by
  show Seg M A R Y n s₀ c (.at pos fun _ => (eval iter env >>= fun x₀ => foldedSetIterable iter env x₀ >>= fun x => standAt iter.pos >>= fun _ => holding [x] (pyIter x) >>= fun it => runOwn (.forLoop target it body [] env) env).wrap K H gd lv) fs s
  refine seg_at (seg_bind_wrap (wpAny_mono h (fun x s₁ h₁ => ?_) fun _ _ x => x.elim))
  rw [hs]
  show Seg M A R Y n s₀ c (.at iter.pos fun _ => (holding [x] (pyIter x) >>= fun it => runOwn (.forLoop target it body [] env) env).wrap K H gd lv) fs s₁
  refine seg_at (seg_bind_wrap (wpAny_holding (wpAny_mono h₁ (fun it s₂ h₂ => ?_) fun _ _ x => x.elim)))
  exact seg_call (h₂ _ rfl)
end
section
variable {prog : Program} {w : World} {A : Around} {R : GenEnd} {Y : Protocol} {n : Nat} {s₀ : Shared} {fs : List Frame} {s : Shared} {env : Env}
/-- how a loop's turn goes on -/
noncomputable def turnK (target : Expr) (it : Value) (body : List Stmt) (env : Env) : Flow → Sem Fin
  | .next | .cont => .pure (.again (.forLoop target it body [] env))
  | .brk => .pure (.done .next)
  | .ret v => .pure (.done (.ret v))
theorem seg_forLoop {target : Expr} {it : Value} {body : List Stmt}
    (h : wpAny (model prog w) (A.over (.forLoop target it body [] env) fs) (pyNext it) (fun r s' => match r with
      | none => Seg (model prog w) A R Y n s₀ (.block [] env) (.pure (.done .next)) fs s'
      | some v => wpAny (model prog w) (A.over (.forLoop target it body [] env) fs) (letOwnedTupleGo target it v) (fun _ s₁ => wpAny (model prog w) (A.over (.forLoop target it body [] env) fs) (assign target env v) (fun _ s₂ =>
          ∀ H gd lv, gd false = false → Seg (model prog w) A R Y n s₀ (.forLoop target it body [] env) ((execs body env).wrap (turnK target it body env) H gd lv) fs s₂) (fun _ _ => False) s₁) (fun _ _ => False) s') (fun _ _ => False) s) :
    Seg (model prog w) A R Y n s₀ (.forLoop target it body [] env) ((model prog w).den (.forLoop target it body [] env)) fs s := by
  show Seg _ A R Y n s₀ _ ((forTurn target it body [] env).onRaise (fun x => do noteFrame x env; theTreesLotGoes x)) fs s
  unfold forTurn
  rw [Sem.onRaise_eq_wrap]
  refine seg_bind_wrap (wpAny_standAt ?_)
  refine seg_bind_wrap (wpAny_onRaise (wpAny_mono h (fun r s₁ h₁ => ?_) fun _ _ x => x.elim))
  cases r with
  | none =>
    refine seg_again rfl ?_
    exact h₁
  | some v =>
    refine seg_bind_wrap (wpAny_mono h₁ (fun _ s₂ h₂ => ?_) fun _ _ x => x.elim)
    refine seg_bind_wrap (wpAny_mono h₂ (fun _ s₃ h₃ => ?_) fun _ _ x => x.elim)
    rw [Sem.bind_eq_wrap', Sem.wrap_wrap]
    rw [Sem.wrap_congr (execs body env) _ _ (K' := turnK target it body env) (fun f => by cases f <;> rfl) (fun e => rfl)]
    exact h₃ _ _ _ rfl
end
end
section
local macro_rules | `(tactic| walk_at "no such key 0") => `(tactic| skip)
open PySem PySem.W PyProof.Rows PySem.Spec PySem.Calls
/-- what the generator hands out, of the signs still to come -/
noncomputable def escItems : Nat → Bool → List Nat → List (Nat × List Nat)
  | i, true, c :: r => (i, [92, c]) :: escItems (i + 1) false r
  | i, false, c :: r => if c = 92 then escItems (i + 1) true r else (i, [c]) :: escItems (i + 1) false r
  | i, true, [] => [(i - 1, [92])]
  | _, false, [] => []
noncomputable abbrev genO (g : Nat) (k : Tok) : Obj := { cls := .type "generator", data := .fields #[.int g 0, .str (Str.ofString "_iter_escaped_chars") (k + 1), .str (Str.ofString "_iter_escaped_chars") (k + 1 + 1)] }
inductive Yp (h₀ : Heap) (Lg a : Addr) (o : Obj) (items : List (Nat × List Nat)) (n : Nat) (s₀ : Shared) (v : Value) (s₁ : Shared) (kap : Resume → Shared → Prop) : Prop where
  | mk (T : Addr) (pos : Nat) (chunk : List Nat) (t1 t2 : Tok) (k : Nat) (h₁ : Heap) (tk₁ : Nat) (priv : List (Addr × Obj))
    (c0 : v = .ref T)
    (c1 : items.reverse[n]? = some (pos, chunk))
    (c2 : s₁ = { s₀ with heap := h₁, toks := tk₁ })
    (c3 : ∀ b o, (b < Lg ∨ b = a) → s₀.heap.get? b = some o → h₁.get? b = some o)
    (c4 : ∀ b o, h₀.get? b = some o → h₁.get? b = some o)
    (c5 : h₁.get? T = some (tupO [.int (pos : Nat) t1, .str (mk chunk) t2] k))
    (c6 : Lg < T)
    (c7 : T ≠ a)
    (c8 : (a, o) ∈ priv)
    (c9 : ∀ p ∈ priv, Lg ≤ p.1 ∧ h₁.get? p.1 = some p.2)
    (c10 : ∀ s'' : Shared, (∀ p ∈ priv, s''.heap.get? p.1 = some p.2) → (∀ b o, h₀.get? b = some o → s''.heap.get? b = some o) → kap (.send .none) s'')
noncomputable def Rp (h₀ : Heap) (Lg a : Addr) : GenEnd := fun n s₀ r s₁ => r = .ok (.ret .none) ∧ n = 0 ∧ ∃ (h₁ : Heap) (tk₁ : Nat), s₁ = { s₀ with heap := h₁, toks := tk₁ } ∧ (∀ b o, (b < Lg ∨ b = a) → s₀.heap.get? b = some o → h₁.get? b = some o) ∧
    (∀ b o, h₀.get? b = some o → h₁.get? b = some o)
inductive GenIn (w : World) (A : Around) (h₀ : Heap) (a g Lg : Addr) (rem : List (Nat × List Nat)) (priv : List (Addr × Obj)) (gens : Array GenState) : Prop where
  | mk (gs : GenState) (o : Obj) (nm qn : Value) (items : List (Nat × List Nat))
    (c0 : gens[g]? = some gs)
    (c1 : o = ({ cls := .type "generator", data := .fields #[.int g 0, nm, qn] } : Obj))
    (c2 : (a, o) ∈ priv)
    (c3 : ∀ p ∈ priv, Lg ≤ p.1)
    (c4 : ∃ pre, items = pre ++ rem)
    (c5 : ∀ s'' : Shared, (∀ p ∈ priv, s''.heap.get? p.1 = some p.2) → (∀ b o, h₀.get? b = some o → s''.heap.get? b = some o) →
      gs.Goes (model PySem.Challenge.rw_sh0064_01.prog w) A.in1 (Rp h₀ Lg a) (Yp h₀ Lg a o items) rem.length (.send .none) s'')

noncomputable def allOf (h₀ : Heap) (ex : List Addr) (h : Heap) : List (Addr × Obj) := PyProof.Rows.ownOf h₀ ((List.range h.objs.size).filter fun b => decide (b ∉ ex)) h
theorem allOf_news {h₀ h : Heap} {ex : List Addr} {L : Addr} (hL : L ∈ ex) : News h₀ L h (allOf h₀ ex h) := news_ownOf fun hm => by
  have := (List.mem_filter.mp hm).2
  exact (of_decide_eq_true this) hL
theorem allOf_in {h₀ h : Heap} {ex : List Addr} {b : Addr} {o : Obj} (hb : b ∉ ex) (ho : h.get? b = some o) (hn : h₀.get? b = none) : (b, o) ∈ allOf h₀ ex h :=
  mem_ownOf (List.mem_filter.mpr ⟨List.mem_range.mpr (Heap.lt_size ho), decide_eq_true hb⟩) hn ho
theorem allOf_apart {h₀ h : Heap} {ex : List Addr} : ∀ p ∈ allOf h₀ ex h, p.1 ∉ ex ∧ p.1 < h.objs.size := fun p hp => by
  have := ownOf_sub p hp
  exact ⟨of_decide_eq_true (List.mem_filter.mp this).2, List.mem_range.mp (List.mem_filter.mp this).1⟩
theorem know {h₀ h : Heap} {L : Addr} {m : Str → Option Value} {x : Str} {v : Option Value} (F : Fr h₀ L h m) (e : m x = v) : Fr h₀ L h (fun y => if y = x then v else m y) := by
  have : (fun y => if y = x then v else m y) = m := funext fun y => by
    by_cases q : y = x
    · subst q; rw [if_pos rfl, e]
    · rw [if_neg q]
  rw [this]; exact F
theorem seg_loop_ind {M : Model} {A : Around} {R : GenEnd} {Y : Protocol} {c : Code} {t : Sem Fin} {fs : List Frame} (I : List Nat → Nat → Bool → Shared → Shared → Prop)
    (nil : ∀ i esc s₀ s, I [] i esc s₀ s → Seg M A R Y (escItems i esc []).length s₀ c t fs s)
    (cons : ∀ x r i esc s₀ s, (∀ esc' s₀' s', I r (i + 1) esc' s₀' s' → Seg M A R Y (escItems (i + 1) esc' r).length s₀' c t fs s') → I (x :: r) i esc s₀ s → Seg M A R Y (escItems i esc (x :: r)).length s₀ c t fs s) :
    ∀ r i esc s₀ s, I r i esc s₀ s → Seg M A R Y (escItems i esc r).length s₀ c t fs s
  | [], i, esc, s₀, s, h => nil i esc s₀ s h
  | x :: r, i, esc, s₀, s, h => cons x r i esc s₀ s (fun esc' s₀' s' h' => seg_loop_ind I nil cons r (i + 1) esc' s₀' s' h') h
noncomputable abbrev enumO (it : Addr) (i : Int) (old : Value) : Obj := { cls := .type "enumerate", dict := none, data := .fields #[.none, .bool false, .ref it, rawInt i, .none, old], slots := #[] }
/-- between two signs -/
inductive GI (h₀ : Heap) (Lg e it a : Addr) (oa : Obj) (x : Str) (St : Nat → Heap → Prop) (r : List Nat) (i : Nat) (esc : Bool) (s₀ s : Shared) : Prop where
  | mk (m : Str → Option Value) (rest : List (Addr × Obj)) (tkp : Tok)
    (c0 : x.cps.toList.drop i = r)
    (c1 : Fr h₀ Lg s.heap m)
    (c2 : m (Str.ofString "escape") = some (.bool esc))
    (c3 : m (Str.ofString "pos") = some (.int ((i - 1 : Nat) : Int) tkp))
    (c4 : News h₀ Lg s.heap rest)
    (c5 : ∀ b o, b ≠ Lg → b ≠ e → b ≠ it → s₀.heap.get? b = some o → h₀.get? b = none → (b, o) ∈ rest)
    (c6 : ∀ p ∈ rest, p.1 ≠ e ∧ p.1 ≠ it)
    (c7 : (∃ old, IsEnum s.heap e it i old) ∧ St i s.heap)
    (c8 : ∃ h tk, s = { s₀ with heap := h, toks := tk })
    (c9 : ∃ pre, escItems 0 false x.cps.toList = pre ++ escItems i esc r)
    (c10 : ∀ b o, h₀.get? b = some o → s₀.heap.get? b = some o)
    (c11 : s₀.heap.get? a = some oa)
    (c12 : i ≤ x.cps.size)
theorem y_keep {h₀ h' : Heap} {Lg e it a : Addr} {m' : Str → Option Value} {rest : List (Addr × Obj)} {s₀ : Shared} (F : Fr h₀ Lg h' m') (N : News h₀ Lg h' rest)
    (he : Lg < e) (hit : Lg < it) (hae : a ≠ e) (hai : a ≠ it) (hLa : Lg < a) (hall : ∀ b o, b ≠ Lg → b ≠ e → b ≠ it → s₀.heap.get? b = some o → h₀.get? b = none → (b, o) ∈ rest) (h0 : ∀ b o, h₀.get? b = some o → s₀.heap.get? b = some o) :
    ∀ b o, (b < Lg ∨ b = a) → s₀.heap.get? b = some o → h'.get? b = some o := by
  intro b o' hb ho
  cases hn : h₀.get? b with
  | some o0 =>
    have := h0 b o0 hn
    rw [ho] at this; cases this
    exact F.keep b _ hn
  | none =>
    refine (N _ (hall b o' ?_ ?_ ?_ ho hn)).1
    · rcases hb with hb | rfl
      · exact Nat.ne_of_lt hb
      · exact Nat.ne_of_gt hLa
    · rcases hb with hb | rfl
      · exact Nat.ne_of_lt (Nat.lt_trans hb he)
      · exact hae
    · rcases hb with hb | rfl
      · exact Nat.ne_of_lt (Nat.lt_trans hb hit)
      · exact hai
theorem y_end {h₀ h' : Heap} {Lg e it a D : Addr} {o : Obj} {items : List (Nat × List Nat)} {n pos : Nat} {chunk : List Nat} {s₀ : Shared} {tk' : Tok} {t1 t2 : Tok} {k : Nat} {kap : Resume → Shared → Prop} {m' : Str → Option Value} {rest : List (Addr × Obj)}
    (own : List (Addr × Obj)) (hown : ∀ p ∈ own, Lg ≤ p.1) (F : Fr h₀ Lg h' m') (N : News h₀ Lg h' ((D, tupO [.int (pos : Nat) t1, .str (mk chunk) t2] k) :: (own ++ rest)))
    (hD : Lg < D) (hDa : D ≠ a) (he : Lg < e) (hit : Lg < it) (hae : a ≠ e) (hai : a ≠ it) (hLa : Lg < a)
    (hall : ∀ b o, b ≠ Lg → b ≠ e → b ≠ it → s₀.heap.get? b = some o → h₀.get? b = none → (b, o) ∈ rest) (h0 : ∀ b o, h₀.get? b = some o → s₀.heap.get? b = some o) (ha : s₀.heap.get? a = some o)
    (hitems : items.reverse[n]? = some (pos, chunk))
    (go : ∀ s'' : Shared, Fr h₀ Lg s''.heap m' → News h₀ Lg s''.heap (own ++ allOf h₀ [Lg, e, it] s''.heap) → (∀ b o, h₀.get? b = some o → s''.heap.get? b = some o) → s''.heap.get? a = some o → kap (.send .none) s'') :
    Yp h₀ Lg a o items n s₀ (.ref D) { s₀ with heap := h', toks := tk' } kap := by
  have kp := y_keep F (rest := rest) (fun p hp => N p (.tail _ (List.mem_append_right _ hp))) he hit hae hai hLa hall h0
  obtain ⟨oL, q1, q2, hL, q3⟩ := id F.ns
  have ha' := kp a o (.inr rfl) ha
  refine ⟨D, pos, chunk, t1, t2, k, h', tk', (Lg, oL) :: (a, o) :: own, rfl, hitems, rfl, kp, F.keep, (N _ (.head _)).1, hD, hDa, by simp, ?_, ?_⟩
  · intro p hp
    rcases List.mem_cons.mp hp with rfl | hp
    · exact ⟨Nat.le_refl _, hL⟩
    · rcases List.mem_cons.mp hp with rfl | hp
      · exact ⟨Nat.le_of_lt hLa, ha'⟩
      · exact ⟨hown p hp, (N p (.tail _ (List.mem_append_left _ hp))).1⟩
  · intro s'' hp hk
    have e1 := hp (Lg, oL) (by simp)
    have e4 := hp (a, o) (by simp)
    refine go s'' ⟨F.ns.at' fun o' e' => by rw [hL] at e'; cases e'; exact e1, hk, F.above⟩ ?_ hk e4
    intro p hp'
    rcases List.mem_append.mp hp' with hp' | hp'
    · exact ⟨hp p (.tail _ (.tail _ hp')), (N p (.tail _ (List.mem_append_left _ hp'))).2⟩
    · exact allOf_news (by simp) p hp'
theorem items_at {items pre rem : List (Nat × List Nat)} {p : Nat × List Nat} (e : items = pre ++ p :: rem) : items.reverse[rem.length]? = some p := by
  subst e
  simp [List.reverse_append]
theorem ch_eq (c : Nat) : (({ cps := #[c] } : Str) == Str.ofString "\\") = decide (c = 92) := by
  have h : Str.ofString "\\" = ⟨#[92]⟩ := by decide +kernel
  rw [h]
  by_cases q : c = 92
  · subst q; decide +kernel
  · rw [decide_eq_false q]
    refine Bool.eq_false_iff.mpr fun e => q ?_
    have := eq_of_beq e
    simpa using this
theorem esc_app (c : Nat) : (Str.ofString "\\" ++ (⟨#[c]⟩ : Str)) = mk [92, c] := by
  have h : Str.ofString "\\" = ⟨#[92]⟩ := by decide +kernel
  rw [h]; rfl
local macro_rules | `(tactic| walk_at "call type:enumerate") => `(tactic| (with_unfolding_all refine call_enumerate_str ?_))
set_option maxRecDepth 100000 in
set_option maxHeartbeats 8000000 in
theorem gen_make (w : World) (x : Str) (t : Tok) (news : List (Addr × Obj)) (dp un : Nat) (gd : Option (List Code)) (cn : Str) (cs : Scope) (a : Addr) (ccd : Value) (cl : List (Str × Addr)) (outer : List Env) (A₀ : Around) (base h₀ : Heap) (L : Addr) (m : Str → Option Value) (s : Shared)
    (p : Program) (loose : List Str) (mean : ExcName → Option Value) (mg mb : Str → Option Value) (Q E : Value → Shared → Prop)
    (B : Below A₀ base outer h₀) (F : Fr h₀ L s.heap m) (X : (heap w.params).In h₀) (N : News h₀ L s.heap news) (Tp : Top p loose mean mg mb h₀) (hk : cs.kind = .function) (hG : AllBare s.gens) (hd : dp + 1 < recursionLimit) (hu : un + 100 < cLine)
    (hret : ∀ aG g Lg priv h' gens' tk', Fr h₀ L h' m → News h₀ L h' (news ++ priv) → L < Lg → (∀ p ∈ news, p.1 < Lg) → GenIn w (ktrTop dp un gd cn cs L a ccd cl outer) h₀ aG g Lg (escItems 0 false x.cps.toList) priv gens' → AllBare gens' →
      Q (.ref aG) ⟨h', gens', s.drawn, tk', s.os⟩) :
    wpAny (model PySem.Challenge.rw_sh0064_01.prog w) (ktrTop dp un gd cn cs L a ccd cl outer) (call (.ref 55) [.str x t]) Q E s := by
    revert X
    k_fill
    intro X
    refine wpAny_call ?_
    have XL := X.keeps F.keep
    refine codeAny_call_generator ?kr (XL _ _ rfl) rfl rfl rfl rfl (codeRec_of XL rfl) ?_
    case kr => show dp < _; omega
    refine BindsTo.of_eq (binds := [(Str.ofString "addr", .str x t)]) rfl _ _ _ _ ?_
    refine wpAny_newFunctionEnv (by decide) (locs rfl) (fun h₁ hns hsb => ?_) rfl
    have hL : L < s.heap.objs.size := F.ns.lt
    have k₁ : ∀ b o, s.heap.get? b = some o → h₁.get? b = some o := fun b o e => hsb.extBut b o (Nat.ne_of_lt (Heap.lt_size e)) (Heap.get?_push_of_some _ e)
    have F₁ : Fr h₀ s.heap.objs.size h₁ _ := ⟨hns, fun b o e => k₁ b o (F.keep b o e), Nat.le_trans F.above (Nat.le_of_lt hL)⟩
    refine ⟨Tp.nolimit.keeps F₁.keep, ?_⟩
    have fin : ∀ body env, (∀ s'' : Shared, Fr h₀ s.heap.objs.size s''.heap (fun y => ([(Str.ofString "addr", Value.str x t)] : List (Str × Value)).reverse.lookup y) → ∀ o, s''.heap.get? h₁.objs.size = some o → (GenState.fresh (.func body env)).Goes (model PySem.Challenge.rw_sh0064_01.prog w) (ktrTop dp un gd cn cs L a ccd cl outer).in1
       (Rp h₀ s.heap.objs.size h₁.objs.size) (Yp h₀ s.heap.objs.size h₁.objs.size o (escItems 0 false x.cps.toList)) (escItems 0 false x.cps.toList).length
       (.send .none) s'') → Q (.ref h₁.objs.size) { s with gens := s.gens.push (.fresh (.func body env)), toks := s.toks + 1 + 1 + 1, heap := h₁.push { cls := .type "generator", data := .fields #[.int s.gens.size 0, .str (Str.ofString "_iter_escaped_chars") (s.toks + 1), .str (Str.ofString "_iter_escaped_chars") (s.toks + 1 + 1)] } } := by
      intro body env goes
      obtain ⟨oL, q1, q2, hL', q3⟩ := id hns
      have hLa : s.heap.objs.size < h₁.objs.size := hns.lt
      have push : ∀ (og : Obj) b o, h₁.get? b = some o → (h₁.push og).get? b = some o := fun og b o e => Heap.get?_push_of_some _ e
      have hga := Heap.get?_push_size h₁ (o := ({ cls := .type "generator", data := .fields #[.int s.gens.size 0, .str (Str.ofString "_iter_escaped_chars") (s.toks + 1), .str (Str.ofString "_iter_escaped_chars") (s.toks + 1 + 1)] } : Obj)) rfl
      have none₀ : ∀ b, s.heap.objs.size ≤ b → h₀.get? b = none := fun b hb => Heap.get?_none_of_le (Nat.le_trans F₁.above hb)
      refine hret h₁.objs.size s.gens.size s.heap.objs.size [(s.heap.objs.size, oL), (h₁.objs.size, genO s.gens.size s.toks)] _ _ _ ⟨F.ns.at' fun o e => push _ _ _ (k₁ _ _ e), fun b o e => push _ _ _ (F₁.keep b o e), F.above⟩ ?_ hL (fun p hp => Heap.lt_size (N p hp).1)
        ⟨_, genO s.gens.size s.toks, _, _, _, Array.getElem?_push_size, rfl, .tail _ (.head _), ?_, ⟨[], rfl⟩, fun s'' hp hk => ?_⟩ (AllBare.push hG rfl)
      · intro p hp
        rcases List.mem_append.mp hp with hp | hp
        · exact ⟨push _ _ _ (k₁ _ _ (N p hp).1), (N p hp).2⟩
        · simp only [List.mem_cons, List.not_mem_nil, or_false] at hp
          rcases hp with rfl | rfl
          · exact ⟨push _ _ _ hL', Nat.ne_of_gt hL, none₀ _ (Nat.le_refl _)⟩
          · exact ⟨hga, Nat.ne_of_gt (Nat.lt_trans hL hLa), none₀ _ (Nat.le_of_lt hLa)⟩
      · intro p hp
        simp only [List.mem_cons, List.not_mem_nil, or_false] at hp
        rcases hp with rfl | rfl
        · exact Nat.le_refl _
        · exact Nat.le_of_lt hLa
      · have e1 := hp (s.heap.objs.size, oL) (by simp)
        have e2 := hp (h₁.objs.size, genO s.gens.size s.toks) (.tail _ (.head _))
        exact goes s'' ⟨hns.at' fun o' e' => by rw [hL'] at e'; cases e'; exact e1, hk, F₁.above⟩ _ e2
    have hLa : s.heap.objs.size < h₁.objs.size := hns.lt
    have hLa0 := Nat.le_of_lt hLa
    refine fin _ _ fun s'' F'' o ho => ?_
    refine ⟨rfl, seg_func (seg_execs_cons (seg_plain ?_))⟩
    show wpAny _ (ktrTop (dp + 0 + 1) _ _ (Str.ofString "_iter_escaped_chars") _ s.heap.objs.size 55 _ [] (envX cn cs L a ccd cl :: outer)) _ _ _ _
    have N'' : News h₀ s.heap.objs.size s''.heap (allOf h₀ [s.heap.objs.size] s''.heap) := allOf_news (.head _)
    have F0keep := F''.keep
    clear F N
    k_steps
    refine seg_execs_cons (seg_plain ?_)
    show wpAny _ (ktrTop (dp + 0 + 1) _ _ (Str.ofString "_iter_escaped_chars") _ s.heap.objs.size 55 _ [] (envX cn cs L a ccd cl :: outer)) _ _ _ _
    k_steps
    refine seg_execs_cons (seg_For ?_ (by intro _; rfl))
    show wpAny _ (ktrTop (dp + 0 + 1) _ _ (Str.ofString "_iter_escaped_chars") _ s.heap.objs.size 55 _ [] (envX cn cs L a ccd cl :: outer)) _ _ _ _
    k_steps
    rename_i _ h₁' F₁' N₁' h₂ he hit hsz hk₂
    dsimp only at he hit hsz hk₂
    have hlt1 : s.heap.objs.size < h₁'.objs.size := F₁'.ns.lt
    have F₂ : Fr h₀ s.heap.objs.size h₂ _ := ⟨F₁'.ns.keeps hk₂, fun b o e => hk₂ b o (F₁'.keep b o e), F₁'.above⟩
    have N₂ : News h₀ s.heap.objs.size h₂ _ := fun p hp => ⟨hk₂ _ _ (N₁' p hp).1, (N₁' p hp).2⟩
    refine wpAny_pyIter_enum he ?_
    intro k hK pp
    obtain ⟨St, hD, hif, hef, hSt0⟩ : ∃ (St : Nat → Heap → Prop), (∀ A : Around, A.handled = none → Draws PySem.Challenge.rw_sh0064_01.prog w A.in1 h₁'.objs.size [h₁'.objs.size] x.cps.size (fun i v => ∃ c u, x.cps[i]? = some c ∧ v = .str ⟨#[c]⟩ u) St) ∧
        h₁'.objs.size ∈ [h₁'.objs.size] ∧ h₁'.objs.size + 1 ∉ [h₁'.objs.size] ∧ St 0 h₂ := by
      cases ha : x.cps.all (· < 128)
      · exact ⟨_, fun A hA => Draws.strWide (A := A.in1) hA h₁'.objs.size x t, by simp, by simp, by simpa [strIterType, ha] using hit⟩
      · exact ⟨_, fun A hA => Draws.strAscii (A := A.in1) hA h₁'.objs.size x t, by simp, by simp, by simpa [strIterType, ha] using hit⟩
    have haN : h₀.get? h₁.objs.size = none := Heap.get?_none_of_le (Nat.le_trans F₁'.above hLa0)
    have haIt : h₁.objs.size < h₁'.objs.size := Heap.lt_size (N₁' _ (allOf_in (o := o) (by simpa using Nat.ne_of_gt hLa) ho (Heap.get?_none_of_le (Nat.le_trans F₁'.above hLa0)))).1
    have hae : h₁.objs.size ≠ h₁'.objs.size + 1 := Nat.ne_of_lt (Nat.lt_succ_of_lt haIt)
    have hai : h₁.objs.size ≠ h₁'.objs.size := Nat.ne_of_lt haIt
    have W : ∀ A' : Around, A'.handled = none → WalksT _ _ A' _ _ _ _ _ _ _ := fun A' hA => WalksT.enumerateD (hD A' hA) (h₁'.objs.size + 1) (Nat.succ_ne_self _) hef hif
    have hLw : s.heap.objs.size ∉ [h₁'.objs.size + 1, h₁'.objs.size] := by
      intro hm
      rcases List.mem_cons.mp hm with e | hm
      · omega
      · have := List.mem_singleton.mp hm; omega
    have old : ∀ b o, h₀.get? b = some o → b ∉ [h₁'.objs.size + 1, h₁'.objs.size] := fun b o e hm => by
      have q := Heap.lt_size e
      have q2 := F₁'.above
      rcases List.mem_cons.mp hm with e' | hm
      · rw [e'] at q; exact Nat.lt_irrefl _ (Nat.lt_of_lt_of_le (Nat.lt_trans (Nat.lt_succ_self _) q) (Nat.le_trans q2 (Nat.le_of_lt hlt1)))
      · rw [List.mem_singleton.mp hm] at q; exact Nat.lt_irrefl _ (Nat.lt_of_lt_of_le q (Nat.le_trans q2 (Nat.le_of_lt hlt1)))
    refine seg_loop_ind (GI h₀ s.heap.objs.size (h₁'.objs.size + 1) h₁'.objs.size h₁.objs.size o x St) ?gnil ?gcons _ 0 false _ _ ?gI
    case gI =>
      refine ⟨_, _, _, rfl, F₂, rfl, rfl, N₂, fun b o h1 _ _ h2 h3 => allOf_in (by simpa using h1) h2 h3, fun p hp => ?_, ⟨⟨_, he⟩, hSt0⟩, ⟨_, _, rfl⟩, ⟨[], rfl⟩, F0keep, ho, Nat.zero_le _⟩
      have := Heap.lt_size (N₁' p hp).1
      exact ⟨Nat.ne_of_lt (Nat.lt_succ_of_lt this), Nat.ne_of_lt this⟩
    case gnil =>
      intro i esc s₀ s' hI
      obtain ⟨m3, rest, tkp, hdrop, F3, hesc, hpos, N3, hall, hap, ⟨hen, hst⟩, ⟨h3, tk3, rfl⟩, ⟨pre, hpre⟩, h0s, has, hix⟩ := hI
      have hi : i = x.cps.size := by
        have := List.drop_eq_nil_iff.mp hdrop
        simp at this; omega
      refine seg_forLoop ?_
      refine (W _ ?hA1).done _ _ _ (hi ▸ ⟨hen, hst⟩) fun h4 tk4 hk4 => ?_
      case hA1 => exact rfl
      have F4 : Fr h₀ s.heap.objs.size h4 m3 := ⟨F3.ns.at' fun o e => hk4 _ o hLw e, fun b o e => hk4 b o (old b o e) (F3.keep b o e), F3.above⟩
      have N4 : News h₀ s.heap.objs.size h4 rest := fun p hp => ⟨hk4 _ _ (by simp [(hap p hp).1, (hap p hp).2]) (N3 p hp).1, (N3 p hp).2⟩
      refine seg_leaf (.ok .next) ?_
      rw [hK]
      refine seg_execs_cons (seg_If ?_)
      have F4' := know (know F4 (x := Str.ofString "pos") hpos) (x := Str.ofString "escape") (v := some (.bool esc)) (by exact hesc)
      clear F3 F4 N3 F₂ N₂ F₁' N₁'
      show wpAny _ (ktrTop (dp + 1) _ _ (Str.ofString "_iter_escaped_chars") _ s.heap.objs.size 55 _ [] (envX cn cs L a ccd cl :: outer)) _ _ _ _
      cases esc
      · k_steps
        with_unfolding_all refine seg_end (.ok (.ret .none)) ⟨rfl, rfl, _, _, rfl, y_keep (by k_asm) (by k_asm) (Nat.lt_succ_of_lt hlt1) hlt1 hae hai hLa hall h0s, (by k_asm : Fr _ _ _ _).keep⟩
      · k_steps
        refine seg_execs_cons (seg_Expr_Yield rfl rfl rfl ?_)
        show wpAny _ (ktrTop (dp + 1) _ _ (Str.ofString "_iter_escaped_chars") _ s.heap.objs.size 55 _ [] (envX cn cs L a ccd cl :: outer)) _ _ _ _
        k_steps
        rename_i D9 h9 F9 N9 l9 kap hkap
        rw [show Str.ofString "\\" = mk [92] by decide +kernel] at N9
        have haD := l9 _ (hall _ _ (Nat.ne_of_gt hLa) hae hai has haN)
        refine y_end (e := h₁'.objs.size + 1) (it := h₁'.objs.size) [] (fun _ h => nomatch h) F9 N9 (Nat.lt_trans hLa haD) (Nat.ne_of_gt haD) (Nat.lt_succ_of_lt hlt1) hlt1 hae hai hLa hall h0s has (items_at hpre) (fun s3 F3' N3' h03 has3 => ?_)
        refine hkap .none s3 ?_
        with_unfolding_all refine seg_end (.ok (.ret .none)) ⟨rfl, rfl, _, _, rfl, fun _ _ _ e => e, h03⟩
    case gcons =>
      intro c r i esc s₀ s' IH hI
      obtain ⟨m3, rest, tkp, hdrop, F3, hesc, hpos, N3, hall, hap, ⟨hen, hst⟩, ⟨h3, tk3, rfl⟩, ⟨pre, hpre⟩, h0s, has, hix⟩ := hI
      have hc : x.cps[i]? = some c := by
        have := congrArg (fun l => l[0]?) hdrop
        simpa using this
      have hlt : i < x.cps.size := (Array.getElem?_eq_some_iff.mp hc).1
      refine seg_forLoop ?_
      refine (W _ ?hA1).item i _ _ _ hlt ⟨hen, hst⟩ fun T vals h4 tk4 hP hle hT hMid hk4 => ?_
      case hA1 => exact rfl
      obtain ⟨t0, v0, ⟨c', u, hc', rfl⟩, rfl⟩ := hP
      obtain rfl : c = c' := Option.some.inj (hc.symm.trans hc')
      have hT' := (W _ rfl : WalksT _ _ (ktrTop dp un gd cn cs L a ccd cl outer) _ _ _ _ _ _ _).apart i T _ hMid
      refine (W _ ?hA2).go _ _ _ i T _ _ _ hMid fun h5 hst5 hk5 => ?_
      case hA2 => exact rfl
      have hT5 := hT.at fun o e => hk5 T o hT' e
      have hk45 : ∀ b o, b ∉ [h₁'.objs.size + 1, h₁'.objs.size] → h3.get? b = some o → h5.get? b = some o := fun b o hb e => hk5 b o hb (hk4 b o hb e)
      have F5 : Fr h₀ s.heap.objs.size h5 m3 := ⟨F3.ns.at' fun o e => hk45 _ o hLw e, fun b o e => hk45 b o (old b o e) (F3.keep b o e), F3.above⟩
      obtain ⟨⟨olde, he5⟩, hSt5⟩ := id hst5
      obtain ⟨oi, hi5⟩ := (hD (ktrTop dp un gd cn cs L a ccd cl outer) rfl).live _ _ hSt5
      have h₀none : ∀ b, h₁'.objs.size ≤ b → h₀.get? b = none := fun b hb => Heap.get?_none_of_le (Nat.le_trans (Nat.le_trans F₁'.above (Nat.le_of_lt hlt1)) hb)
      have N5 : News h₀ s.heap.objs.size h5 ((h₁'.objs.size + 1, enumO h₁'.objs.size (↑(i + 1)) olde) :: (h₁'.objs.size, oi) :: rest) := fun p hp => by
        rcases List.mem_cons.mp hp with rfl | hp
        · exact ⟨he5, Nat.ne_of_gt (Nat.lt_succ_of_lt hlt1), h₀none _ (Nat.le_succ _)⟩
        · rcases List.mem_cons.mp hp with rfl | hp
          · exact ⟨hi5, Nat.ne_of_gt hlt1, h₀none _ (Nat.le_refl _)⟩
          · exact ⟨hk45 _ _ (by simp [(hap p hp).1, (hap p hp).2]) (N3 p hp).1, (N3 p hp).2⟩
      have ownLe : ∀ p ∈ [(h₁'.objs.size + 1, enumO h₁'.objs.size (↑(i + 1)) olde), (h₁'.objs.size, oi)], s.heap.objs.size ≤ p.1 := fun p hp => by
        simp only [List.mem_cons, List.not_mem_nil, or_false] at hp
        rcases hp with rfl | rfl
        · exact Nat.le_of_lt (Nat.lt_succ_of_lt hlt1)
        · exact Nat.le_of_lt hlt1
      have stKeep : ∀ h' : Heap, News h₀ s.heap.objs.size h' ((h₁'.objs.size + 1, enumO h₁'.objs.size (↑(i + 1)) olde) :: (h₁'.objs.size, oi) :: []) → (∃ old, IsEnum h' (h₁'.objs.size + 1) h₁'.objs.size (↑(i + 1)) old) ∧ St (i + 1) h' := fun h' N' =>
        ⟨⟨_, (N' _ (.head _)).1⟩, (hD (ktrTop dp un gd cn cs L a ccd cl outer) rfl).frame _ _ _ hSt5 fun b hb o' e' => by
          rw [List.mem_singleton.mp hb] at e' ⊢
          rw [hi5] at e'; cases e'
          exact (N' _ (.tail _ (.head _))).1⟩
      refine wpAny_assign_Tuple rfl hT5 rfl rfl fun h6 hx6 => ?_
      dsimp only at hx6
      have h5L : s.heap.objs.size < h5.objs.size := F5.ns.lt
      have F6 : Fr h₀ s.heap.objs.size h6 m3 := ⟨F5.ns.at' fun o e => hx6 _ o (Nat.ne_of_lt h5L) e, fun b o e => hx6 b o (Nat.ne_of_lt (Heap.lt_size (F5.keep b o e))) (F5.keep b o e), F3.above⟩
      have N6 : News h₀ s.heap.objs.size h6 _ := fun p hp => ⟨hx6 _ _ (Nat.ne_of_lt (Heap.lt_size (N5 p hp).1)) (N5 p hp).1, (N5 p hp).2⟩
      show wpAny _ _ (do holding [_] (assign (.Name _ _) _ _); do holding [] (assign (.Name _ _) _ _); pure ()) _ _ _
      refine wpAny_bind (wpAny_holding (wpAny_assign_Name (stN F6 N6 fun h7 F7 N7 => wpAny_bind (wpAny_holding (wpAny_assign_Name (stN F7 N7 fun h8 F8 N8 => wpAny_pure ?_))))))
      intro H gdx lvx hgd
      refine seg_execs_cons (seg_If ?_)
      have F8' := know F8 (x := Str.ofString "escape") (v := some (.bool esc)) hesc
      clear F8 F7 F6 F5 F3 N7 N6 N5 N3 F₂ N₂ F₁' N₁'
      show wpAny _ (ktrTop (dp + 1) _ _ (Str.ofString "_iter_escaped_chars") _ s.heap.objs.size 55 _ [] (envX cn cs L a ccd cl :: outer)) _ _ _ _
      have hdrop' : x.cps.toList.drop (i + 1) = r := by
        have := congrArg List.tail hdrop
        simpa [List.tail_drop] using this
      cases esc
      · k_steps
        refine seg_execs_cons (seg_If ?_)
        show wpAny _ (ktrTop (dp + 1) _ _ (Str.ofString "_iter_escaped_chars") _ s.heap.objs.size 55 _ [] (envX cn cs L a ccd cl :: outer)) _ _ _ _
        k_steps
        rw [ch_eq]
        by_cases hc92 : c = 92
        · subst hc92
          rw [if_pos (show (decide ((92 : Nat) = 92)) = true from rfl)]
          refine seg_execs_cons (seg_plain ?_)
          show wpAny _ (ktrTop (dp + 1) _ _ (Str.ofString "_iter_escaped_chars") _ s.heap.objs.size 55 _ [] (envX cn cs L a ccd cl :: outer)) _ _ _ _
          k_steps
          with_unfolding_all refine seg_again rfl ?_
          refine IH true s₀ _ ⟨_, rest, t0, hdrop', by k_asm, rfl, rfl, news_sub (by k_asm) (fun p hp => .tail _ (.tail _ hp)), hall, hap, stKeep _ (news_sub (by k_asm) (fun p hp => ?_)), ⟨_, _, rfl⟩, ⟨pre, hpre⟩, h0s, has, hlt⟩
          simp only [List.mem_cons, List.not_mem_nil, or_false] at hp ⊢
          rcases hp with rfl | rfl <;> simp
        · rw [if_neg (show ¬ (decide (c = 92)) = true by simpa using hc92)]
          have hes : escItems i false (c :: r) = (i, [c]) :: escItems (i + 1) false r := by simp [escItems, hc92]
          rw [hes]
          rw [hes] at hpre
          refine seg_execs_cons (seg_Expr_Yield rfl hgd rfl ?_)
          show wpAny _ (ktrTop (dp + 1) _ _ (Str.ofString "_iter_escaped_chars") _ s.heap.objs.size 55 _ [] (envX cn cs L a ccd cl :: outer)) _ _ _ _
          k_steps
          rename_i D9 h9 _ F9 N9 l9 kap hkap
          refine y_end (t1 := t0) [(h₁'.objs.size + 1, enumO h₁'.objs.size (↑(i + 1)) olde), (h₁'.objs.size, oi)] ownLe F9 N9 (Nat.lt_trans hlt1 l9.2.1) (Nat.ne_of_gt (Nat.lt_trans haIt l9.2.1)) (Nat.lt_succ_of_lt hlt1) hlt1 hae hai hLa hall h0s has (items_at hpre) (fun s3 F3' N3' h03 has3 => ?_)
          refine hkap .none s3 ?_
          with_unfolding_all refine seg_again rfl ?_
          refine IH false s3 s3 ⟨_, allOf h₀ [s.heap.objs.size, h₁'.objs.size + 1, h₁'.objs.size] s3.heap, t0, hdrop', F3', rfl, rfl, news_sub N3' (fun p hp => .tail _ (.tail _ hp)), fun b o h1 h2 h3 h4 h5 => allOf_in (by simp [h1, h2, h3]) h4 h5, fun p hp => ?_, stKeep _ (news_sub N3' (fun p hp => ?_)), ⟨_, _, rfl⟩, ⟨pre ++ [(i, [c])], by rw [hpre]; simp⟩, h03, has3, hlt⟩
          · have := (allOf_apart p hp).1
            simp at this
            exact this.2
          · simp only [List.mem_cons, List.not_mem_nil, or_false] at hp ⊢
            rcases hp with rfl | rfl <;> simp
      · k_steps
        refine seg_execs_cons (seg_Expr_Yield rfl hgd rfl ?_)
        show wpAny _ (ktrTop (dp + 1) _ _ (Str.ofString "_iter_escaped_chars") _ s.heap.objs.size 55 _ [] (envX cn cs L a ccd cl :: outer)) _ _ _ _
        k_steps
        rename_i D9 h9 _ F9 N9 l9 kap hkap
        rw [esc_app] at N9
        have hpre' : escItems 0 false x.cps.toList = pre ++ (i, [92, c]) :: escItems (i + 1) false r := hpre
        refine y_end (t1 := t0) [(h₁'.objs.size + 1, enumO h₁'.objs.size (↑(i + 1)) olde), (h₁'.objs.size, oi)] ownLe F9 N9 (Nat.lt_trans hlt1 l9.2.1) (Nat.ne_of_gt (Nat.lt_trans haIt l9.2.1)) (Nat.lt_succ_of_lt hlt1) hlt1 hae hai hLa hall h0s has (items_at hpre') (fun s3 F3' N3' h03 has3 => ?_)
        refine hkap .none s3 ?_
        clear F9 N9
        refine seg_execs_cons (seg_plain ?_)
        show wpAny _ (ktrTop (dp + 1) _ _ (Str.ofString "_iter_escaped_chars") _ s.heap.objs.size 55 _ [] (envX cn cs L a ccd cl :: outer)) _ _ _ _
        k_steps
        with_unfolding_all refine seg_again rfl ?_
        refine IH false s3 _ ⟨_, allOf h₀ [s.heap.objs.size, h₁'.objs.size + 1, h₁'.objs.size] s3.heap, t0, hdrop', by k_asm, rfl, rfl, news_sub (by k_asm) (fun p hp => .tail _ (.tail _ hp)), fun b o h1 h2 h3 h4 h5 => allOf_in (by simp [h1, h2, h3]) h4 h5, fun p hp => ?_, stKeep _ (news_sub (by k_asm) (fun p hp => ?_)), ⟨_, _, rfl⟩, ⟨pre ++ [(i, [92, c])], by rw [hpre']; simp⟩, h03, has3, hlt⟩
        · have := (allOf_apart p hp).1
          simp at this
          exact this.2
        · simp only [List.mem_cons, List.not_mem_nil, or_false] at hp ⊢
          rcases hp with rfl | rfl <;> simp
section
variable {prog : Program} {w : World} {A : Around} {E : Value → Shared → Prop} {s : Shared}
theorem next_gen {a : Addr} {g n : Nat} {gs : GenState} {P : Nat → Shared → Shared → Prop} {Y : Protocol} {Q : Option Value → Shared → Prop} (hh : A.handled = none) (hl : s.heap.NoLimit) (hroom : A.depth < recursionLimit)
    (hg : s.heap.IsGen a g) (hgs : s.gens[g]? = some gs) (hgo : gs.Goes (model prog w) A.in1 (fun n s₀ r s₁ => r = .ok (.ret .none) ∧ P n s₀ s₁) Y n (.send .none) (s.setGen g .running))
    (hY : ∀ v s₁ gs', gs'.bare = true → Y (n - 1) (s.setGen g .running) v s₁ (fun r' s'' => match n with
        | 0 => False
        | m + 1 => gs'.Goes (model prog w) A.in1 (fun n s₀ r s₁ => r = .ok (.ret .none) ∧ P n s₀ s₁) Y m r' s'') → Q (some v) (s₁.setGen g gs'))
    (hP : ∀ s₁, P n (s.setGen g .running) s₁ → ∀ h', (∀ b o, s₁.heap.get? b = some o → h'.get? b = some o) → Q none { s₁.setGen g .finished with heap := h' }) :
    wpAny (model prog w) A (pyNext (.ref a)) Q E s := by
  unfold pyNext
  refine wpAny_bind (wpAny_attempt (wpAny_callSpecial?_slot (name := Str.ofString "__next__") hg.typeIs slot_gen_next (wpAny_call_entry slot_gen_next hg.typeIs entry_gen_next ?_ (args_gen_next _))))
  show wpAny _ A.in1 (Builtin.Generator.genWake (.ref a) (.send .none)) _ _ s
  unfold Builtin.Generator.genWake
  refine wpAny_bind (wpAny_holding (wpAny_genNumber hg (wpAny_bind (wpAny_genState hgs ?_))))
  cases gs with
  | running => exact hgo.elim
  | finished => exact hgo.elim
  | _ =>
    refine wpAny_bind (wpAny_roomToWake hl hroom ?_)
    show wpAny _ A.in1 (.resume g (.send .none) [] _) _ _ s
    refine wpAny_resumeQ hgs hgo (fun x s₁ hx => ?_) (fun v s₁ gs' hb hv => wpAny_pure ⟨v, rfl, wpAny_pure (hY v s₁ gs' hb hv)⟩)
    obtain ⟨rfl, hp⟩ := hx
    show wpAny _ A.in1 (newExc (.type "StopIteration") [] >>= _) _ _ _
    refine wpAny_bind ?_
    simp only [newExc, newTuple]
    refine wpAny_bind (wpAny_newObj_type ?_ (by size_fits))
    refine wpAny_bind (m := firstArgMember _ _) (wpAny_of_eq (a := Value.none) (by first | rfl | (simp only [firstArgMember]; rfl)) ?_)
    refine wpAny_newObj_type ?_ (by size_fits)
    simp only [raiseNew]
    refine wpAny_bind (wpAny_bind (wpAny_handled ?_))
    first | rw [show A.in1.handled = none from hh] | rw [hh]
    refine wpAny_throw ?_
    refine wpAny_bind (wpAny_isInstance (T := "StopIteration") (b := true) ⟨_, Heap.get?_push_size _ rfl, rfl⟩ isSubtype_stop ?_)
    exact wpAny_pure (hP s₁ hp _ fun b o hb => Heap.get?_push_of_some _ (Heap.get?_push_of_some _ hb))
end
end
section
open PySem PySem.W PyProof.Rows PySem.Spec PySem.Calls
theorem setGen_bare {s : Shared} {g : Nat} {x : GenState} (h : AllBare s.gens) (hx : x.bare = true) : AllBare (s.setGen g x).gens := by
  intro y hy
  rcases Array.mem_or_eq_of_mem_setIfInBounds hy with hy | rfl
  · exact h y hy
  · exact hx
theorem gen_next {w : World} {dp un : Nat} {gd : Option (List Code)} {cn : Str} {cs : Scope} {a : Addr} {ccd : Value} {cl : List (Str × Addr)} {outer : List Env} {h₀ : Heap} {L : Addr} {m : Str → Option Value} {s : Shared}
    {Q : Option Value → Shared → Prop} {E : Value → Shared → Prop} {aG g Lg : Addr} {rem : List (Nat × List Nat)} {news priv : List (Addr × Obj)}
    (F : Fr h₀ L s.heap m) (N : News h₀ L s.heap (news ++ priv)) (hnl : h₀.NoLimit) (hB : AllBare s.gens) (hd : dp < recursionLimit)
    (hL : L < Lg) (hn : ∀ p ∈ news, p.1 < Lg) (G : GenIn w (ktrTop dp un gd cn cs L a ccd cl outer) h₀ aG g Lg rem priv s.gens)
    (hY : ∀ p rest T t1 t2 k priv' h' gens' tk', rem = p :: rest → Fr h₀ L h' m → News h₀ L h' ((T, tupO [.int (p.1 : Nat) t1, .str (mk p.2) t2] k) :: (news ++ priv')) → GenIn w (ktrTop dp un gd cn cs L a ccd cl outer) h₀ aG g Lg rest priv' gens' →
      AllBare gens' → Q (some (.ref T)) ⟨h', gens', s.drawn, tk', s.os⟩)
    (hP : ∀ h' gens' tk', rem = [] → Fr h₀ L h' m → News h₀ L h' news → AllBare gens' → Q none ⟨h', gens', s.drawn, tk', s.os⟩) :
    wpAny (model PySem.Challenge.rw_sh0064_01.prog w) (ktrTop dp un gd cn cs L a ccd cl outer) (pyNext (.ref aG)) Q E s := by
  obtain ⟨gs, o, nm, qn, items, hgs, ho, hao, hle, ⟨pre, hpre⟩, hgo⟩ := G
  have haLe : Lg ≤ aG := hle _ hao
  have hao' := (N _ (List.mem_append_right _ hao))
  have hIs : s.heap.IsGen aG g := ⟨o, nm, qn, hao'.1, by rw [ho], by rw [ho], by rw [ho]⟩
  have none₀ : ∀ b, h₀.get? b = none → True := fun _ _ => trivial
  have up : ∀ h₁ : Heap, (∀ b o, (b < Lg ∨ b = aG) → s.heap.get? b = some o → h₁.get? b = some o) → (∀ b o, h₀.get? b = some o → h₁.get? b = some o) → Fr h₀ L h₁ m ∧ News h₀ L h₁ news := fun h₁ kp k0 =>
    ⟨⟨F.ns.at' fun o e => kp _ o (.inl hL) e, k0, F.above⟩, fun p hp => ⟨kp _ _ (.inl (hn p hp)) (N p (List.mem_append_left _ hp)).1, (N p (List.mem_append_left _ hp)).2⟩⟩
  refine next_gen (g := g) (P := fun n s₀ s₁ => n = 0 ∧ ∃ (h₁ : Heap) (tk₁ : Nat), s₁ = { s₀ with heap := h₁, toks := tk₁ } ∧ (∀ b o, (b < Lg ∨ b = aG) → s₀.heap.get? b = some o → h₁.get? b = some o) ∧ (∀ b o, h₀.get? b = some o → h₁.get? b = some o))
    (Y := Yp h₀ Lg aG o items) (n := rem.length) rfl (hnl.keeps F.keep) hd hIs hgs (hgo (s.setGen g .running) (fun p hp => (N p (List.mem_append_right _ hp)).1) F.keep) ?_ ?_
  · intro v s₁ gs' hb hv
    obtain ⟨T, pos, chunk, t1, t2, k, h₁, tk₁, priv', rfl, hit, rfl, kp, k0, hT, hLT, hTa, hap, hpr, hk⟩ := hv
    have none₀ : ∀ b, Lg ≤ b → b ≠ L ∧ h₀.get? b = none := fun b hb =>
      ⟨Nat.ne_of_gt (Nat.lt_of_lt_of_le hL hb), Heap.get?_none_of_le (Nat.le_trans F.above (Nat.le_trans (Nat.le_of_lt hL) hb))⟩
    cases rem with
    | nil => exact (hk { s.setGen g .running with heap := h₁, toks := tk₁ } (fun p hp => (hpr p hp).2) k0).elim
    | cons p rest =>
      have hp : p = (pos, chunk) := Option.some.inj ((items_at hpre).symm.trans hit)
      subst hp
      obtain ⟨F₁, N₁⟩ := up h₁ kp k0
      refine hY _ rest T t1 t2 k priv' h₁ _ _ rfl F₁ ?_ ⟨gs', o, nm, qn, items, ?_, ho, hap, fun p hp => (hpr p hp).1, ⟨pre ++ [(pos, chunk)], by rw [hpre]; simp⟩, hk⟩ ?_
      · intro p hp
        rcases List.mem_cons.mp hp with rfl | hp
        · exact ⟨hT, none₀ _ (Nat.le_of_lt hLT)⟩
        · rcases List.mem_append.mp hp with hp | hp
          · exact N₁ p hp
          · exact ⟨(hpr p hp).2, none₀ _ (hpr p hp).1⟩
      · exact setGen_self (s := { s.setGen g .running with heap := h₁, toks := tk₁ }) (gs := .running) (setGen_self hgs)
      · exact setGen_bare (s := { s.setGen g .running with heap := h₁, toks := tk₁ }) (setGen_bare hB rfl) hb
  · intro s₁ hp h' hk'
    obtain ⟨h0, h₁, tk₁, rfl, kp, k0⟩ := hp
    obtain ⟨F₁, N₁⟩ := up h' (fun b o hb e => hk' _ _ (kp b o hb e)) (fun b o e => hk' _ _ (k0 b o e))
    refine hP h' _ _ (List.length_eq_zero_iff.mp h0) F₁ N₁ ?_
    exact setGen_bare (s := { s.setGen g .running with heap := h₁, toks := tk₁ }) (setGen_bare hB rfl) rfl
theorem GenIn.isGen {w : World} {A : Around} {h₀ h : Heap} {L aG g Lg : Addr} {rem : List (Nat × List Nat)} {news priv : List (Addr × Obj)} {gens : Array GenState} (G : GenIn w A h₀ aG g Lg rem priv gens) (N : News h₀ L h (news ++ priv)) : h.IsGen aG g := by
  obtain ⟨gs, o, nm, qn, items, hgs, ho, hao, _⟩ := G
  exact ⟨o, nm, qn, (N _ (List.mem_append_right _ hao)).1, by rw [ho], by rw [ho], by rw [ho]⟩
theorem let_gen {prog : Program} {w : World} {A : Around} {E : Value → Shared → Prop} {s : Shared} {elts : List Expr} {x1} {pos : Pos} {aG g : Addr} {v : Value} {Q : Unit → Shared → Prop} (hg : s.heap.IsGen aG g) (h : Q () s) :
    wpAny (model prog w) A (letOwnedTupleGo (.Tuple elts x1 pos) (.ref aG) v) Q E s := by
  obtain ⟨o, nm, qn, ho, hc, hd, _⟩ := hg
  cases v with
  | ref T =>
    unfold letOwnedTupleGo
    refine wpAny_bind (wpAny_load ho ?_)
    obtain ⟨c, d, dt, sl⟩ := o
    dsimp only at hc hd
    subst hc; subst hd
    show wpAny _ A (if (["enumerate", "zip", "dict_itemiterator", "dict_reverseitemiterator", "odict_iterator", "itertools.zip_longest", "itertools.pairwise"].contains "generator" && _) = true then _ else _) Q E s
    rw [if_neg (by simp)]
    exact wpAny_pure h
  | _ => exact wpAny_pure h
section
variable {h₀ h : Heap} {L : Addr} {m : Str → Option Value} {x1 x2 x3 x4 x5 : Str} {v1 v2 v3 v4 v5 : Option Value}
theorem know1 (F : Fr h₀ L h m) (e1 : m x1 = v1) : Fr h₀ L h (fun y => if y = x1 then v1 else m y) := know F e1
theorem know2 (F : Fr h₀ L h m) (e1 : m x1 = v1) (e2 : m x2 = v2) : Fr h₀ L h (fun y => if y = x1 then v1 else if y = x2 then v2 else m y) := by
  refine know1 (know1 F e2) ?_
  show (if x1 = x2 then v2 else m x1) = v1
  split
  · next q => subst q; rw [← e1, ← e2]
  · exact e1
theorem know3 (F : Fr h₀ L h m) (e1 : m x1 = v1) (e2 : m x2 = v2) (e3 : m x3 = v3) : Fr h₀ L h (fun y => if y = x1 then v1 else if y = x2 then v2 else if y = x3 then v3 else m y) := by
  refine know1 (know2 F e2 e3) ?_
  show (if x1 = x2 then v2 else if x1 = x3 then v3 else m x1) = v1
  split
  · next q => subst q; rw [← e1, ← e2]
  · split
    · next q => subst q; rw [← e1, ← e3]
    · exact e1
theorem know4 (F : Fr h₀ L h m) (e1 : m x1 = v1) (e2 : m x2 = v2) (e3 : m x3 = v3) (e4 : m x4 = v4) : Fr h₀ L h (fun y => if y = x1 then v1 else if y = x2 then v2 else if y = x3 then v3 else if y = x4 then v4 else m y) := by
  refine know1 (know3 F e2 e3 e4) ?_
  show (if x1 = x2 then v2 else if x1 = x3 then v3 else if x1 = x4 then v4 else m x1) = v1
  split
  · next q => subst q; rw [← e1, ← e2]
  · split
    · next q => subst q; rw [← e1, ← e3]
    · split
      · next q => subst q; rw [← e1, ← e4]
      · exact e1
end
theorem GenIn.le {w : World} {A : Around} {h₀ : Heap} {aG g Lg : Addr} {rem : List (Nat × List Nat)} {priv : List (Addr × Obj)} {gens : Array GenState} (G : GenIn w A h₀ aG g Lg rem priv gens) : ∀ p ∈ priv, Lg ≤ p.1 := by
  obtain ⟨gs, o, nm, qn, items, hgs, ho, hao, hle, _⟩ := G
  exact hle
theorem append_led {prog : Program} {w : World} {A : Around} {E : Value → Shared → Prop} {s : Shared} {h₀ : Heap} {L D : Addr} {m : Str → Option Value} {us : List Value} {n : Nat} {x : Value} {post : List (Addr × Obj)} {Q : Value → Shared → Prop}
    (F : Fr h₀ L s.heap m) (N : News h₀ L s.heap ((D, PySem.W.listOf us.toArray n) :: post)) (h2 : ∀ p ∈ post, p.1 ≠ D) (hsz : us.length ≤ sizeLine)
    (h : ∀ h', Fr h₀ L h' m → News h₀ L h' ((D, PySem.W.listOf (us ++ [x]).toArray (n + 1)) :: post) → Q .none { s with heap := h' }) : wpAny (model prog w) A (call (.builtin "list.append") [.ref D, x]) Q E s := by
  have z := N (D, PySem.W.listOf us.toArray n) (.head _)
  refine append_at (hsz := by simpa using hsz) z.1 fun h' hs ho' => h h' (F.change hs z.2.1 z.2.2) ?_
  have := news_set (pre := []) N (fun _ h => nomatch h) h2 hs ho'
  simpa using this
theorem strs_snoc {us : List Value} {ss : List Str} (h : StrsAre us ss) (y : Str) (t : Tok) : StrsAre (us ++ [.str y t]) (ss ++ [y]) := by
  induction h with
  | nil => exact .cons _ _ .nil
  | cons a b _ ih => exact .cons _ _ ih
theorem esc_len : ∀ (r : List Nat) (i : Nat) (b : Bool), (escItems i b r).length ≤ r.length + 1
  | [], i, true => by simp [escItems]
  | [], i, false => by simp [escItems]
  | c :: r, i, true => by have := esc_len r (i + 1) false; simp [escItems]; omega
  | c :: r, i, false => by
    have h1 := esc_len r (i + 1) false
    have h2 := esc_len r (i + 1) true
    simp only [escItems]; split <;> simp <;> omega
end
section
open PySem PySem.W PyProof.Rows PySem.Spec PySem.Calls
set_option maxRecDepth 100000
theorem slot_pat_search : Slot "re.Pattern" "search" "re.Pattern.search" :=
  .of (owner := "re.Pattern") (n := "search") (by rw [typeLookup_type, builtinLookup_eq_fast]; kernel_rfl) (by decide +kernel) (by decide +kernel) (by decide +kernel)
    (by first | exact .inl (by decide +kernel) | exact .inr (by decide +kernel)) (by rw [isSubtype_type]; kernel_rfl)
theorem type_pat_search : typeOf (.builtin "re.Pattern.search") = pure (.type "method_descriptor") := by show builtinType _ = _; rw [builtinType_eq_fast]; kernel_rfl
theorem entry_pat_search : entryFor table "re.Pattern.search" = some Builtin.«re.Pattern.search» := entryFor_of_tree (by kernel_rfl)
theorem args_pat_search (a b : Value) : argsOk "re.Pattern.search" ⟨[a, b], []⟩ := by
  unfold argsOk; kernel_rfl
theorem pat_getattribute : typeLookup (.type "re.Pattern") "__getattribute__" = pure (some (.builtin "object.__getattribute__")) := by rw [typeLookup_type, builtinLookup_eq_fast]; kernel_rfl
theorem pat_getattr_none : typeLookup (.type "re.Pattern") "__getattr__" = pure none := by rw [typeLookup_type, builtinLookup_eq_fast]; kernel_rfl
theorem getMethod_search {M : Model} {A : Around} {E : Value → Shared → Prop} {s : Shared} {l : Addr} {o : Obj} {pl : Sem Bool} {Q : Value × List Value → Shared → Prop} (ho : s.heap.get? l = some o) (hc : o.cls = .type "re.Pattern") (hd : o.dict = none)
    (h : Q (.builtin "re.Pattern.search", [.ref l]) s) : wpAny M A (getMethod (.ref l) "search" pl) Q E s := by
  have hT : s.TypeIs (.ref l) "re.Pattern" := ⟨o, ho, hc⟩
  unfold getMethod
  refine wpAny_bind (wpAny_specialOf hT pat_getattribute ?_)
  show wpAny M A (if (Manifest.canonical "object.__getattribute__" != "object.__getattribute__") = true then _ else _) Q E s
  rw [if_neg (by decide +kernel)]
  refine wpAny_bind (wpAny_specialOf hT pat_getattr_none ?_)
  refine wpAny_bind (wpAny_specialOf hT slot_pat_search.lookup ?_)
  refine wpAny_bind (wpAny_of_eq type_pat_search ?_)
  refine wpAny_bind (wpAny_load ho ?_)
  rw [hd]
  exact wpAny_bind (wpAny_rule (wpAny_pure h))
/-- a tree that only names rules -/
noncomputable def onlyRules : Nat → Sem PySem.Fin → Option PySem.Fin
  | _, .pure a => some a
  | n + 1, .rule _ k => onlyRules n (k ())
  | _, _ => none
theorem onlyRules_ok {M : Model} {A : Around} {E : Value → Shared → Prop} {s : Shared} {a : PySem.Fin} {Q : PySem.Fin → Shared → Prop} : ∀ (n : Nat) (t : Sem PySem.Fin), onlyRules n t = some a → Q a s → wpAny M A t Q E s := by
  intro n
  induction n with
  | zero =>
    intro t h hQ
    cases t with
    | pure b => simp only [onlyRules, Option.some.injEq] at h; subst h; exact wpAny_pure hQ
    | _ => simp [onlyRules] at h
  | succ n ih =>
    intro t h hQ
    cases t with
    | pure b => simp only [onlyRules, Option.some.injEq] at h; subst h; exact wpAny_pure hQ
    | rule tag k => simp only [onlyRules] at h; exact nd_rule (ih _ h hQ)
    | _ => simp [onlyRules] at h
noncomputable def code123 : Array Nat := #[14, 10, 4, 1, 1, 22, 0, 31, 16, 127, 0, 13, 7, 22, 0, 31, 16, 127, 0, 1]
noncomputable def plainTexts : List Str := ["a", "b", "c", "d", "e", "A", "B", "C", "D", "E", "-5", "-4", "-3", "-2", "-1", "0", "1", "2", "3", "4", "5", "9"].map Str.ofString
theorem all_plain {P : Str → Prop} (h : ∀ i < 22, P (plainTexts.getD i (Str.ofString ""))) : ∀ x ∈ plainTexts, P x := by
  intro x hx
  obtain ⟨i, hi, rfl⟩ := List.mem_iff_getElem.mp hx
  have h22 : plainTexts.length = 22 := by decide +kernel
  have := h i (h22 ▸ hi)
  rwa [List.getD_eq_getElem?_getD, List.getElem?_eq_getElem hi] at this
noncomputable abbrev obj123 (t1 : Tok) (src : Str) (tk : Tok) (c : Addr) : Obj := ⟨(.type "re.Pattern"), none, .fields #[(.str src tk), (.int 32 t1), (.int 0 0), .none, .none, (.ref c), (.int 0 0)], #[]⟩
theorem search_tree {M : Model} {A : Around} {E : Value → Shared → Prop} {s : Shared} {a c : Addr} {t1 tk : Tok} {src x : Str} {t : Tok} {n : Nat} {Q : PySem.Fin → Shared → Prop} {vs : Array Value} (ho : s.heap.get? a = some (obj123 t1 src tk c)) (hc : s.heap.get? c = some ⟨(.type "tuple"), none, .seq vs n, #[]⟩)
    (h : wpAny M A (Builtin.Re.reAnswer ⟨.ref a, .str x t, (vs.map Builtin.Re.reRawOf).map (·.toNat), x.cps, 0, 0, min 0 x.cps.size, min (2 ^ 63 - 1) x.cps.size⟩ (Sre.forSearch ((vs.map Builtin.Re.reRawOf).map (·.toNat)) x.cps 0 (min 0 x.cps.size) (min (2 ^ 63 - 1) x.cps.size) false)) Q E s) :
    wpAny M A (Builtin.«re.Pattern.search» ⟨[.ref a, .str x t], []⟩) Q E s := by
  unfold Builtin.«re.Pattern.search»
  refine wpAny_bind ?_
  unfold Builtin.Re.reTarget
  dsimp only
  repeat ((fail_if_success (with_reducible show wpAny _ _ (Builtin.Re.reAnswer _ _) _ _ _)); (first | with_reducible refine wpAny_bind ?_ | k_node))
  exact h
noncomputable def codes123 : List Value := [(.int 14 0), (.int 10 0), (.int 4 0), (.int 1 0), (.int 1 0), (.int 22 0), (.int 0 0), (.int 31 0), (.int 16 0), (.int 127 0), (.int 0 0), (.int 13 0), (.int 7 0), (.int 22 0), (.int 0 0), (.int 31 0), (.int 16 0), (.int 127 0), (.int 0 0), (.int 1 0)]
noncomputable def codes128 : List Value := [(.int 14 0), (.int 14 0), (.int 4 0), (.int 1 0), (.int 1 0), (.int 9 0), (.int 4294966783 0), (.int 0 0), (.int 0 0), (.int 2147483648 0), (.int 0 0), (.int 0 0), (.int 0 0), (.int 0 0), (.int 0 0), (.int 13 0), (.int 11 0), (.int 9 0), (.int 4294966783 0), (.int 0 0), (.int 0 0), (.int 2147483648 0), (.int 0 0), (.int 0 0), (.int 0 0), (.int 0 0), (.int 0 0), (.int 1 0)]
noncomputable def answers (codes : List Value) (pv sv : Value) (x : Str) : Prop := onlyRules 300 (Builtin.Re.reAnswer ⟨pv, sv, (codes.toArray.map Builtin.Re.reRawOf).map (·.toNat), x.cps, 0, 0, min 0 x.cps.size, min (2 ^ 63 - 1) x.cps.size⟩ (Sre.forSearch ((codes.toArray.map Builtin.Re.reRawOf).map (·.toNat)) x.cps 0 (min 0 x.cps.size) (min (2 ^ 63 - 1) x.cps.size) false)) = some (.done (.ret .none))
theorem answers123 (pv : Value) (t : Tok) : ∀ i < 22, answers codes123 pv (.str (plainTexts.getD i (Str.ofString "")) t) (plainTexts.getD i (Str.ofString ""))
  | 0, _ | 1, _ | 2, _ | 3, _ | 4, _ | 5, _ | 6, _ | 7, _ | 8, _ | 9, _ | 10, _ | 11, _ | 12, _ | 13, _ | 14, _ | 15, _ | 16, _ | 17, _ | 18, _ | 19, _ | 20, _ | 21, _ => by unfold answers; kernel_rfl
  | n + 22, h => by omega
theorem answers128 (pv : Value) (t : Tok) : ∀ i < 22, answers codes128 pv (.str (plainTexts.getD i (Str.ofString "")) t) (plainTexts.getD i (Str.ofString ""))
  | 0, _ | 1, _ | 2, _ | 3, _ | 4, _ | 5, _ | 6, _ | 7, _ | 8, _ | 9, _ | 10, _ | 11, _ | 12, _ | 13, _ | 14, _ | 15, _ | 16, _ | 17, _ | 18, _ | 19, _ | 20, _ | 21, _ => by unfold answers; kernel_rfl
  | n + 22, h => by omega
end
section
open PySem PySem.W PyProof.Rows PySem.Spec PySem.Calls
set_option maxRecDepth 100000
noncomputable def IterO (l : Addr) (i : Nat) (o : Obj) : Prop := o.cls = .type "list_iterator" ∧ o.data = .fields #[.ref l, .int i 0] ∧ o.isFreed = false
section
variable {prog : Program} {w : World} {A : Around} {E : Value → Shared → Prop} {s : Shared} {h₀ : Heap} {L l I : Addr} {m : Str → Option Value} {news post : List (Addr × Obj)} {vs : List Value} {n i : Nat}
theorem list_iter {Q : Value → Shared → Prop} (F : Fr h₀ L s.heap m) (N : News h₀ L s.heap news) (hm : (l, PySem.W.listOf vs.toArray n) ∈ news)
    (h : ∀ I oI h', IterO l 0 oI → Fr h₀ L h' m → News h₀ L h' ((I, oI) :: news) → (∀ p ∈ news, p.1 < I) → Q (.ref I) { s with heap := h' }) : wpAny (model prog w) A (pyIter (.ref l)) Q E s :=
  wpAny_pyIter_list ⟨_, (N _ hm).1, rfl, n, rfl⟩ (h _ _ _ ⟨rfl, rfl, rfl⟩ (F.push _) (News.push F N _ rfl) fun p hp => Heap.lt_size (N p hp).1)
theorem list_next {oI : Obj} {Q : Option Value → Shared → Prop} (hh : A.handled = none) (F : Fr h₀ L s.heap m) (hI : IterO l i oI) (N : News h₀ L s.heap ((I, oI) :: post)) (hm : (l, PySem.W.listOf vs.toArray n) ∈ post) (hp : ∀ p ∈ post, p.1 < I)
    (hs : ∀ v oI' h', vs[i]? = some v → IterO l (i + 1) oI' → Fr h₀ L h' m → News h₀ L h' ((I, oI') :: post) → Q (some v) { s with heap := h' })
    (hn : ∀ h', vs[i]? = none → Fr h₀ L h' m → News h₀ L h' post → Q none { s with heap := h' }) : wpAny (model prog w) A (pyNext (.ref I)) Q E s := by
  have zI := N (I, oI) (.head _)
  have hit : s.heap.IsListIter I l i := ⟨oI, zI.1, hI.1, hI.2.1⟩
  have hl : s.heap.IsList l vs.toArray := ⟨_, (N _ (.tail _ hm)).1, rfl, n, rfl⟩
  have keep : ∀ h', Heap.ExtBut I s.heap h' → Fr h₀ L h' m ∧ News h₀ L h' post := fun h' hb =>
    ⟨⟨F.ns.at' fun o e => hb _ o (Ne.symm zI.2.1) e, fun b o e => hb b o (fun q => by rw [q, zI.2.2] at e; cases e) (F.keep b o e), F.above⟩,
      fun p hp' => ⟨hb _ _ (Nat.ne_of_lt (hp p hp')) (N p (.tail _ hp')).1, (N p (.tail _ hp')).2⟩⟩
  cases hv : vs[i]? with
  | none => exact wpAny_pyNext_list_end hh hit hl (by simpa using hv) fun h' hb => hn h' hv (keep h' hb).1 (keep h' hb).2
  | some v =>
    refine wpAny_pyNext_list_item hit hl (by simpa using hv) fun h' hi hb => ?_
    obtain ⟨o', ho', hc', hd'⟩ := hi
    have hf : o'.isFreed = false := Obj.isFreed_of_fields hd'
    obtain ⟨F', N'⟩ := keep h' hb.extBut
    refine hs v o' h' hv ⟨hc', hd', hf⟩ F' fun p hp' => ?_
    rcases List.mem_cons.mp hp' with rfl | hp'
    · exact ⟨ho', zI.2⟩
    · exact N' p hp'
theorem let_iter {oI : Obj} {elts : List Expr} {x1} {pos : Pos} {v : Value} {Q : Unit → Shared → Prop} (hI : IterO l i oI) (ho : s.heap.get? I = some oI) (h : Q () s) :
    wpAny (model prog w) A (letOwnedTupleGo (.Tuple elts x1 pos) (.ref I) v) Q E s := by
  cases v with
  | ref T =>
    unfold letOwnedTupleGo
    refine wpAny_bind (wpAny_load ho ?_)
    obtain ⟨c, d, dt, sl⟩ := oI
    obtain ⟨hc, hd, _⟩ := hI
    dsimp only at hc hd
    subst hc; subst hd
    show wpAny _ A (if (["enumerate", "zip", "dict_itemiterator", "dict_reverseitemiterator", "odict_iterator", "itertools.zip_longest", "itertools.pairwise"].contains "list_iterator" && _) = true then _ else _) Q E s
    rw [if_neg (by simp)]
    exact wpAny_pure h
  | _ => exact wpAny_pure h
theorem news_front {h : Heap} {p : Addr × Obj} (N : News h₀ L h news) (hm : p ∈ news) : News h₀ L h (p :: news) := fun q hq => (List.mem_cons.mp hq).elim (fun e => e ▸ N p hm) (fun h => N q h)
end
section
variable {w : World} {A : Around} {E : Value → Shared → Prop} {s : Shared} {P : Params} {x : Str} {t : Tok}
theorem gm_search123 {M : Model} {pl : Sem Bool} {Q : Value × List Value → Shared → Prop} (X : (heap P).In s.heap) (h : Q (.builtin "re.Pattern.search", [.ref 123]) s) : wpAny M A (getMethod (.ref 123) (Str.ofString "search") pl) Q E s :=
  getMethod_search (X _ _ rfl) rfl rfl h
theorem gm_search128 {M : Model} {pl : Sem Bool} {Q : Value × List Value → Shared → Prop} (X : (heap P).In s.heap) (h : Q (.builtin "re.Pattern.search", [.ref 128]) s) : wpAny M A (getMethod (.ref 128) (Str.ofString "search") pl) Q E s :=
  getMethod_search (X _ _ rfl) rfl rfl h
theorem sc_search123 {prog : Program} {Q : Value → Shared → Prop} (X : (heap P).In s.heap) (hx : x ∈ plainTexts) (h : Q .none s) : wpAny (model prog w) A (call (.builtin "re.Pattern.search") [.ref 123, .str x t]) Q E s := by
  refine wpAny_call_entry slot_pat_search ⟨_, X 123 _ rfl, rfl⟩ entry_pat_search ?_ (args_pat_search _ _)
  refine search_tree (vs := codes123.toArray) (c := 122) (X 123 _ rfl) (X 122 _ rfl) (onlyRules_ok 300 _ ?_ ⟨.none, rfl, h⟩)
  exact all_plain (P := fun x => answers codes123 (.ref 123) (.str x t) x) (answers123 _ _) x hx
theorem sc_search128 {prog : Program} {Q : Value → Shared → Prop} (X : (heap P).In s.heap) (hx : x ∈ plainTexts) (h : Q .none s) : wpAny (model prog w) A (call (.builtin "re.Pattern.search") [.ref 128, .str x t]) Q E s := by
  refine wpAny_call_entry slot_pat_search ⟨_, X 128 _ rfl, rfl⟩ entry_pat_search ?_ (args_pat_search _ _)
  refine search_tree (vs := codes128.toArray) (c := 127) (X 128 _ rfl) (X 127 _ rfl) (onlyRules_ok 300 _ ?_ ⟨.none, rfl, h⟩)
  exact all_plain (P := fun x => answers codes128 (.ref 128) (.str x t) x) (answers128 _ _) x hx
end
theorem lower_plain : ∀ x ∈ plainTexts, Txt.lower x ∈ plainTexts := by
  have : plainTexts.all (fun x => decide (Txt.lower x ∈ plainTexts)) = true := by decide +kernel
  exact fun x hx => of_decide_eq_true (List.all_eq_true.mp this x hx)
theorem plain_len : ∀ x ∈ plainTexts, x.length ≤ 2 := by
  have : plainTexts.all (fun x => decide (x.length ≤ 2)) = true := by decide +kernel
  exact fun x hx => of_decide_eq_true (List.all_eq_true.mp this x hx)
end
section
open PySem PySem.W PyProof.Rows PySem.Spec PySem.Calls
set_option maxRecDepth 100000
theorem slot_cit_iter : Slot "callable_iterator" "__iter__" "callable_iterator.__iter__" :=
  .of (owner := "callable_iterator") (n := "__iter__") (by rw [typeLookup_type, builtinLookup_eq_fast]; kernel_rfl) (by decide +kernel) (by decide +kernel) (by decide +kernel)
    (by first | exact .inl (by decide +kernel) | exact .inr (by decide +kernel)) (by rw [isSubtype_type]; kernel_rfl)
theorem slot_cit_next : Slot "callable_iterator" "__next__" "callable_iterator.__next__" :=
  .of (owner := "callable_iterator") (n := "__next__") (by rw [typeLookup_type, builtinLookup_eq_fast]; kernel_rfl) (by decide +kernel) (by decide +kernel) (by decide +kernel)
    (by first | exact .inl (by decide +kernel) | exact .inr (by decide +kernel)) (by rw [isSubtype_type]; kernel_rfl)
theorem entry_cit_next : entryFor table "callable_iterator.__next__" = some Builtin.«callable_iterator.__next__» := entryFor_of_fast (by kernel_rfl)
theorem entry_cit_iter : entryFor table "callable_iterator.__iter__" = some Builtin.«dict_keyiterator.__iter__» :=
  entryFor_alias (id' := "dict_keyiterator.__iter__") (by kernel_rfl) rfl (by decide +kernel) (by kernel_rfl)
theorem args_cit_iter (a : Value) : argsOk "callable_iterator.__iter__" ⟨[a], []⟩ := by unfold argsOk; kernel_rfl
theorem args_cit_next (a : Value) : argsOk "callable_iterator.__next__" ⟨[a], []⟩ := by unfold argsOk; kernel_rfl
theorem args_iter2 (a b : Value) : argsOk "iter" ⟨[a, b], []⟩ := by unfold argsOk; kernel_rfl
theorem method_call_slot : typeLookup (.type "method") "__call__" = pure (some (.builtin "method.__call__")) := by rw [typeLookup_type, builtinLookup_eq_fast]; kernel_rfl
/-- the iterator that calls -/
noncomputable abbrev citO (M : Addr) (t : Tok) : Obj := { cls := .type "callable_iterator", data := .fields #[.ref M, .str (Str.ofString "") t, .bool false] }
/-- it has ended -/
noncomputable abbrev citE : Obj := { cls := .type "callable_iterator", data := .fields #[.none, .none, .bool true] }
theorem wpAny_callBorrowed {M : Model} {A : Around} {E : Value → Shared → Prop} {s : Shared} {f : Value} {pos : List Value} {Q : Value → Shared → Prop}
    (h : ∀ R : Result → Shared → Prop, (∀ v s', Q v s' → R (.ok (.ret v)) s') → codeAny M A (.call f ⟨pos, []⟩) R s) : wpAny M A (callBorrowed f pos) Q E s :=
  fun Γ p hΓ => h _ (fun _ _ q => q) _ p rfl (hΓ.enter _ none p (by intro x; cases x))
section
variable {prog : Program} {w : World} {A : Around} {E : Value → Shared → Prop} {s : Shared} {h₀ : Heap} {L I M f lx : Addr} {m : Str → Option Value} {news : List (Addr × Obj)} {t : Tok}
theorem cit_new {Q : Value → Shared → Prop} (F : Fr h₀ L s.heap m) (N : News h₀ L s.heap news) (hm : (M, methodObj (.ref f) (.ref lx)) ∈ news)
    (h : ∀ I h', Fr h₀ L h' m → News h₀ L h' ((I, citO M t) :: news) → (∀ p ∈ news, p.1 < I) → Q (.ref I) { s with heap := h' }) :
    wpAny (model prog w) A (call (.builtin "iter") [.ref M, .str (Str.ofString "") t]) Q E s := by
  refine call_function_entry (by decide +kernel) (by decide +kernel) kdk_entry_iter (args_iter2 _ _) ?_
  unfold Builtin.«iter»
  refine wpAny_bind (m := someArgs "iter" 1 2 _) (wpAny_of_eq (a := [Value.ref M, .str (Str.ofString "") t]) (by first | rfl | kernel_rfl!) ?_)
  dsimp only
  refine wpAny_bind (wpAny_specialOf (T := "method") ⟨_, (N _ hm).1, rfl⟩ method_call_slot ?_)
  dsimp only [Option.isNone, Bool.false_eq_true]
  refine wpAny_bind (wpAny_rule ?_)
  simp only [newFields]
  refine wpAny_bind (wpAny_newObj_type ?_ (by size_fits))
  exact wpAny_pure ⟨_, rfl, h _ _ (F.push _) (News.push F N _ rfl) fun q hq => Heap.lt_size (N q hq).1⟩
theorem cit_iter {Q : Value → Shared → Prop} {o : Obj} (N : News h₀ L s.heap news) (hm : (I, o) ∈ news) (ho : o.cls = .type "callable_iterator") (h : Q (.ref I) s) :
    wpAny (model prog w) A (pyIter (.ref I)) Q E s := by
  have hT : s.TypeIs (.ref I) "callable_iterator" := ⟨_, (N _ hm).1, ho⟩
  refine wpAny_pyIter_slot hT slot_cit_iter (wpAny_call_entry slot_cit_iter hT entry_cit_iter ?_ (args_cit_iter _))
  show wpAny _ _ (ret (.ref I)) _ _ s
  exact wpAny_pure ⟨_, rfl, "callable_iterator", _, hT, slot_cit_next.lookup, h⟩

theorem extBut_trans {h1 h2 h3 : Heap} (a : Heap.ExtBut I h1 h2) (b : Heap.ExtBut I h2 h3) : Heap.ExtBut I h1 h3 := fun c o hc e => b c o hc (a c o hc e)
theorem extBut_up {h1 h2 h3 : Heap} (a : Heap.ExtBut I h1 h2) (b : ∀ b o, h2.get? b = some o → h3.get? b = some o) : Heap.ExtBut I h1 h3 := fun c o hc e => b c o (a c o hc e)
theorem cit_raise_gen {α : Type} {R : α → Shared → Prop} {E' : Value → Shared → Prop} (hh : A.handled = none)
    (hQ : ∀ h' e, (∀ b o, s.heap.get? b = some o → h'.get? b = some o) → (⟨h', s.gens, s.drawn, s.toks, s.os⟩ : Shared).TypeIs e "StopIteration" → E' e { s with heap := h' }) :
    wpAny (model prog w) A.in1 (Builtin.SmallTypes.stopIteration : Sem α) R E' s := by
  unfold Builtin.SmallTypes.stopIteration
  refine wpAny_bind ?_
  simp only [newExc, newTuple]
  refine wpAny_bind (wpAny_newObj_type ?_ (by size_fits))
  refine wpAny_bind (m := firstArgMember _ _) (wpAny_of_eq (a := Value.none) (by first | rfl | (simp only [firstArgMember]; rfl)) ?_)
  refine wpAny_newObj_type ?_ (by size_fits)
  simp only [raiseNew]
  refine wpAny_bind (wpAny_handled ?_)
  rw [show A.in1.handled = none from hh]
  refine wpAny_bind (wpAny_pure (wpAny_throw ?_))
  exact hQ _ _ (fun b o e => Heap.get?_push_of_some _ (Heap.get?_push_of_some _ e)) ⟨_, Heap.get?_push_size _ rfl, rfl⟩
theorem cit_raise {α : Type} {R : α → Shared → Prop} {Q : Option Value → Shared → Prop} (hh : A.handled = none) (hQ : ∀ h', (∀ b o, s.heap.get? b = some o → h'.get? b = some o) → Q none { s with heap := h' }) :
    wpAny (model prog w) A.in1 (Builtin.SmallTypes.stopIteration : Sem α) R (fun e s' => wpAny (model prog w) A (do if ← isInstance e (.type "StopIteration") then pure none else throw e) Q E s') s :=
  cit_raise_gen hh fun h' e hk hT => wpAny_bind (wpAny_isInstance (T := "StopIteration") (b := true) hT isSubtype_stop (wpAny_pure (hQ h' hk)))
theorem borrows_method {Q : Bool → Shared → Prop} {M : Addr} {o : Obj} {fd : FuncData} {P : Model} (hM : s.heap.get? M = some (methodObj (.ref f) (.ref lx))) (hf : s.heap.get? f = some o) (hd : o.data = .func fd) (h : Q true s) :
    wpAny P A (borrowsExactly (.ref M)) Q E s := by
  unfold borrowsExactly
  dsimp only
  refine wpAny_bind (wpAny_load hM ?_)
  dsimp only [methodObj]
  rw [if_pos (by rfl)]
  refine wpAny_bind (wpAny_load hf ?_)
  rw [hd]
  exact wpAny_pure h
/-- what a call within the iterator must leave -/
noncomputable def CitPost (I M f lx : Addr) (t : Tok) (Q : Option Value → Shared → Prop) (v : Value) (s' : Shared) : Prop :=
  ∃ x u, v = .str x u ∧ s'.heap.get? I = some (citO M t) ∧ ((x ≠ Str.ofString "" ∧ Q (some v) s') ∨ (x = Str.ofString "" ∧ s'.heap.get? M = some (methodObj (.ref f) (.ref lx)) ∧ (∃ o fd, s'.heap.get? f = some o ∧ o.data = .func fd) ∧
    ∀ h', Heap.ExtBut I s'.heap h' → h'.get? I = some citE → Q none { s' with heap := h' }))
theorem cit_next {Q : Option Value → Shared → Prop} {o : Obj} {fd : FuncData} (hh : A.handled = none) (hI : s.heap.get? I = some (citO M t)) (hM : s.heap.get? M = some (methodObj (.ref f) (.ref lx))) (hf : s.heap.get? f = some o) (hd : o.data = .func fd)
    (hcall : ∀ R : Result → Shared → Prop, (∀ v s', CitPost I M f lx t Q v s' → R (.ok (.ret v)) s') → codeAny (model prog w) A.in1 (.call (.ref f) ⟨[.ref lx], []⟩) R s) :
    wpAny (model prog w) A (pyNext (.ref I)) Q E s := by
  have hT : s.TypeIs (.ref I) "callable_iterator" := ⟨_, hI, rfl⟩
  unfold pyNext
  refine wpAny_bind (wpAny_attempt (wpAny_callSpecial?_slot (name := Str.ofString "__next__") hT slot_cit_next (wpAny_call_entry slot_cit_next hT entry_cit_next ?_ (args_cit_next _))))
  unfold Builtin.«callable_iterator.__next__»
  refine wpAny_bind (wpAny_of_eq (a := (Value.ref I, ([] : List Value))) rfl ?_)
  dsimp only
  refine wpAny_bind (wpAny_field hI rfl (x := .bool false) rfl ?_)
  rw [if_neg (by decide)]
  refine wpAny_bind (wpAny_field hI rfl (x := .ref M) rfl ?_)
  refine wpAny_bind (wpAny_attempt ?_)
  unfold callOutOfASlot
  refine wpAny_bind (borrows_method hM hf hd ?_)
  rw [if_pos rfl]
  refine wpAny_callBorrowed fun R hR => method_call hM (hcall R fun v s' hp => hR v s' ?_)
  obtain ⟨x, u, rfl, hI', hx⟩ := hp
  dsimp only
  refine wpAny_bind (wpAny_field hI' rfl (x := .bool false) rfl ?_)
  rw [if_neg (by decide)]
  refine wpAny_bind (wpAny_field hI' rfl (x := .str (Str.ofString "") t) rfl ?_)
  refine wpAny_bind (wpAny_holding (wpAny_eqBool_str ?_))
  rcases hx with ⟨hx, hq⟩ | ⟨hx, hM', ⟨o', fd', hf', hd'⟩, hq⟩
  · rw [if_pos (by rw [decide_eq_false (fun e => hx e.symm)]; rfl)]
    exact wpAny_pure ⟨_, rfl, wpAny_pure hq⟩
  · rw [if_neg (by rw [decide_eq_true hx.symm]; decide)]
    refine wpAny_bind (wpAny_rule ?_)
    refine wpAny_bind ?_
    with_unfolding_all refine wpAny_bind ?_
    refine wpAny_field hI' rfl (x := .ref M) rfl ?_
    refine wpAny_bind ?_
    unfold slotLetsGo
    dsimp only
    refine wpAny_bind (borrows_method hM' hf' hd' ?_)
    rw [if_pos rfl]
    refine wpAny_pure ?_
    refine wpAny_bind (wpAny_setField_rec hI' (by simp) fun h1 e1 b1 => ?_)
    refine wpAny_bind (wpAny_setField_rec e1 (by simp) fun h2 e2 b2 => ?_)
    refine wpAny_setField_rec e2 (by simp) fun h3 e3 b3 => ?_
    exact cit_raise hh fun h' hk => hq h' (extBut_up (extBut_trans (extBut_trans b1.extBut b2.extBut) b3.extBut) hk) (hk _ _ e3)
theorem cit_next_ended {Q : Option Value → Shared → Prop} (hh : A.handled = none) (hI : s.heap.get? I = some citE)
    (hQ : ∀ h', (∀ b o, s.heap.get? b = some o → h'.get? b = some o) → Q none { s with heap := h' }) :
    wpAny (model prog w) A (pyNext (.ref I)) Q E s := by
  have hT : s.TypeIs (.ref I) "callable_iterator" := ⟨_, hI, rfl⟩
  unfold pyNext
  refine wpAny_bind (wpAny_attempt (wpAny_callSpecial?_slot (name := Str.ofString "__next__") hT slot_cit_next (wpAny_call_entry slot_cit_next hT entry_cit_next ?_ (args_cit_next _))))
  unfold Builtin.«callable_iterator.__next__»
  refine wpAny_bind (wpAny_of_eq (a := (Value.ref I, ([] : List Value))) rfl ?_)
  dsimp only
  refine wpAny_bind (wpAny_field hI rfl (x := .bool true) rfl ?_)
  rw [if_pos (by decide)]
  refine wpAny_bind (wpAny_rule ?_)
  refine wpAny_bind ?_
  exact cit_raise hh hQ
end
end
section
local macro_rules | `(tactic| omega) => `(tactic| lia)
local macro_rules | `(tactic| walk_at "no such key 0") => `(tactic| skip)
open PySem PySem.W PyProof.Rows PySem.Spec PySem.Calls
local macro_rules | `(tactic| k_mem) => `(tactic| assumption)
local macro_rules | `(tactic| walk_at "subscriptTail") => `(tactic| (k_here; (with_reducible show wpAny _ _ (subscriptTail _ _ (Value.ref _) (Value.int _ _)) _ _ _); (with_unfolding_all refine sub_tup (News.get (by k_asm) (by k_mem)) (by decide) (by decide) (by rfl) ?_ (by with_unfolding_all rfl)); k_whole))
noncomputable def low (i : Nat) : Str := mk [97 + i]
theorem lower_letter (c : Fin 10) : Txt.lower (letter c) = low (c.1 % 5) := by revert c; decide +kernel
theorem occ_low (c : Fin 10) : PySem.Builtin.Str.occurrences (Str.ofString "abcde") (low (c.1 % 5)) 0 (Str.ofString "abcde").length 1 = [c.1 % 5] := by revert c; decide +kernel
theorem intsAre_getD {us : List Value} {ns : List Int} (h : IntsAre us ns) : ∀ {i : Nat}, i < us.length → ∃ t, us[i]? = some (.int (ns.getD i 0) t) := by
  induction h with
  | nil => intro i hi; cases hi
  | cons k t r ih =>
    intro i hi
    cases i with
    | zero => exact ⟨t, rfl⟩
    | succ i => obtain ⟨t', e⟩ := ih (i := i) (by simpa using hi); exact ⟨t', by simpa using e⟩
noncomputable def T.worth (ns : List Int) : T → Int
  | .leaf c => ns.getD (c.1 % 5) 0
  | .node s l r => if s then max (l.worth ns) (r.worth ns) else min (l.worth ns) (r.worth ns)
local macro_rules | `(tactic| walk_at "call builtin:str.index") => `(tactic| (refine SC.index (occ_low _) ?_))
theorem sign_gt {b : Bool} (h : (sign b == Str.ofString ">") = true) : b = true := by revert h; cases b <;> decide +kernel
theorem sign_lt {b : Bool} (h : (sign b == Str.ofString ">") = false) : b = false := by revert h; cases b <;> decide +kernel
set_option maxRecDepth 100000 in
set_option maxHeartbeats 8000000 in
theorem worth_ok (w : World) (us : List Value) (ns : List Int) (hi : IntsAre us ns) (h5 : us.length = 5) (n : Nat) (aK : Addr) : ∀ t news v, TreeIn news v t → (aK, PySem.W.listOf us.toArray n) ∈ news → t.size ≤ 10 →
    Fn w (call (.ref 323) [v, .ref aK]) t.depth (8 * t.depth) news (fun r news' => ∃ tk, r = .int (t.worth ns) tk ∧ news = news') := by
  intro t
  induction t with
  | leaf c =>
    intro news v hR hK hs
    cases hR
    unfold Fn
    k_fill
    intro dp un gd cn cs a ccd cl outer A₀ base h₀ L m s p loose mean mg mb Q E B F X N Tp hk hG hd hu hret
    refine wpAny_call ?_
    k_dflt ktr_enter
    k_steps
    refine SCL.lower (Nat.le_of_ble_eq_true rfl) (fun _ => ?_)
    rw [lower_letter]
    k_steps
    simp only [Int.toNat_natCast]
    exact hret _ _ _ _ _ (by k_asm) (by k_asm) hG ⟨_, rfl, rfl⟩
  | node sg l r ihl ihr =>
    intro news v hR hK hs
    have hl : l.size ≤ 10 := by simp only [T.size] at hs; omega
    have hr : r.size ≤ 10 := by simp only [T.size] at hs; omega
    cases hR
    unfold Fn
    k_fill
    intro dp un gd cn cs a ccd cl outer A₀ base h₀ L m s p loose mean mg mb Q E B F X N Tp hk hG hd hu hret
    refine wpAny_call ?_
    k_dflt ktr_enter
    k_steps
    ((try unfold Hold); refine' fn_use ?IH ?k1 ?k2 ?k3 ?k4 ?k5 ?kK ?kG ?kd ?ku ?_; (case IH => exact ihl _ _ (by assumption) hK hl); (case k1 => k_asm); (case k2 => k_asm); (case k3 => k_asm); (case k4 => k_asm); (case k5 => k_asm); (case kK => first | exact rfl | assumption); (case kG => assumption); (case kd => (first | with_reducible apply roomL hd | with_reducible apply roomR hd | (simp only [T.depth] at hd; show dp + 1 + _ < _; first | exact room1 hd (by decide) | omega))); (case ku => (first | with_reducible apply unitL hu | with_reducible apply unitR hu | (simp only [T.depth] at hu; show un + 3 + _ < _; first | exact room3 hu (by decide) | omega))); intro r1 news1 h1 g1 tk1 F1 N1 G1 hR1)
    obtain ⟨tk1, e1, e2⟩ := hR1; subst e1; subst e2
    k_steps
    ((try unfold Hold); refine' fn_use ?IH ?k1 ?k2 ?k3 ?k4 ?k5 ?kK ?kG ?kd ?ku ?_; (case IH => exact ihr _ _ (by assumption) hK hr); (case k1 => k_asm); (case k2 => k_asm); (case k3 => k_asm); (case k4 => k_asm); (case k5 => k_asm); (case kK => first | exact rfl | assumption); (case kG => assumption); (case kd => (first | with_reducible apply roomL hd | with_reducible apply roomR hd | (simp only [T.depth] at hd; show dp + 1 + _ < _; first | exact room1 hd (by decide) | omega))); (case ku => (first | with_reducible apply unitL hu | with_reducible apply unitR hu | (simp only [T.depth] at hu; show un + 3 + _ < _; first | exact room3 hu (by decide) | omega))); intro r2 news2 h2 g2 tk2 F2 N2 G2 hR2)
    obtain ⟨tk2, e1, e2⟩ := hR2; subst e1; subst e2
    k_steps
    · have hsg : sg = true := sign_gt (by assumption)
      rw [show (if T.worth ns r > T.worth ns l then T.worth ns r else T.worth ns l) = T.worth ns (.node sg l r) by subst hsg; simp only [T.worth, if_true]; split <;> omega]
      exact hret _ _ _ _ _ (by k_asm) (news_sub (by k_asm) (fun p hp => .tail _ hp)) (by assumption) ⟨_, rfl, rfl⟩
    · have hsg : sg = false := sign_lt (by assumption)
      rw [show (if T.worth ns r < T.worth ns l then T.worth ns r else T.worth ns l) = T.worth ns (.node sg l r) by subst hsg; simp only [T.worth, Bool.false_eq_true, if_false]; split <;> omega]
      exact hret _ _ _ _ _ (by k_asm) (news_sub (by k_asm) (fun p hp => .tail _ hp)) (by assumption) ⟨_, rfl, rfl⟩
end
section
open PySem PySem.W PyProof.Rows PySem.Spec PySem.Calls
theorem map3 {l : List (Str × Tok)} {a b c : Str} (h : l.map (fun x => x.1) = [a, b, c]) : ∃ t1 t2 t3, l = [(a, t1), (b, t2), (c, t3)] := by
  match l, h with
  | [(a', t1), (b', t2), (c', t3)], h => simp at h; obtain ⟨rfl, rfl, rfl⟩ := h; exact ⟨t1, t2, t3, rfl⟩
theorem map1 {l : List (Str × Tok)} {a : Str} (h : l.map (fun x => x.1) = [a]) : ∃ t1, l = [(a, t1)] := by
  match l, h with
  | [(a', t1)], h => simp at h; obtain rfl := h; exact ⟨t1, rfl⟩
set_option maxRecDepth 100000 in
set_option maxHeartbeats 8000000 in
theorem decode3_ok (w : World) (x a' b' c' : Str) (t : Tok) (news : List (Addr × Obj)) (hx : x.length ≤ 100) (hs : Txt.splitMax x (Str.ofString "'") 2 = [a', b', c']) : Fn w (call (.ref 76) [.str x t]) 1 100 news
    (fun r news' => ∃ D t1 t2 t3, r = .ref D ∧ news' = (D, PySem.W.listOf #[.str a' t1, .str b' t2, .str c' t3] 0) :: news) := by
    unfold Fn
    k_fill
    intro dp un gd cn cs a ccd cl outer A₀ base h₀ L m s p loose mean mg mb Q E B F X N Tp hk hG hd hu hret
    refine wpAny_call ?_
    k_dflt ktr_enter
    k_steps
    rename List.map _ _ = Txt.splitMax _ _ _ => hl
    rw [hs] at hl
    obtain ⟨t1, t2, t3, rfl⟩ := map3 hl
    k_steps
    exact hret _ ((_, PySem.W.listOf #[.str a' t1, .str b' t2, .str c' t3] 0) :: news) _ _ _ (by k_asm) (by k_asm) hG ⟨_, _, _, _, rfl, rfl⟩
set_option maxRecDepth 100000 in
set_option maxHeartbeats 8000000 in
theorem decode1_ok (w : World) (x : Str) (t : Tok) (news : List (Addr × Obj)) (hx : x.length ≤ 100) (hs : Txt.splitMax x (Str.ofString "'") 2 = [x]) : Fn w (call (.ref 76) [.str x t]) 1 100 news
    (fun r news' => ∃ D, r = .ref D ∧ news' = (D, tupO [.none, .none, .str x t] 0) :: news) := by
    unfold Fn
    k_fill
    intro dp un gd cn cs a ccd cl outer A₀ base h₀ L m s p loose mean mg mb Q E B F X N Tp hk hG hd hu hret
    refine wpAny_call ?_
    k_dflt ktr_enter
    k_steps
    rename List.map _ _ = Txt.splitMax _ _ _ => hl
    rw [hs] at hl
    obtain ⟨t1, rfl⟩ := map1 hl
    k_steps
    exact hret _ ((_, tupO [.none, .none, .str x t] 0) :: news) _ _ _ (by k_asm) (news_sub (by k_asm) mem_skip) hG ⟨_, rfl, rfl⟩
end
section
open PySem PySem.W PyProof.Rows PySem.Spec PySem.Calls
theorem ints_of_all : ∀ us : List Value, (∀ v ∈ us, ∃ n t, v = Value.int n t) → ∃ ms, IntsAre us ms
  | [], _ => ⟨[], .nil⟩
  | v :: r, h => by
    obtain ⟨n, t, rfl⟩ := h v (.head _)
    obtain ⟨ms, hm⟩ := ints_of_all r fun u hu => h u (.tail _ hu)
    exact ⟨n :: ms, .cons _ _ hm⟩
theorem ints_mem {us : List Value} {ns : List Int} (h : IntsAre us ns) : ∀ v ∈ us, ∃ n t, v = Value.int n t := by
  induction h with
  | nil => exact fun _ h => nomatch h
  | cons n t _ ih => exact List.forall_mem_cons.mpr ⟨⟨n, t, rfl⟩, ih⟩
theorem ints_pick {vs : List Value} {ns : List Int} (h : IntsAre vs ns) (lo hi st : Option Int) : ∃ ms, IntsAre (slicePick vs.toArray lo hi st).toList ms := by
  refine ints_of_all _ fun v hv => ?_
  unfold slicePick at hv
  have hv' : v ∈ List.filterMap (vs.toArray[·]?) (PySem.sliceRange (sliceBounds lo hi st vs.toArray.size).1 (sliceBounds lo hi st vs.toArray.size).2.1 (sliceBounds lo hi st vs.toArray.size).2.2) := by simpa using hv
  obtain ⟨i, _, e⟩ := List.mem_filterMap.mp hv'
  refine ints_mem h v ?_
  have e' : vs[i]? = some v := by simpa using e
  exact List.mem_of_getElem? e'
theorem sum_pick {prog : Program} {w : World} {A : Around} {E : Value → Shared → Prop} {s : Shared} {h₀ : Heap} {L D : Addr} {m : Str → Option Value} {news : List (Addr × Obj)} {vs : List Value} {ns : List Int} {lo hi st : Option Int} {n : Nat} {Q : Value → Shared → Prop}
    (hh : A.handled = none) (F : Fr h₀ L s.heap m) (N : News h₀ L s.heap news) (hm : (D, ({ cls := .type "list", data := .seq (slicePick vs.toArray lo hi st) n } : Obj)) ∈ news) (hi' : IntsAre vs ns)
    (h : ∀ S h' tk t', Fr h₀ L h' m → News h₀ L h' news → Q (.int S t') { s with heap := h', toks := tk }) : wpAny (model prog w) A (call (.builtin "sum") [.ref D]) Q E s := by
  obtain ⟨ms, hms⟩ := ints_pick hi' lo hi st
  exact LSm.sum_ints F N hh ⟨_, (N _ hm).1, rfl, n, by simp⟩ hms fun h' tk t' F' N' => h _ h' tk t' F' N'
theorem pow_facts : ∀ k < 9, ((120 : Int) ^ k ≠ 0 ∧ ((120 : Int) ^ k).natAbs.log2 < 9000) ∧ ((11 : Int) ^ k ≠ 0 ∧ ((11 : Int) ^ k).natAbs.log2 < 9000) := by decide +kernel
section
variable {prog : Program} {w : World} {A : Around} {E : Value → Shared → Prop} {s : Shared} {a k : Int} {t u : Tok} {Q : Value → Shared → Prop}
theorem fdiv120 (h0 : 0 ≤ k) (h1 : k < 9) (h : Q (.int (a.fdiv (120 ^ k.toNat)) s.toks) { s with toks := s.toks + 1 }) : wpAny (model prog w) A (binaryOp .FloorDiv (.int a t) (.int (120 ^ k.toNat) u)) Q E s :=
  have f := (pow_facts k.toNat (by omega)).1
  floordiv_int f.1 h (.inl (PyProof.noPylong_of_log2 f.2))
theorem fdiv11 (h0 : 0 ≤ k) (h1 : k < 9) (h : Q (.int (a.fdiv (11 ^ k.toNat)) s.toks) { s with toks := s.toks + 1 }) : wpAny (model prog w) A (binaryOp .FloorDiv (.int a t) (.int (11 ^ k.toNat) u)) Q E s :=
  have f := (pow_facts k.toNat (by omega)).2
  floordiv_int f.1 h (.inl (PyProof.noPylong_of_log2 f.2))
end
end
local macro_rules | `(tactic| walk_at "exec For Name Name cons nil") => `(tactic| (with_unfolding_all refine For_go ?_ (by intro _; rfl)))
local macro_rules | `(tactic| walk_at "exec For Name Call cons nil") => `(tactic| (with_unfolding_all refine For_go ?_ (by intro _; rfl)))
local macro_rules | `(tactic| walk_at "exec For Name List cons nil") => `(tactic| (with_unfolding_all refine For_go ?_ (by intro _; rfl)))
local macro_rules | `(tactic| walk_at "exec For Name Attribute cons nil") => `(tactic| (with_unfolding_all refine For_go ?_ (by intro _; rfl)))
local macro_rules | `(tactic| walk_at "exec For Tuple Name cons nil") => `(tactic| (with_unfolding_all refine For_go ?_ (by intro _; rfl)))
local macro_rules | `(tactic| walk_at "exec For Tuple Call cons nil") => `(tactic| (with_unfolding_all refine For_go ?_ (by intro _; rfl)))
local macro_rules | `(tactic| walk_at "exec For Tuple List cons nil") => `(tactic| (with_unfolding_all refine For_go ?_ (by intro _; rfl)))
local macro_rules | `(tactic| walk_at "exec For Tuple Attribute cons nil") => `(tactic| (with_unfolding_all refine For_go ?_ (by intro _; rfl)))
section
open PySem PySem.W PyProof.Rows PySem.Spec PySem.Calls
local macro_rules | `(tactic| k_all) => `(tactic| assumption)
set_option maxRecDepth 100000 in
set_option maxHeartbeats 8000000 in
theorem tree_ok (w : World) (aD : Addr) : ∀ (sz : Nat) (us : List Value) (ds : List Int) (n : Nat) (u : Tok) (rest : List (Addr × Obj)), 1 ≤ sz → sz ≤ 5 → IntsAre us ds → us.length ≤ 9 → 2 * sz - 1 ≤ us.length → (∀ p ∈ rest, p.1 ≠ aD) →
    Fn w (call (.ref 262) [.ref aD, .int sz u]) sz (8 * sz) ((aD, PySem.W.listOf us.toArray n) :: rest) (fun r news' => ∃ t us' ds' n' tl, IntsAre us' ds' ∧ us'.length + (2 * sz - 1) = us.length ∧ t.size + 1 = sz ∧
      (aD, PySem.W.listOf us'.toArray n') :: (tl ++ rest) = news' ∧ TreeIn tl r t ∧ (∀ p ∈ tl ++ rest, p.1 ≠ aD)) := by
  intro sz
  induction sz using Nat.strongRecOn with
  | ind sz IH =>
    intro us ds n u rest h1 h5 hi hl9 hpop hne
    have hpos : 0 < us.length := by omega
    have hsz : us.length ≤ sizeLine := by rw [PySem.sizeLine_eq]; omega
    unfold Fn
    k_fill
    intro dp un gd cn cs a ccd cl outer A₀ base h₀ L m s p loose mean mg mb Q E B F X N Tp hk hG hd hu hret
    refine wpAny_call ?_
    k_dflt ktr_enter
    k_steps
    · obtain ⟨c, hc⟩ := item_letter _ (fmod_lt (a := ds.getLastD 0) (by decide : (0:Int) < 10)).1 (fmod_lt (by decide)).2
      rw [hc]
      exact hret _ _ _ _ _ (by k_asm) (by k_asm) hG ⟨.leaf c, us.dropLast, ds.dropLast, n + 1, [], by assumption, by rw [List.length_dropLast]; omega, by simp only [T.size]; omega, rfl, .leaf, hne⟩
    · obtain ⟨l', hl', hb1, hb2⟩ : ∃ l' : Nat, 1 + ((ds.getLastD 0).fdiv 2).fmod (↑sz - 1) = (l' : Int) ∧ 1 ≤ l' ∧ l' + 1 ≤ sz := by
        have hp : (0:Int) < sz - 1 := by omega
        have := fmod_lt (a := (ds.getLastD 0).fdiv 2) hp
        exact ⟨(1 + ((ds.getLastD 0).fdiv 2).fmod (↑sz - 1)).toNat, by omega, by omega, by omega⟩
      rw [hl']
      ((try unfold Hold); refine' fn_use ?IH ?k1 ?k2 ?k3 ?k4 ?k5 ?kK ?kG ?kd ?ku ?_; (case IH => exact IH l' (by omega) us.dropLast ds.dropLast (n + 1) _ rest hb1 (by omega) (by assumption) (by rw [List.length_dropLast]; omega) (by rw [List.length_dropLast]; omega) hne); (case k1 => k_asm); (case k2 => k_asm); (case k3 => k_asm); (case k4 => k_asm); (case k5 => k_asm); (case kK => first | exact rfl | assumption); (case kG => assumption); (case kd => (show dp + 1 + _ < _; first | exact room1 hd (by decide) | omega)); (case ku => (show un + 3 + _ < _; first | exact room3 hu (by decide) | omega)); intro r1 news1 h1 g1 tk1 F1 N1 G1 hR1)
      obtain ⟨t1, us1, ds1, n1, tl1, hi1, hl1, hs1, e1, ht1, hne1⟩ := hR1
      subst e1
      rw [List.length_dropLast] at hl1
      k_steps
      obtain ⟨sg, hsg⟩ := item_sign _ (fmod_lt (a := ds.getLastD 0) (by decide : (0:Int) < 2)).1 (fmod_lt (by decide)).2
      simp only [hsg]
      rw [show (↑sz : Int) - (1 + ((ds.getLastD 0).fdiv 2).fmod (↑sz - 1)) = ((sz - l' : Nat) : Int) by omega]
      ((try unfold Hold); refine' fn_use ?IH ?k1 ?k2 ?k3 ?k4 ?k5 ?kK ?kG ?kd ?ku ?_; (case IH => exact IH (sz - l') (by omega) us1 ds1 n1 _ (tl1 ++ rest) (by omega) (by omega) hi1 (by omega) (by omega) hne1); (case k1 => k_asm); (case k2 => k_asm); (case k3 => k_asm); (case k4 => k_asm); (case k5 => k_asm); (case kK => first | exact rfl | assumption); (case kG => assumption); (case kd => (show dp + 1 + _ < _; first | exact room1 hd (by decide) | omega)); (case ku => (show un + 3 + _ < _; first | exact room3 hu (by decide) | omega)); intro r2 news2 h2 g2 tk2 F2 N2 G2 hR2)
      obtain ⟨t2, us2, ds2, n2, tl2, hi2, hl2, hs2, e2, ht2, hne2⟩ := hR2
      subst e2
      have fin : ∀ (D : Addr) (h9 : Heap) (g9 : Array GenState) (k9 : Nat) (t9 : Tok) (n9 : Nat), News h₀ L h9 ((D, tupO [.str (sign sg) t9, r1, r2] n9) :: (aD, PySem.W.listOf us2.toArray n2) :: (tl2 ++ (tl1 ++ rest))) → aD < D → Fr h₀ L h9 m → AllBare g9 → Q (.ref D) ⟨h9, g9, s.drawn, k9, s.os⟩ := by
        intro D h9 g9 k9 t9 n9 N9 lt F9 G9
        refine hret _ _ _ _ _ F9 (news_sub N9 ?_) G9 ⟨.node sg t1 t2, us2, ds2, n2, (D, tupO [.str (sign sg) t9, r1, r2] n9) :: (tl2 ++ tl1), hi2, by omega, by simp only [T.size]; omega, rfl, .node (List.Mem.head _) (ht1.mono ?_) (ht2.mono ?_), ?_⟩
        · intro p hp; simp only [List.mem_cons, List.mem_append, List.cons_append] at hp ⊢; grind
        · intro p hp; simp only [List.mem_cons, List.mem_append]; grind
        · intro p hp; simp only [List.mem_cons, List.mem_append]; grind
        · intro p hp
          simp only [List.mem_cons, List.mem_append, List.cons_append] at hp
          rcases hp with rfl | hp
          · exact Nat.ne_of_gt lt
          · exact hne2 p (by simp only [List.mem_append]; grind)
      k_steps
      exact fin _ _ _ _ _ _ (by k_asm) (And.left (by assumption)) (by k_asm) (by assumption)
end
section
local macro_rules | `(tactic| omega) => `(tactic| lia)
open PySem PySem.W PyProof.Rows PySem.Spec PySem.Calls
theorem apart_of {news priv : List (Addr × Obj)} {lR Lg : Addr} {o : Obj} (h1 : ∀ p ∈ news, p.1 < lR) (h2 : ∀ p ∈ (lR, o) :: news, p.1 < Lg) (h3 : ∀ p ∈ priv, Lg ≤ p.1) : ∀ p ∈ news ++ priv, p.1 ≠ lR := fun p hp =>
  (List.mem_append.mp hp).elim (fun h => Nat.ne_of_lt (h1 p h)) (fun h => Nat.ne_of_gt (Nat.lt_of_lt_of_le (h2 (lR, o) (.head _)) (h3 p h)))
theorem lt_head {a : Addr} {o o' : Obj} {news : List (Addr × Obj)} {Lg : Addr} (h : ∀ p ∈ (a, o) :: news, p.1 < Lg) : ∀ p ∈ (a, o') :: news, p.1 < Lg :=
  List.forall_mem_cons.mpr ⟨h (a, o) (.head _), fun p hp => h p (.tail _ hp)⟩
/-- what is left when the quoted parts go -/
noncomputable def stripGo (x : Str) : List (Nat × List Nat) → Nat → Option Nat → List Str → Nat × List Str
  | [], start, _, ss => (start, ss)
  | (pos, ch) :: r, start, op, ss => if mk ch == Str.ofString "\"" then
      match op with
      | none => stripGo x r start (some pos) ss
      | some o => stripGo x r (pos + 1) none (if start = o then ss else ss ++ [Txt.slice x (some (start : Nat)) (some (o : Nat))])
    else stripGo x r start op ss
noncomputable def opV : Option Nat → Tok → Value
  | none, _ => .none
  | some o, k => .int (o : Nat) k
noncomputable def stripEnd (x : Str) (p : Nat × List Str) : Str := Txt.join (Str.ofString "") (if p.1 < x.length then p.2 ++ [Txt.slice x (some (p.1 : Nat)) none] else p.2)
noncomputable def strip (x : Str) : Str := if (PySem.Builtin.Str.occurrences x (Str.ofString "\"") 0 x.length 1).isEmpty then x else stripEnd x (stripGo x (escItems 0 false x.cps.toList) 0 none [])
theorem sum_len {ss : List Str} {k : Nat} (h : ∀ y ∈ ss, y.length ≤ k) : (ss.map (·.length)).sum ≤ ss.length * k := by
  induction ss with
  | nil => simp
  | cons y r ih =>
    have := ih fun z hz => h z (.tail _ hz)
    have := h y (.head _)
    simp only [List.map_cons, List.sum_cons, List.length_cons, Nat.succ_mul]; omega
theorem strs_length {us : List Value} {ss : List Str} (h : StrsAre us ss) : us.length = ss.length := by induction h with
  | nil => rfl
  | cons _ _ _ ih => simp [ih]
theorem join_end {prog : Program} {w : World} {A : Around} {E : Value → Shared → Prop} {s : Shared} {h₀ : Heap} {L D : Addr} {its : Array Value} {us : List Value} {ss : List Str} {n : Nat} {t : Tok} {post : List (Addr × Obj)} {Q : Value → Shared → Prop}
    (N : News h₀ L s.heap ((D, PySem.W.listOf its n) :: post)) (hits : its.toList = us) (hss : StrsAre us ss) (hl : ss.length ≤ 201) (hs : ∀ y ∈ ss, y.length ≤ 100)
    (h : ∀ t' k, Q (.str (Txt.join (Str.ofString "") ss) t') { s with toks := k }) : wpAny (model prog w) A (call (.builtin "str.join") [.str (Str.ofString "") t, .ref D]) Q E s := by
  subst hits
  refine join_listC (News.isList N (.head _)) hss (by decide) ?_ h
  have := sum_len hs
  have h1 : ss.length * 100 ≤ 201 * 100 := Nat.mul_le_mul_right _ hl
  omega
theorem strip_end {x : Str} {start : Nat} {op : Option Nat} {ss : List Str} (hq : (PySem.Builtin.Str.occurrences x (Str.ofString "\"") 0 x.length 1).isEmpty = false) (hY : stripGo x [] start op ss = stripGo x (escItems 0 false x.cps.toList) 0 none []) : strip x = stripEnd x (start, ss) := by
  rw [strip, if_neg (by rw [hq]; exact Bool.false_ne_true), ← hY]; cases op <;> rfl
/-- between two turns -/
inductive SI (w : World) (A : Around) (h₀ : Heap) (L : Addr) (x : Str) (t : Tok) (aR aG g Lg : Addr) (news : List (Addr × Obj)) (Y : Nat × List Str) (s₀ : Shared) (k : Nat) (s : Shared) : Prop where
  | mk (h : Heap) (gens : Array GenState) (tk : Tok) (m : Str → Option Value) (rem : List (Nat × List Nat)) (priv : List (Addr × Obj)) (start : Nat) (op : Option Nat) (us : List Value) (ss : List Str) (n : Nat) (tks tko : Tok)
    (c0 : s = ⟨h, gens, s₀.drawn, tk, s₀.os⟩)
    (c1 : k = rem.length)
    (c2 : Fr h₀ L h m)
    (c3 : News h₀ L h (((aR, PySem.W.listOf us.toArray n) :: news) ++ priv))
    (c4 : AllBare gens)
    (c5 : GenIn w A h₀ aG g Lg rem priv gens)
    (c6 : StrsAre us ss)
    (c7 : stripGo x rem start op ss = Y)
    (c8 : m (Str.ofString "addr") = some (.str x t))
    (c9 : m (Str.ofString "start") = some (.int (start : Nat) tks))
    (c10 : m (Str.ofString "result") = some (.ref aR))
    (c11 : m (Str.ofString "open_pos") = some (opV op tko))
    (c12 : us.length + rem.length ≤ 200)
    (c13 : (∀ y ∈ ss, y.length ≤ 100))
local macro_rules | `(tactic| walk_at "call builtin:str.join") => `(tactic| ((with_reducible show wpAny _ _ (call (Value.builtin _) [Value.str _ _, Value.ref _]) _ _ _); refine hold_it ?_))
set_option maxRecDepth 100000 in
set_option maxHeartbeats 8000000 in
theorem strip_ok (w : World) (x : Str) (t : Tok) (news : List (Addr × Obj)) (hx : x.length ≤ 100) : Fn w (call (.ref 62) [.str x t]) 3 300 news (fun r news' => ∃ tk, r = .str (strip x) tk ∧ news = news') := by
    unfold Fn
    k_fill
    intro dp un gd cn cs a ccd cl outer A₀ base h₀ L m s p loose mean mg mb Q E B F X N Tp hk hG hd hu hret
    refine wpAny_call ?_
    k_dflt ktr_enter
    k_steps
    · have hq : (PySem.Builtin.Str.occurrences x (Str.ofString "\"") 0 x.length 1).isEmpty = true := by assumption
      exact hret _ _ _ _ _ (by k_asm) (by k_asm) hG ⟨_, by rw [strip, if_pos hq], rfl⟩
    · have hq0 : (PySem.Builtin.Str.occurrences x (Str.ofString "\"") 0 x.length 1).isEmpty = false := by assumption
      (refine' gen_make _ _ _ _ _ _ _ _ _ _ _ _ _ _ _ _ _ _ _ _ _ _ _ _ _ _ ?k1 ?k2 ?k3 ?k4 ?k5 ?kK ?kG ?kd ?ku ?_; (case k1 => k_asm); (case k2 => k_asm); (case k3 => k_asm); (case k4 => k_asm); (case k5 => k_asm); (case kK => first | exact rfl | assumption); (case kG => assumption); (case kd => (show dp + _ < _; first | exact room0 hd (by decide) | omega)); (case ku => (show un + _ < _; first | exact room0 hu (by decide) | omega)); intro aG gG Lg priv1 h1 gens1 tk1 F1 N1 hL1 hlt1 G1 B1; refine wpAny_pyIter_gen (G1.isGen N1) ?_)
      have init : SI w _ _ _ x t _ aG gG Lg news (stripGo x (escItems 0 false x.cps.toList) 0 none []) s _ ⟨h1, gens1, s.drawn, tk1, s.os⟩ :=
        ⟨_, _, _, _, _, _, 0, none, [], [], _, _, 0, rfl, rfl, F1, N1, B1, G1, .nil, rfl, by with_unfolding_all rfl, by with_unfolding_all rfl, by with_unfolding_all rfl, by with_unfolding_all rfl, by have := esc_len x.cps.toList 0 false; have : x.cps.toList.length = x.length := rfl; simp only [List.length_nil]; omega, fun _ h => nomatch h⟩
      rename ∀ p ∈ news, p.1 < _ => hl'
      refine for_inv (SI w _ _ _ x t _ aG gG Lg news _ s) ?turn _ init
      case turn =>
        intro k s' E' gA hAg hI
        obtain ⟨h, gens, tk, mI, rem, priv, start, op, us, ss, n, tks, tko, rfl, rfl, F2, N2, B2, G2, hss, hY, m1, m2, m3, m4, hub, hsl⟩ := hI
        cases op with
        | none =>
          dsimp only [opV] at m4
          have F3 := know4 F2 m1 m2 m3 m4
          have hsz : us.length ≤ sizeLine := by rw [PySem.sizeLine_eq]; omega
          refine gen_next F3 N2 (by assumption : Top _ _ _ _ _ _).nolimit B2 (by show dp + 1 < _; omega) hL1 (lt_head hlt1) G2 ?_ ?_
          · intro p rest T t1 t2 kk priv' h' gens' tk' hrem F4 N4 G4 B4
            obtain ⟨pos, ch⟩ := p
            subst hrem
            simp only [List.length_cons] at hub
            have hpd := apart_of hl' hlt1 G4.le
            refine let_gen (G4.isGen (fun p hp => N4 p (.tail _ hp))) ?_
            k_steps
            · have hch : (mk ch == Str.ofString "\"") = true := by assumption
              simp only [stripGo, hch, if_true] at hY
              exact hAg (rest.length) _ (Nat.lt_succ_self _) ⟨_, _, _, _, rest, priv', start, (some pos), us, ss, n, tks, _, rfl, rfl, (by k_asm), news_sub (by k_asm) (fun p hp => .tail _ hp), B4, G4, hss, hY, by with_unfolding_all rfl, by with_unfolding_all rfl, by with_unfolding_all rfl, by with_unfolding_all rfl, by omega, hsl⟩
            · have hch : (mk ch == Str.ofString "\"") = false := by assumption
              simp only [stripGo, hch, Bool.false_eq_true, if_false] at hY
              exact hAg (rest.length) _ (Nat.lt_succ_self _) ⟨_, _, _, _, rest, priv', start, none, us, ss, n, tks, 0, rfl, rfl, (by k_asm), news_sub (by k_asm) (fun p hp => .tail _ hp), B4, G4, hss, hY, by with_unfolding_all rfl, by with_unfolding_all rfl, by with_unfolding_all rfl, by with_unfolding_all rfl, by omega, hsl⟩
          · intro h' gens' tk' hrem F4 N4 B4
            subst hrem
            show wpAny _ _ _ _ _ _
            k_steps
            · have hlt : start < x.length := by have : (start : Int) < (x.length : Int) := by assumption
                                                omega
              have hsl' : ∀ y ∈ ss ++ [Txt.slice x (some (start : Int)) none], y.length ≤ 100 := fun y hy => (List.mem_append.mp hy).elim (hsl y) (fun h => by rw [List.mem_singleton.mp h]; exact Nat.le_trans (Txt.slice_le _ _ _) hx)
              unfold Hold
              refine join_end (by k_asm) (by rw [Array.toList_push]) (strs_snoc hss _ _) (by have := strs_length hss; simp only [List.length_append, List.length_singleton]; omega) hsl' fun t' k => ?_
              have hfin : strip x = Txt.join (Str.ofString "") (ss ++ [Txt.slice x (some (start : Int)) none]) := by
                rw [strip_end hq0 hY, stripEnd, if_pos hlt]
              rw [← hfin]
              k_steps
              exact hret _ _ _ _ _ (by k_asm) (news_sub (by k_asm) (fun p hp => .tail _ hp)) B4 ⟨_, rfl, rfl⟩
            · have hlt : ¬ start < x.length := by have : ¬ (start : Int) < (x.length : Int) := by assumption
                                                  omega
              unfold Hold
              refine join_end (by k_asm) rfl hss (by have := strs_length hss; omega) hsl fun t' k => ?_
              have hfin : strip x = Txt.join (Str.ofString "") ss := by
                rw [strip_end hq0 hY, stripEnd, if_neg hlt]
              rw [← hfin]
              k_steps
              exact hret _ _ _ _ _ (by k_asm) (news_sub (by k_asm) (fun p hp => .tail _ hp)) B4 ⟨_, rfl, rfl⟩
        | some o =>
          dsimp only [opV] at m4
          have F3 := know4 F2 m1 m2 m3 m4
          have hsz : us.length ≤ sizeLine := by rw [PySem.sizeLine_eq]; omega
          refine gen_next F3 N2 (by assumption : Top _ _ _ _ _ _).nolimit B2 (by show dp + 1 < _; omega) hL1 (lt_head hlt1) G2 ?_ ?_
          · intro p rest T t1 t2 kk priv' h' gens' tk' hrem F4 N4 G4 B4
            obtain ⟨pos, ch⟩ := p
            subst hrem
            simp only [List.length_cons] at hub
            have hpd := apart_of hl' hlt1 G4.le
            refine let_gen (G4.isGen (fun p hp => N4 p (.tail _ hp))) ?_
            k_steps
            · have hch : (mk ch == Str.ofString "\"") = true := by assumption
              have hne : ¬ start = o := by have : (start : Int) ≠ (o : Int) := by assumption
                                           omega
              simp only [stripGo, hch, if_true, if_neg hne] at hY
              refine append_led (by k_asm) (news_sub (by k_asm) (fun p hp => .tail _ hp)) hpd hsz fun h' F5 N5 => ?_
              clear hch
              k_steps
              have hsl' : ∀ y ∈ ss ++ [Txt.slice x (some (start : Int)) (some (o : Int))], y.length ≤ 100 := fun y hy => (List.mem_append.mp hy).elim (hsl y) (fun h => by rw [List.mem_singleton.mp h]; exact Nat.le_trans (Txt.slice_le _ _ _) hx)
              exact hAg (rest.length) _ (Nat.lt_succ_self _) ⟨_, _, _, _, rest, priv', (pos + 1), none, _, _, _, _, 0, rfl, rfl, (by k_asm), (by k_asm), B4, G4, strs_snoc hss _ _, hY, by with_unfolding_all rfl, by with_unfolding_all rfl, by with_unfolding_all rfl, by with_unfolding_all rfl, by simp only [List.length_append, List.length_singleton]; omega, hsl'⟩
            · have hch : (mk ch == Str.ofString "\"") = true := by assumption
              have hne : start = o := by have : (start : Int) = (o : Int) := by assumption
                                         omega
              simp only [stripGo, hch, if_true, if_pos hne] at hY
              exact hAg (rest.length) _ (Nat.lt_succ_self _) ⟨_, _, _, _, rest, priv', (pos + 1), none, us, ss, n, _, 0, rfl, rfl, (by k_asm), news_sub (by k_asm) (fun p hp => .tail _ hp), B4, G4, hss, hY, by with_unfolding_all rfl, by with_unfolding_all rfl, by with_unfolding_all rfl, by with_unfolding_all rfl, by omega, hsl⟩
            · have hch : (mk ch == Str.ofString "\"") = false := by assumption
              simp only [stripGo, hch, Bool.false_eq_true, if_false] at hY
              exact hAg (rest.length) _ (Nat.lt_succ_self _) ⟨_, _, _, _, rest, priv', start, (some o), us, ss, n, tks, tko, rfl, rfl, (by k_asm), news_sub (by k_asm) (fun p hp => .tail _ hp), B4, G4, hss, hY, by with_unfolding_all rfl, by with_unfolding_all rfl, by with_unfolding_all rfl, by with_unfolding_all rfl, by omega, hsl⟩
          · intro h' gens' tk' hrem F4 N4 B4
            subst hrem
            show wpAny _ _ _ _ _ _
            k_steps
            · have hlt : start < x.length := by have : (start : Int) < (x.length : Int) := by assumption
                                                omega
              have hsl' : ∀ y ∈ ss ++ [Txt.slice x (some (start : Int)) none], y.length ≤ 100 := fun y hy => (List.mem_append.mp hy).elim (hsl y) (fun h => by rw [List.mem_singleton.mp h]; exact Nat.le_trans (Txt.slice_le _ _ _) hx)
              unfold Hold
              refine join_end (by k_asm) (by rw [Array.toList_push]) (strs_snoc hss _ _) (by have := strs_length hss; simp only [List.length_append, List.length_singleton]; omega) hsl' fun t' k => ?_
              have hfin : strip x = Txt.join (Str.ofString "") (ss ++ [Txt.slice x (some (start : Int)) none]) := by
                rw [strip_end hq0 hY, stripEnd, if_pos hlt]
              rw [← hfin]
              k_steps
              exact hret _ _ _ _ _ (by k_asm) (news_sub (by k_asm) (fun p hp => .tail _ hp)) B4 ⟨_, rfl, rfl⟩
            · have hlt : ¬ start < x.length := by have : ¬ (start : Int) < (x.length : Int) := by assumption
                                                  omega
              unfold Hold
              refine join_end (by k_asm) rfl hss (by have := strs_length hss; omega) hsl fun t' k => ?_
              have hfin : strip x = Txt.join (Str.ofString "") ss := by
                rw [strip_end hq0 hY, stripEnd, if_neg hlt]
              rw [← hfin]
              k_steps
              exact hret _ _ _ _ _ (by k_asm) (news_sub (by k_asm) (fun p hp => .tail _ hp)) B4 ⟨_, rfl, rfl⟩
end
section
open PySem PySem.W PyProof.Rows PySem.Spec PySem.Calls
noncomputable def checkGo : List (Nat × List Nat) → Int → Bool
  | [], opens => decide (opens = 0)
  | (_, ch) :: r, opens => if mk ch == Str.ofString "(" then checkGo r (opens + 1) else if mk ch == Str.ofString ")" then (if opens - 1 < 0 then false else checkGo r (opens - 1)) else checkGo r opens
noncomputable def check (x : Str) : Bool := checkGo (escItems 0 false (strip x).cps.toList) 0
inductive CI (w : World) (A : Around) (h₀ : Heap) (L : Addr) (aG g Lg : Addr) (news : List (Addr × Obj)) (Y : Bool) (s₀ : Shared) (k : Nat) (s : Shared) : Prop where
  | mk (h : Heap) (gens : Array GenState) (tk : Tok) (m : Str → Option Value) (rem : List (Nat × List Nat)) (priv : List (Addr × Obj)) (opens : Int) (tko : Tok)
    (c0 : s = ⟨h, gens, s₀.drawn, tk, s₀.os⟩)
    (c1 : k = rem.length)
    (c2 : Fr h₀ L h m)
    (c3 : News h₀ L h (news ++ priv))
    (c4 : AllBare gens)
    (c5 : GenIn w A h₀ aG g Lg rem priv gens)
    (c6 : checkGo rem opens = Y)
    (c7 : m (Str.ofString "opens") = some (.int opens tko))
set_option maxRecDepth 100000 in
set_option maxHeartbeats 8000000 in
theorem check_ok (w : World) (x : Str) (t : Tok) (news : List (Addr × Obj)) (hx : x.length ≤ 100) : Fn w (call (.ref 69) [.str x t]) 5 400 news (fun r news' => r = .bool (check x) ∧ news = news') := by
    unfold Fn
    k_fill
    intro dp un gd cn cs a ccd cl outer A₀ base h₀ L m s p loose mean mg mb Q E B F X N Tp hk hG hd hu hret
    refine wpAny_call ?_
    k_dflt ktr_enter
    k_steps
    ((try unfold Hold); refine' fn_use ?IH ?k1 ?k2 ?k3 ?k4 ?k5 ?kK ?kG ?kd ?ku ?_; (case IH => exact strip_ok w x t news hx); (case k1 => k_asm); (case k2 => k_asm); (case k3 => k_asm); (case k4 => k_asm); (case k5 => k_asm); (case kK => first | exact rfl | assumption); (case kG => assumption); (case kd => (show dp + 1 + _ < _; first | exact room1 hd (by decide) | omega)); (case ku => (show un + 3 + _ < _; first | exact room3 hu (by decide) | omega)); intro r1 news1 h1 g1 tk1 F1 N1 G1 hR1)
    obtain ⟨tk1, e1, e2⟩ := hR1; subst e1; subst e2
    k_steps
    (refine' gen_make _ _ _ _ _ _ _ _ _ _ _ _ _ _ _ _ _ _ _ _ _ _ _ _ _ _ ?k1 ?k2 ?k3 ?k4 ?k5 ?kK ?kG ?kd ?ku ?_; (case k1 => k_asm); (case k2 => k_asm); (case k3 => k_asm); (case k4 => k_asm); (case k5 => k_asm); (case kK => first | exact rfl | assumption); (case kG => assumption); (case kd => (show dp + 1 + _ < _; first | exact room1 hd (by decide) | omega)); (case ku => (show un + 3 + _ < _; first | exact room3 hu (by decide) | omega)); intro aG gG Lg priv1 h1 gens1 tk1 F1 N1 hL1 hlt1 G1 B1; refine wpAny_pyIter_gen (G1.isGen N1) ?_)
    have init : CI w _ _ _ aG gG Lg news (check x) s _ ⟨h1, gens1, s.drawn, tk1, s.os⟩ :=
      ⟨_, _, _, _, _, _, 0, _, rfl, rfl, F1, N1, B1, G1, rfl, by with_unfolding_all rfl⟩
    refine for_inv (CI w _ _ _ aG gG Lg news _ s) ?turn _ init
    case turn =>
      intro k s' E' gA hAg hI
      obtain ⟨h, gens, tk, mI, rem, priv, opens, tko, rfl, rfl, F2, N2, B2, G2, hY, m1⟩ := hI
      have F3 := know1 F2 m1
      refine gen_next F3 N2 (by assumption : Top _ _ _ _ _ _).nolimit B2 (by show dp + 1 < _; omega) hL1 hlt1 G2 ?_ ?_
      · intro p rest T t1 t2 kk priv' h' gens' tk' hrem F4 N4 G4 B4
        obtain ⟨pos, ch⟩ := p
        subst hrem
        refine let_gen (G4.isGen (fun p hp => N4 p (.tail _ hp))) ?_
        k_steps
        · have hc1 : (mk ch == Str.ofString "(") = true := by assumption
          simp only [checkGo, hc1, if_true] at hY
          exact hAg (rest.length) _ (Nat.lt_succ_self _) ⟨_, _, _, _, rest, priv', (opens + 1), _, rfl, rfl, (by k_asm), news_sub (by k_asm) (fun p hp => .tail _ hp), B4, G4, hY, by with_unfolding_all rfl⟩
        · have hc1 : (mk ch == Str.ofString "(") = false := by assumption
          have hc2 : (mk ch == Str.ofString ")") = true := by assumption
          have hlt : opens - 1 < 0 := by assumption
          simp only [checkGo, hc1, hc2, Bool.false_eq_true, if_false, if_true, if_pos hlt] at hY
          dsimp only
          unfold TurnEnd
          dsimp only
          k_steps
          exact hret _ _ _ _ _ (by k_asm) (news_sub (by k_asm) (fun p hp => .tail _ (List.mem_append_left _ hp))) B4 ⟨by rw [← hY], rfl⟩
        · have hc1 : (mk ch == Str.ofString "(") = false := by assumption
          have hc2 : (mk ch == Str.ofString ")") = true := by assumption
          have hlt : ¬ opens - 1 < 0 := by assumption
          simp only [checkGo, hc1, hc2, Bool.false_eq_true, if_false, if_true, if_neg hlt] at hY
          exact hAg (rest.length) _ (Nat.lt_succ_self _) ⟨_, _, _, _, rest, priv', (opens - 1), _, rfl, rfl, (by k_asm), news_sub (by k_asm) (fun p hp => .tail _ hp), B4, G4, hY, by with_unfolding_all rfl⟩
        · have hc1 : (mk ch == Str.ofString "(") = false := by assumption
          have hc2 : (mk ch == Str.ofString ")") = false := by assumption
          simp only [checkGo, hc1, hc2, Bool.false_eq_true, if_false] at hY
          exact hAg (rest.length) _ (Nat.lt_succ_self _) ⟨_, _, _, _, rest, priv', opens, _, rfl, rfl, (by k_asm), news_sub (by k_asm) (fun p hp => .tail _ hp), B4, G4, hY, by with_unfolding_all rfl⟩
      · intro h' gens' tk' hrem F4 N4 B4
        subst hrem
        show wpAny _ _ _ _ _ _
        k_steps
        exact hret _ _ _ _ _ (by k_asm) (by k_asm) B4 ⟨by rw [← hY]; rfl, rfl⟩
end
section
open PySem PySem.W PyProof.Rows PySem.Spec PySem.Calls PyProof.V
set_option maxRecDepth 100000
/-- a range's iterator -/
noncomputable abbrev ritO (x left : Int) : Obj := { cls := .type "range_iterator", dict := none, data := .fields #[rawInt x, rawInt left, rawInt 1], slots := #[] }
section
variable {prog : Program} {w : World} {A : Around} {E : Value → Shared → Prop} {s : Shared} {h₀ : Heap} {L r I : Addr} {m : Str → Option Value} {news post : List (Addr × Obj)}
theorem range_size {n : Nat} : Builtin.Range.rangeSize 0 n 1 = n := by
  unfold Builtin.Range.rangeSize
  rw [if_pos (by decide)]
  split
  · rw [Int.ediv_one]; omega
  · omega
theorem range_small {n : Nat} (hn : n ≤ 1000) : Builtin.Range.small 0 n 1 = true := by
  unfold Builtin.Range.small
  rw [range_size]
  unfold Builtin.Range.rangeFitsLong
  have h : (1 : Int) > 0 := by decide
  simp only [h, if_true, Bool.and_eq_true, Bool.or_eq_true, decide_eq_true_eq, beq_iff_eq]
  refine ⟨⟨⟨⟨by decide, by omega⟩, by decide⟩, by omega⟩, .inr (by omega)⟩
theorem range_iter {n : Nat} {t u v : Tok} {Q : Value → Shared → Prop} (F : Fr h₀ L s.heap m) (N : News h₀ L s.heap news) (hr : IsRange s.heap r 0 n 1 t u v) (hn : n ≤ 1000)
    (h : ∀ I h', Fr h₀ L h' m → News h₀ L h' ((I, ritO 0 n) :: news) → (∀ p ∈ news, p.1 < I) → Q (.ref I) { s with heap := h' }) : wpAny (model prog w) A (pyIter (.ref r)) Q E s := by
  refine wpAny_pyIter_range hr (range_small hn) ?_
  rw [range_size]
  exact h _ _ (F.push _) (News.push F N _ rfl) fun p hp => Heap.lt_size (N p hp).1
theorem range_next {x left : Int} {Q : Option Value → Shared → Prop} (hh : A.handled = none) (F : Fr h₀ L s.heap m) (N : News h₀ L s.heap ((I, ritO x left) :: post)) (hp : ∀ p ∈ post, p.1 < I)
    (hs : ∀ h', 0 < left → Fr h₀ L h' m → News h₀ L h' ((I, ritO (x + 1) (left - 1)) :: post) → Q (some (.int x s.toks)) { s with heap := h', toks := s.toks + 1 })
    (hn : ∀ h', left ≤ 0 → Fr h₀ L h' m → News h₀ L h' post → Q none { s with heap := h' }) : wpAny (model prog w) A (pyNext (.ref I)) Q E s := by
  have zI := N (I, ritO x left) (.head _)
  have keep : ∀ h', Heap.ExtBut I s.heap h' → Fr h₀ L h' m ∧ News h₀ L h' post := fun h' hb =>
    ⟨⟨F.ns.at' fun o e => hb _ o (Ne.symm zI.2.1) e, fun b o e => hb b o (fun q => by rw [q, zI.2.2] at e; cases e) (F.keep b o e), F.above⟩,
      fun p hp' => ⟨hb _ _ (Nat.ne_of_lt (hp p hp')) (N p (.tail _ hp')).1, (N p (.tail _ hp')).2⟩⟩
  rcases Int.lt_or_le 0 left with hl | hl
  · refine wpAny_pyNext_range_item zI.1 hl fun h' hi hb => ?_
    obtain ⟨F', N'⟩ := keep h' hb.extBut
    refine hs h' hl F' fun p hp' => ?_
    rcases List.mem_cons.mp hp' with rfl | hp'
    · exact ⟨hi, zI.2⟩
    · exact N' p hp'
  · exact wpAny_pyNext_range_end hh zI.1 hl fun h' hb => hn h' hl (keep h' hb).1 (keep h' hb).2
end
noncomputable def ettD : List (Str × PyData) := [(Str.ofString "!", .int 54), (Str.ofString "!=", .int 28), (Str.ofString "%", .int 24), (Str.ofString "%=", .int 40), (Str.ofString "&", .int 19), (Str.ofString "&=", .int 41), (Str.ofString "(", .int 7), (Str.ofString ")", .int 8), (Str.ofString "*", .int 16), (Str.ofString "**", .int 35), (Str.ofString "**=", .int 46), (Str.ofString "*=", .int 38), (Str.ofString "+", .int 14), (Str.ofString "+=", .int 36), (Str.ofString ",", .int 12), (Str.ofString "-", .int 15), (Str.ofString "-=", .int 37), (Str.ofString "->", .int 51), (Str.ofString ".", .int 23), (Str.ofString "...", .int 52), (Str.ofString "/", .int 17), (Str.ofString "//", .int 47), (Str.ofString "//=", .int 48), (Str.ofString "/=", .int 39), (Str.ofString ":", .int 11), (Str.ofString ":=", .int 53), (Str.ofString ";", .int 13), (Str.ofString "<", .int 20), (Str.ofString "<<", .int 33), (Str.ofString "<<=", .int 44), (Str.ofString "<=", .int 29), (Str.ofString "=", .int 22), (Str.ofString "==", .int 27), (Str.ofString ">", .int 21), (Str.ofString ">=", .int 30), (Str.ofString ">>", .int 34), (Str.ofString ">>=", .int 45), (Str.ofString "@", .int 49), (Str.ofString "@=", .int 50), (Str.ofString "[", .int 9), (Str.ofString "]", .int 10), (Str.ofString "^", .int 32), (Str.ofString "^=", .int 43), (Str.ofString "{", .int 25), (Str.ofString "|", .int 18), (Str.ofString "|=", .int 42), (Str.ofString "}", .int 26), (Str.ofString "~", .int 31)]
theorem ett_tab (prog : Program) (w : World) {h : Heap} (X : (heap w.params).In h) : StrTab prog w h 39 (ettD.map fun p => (PyData.str p.1, p.2)) :=
  kt_tab_in prog w X (by kernel_rfl) (by decide +kernel) (by kernel_rfl)
/-- the signs of a formula -/
noncomputable def alpha : List Nat := [97, 66, 99, 68, 101, 65, 98, 67, 100, 69, 40, 41, 60, 62]
noncomputable def kindOr (c : Nat) (d : Int) : Int := if c = 40 then 7 else if c = 41 then 8 else if c = 60 then 20 else if c = 62 then 21 else d
noncomputable def lowC (c : Nat) : Nat := if 65 ≤ c ∧ c ≤ 90 then c + 32 else c
noncomputable def kindC (c : Nat) : Int := kindOr c (lowC c - 75)
theorem ett_look : ∀ c ∈ alpha, ∀ d : Int, ((lookup (.str (mk [c])) (ettD.map fun p => (PyData.str p.1, p.2))).getD (.int d)) = .int (kindOr c d) := by
  intro c hc d
  simp only [alpha, List.mem_cons, List.not_mem_nil, or_false] at hc
  rcases hc with rfl | rfl | rfl | rfl | rfl | rfl | rfl | rfl | rfl | rfl | rfl | rfl | rfl | rfl <;> kernel_rfl
theorem low_alpha : ∀ c ∈ alpha, Txt.lower (mk [c]) = mk [lowC c] := by decide +kernel
theorem ett_get {prog : Program} {w : World} {A : Around} {E : Value → Shared → Prop} {s : Shared} {c : Nat} {t u : Tok} {d : Int} {Q : Value → Shared → Prop} (X : (heap w.params).In s.heap) (hc : c ∈ alpha)
    (h : ∀ u', Q (.int (kindOr c d) u') { s with toks := s.toks + 1 }) : wpAny (model prog w) A (call (.builtin "dict.get") [.ref 39, .str (mk [c]) t, .int d u]) Q E s := by
  refine call_get2_strTab (ett_tab prog w X) (.int _ _) fun v hv => ?_
  rw [ett_look c hc d] at hv
  obtain ⟨u', rfl⟩ := Flat.int_inv hv
  exact h u'
end
section
open PySem PySem.W PyProof.Rows PySem.Spec PySem.Calls PyProof.Rows.LCg
section
variable {prog : Program} {w : World} {A : Around} {E : Value → Shared → Prop} {s : Shared} {h₀ : Heap} {L : Addr} {m : Str → Option Value} {env : Env}
/-- a comprehension over a text -/
noncomputable def CompTxt (prog : Program) (w : World) (A : Around) (h₀ : Heap) (L : Addr) (m : Str → Option Value) (env : Env) (elt : Expr) (x : Str) (scope : Scope) (cl : List (Str × Addr)) (Fin : Shared → List Value → List (Addr × Obj) → Prop) (xv : Value) (s₁ : Shared) : Prop :=
  ∃ tx t news, xv = .str tx t ∧ A.handled = none ∧ Fr h₀ L s₁.heap m ∧ News h₀ L s₁.heap news ∧ tx.cps.size ≤ sizeLine ∧
    ∀ s₂ : Shared, (∃ h, s₂ = { s₁ with heap := h }) → CompRest prog w A h₀ L m env elt x scope cl s₂ (fun _ => True) (SignAt tx) (Fin s₂) tx.cps.size 0 [] news
theorem ListComp_txt {elt iter : Expr} {x : Str} {px : Pos} {scope : Scope} {cl : List (Str × Addr)} {pos : Pos} {Q : Value → Shared → Prop} (F₀ : Fr h₀ L s.heap m)
    (hclos : closureFor scope env = pure cl) (hcell : ∀ y ∈ scope.names, y.2 ≠ .cell) (hkind : scope.kind = .function)
    (hnames : ∀ y ∈ scope.names, y.2 = .local → scope.names.lookup y.1 = some .local) (hx : scope.names.lookup x = some .local)
    (h : wpAny (model prog w) A (eval iter env) (CompTxt prog w A h₀ L m env elt x scope cl (fun s₂ => FinE h₀ L m s₂ Q)) E s)
    (hs : ∀ x, foldedSetIterable iter env x = pure x := by intro _; rfl) :
    wpAny (model prog w) A (eval (.ListComp elt [⟨.Name x px, iter, [], 0⟩] scope pos) env) Q E s := by
  rw [eval_ListComp]
  refine wpAny_comprehension_free (use := none) rfl hs hclos hkind hnames (wpAny_mono h (fun xv s₁ h₁ => ?_) fun _ _ e => e)
  obtain ⟨tx, t, news, rfl, hh, F, N, hsz, R⟩ := h₁
  cases ha : tx.cps.all (· < 128)
  · refine wpAny_pyIter_wide ha ?_
    refine block_U (Walks.strWide hh _ tx t) hsz (fun i h st => by obtain ⟨o, e, _⟩ := st; exact ⟨o, e⟩) (fun i h h' o nw st e e' _ _ _ => by obtain ⟨o', q, r⟩ := st; rw [e] at q; cases q; exact ⟨o, e', r⟩) hcell hkind hx ⟨_, Heap.get?_push_size _ rfl, rfl, rfl⟩ (fun b hb => ?_)
      (F.keeps fun _ _ e => Heap.get?_push_of_some _ e) (N.grown fun _ _ e => Heap.get?_push_of_some _ e) (Nat.ne_of_lt F.ns.lt) (next_is_new F) (fun p hp => Nat.ne_of_lt (Heap.lt_size (N p hp).1)) trivial (R _ ⟨_, rfl⟩) ?_
    · rw [List.mem_singleton.mp hb]
      show s₁.heap.objs.size < (s₁.heap.push _).objs.size
      rw [Heap.size_push]; exact Nat.lt_succ_self _
    · intro D C h tk m' ys news' F' N' o1 hn hC₀ hD₀ hCL hDL hCD offC fin
      refine ⟨m', hn, fun h'' hs'' => fin D h'' tk (F'.change hs'' hCL hC₀) (fun p hp => ?_) o1⟩
      refine ⟨hs''.extBut _ _ ?_ (N' p hp).1, (N' p hp).2⟩
      rcases List.mem_cons.mp hp with rfl | hp
      · exact Ne.symm hCD
      · exact offC p hp
  · refine wpAny_pyIter_ascii ha ?_
    refine block_U (Walks.strAscii hh _ tx t) hsz (fun i h st => by obtain ⟨o, e, _⟩ := st; exact ⟨o, e⟩) (fun i h h' o nw st e e' _ _ _ => by obtain ⟨o', q, r⟩ := st; rw [e] at q; cases q; exact ⟨o, e', r⟩) hcell hkind hx ⟨_, Heap.get?_push_size _ rfl, rfl, rfl⟩ (fun b hb => ?_)
      (F.keeps fun _ _ e => Heap.get?_push_of_some _ e) (N.grown fun _ _ e => Heap.get?_push_of_some _ e) (Nat.ne_of_lt F.ns.lt) (next_is_new F) (fun p hp => Nat.ne_of_lt (Heap.lt_size (N p hp).1)) trivial (R _ ⟨_, rfl⟩) ?_
    · rw [List.mem_singleton.mp hb]
      show s₁.heap.objs.size < (s₁.heap.push _).objs.size
      rw [Heap.size_push]; exact Nat.lt_succ_self _
    · intro D C h tk m' ys news' F' N' o1 hn hC₀ hD₀ hCL hDL hCD offC fin
      refine ⟨m', hn, fun h'' hs'' => fin D h'' tk (F'.change hs'' hCL hC₀) (fun p hp => ?_) o1⟩
      refine ⟨hs''.extBut _ _ ?_ (N' p hp).1, (N' p hp).2⟩
      rcases List.mem_cons.mp hp with rfl | hp
      · exact Ne.symm hCD
      · exact offC p hp
/-- the turns of a comprehension by what holds between them -/
theorem comp_inv {elt : Expr} {x : Str} {scope : Scope} {cl : List (Str × Addr)} {S : List (Addr × Obj) → Prop} {P : Nat → Value → Prop} {Fin : List Value → List (Addr × Obj) → Prop} (J : Nat → List Value → List (Addr × Obj) → Prop)
    (turn : ∀ i ys news v I oI C oC D m₂ h tk (E' : Value → Shared → Prop), J i ys news → P i v → NsObj oC m₂ → m₂ x = some v → Fr h₀ L h m → News h₀ L h ((I, oI) :: (C, oC) :: (D, lst ys) :: news) → Off3 I C D news → ((@Ne Nat I C) ∧ (@Ne Nat I D) ∧ (@Ne Nat C D)) →
      wpAny (model prog w) A (eval elt (compEnvC scope cl C env)) (CompEnd h₀ L m { s with heap := h, toks := tk } I oI C oC D (lst ys) S (fun y news' => J (i + 1) (ys ++ [y]) news')) E' { s with heap := h, toks := tk }) :
    ∀ (k i : Nat) (ys : List Value) (news : List (Addr × Obj)), (∀ ys news, J (i + k) ys news → Fin ys news) → J i ys news → CompRest prog w A h₀ L m env elt x scope cl s S P Fin k i ys news
  | 0, i, ys, news, fin, hJ => fin ys news hJ
  | k + 1, i, ys, news, fin, hJ => by
    refine CompRest.succ fun v I oI C oC D m₂ h tk E' hP hoC hv F N o3 ne => ?_
    refine wpAny_mono (turn i ys news v I oI C oC D m₂ h tk E' hJ hP hoC hv F N o3 ne) (fun y s₂ q => ?_) fun _ _ e => e
    obtain ⟨h', tk', news', e, F', N', o', hS, r⟩ := q
    exact ⟨h', tk', news', e, F', N', o', hS, comp_inv J turn k (i + 1) _ _ (fun ys news h => fin ys news (by rw [show i + (k + 1) = i + 1 + k from by omega]; exact h)) r⟩
/-- the same, the turn's number known -/
theorem comp_invN {elt : Expr} {x : Str} {scope : Scope} {cl : List (Str × Addr)} {S : List (Addr × Obj) → Prop} {P : Nat → Value → Prop} {Fin : List Value → List (Addr × Obj) → Prop} (n : Nat) (J : Nat → List Value → List (Addr × Obj) → Prop)
    (turn : ∀ i ys news v I oI C oC D m₂ h tk (E' : Value → Shared → Prop), i < n → J i ys news → P i v → NsObj oC m₂ → m₂ x = some v → Fr h₀ L h m → News h₀ L h ((I, oI) :: (C, oC) :: (D, lst ys) :: news) → Off3 I C D news → ((@Ne Nat I C) ∧ (@Ne Nat I D) ∧ (@Ne Nat C D)) →
      wpAny (model prog w) A (eval elt (compEnvC scope cl C env)) (CompEnd h₀ L m { s with heap := h, toks := tk } I oI C oC D (lst ys) S (fun y news' => J (i + 1) (ys ++ [y]) news')) E' { s with heap := h, toks := tk }) :
    ∀ (k i : Nat) (ys : List Value) (news : List (Addr × Obj)), i + k = n → (∀ ys news, J n ys news → Fin ys news) → J i ys news → CompRest prog w A h₀ L m env elt x scope cl s S P Fin k i ys news
  | 0, i, ys, news, hk, fin, hJ => fin ys news (by rw [← hk]; exact hJ)
  | k + 1, i, ys, news, hk, fin, hJ => by
    refine CompRest.succ fun v I oI C oC D m₂ h tk E' hP hoC hv F N o3 ne => ?_
    refine wpAny_mono (turn i ys news v I oI C oC D m₂ h tk E' (by omega) hJ hP hoC hv F N o3 ne) (fun y s₂ q => ?_) fun _ _ e => e
    obtain ⟨h', tk', news', e, F', N', o', hS, r⟩ := q
    exact ⟨h', tk', news', e, F', N', o', hS, comp_invN n J turn k (i + 1) _ _ (by omega) fin r⟩
end
end
section
open PySem PySem.W PyProof.Rows PySem.Spec PySem.Calls
/-- the tuples of a tree alone -/
theorem tree_part {news : List (Addr × Obj)} {v : Value} {t : T} (h : TreeIn news v t) : ∃ tl : List (Addr × Obj), (∀ p ∈ tl, p ∈ news) ∧ TreeIn tl v t ∧ ∀ p ∈ tl, ∃ xs n, p.2.data = .seq xs n := by
  induction h with
  | leaf => exact ⟨[], fun _ h => (nomatch h), .leaf, fun _ h => (nomatch h)⟩
  | @node a s tk v v' l r n hm _ _ ih1 ih2 =>
    obtain ⟨t1, a1, b1, c1⟩ := ih1
    obtain ⟨t2, a2, b2, c2⟩ := ih2
    refine ⟨(a, { cls := .type "tuple", data := .seq #[.str (sign s) tk, v, v'] n }) :: (t1 ++ t2), ?_, ?_, ?_⟩
    · exact List.forall_mem_cons.mpr ⟨hm, fun p hp => (List.mem_append.mp hp).elim (a1 p) (a2 p)⟩
    · exact .node (.head _) (b1.mono fun p hp => .tail _ (List.mem_append_left _ hp)) (b2.mono fun p hp => .tail _ (List.mem_append_right _ hp))
    · exact List.forall_mem_cons.mpr ⟨⟨_, _, rfl⟩, fun p hp => (List.mem_append.mp hp).elim (c1 p) (c2 p)⟩
/-- two entries of one ledger with other data lie apart -/
theorem news_apart {h₀ h : Heap} {L a : Addr} {o : Obj} {news tl : List (Addr × Obj)} (N : News h₀ L h news) (ha : (a, o) ∈ news) (ho : ∀ xs n, o.data ≠ .seq xs n) (hs : ∀ p ∈ tl, p ∈ news) (hc : ∀ p ∈ tl, ∃ xs n, p.2.data = .seq xs n) : ∀ p ∈ tl, p.1 ≠ a := fun p hp e => by
  have h1 := (N p (hs p hp)).1
  have h2 := (N _ ha).1
  rw [e] at h1
  dsimp only at h2
  rw [h1] at h2
  obtain ⟨xs, n, q⟩ := hc p hp
  exact ho xs n (by rw [← Option.some.inj h2]; exact q)
/-- behind the making of the tree: the written entries first, the tree's tuples last -/
theorem tree_here {h₀ h : Heap} {L aD c1 c2 c3 : Addr} {oD o1 o2 o3 oT q1 q2 : Obj} {a1 a2 : Addr} {tl : List (Addr × Obj)} {v : Value} {t : T} (N : News h₀ L h ((aD, oD) :: (tl ++ [(a1, q1), (a2, q2), (c3, o3), (c2, o2), (c1, o1), (283, oT)]))) (hT : TreeIn tl v t)
    (d1 : ∀ xs n, o1.data ≠ .seq xs n) (d2 : ∀ xs n, o2.data ≠ .seq xs n) (d3 : ∀ xs n, o3.data ≠ .seq xs n) (d4 : ∀ xs n, oT.data ≠ .seq xs n) :
    ∃ tl2, TreeIn tl2 v t ∧ News h₀ L h ((c3, o3) :: (c2, o2) :: (c1, o1) :: (283, oT) :: tl2) ∧ (∀ p ∈ tl2, p.1 ≠ c3) ∧ (∀ p ∈ tl2, p.1 ≠ c2) ∧ (∀ p ∈ tl2, p.1 ≠ c1) ∧ (∀ p ∈ tl2, p.1 ≠ 283) := by
  obtain ⟨tl2, hs, hT2, hc⟩ := tree_part hT
  have hs' : ∀ p ∈ tl2, p ∈ (aD, oD) :: (tl ++ [(a1, q1), (a2, q2), (c3, o3), (c2, o2), (c1, o1), (283, oT)]) := fun p hp => .tail _ (List.mem_append_left _ (hs p hp))
  refine ⟨tl2, hT2, fun p hp => N p ?_, news_apart N (by simp) d3 hs' hc, news_apart N (by simp) d2 hs' hc, news_apart N (by simp) d1 hs' hc, news_apart N (by simp) d4 hs' hc⟩
  simp only [List.mem_cons, List.mem_append, List.not_mem_nil, or_false] at hp ⊢
  rcases hp with h | h | h | h | h
  · simp [h]
  · simp [h]
  · simp [h]
  · simp [h]
  · exact .inr (.inl (hs p h))
end
section
open PySem PySem.W PyProof.Rows PySem.Spec PySem.Calls PyProof.Rows.LCg PyProof.Rows.LCp
section
variable {prog : Program} {w : World} {A : Around} {E : Value → Shared → Prop} {s : Shared} {h₀ : Heap} {L : Addr} {m : Str → Option Value} {env : Env}
/-- the turns of a comprehension over pairs, by what holds between them -/
theorem comp_invP {elt : Expr} {x x₂ : Str} {scope : Scope} {cl : List (Str × Addr)} {S : List (Addr × Obj) → Prop} {P : Nat → Value → Prop} {Fin : List Value → List (Addr × Obj) → Prop} (n : Nat) (J : Nat → List Value → List (Addr × Obj) → Prop)
    (turn : ∀ i ys news v, i < n → J i ys news → P i v → ∃ (t : Addr) (ot : Obj) (v₁ v₂ : Value) (nt : Nat), v = .ref t ∧ (t, ot) ∈ news ∧ ot.cls = .type "tuple" ∧ ot.data = .seq #[v₁, v₂] nt ∧
      ∀ I oI C oC D m₂ h tk (E' : Value → Shared → Prop), NsObj oC m₂ → m₂ x = some v₁ → m₂ x₂ = some v₂ → Fr h₀ L h m → News h₀ L h ((I, oI) :: (C, oC) :: (D, lst ys) :: news) → Off3 I C D news → ((@Ne Nat I C) ∧ (@Ne Nat I D) ∧ (@Ne Nat C D)) →
      wpAny (model prog w) A (eval elt (compEnvC scope cl C env)) (CompEnd h₀ L m { s with heap := h, toks := tk } I oI C oC D (lst ys) S (fun y news' => J (i + 1) (ys ++ [y]) news')) E' { s with heap := h, toks := tk }) :
    ∀ (k i : Nat) (ys : List Value) (news : List (Addr × Obj)), i + k = n → (∀ ys news, J n ys news → Fin ys news) → J i ys news → CompRestP prog w A h₀ L m env elt x x₂ scope cl s S P Fin k i ys news
  | 0, i, ys, news, hk, fin, hJ => fin ys news (by rw [← hk]; exact hJ)
  | k + 1, i, ys, news, hk, fin, hJ => by
    refine CompRestP.succ fun v hP => ?_
    obtain ⟨t, ot, v₁, v₂, nt, e, hm, hc, hd, H⟩ := turn i ys news v (by omega) hJ hP
    refine ⟨t, ot, v₁, v₂, nt, e, hm, hc, hd, fun I oI C oC D m₂ h tk E' hoC h1 h2 F N o3 ne => ?_⟩
    refine wpAny_mono (H I oI C oC D m₂ h tk E' hoC h1 h2 F N o3 ne) (fun y s₂ q => ?_) fun _ _ e => e
    obtain ⟨h', tk', news', e, F', N', o', hS, r⟩ := q
    exact ⟨h', tk', news', e, F', N', o', hS, comp_invP n J turn k (i + 1) _ _ (by omega) fin r⟩
end
end
local macro_rules | `(tactic| k_room) => `(tactic| ktr_room)
local macro_rules | `(tactic| k_enter) => `(tactic| first
  | (refine' code_def ?k1 ?k2 ?k3 ?k4 ?k5 ?kA ?kF ?kK ?k6 ?k7 ?k8 ?k9 ?kB ?_ ?c2 ?c3 ?c4 ?c5; (case kA => exact rfl); (case kF => exact rfl); (case kK => first | exact rfl | assumption); (case k1 => k_asm); (case k2 => k_asm); (case k3 => k_asm); (case k4 => k_asm); (case k5 => k_asm); (case k6 => k_is); (case k7 => k_is); (case k8 => ktr_room); (case k9 => first | exact BindsTo.of_eq rfl | exact binds_K (by k_in) rfl (by k_is) rfl rfl rfl | fail "k_enter: no rule for these arguments"); (case c5 => decide); (case kB => exact locs rfl); (case c2 => exact rfl); (case c3 => exact rfl); (case c4 => exact rfl); k_whole; intro g' L' h' FG' F' N' B' X' T'; (try dsimp only); (try k_lift B'); (try k_fold))
  | (refine' code_defC ?k1 ?k2 ?k3 ?k4 ?k5 ?kA ?kF ?kK ?k6 ?k7 ?k8 ?k9 ?kB ?kD ?_ ?c2 ?c3 ?c4; (case kA => exact rfl); (case kF => exact rfl); (case kK => first | exact rfl | assumption); (case k1 => k_asm); (case k2 => k_asm); (case k3 => k_asm); (case k4 => k_asm); (case k5 => k_asm); (case k6 => k_is); (case k7 => k_is); (case k8 => ktr_room); (case k9 => first | exact BindsTo.of_eq rfl | exact binds_K (by k_in) rfl (by k_is) rfl rfl rfl | fail "k_enter: no rule for these arguments"); (case kB => exact rfl); (case kD => decide +kernel); (case c2 => exact rfl); (case c3 => exact rfl); (case c4 => exact rfl); k_whole; intro g' L' h' tk' cells' FG' F' N' Y' B' X' T' l1; (try k_lt l1); k_cells Y'; (try simp only [List.cons_append, List.nil_append] at N'); (try dsimp only); (try k_lift B'); (try k_fold)))
local macro_rules | `(tactic| k_all) => `(tactic| assumption)
section
local macro_rules | `(tactic| omega) => `(tactic| lia)
open PySem PySem.W PyProof.Rows PySem.Spec PySem.Calls PyProof.V
theorem item_mk {ls : List Nat} {k c : Nat} (h : ls[k]? = some c) : Txt.item (mk ls) (k : Int) = mk [c] := by
  have hk : k < ls.length := by
    rcases Nat.lt_or_ge k ls.length with q | q
    · exact q
    · rw [List.getElem?_eq_none q] at h; cases h
  have hl : (mk ls).length = ls.length := by show (List.toArray ls).size = _; simp
  have hs : seqIndex? (k : Int) (mk ls).length = some k := by
    rw [hl]; unfold seqIndex?
    have h0 : ¬ ((k : Int) < 0) := by omega
    simp only [h0, if_false]
    rw [if_pos (by simp; omega)]
    rfl
  unfold Txt.item Txt.charAt
  rw [hs]
  simp [mk, h]
section
variable {prog : Program} {w : World} {A : Around} {E : Value → Shared → Prop} {s : Shared} {c : Nat} {t : Tok} {Q : Value → Shared → Prop}
theorem sub_mk {ls : List Nat} {k : Nat} {u : Tok} {value slice : Expr} (hc : ls[k]? = some c) (hz : ls.length ≤ 1000) (h : Q (.str (mk [c]) s.toks) { s with toks := s.toks + 1 })
    (hs : subscripted slice false (.str (mk ls) t) (.int (k : Int) u) = operate [.str (mk ls) t, .int (k : Int) u] (getItem (.str (mk ls) t) (.int (k : Int) u)) := by with_unfolding_all rfl)
    (ht : ∀ r, letTemporaryGo value (.str (mk ls) t) r = pure () := by intro _; with_unfolding_all rfl) :
    wpAny (model prog w) A (subscriptTail value slice (.str (mk ls) t) (.int (k : Int) u)) Q E s := by
  have hk : k < ls.length := by
    rcases Nat.lt_or_ge k ls.length with q | q
    · exact q
    · rw [List.getElem?_eq_none q] at hc; cases hc
  have hl : (mk ls).length = ls.length := by show (List.toArray ls).size = _; simp
  refine item_str (by unfold fitsSsize; simp; omega) (by omega) (by rw [hl]; omega) (fun _ => ?_) hs ht
  rw [item_mk hc]
  exact h
theorem low_mk (hc : c ∈ alpha) (h : Q (.str (mk [lowC c]) s.toks) { s with toks := s.toks + 1 }) : wpAny (model prog w) A (call (.builtin "str.lower") [.str (mk [c]) t]) Q E s := by
  refine SC.lower ?_ ?_
  · rw [low_alpha c hc]; rfl
  · rw [low_alpha c hc]; exact h
theorem ord_mk (h : Q (.int (c : Int) s.toks) { s with toks := s.toks + 1 }) : wpAny (model prog w) A (call (.builtin "ord") [.str (mk [c]) t]) Q E s := P.ord_of_char h
end
theorem allLt_mem' {n : Nat} {news : List (Addr × Obj)} (h : AllLt n news) : ∀ p ∈ news, p.1 < n := by
  induction news with
  | nil => exact fun _ h => nomatch h
  | cons q r ih => exact List.forall_mem_cons.mpr ⟨h.1, ih h.2⟩
noncomputable def condAt (inner : Str) (c k : Nat) : Bool := decide (kindC c + 234 < 256) && (check (Txt.slice inner none (some (k : Int))) && check (Txt.slice inner (some ((k : Int) + 1)) none))
local macro_rules | `(tactic| walk_at "call ref") => `(tactic| first
  | ((with_reducible show wpAny _ _ (call (Value.ref 69) _ _) _ _ _); refine hold_it ?_))
local macro_rules | `(tactic| walk_at "subscriptTail Name Name str int") => `(tactic| (k_here; (with_reducible show wpAny _ _ (subscriptTail _ _ (Value.str (mk _) _) (Value.int _ _)) _ _ _); (with_unfolding_all refine sub_mk (by assumption) (by assumption) ?_ (by with_unfolding_all rfl) (by intro _; with_unfolding_all rfl))))
local macro_rules | `(tactic| walk_at "call builtin:str.lower") => `(tactic| (k_here; (with_reducible show wpAny _ _ (call (Value.builtin _) [Value.str (mk _) _]) _ _ _); refine low_mk (by assumption) ?_))
local macro_rules | `(tactic| walk_at "call builtin:ord") => `(tactic| (k_here; (with_reducible show wpAny _ _ (call (Value.builtin _) [Value.str (mk _) _]) _ _ _); refine ord_mk ?_))
local macro_rules | `(tactic| walk_at "call builtin:dict.get") => `(tactic| (k_here; k_dflt (refine' ett_get (w := ?w) ?X ?c ?_; (case X => k_in); (case c => assumption)); intro u'))
inductive SpI (h₀ : Heap) (L I : Addr) (ls : List Nat) (ti : Tok) (K : Nat) (news : List (Addr × Obj)) (s₀ : Shared) (j : Nat) (s : Shared) : Prop where
  | mk (h : Heap) (g : Array GenState) (tk : Tok) (m : Str → Option Value) (k : Nat)
    (c0 : s = ⟨h, g, s₀.drawn, tk, s₀.os⟩)
    (c1 : j = ls.length - k)
    (c2 : Fr h₀ L h m)
    (c3 : AllBare g)
    (c4 : News h₀ L h ((I, ritO k (ls.length - k)) :: news))
    (c5 : m (Str.ofString "inner") = some (.str (mk ls) ti))
    (c6 : k ≤ K)
set_option maxRecDepth 100000 in
set_option maxHeartbeats 8000000 in
theorem split_ok (w : World) (x : Str) (ls : List Nat) (t : Tok) (K : Nat) (c : Nat) (news : List (Addr × Obj)) (hx : x.length ≤ 100) (hin : Txt.slice x (some 1) (some (-1)) = mk ls) (hls : ∀ c ∈ ls, c ∈ alpha) (hlen : ls.length ≤ 90)
    (hc : ls[K]? = some c) (hK : condAt (mk ls) c K = true) (hlt : ∀ k d, k < K → ls[k]? = some d → condAt (mk ls) d k = false) :
    Fn w (call (.ref 302) [.str x t]) 10 500 news (fun r news' => ∃ D t1 t2 t3 n, r = .ref D ∧ news' = (D, tupO [.int (kindC c) t1, .str (Txt.slice (mk ls) none (some (K : Int))) t2, .str (Txt.slice (mk ls) (some ((K : Int) + 1)) none) t3] n) :: news ∧ ∀ p ∈ news, p.1 < D) := by
    unfold Fn
    k_fill
    intro dp un gd cn cs a ccd cl outer A₀ base h₀ L m s p loose mean mg mb Q E B F X N Tp hk hG hd hu hret
    refine wpAny_call ?_
    k_dflt ktr_enter
    k_steps
    rename IsRange _ _ _ _ _ _ _ _ => hr
    rename News _ _ _ news => N9
    rw [hin] at hr
    have hl9 : (mk ls).length = ls.length := by show (List.toArray ls).size = _; simp
    rw [hl9] at hr
    refine range_iter (by k_asm) N9 hr (by omega) fun I h1 F1 N1 hlI => ?_
    have init : ∀ tkz, SpI _ _ I ls _ K news s _ ⟨h1, s.gens, s.drawn, tkz, s.os⟩ := fun tkz => ⟨_, _, _, _, 0, rfl, rfl, F1, hG, by simpa using N1, by rw [← hin]; with_unfolding_all rfl, Nat.zero_le _⟩
    refine for_inv (SpI _ _ I ls _ K news s) ?turn _ (init _)
    case turn =>
      intro j s' E' gA hAg hI
      obtain ⟨h, g, tk, mI, k, rfl, rfl, F2, G2, N2, m1, hkK⟩ := hI
      have F3 := know1 F2 m1
      have hKl : K < ls.length := by
        rcases Nat.lt_or_ge K ls.length with q | q
        · exact q
        · rw [List.getElem?_eq_none q] at hc; cases hc
      have hkl : k < ls.length := by omega
      obtain ⟨d, hd'⟩ : ∃ d, ls[k]? = some d := ⟨_, List.getElem?_eq_getElem hkl⟩
      have hda : d ∈ alpha := hls _ (List.mem_of_getElem? hd')
      have hl1000 : ls.length ≤ 1000 := by omega
      clear N9 hr init F2
      refine range_next rfl F3 N2 hlI ?_ ?_
      · intro h' _ F4 N4
        refine let_name ?_
        k_steps
        · have hk1 : kindC d + 234 < 256 := by assumption
          ((try unfold Hold); refine' fn_use ?IH ?k1 ?k2 ?k3 ?k4 ?k5 ?kK ?kG ?kd ?ku ?_; (case IH => exact check_ok w (Txt.slice (mk ls) none (some (k : Int))) _ ((I, ritO ((k : Int) + 1) ((ls.length : Int) - (k : Int) - 1)) :: news) (by omega)); (case k1 => k_asm); (case k2 => k_asm); (case k3 => k_asm); (case k4 => k_asm); (case k5 => k_asm); (case kK => first | exact rfl | assumption); (case kG => assumption); (case kd => (show dp + 1 + _ < _; first | exact room1 hd (by decide) | omega)); (case ku => (show un + 3 + _ < _; first | exact room3 hu (by decide) | omega)); intro r1 news1 h1 g1 tk1 F1 N1 G1 hR1)
          obtain ⟨e1, e2⟩ := hR1; subst e1; subst e2
          k_steps
          · have hk2 : check (Txt.slice (mk ls) none (some (k : Int))) = true := by assumption
            ((try unfold Hold); refine' fn_use ?IH ?k1 ?k2 ?k3 ?k4 ?k5 ?kK ?kG ?kd ?ku ?_; (case IH => exact check_ok w (Txt.slice (mk ls) (some ((k : Int) + 1)) none) _ ((I, ritO ((k : Int) + 1) ((ls.length : Int) - (k : Int) - 1)) :: news) (by omega)); (case k1 => k_asm); (case k2 => k_asm); (case k3 => k_asm); (case k4 => k_asm); (case k5 => k_asm); (case kK => first | exact rfl | assumption); (case kG => assumption); (case kd => (show dp + 1 + _ < _; first | exact room1 hd (by decide) | omega)); (case ku => (show un + 3 + _ < _; first | exact room3 hu (by decide) | omega)); intro r2 news2 h2 g2 tk2 F2 N2 G2 hR2)
            obtain ⟨e1, e2⟩ := hR2; subst e1; subst e2
            k_steps
            · have hk3 : check (Txt.slice (mk ls) (some ((k : Int) + 1)) none) = true := by assumption
              have hct : condAt (mk ls) d k = true := by unfold condAt; rw [decide_eq_true hk1, hk2, hk3]; rfl
              have hkK' : k = K := by
                rcases Nat.lt_or_ge k K with q | q
                · have := hlt k d q hd'; rw [hct] at this; cases this
                · omega
              subst hkK'
              have hcd : c = d := Option.some.inj (hc.symm.trans hd')
              subst hcd
              unfold TurnEnd
              dsimp only
              k_steps
              rename I < _ ∧ AllLt _ news => lD
              exact hret _ _ _ _ _ (by k_asm) (news_sub (by k_asm) mem_skip) G2 ⟨_, _, _, _, _, rfl, rfl, allLt_mem' lD.2⟩
            · have hk3 : check (Txt.slice (mk ls) (some ((k : Int) + 1)) none) = false := by assumption
              have hcf : condAt (mk ls) d k = false := by unfold condAt; rw [hk3, Bool.and_false, Bool.and_false]
              have hne : k ≠ K := fun q => by subst q; rw [hc] at hd'; cases hd'; rw [hcf] at hK; cases hK
              exact hAg (ls.length - (k + 1)) _ (by omega) ⟨_, _, _, _, k + 1, rfl, rfl, (by k_asm), G2, (by push_cast; rw [show (ls.length : Int) - ((k : Int) + 1) = (ls.length : Int) - (k : Int) - 1 from by omega]; k_asm), by with_unfolding_all rfl, by omega⟩
          · have hk2 : check (Txt.slice (mk ls) none (some (k : Int))) = false := by assumption
            have hcf : condAt (mk ls) d k = false := by unfold condAt; rw [hk2, Bool.false_and, Bool.and_false]
            have hne : k ≠ K := fun q => by subst q; rw [hc] at hd'; cases hd'; rw [hcf] at hK; cases hK
            exact hAg (ls.length - (k + 1)) _ (by omega) ⟨_, _, _, _, k + 1, rfl, rfl, (by k_asm), G1, (by push_cast; rw [show (ls.length : Int) - ((k : Int) + 1) = (ls.length : Int) - (k : Int) - 1 from by omega]; k_asm), by with_unfolding_all rfl, by omega⟩
        · have hk1 : ¬ kindC d + 234 < 256 := by assumption
          have hcf : condAt (mk ls) d k = false := by unfold condAt; rw [decide_eq_false hk1, Bool.false_and]
          have hne : k ≠ K := fun q => by subst q; rw [hc] at hd'; cases hd'; rw [hcf] at hK; cases hK
          exact hAg (ls.length - (k + 1)) _ (by omega) ⟨_, _, _, _, k + 1, rfl, rfl, (by k_asm), G2, (by push_cast; rw [show (ls.length : Int) - ((k : Int) + 1) = (ls.length : Int) - (k : Int) - 1 from by omega]; k_asm), by with_unfolding_all rfl, by omega⟩
      · intro h' hle F4 N4
        exfalso; omega
end
section
open PySem PySem.W PyProof.Rows PySem.Spec PySem.Calls
theorem allLt_succ {n : Nat} {news : List (Addr × Obj)} (h : AllLt n news) : AllLt (n + 1) news := by
  induction news with
  | nil => trivial
  | cons p r ih => exact ⟨Nat.lt_succ_of_lt h.1, ih h.2⟩
noncomputable def chars (x : Str) : List Str := x.cps.toList.map fun c => mk [c]
theorem strs_of_items : ∀ (us : List Value) (cs : List Nat), us.length = cs.length → (∀ (i : Nat) (v : Value), us[i]? = some v → ∃ (c : Nat) (u : Tok), cs[i]? = some c ∧ v = Value.str ⟨#[c]⟩ u) → StrsAre us (cs.map fun c => mk [c])
  | [], [], _, _ => .nil
  | v :: us, c :: cs, hl, h => by
    obtain ⟨c', u, e, rfl⟩ := h 0 v rfl
    cases e
    exact .cons _ _ (strs_of_items us cs (by simpa using hl) fun i w hw => by simpa using h (i + 1) w (by simpa using hw))
theorem list_chars {prog : Program} {w : World} {A : Around} {E : Value → Shared → Prop} {s : Shared} {h₀ : Heap} {L : Addr} {m : Str → Option Value} {news : List (Addr × Obj)} {x : Str} {t : Tok} {Q : Value → Shared → Prop} (hh : A.handled = none)
    (F : Fr h₀ L s.heap m) (N : News h₀ L s.heap news) (hn : x.length ≤ 1000)
    (h : ∀ D us c h' tk, StrsAre us (chars x) → Fr h₀ L h' m → News h₀ L h' ((D, PySem.W.listOf us.toArray c) :: news) → (∀ p ∈ news, p.1 < D) → Q (.ref D) { s with heap := h', toks := tk }) :
    wpAny (model prog w) A (call (.type "list") [.str x t]) Q E s := by
  refine call_list_str (hn := by rw [PySem.sizeLine_eq]; exact Nat.le_trans hn (by decide)) hh x t fun h' tk acc c' hk ho hi => ?_
  have hL : L < s.heap.objs.size := F.ns.lt
  refine h _ acc.toList c' h' tk ?_ ⟨F.ns.keeps hk, fun b o e => hk b o (F.keep b o e), F.above⟩ ?_ fun p hp => Heap.lt_size (N p hp).1
  · refine strs_of_items _ _ (by simpa using hi.1) fun i v hv => ?_
    obtain ⟨c, u, e, rfl⟩ := hi.2 i v (by simpa using hv)
    exact ⟨c, u, by simpa using e, rfl⟩
  · intro p hp
    rcases List.mem_cons.mp hp with rfl | hp
    · exact ⟨ho, Nat.ne_of_gt hL, Heap.get?_none_of_le (Nat.le_trans F.above (Nat.le_of_lt hL))⟩
    · exact ⟨hk _ _ (N p hp).1, (N p hp).2⟩
local macro_rules | `(tactic| walk_at "call type:list") => `(tactic| (k_here; (with_reducible show wpAny _ _ (call (Value.type _) [Value.str _ _]) _ _ _); k_dflt (refine' list_chars rfl ?F ?N ?n ?_; (case F => k_asm); (case N => k_asm); (case n => assumption); k_whole); intro D' us' c' h' tk' hus F' N' l1; (try k_lt l1)))
theorem allLt_mem {n : Nat} {news : List (Addr × Obj)} (h : AllLt n news) : ∀ p ∈ news, p.1 < n := by
  induction news with
  | nil => exact fun _ h => nomatch h
  | cons q r ih => exact List.forall_mem_cons.mpr ⟨h.1, ih h.2⟩
noncomputable def lamSt : Stmt := match topSt 71 with | .FunctionDef (body := b) .. => nthS b 2 | _ => .Pass default
noncomputable def lamQual : Str := Str.ofString "_law_lexer" ++ Str.ofString ".<locals>." ++ Str.ofString "<lambda>"
noncomputable def lamO (st : Stmt) (cl : List (Str × Addr)) (pm : Value) (c : Addr) (ct : Value) : Obj := match st with
  | .Assign _ (.Lambda ps bd sc _) _ => kla_obj (Str.ofString "<lambda>") lamQual ps bd sc cl pm c ct
  | _ => ⟨.none, none, .plain, #[]⟩
/-- the places of a lexer's parts -/
structure LexC where
  (cc rl ds st ps c f dl lx pb : Addr)
  (oo oc : Obj)
  (pm ct : Value)
  (k0 k2 k3 k4 k5 k6 k7 k8 k9 ka kb kc : Tok)
/-- the lexer's part of the ledger -/
noncomputable abbrev lexO (P : Params) (C : LexC) (line : Int) (kl : Tok) (pbs us : List Value) (n1 n4 : Nat) : List (Addr × Obj) :=
  [(C.pb, PySem.W.listOf pbs.toArray n1), (C.lx, instObj 114 C.dl),
   (C.dl, dictOf [⟨PyData.keyHash P (Str.ofString "lineno"), .str (Str.ofString "lineno") C.k0, .int line kl⟩, ⟨PyData.keyHash P (Str.ofString "instream"), .str (Str.ofString "instream") C.k2, .ref C.st⟩,
      ⟨PyData.keyHash P (Str.ofString "whitespace"), .str (Str.ofString "whitespace") C.k3, .str (Str.ofString "\n\t\r ") C.k4⟩, ⟨PyData.keyHash P (Str.ofString "pushback"), .str (Str.ofString "pushback") C.k5, .ref C.pb⟩] 4),
   (C.f, lamO lamSt [(Str.ofString "rest", C.cc)] C.pm C.c C.ct), (C.c, C.oc), (C.ps, PySem.W.listOf #[] 0), (C.st, instObj 114 C.ds),
   (C.ds, dictOf [⟨PyData.keyHash P (Str.ofString "lineno"), .str (Str.ofString "lineno") C.k6, .int 1 C.k7⟩, ⟨PyData.keyHash P (Str.ofString "instream"), .str (Str.ofString "instream") C.k8, .none⟩,
      ⟨PyData.keyHash P (Str.ofString "whitespace"), .str (Str.ofString "whitespace") C.k9, .str (Str.ofString "\n\t\r ") C.ka⟩, ⟨PyData.keyHash P (Str.ofString "pushback"), .str (Str.ofString "pushback") C.kb, .ref C.ps⟩,
      ⟨PyData.keyHash P (Str.ofString "read"), .str (Str.ofString "read") C.kc, .ref C.f⟩] 5),
   (C.rl, PySem.W.listOf us.toArray n4), (C.cc, C.oo)]
structure LexOk (C : LexC) : Prop where
  a1 : @LT.lt Nat _ C.cc C.rl
  a2 : @LT.lt Nat _ C.rl C.ds
  a3 : @LT.lt Nat _ C.ds C.st
  a4 : @LT.lt Nat _ C.st C.ps
  a5 : @LT.lt Nat _ C.ps C.c
  a6 : @LT.lt Nat _ C.c C.f
  a7 : @LT.lt Nat _ C.f C.dl
  a8 : @LT.lt Nat _ C.dl C.lx
  a9 : @LT.lt Nat _ C.lx C.pb
  cell : C.oo.data = .cell (some (.ref C.rl))
  code : ∃ vs t, C.oc.data = .fields vs ∧ vs[1]? = some (.str lamQual t)
set_option maxRecDepth 100000 in
set_option maxHeartbeats 8000000 in
theorem lexer_ok (w : World) (x : Str) (t : Tok) (news : List (Addr × Obj)) (hx : x.length ≤ 1000) (h283 : ∀ p ∈ news, p.1 ≠ 283) :
    Fn w (call (.ref 288) [.str x t]) 7 200 ((283, tabObj #[]) :: news)
    (fun r news' => ∃ C kl us n1 n4 ps, r = .ref C.lx ∧ LexOk C ∧ StrsAre us (chars x) ∧ (∀ p ∈ news, p.1 < C.cc) ∧ 283 < C.cc ∧ news' = lexO w.params C 1 kl [] us n1 n4 ++ ((283, tabObj ps) :: news)) := by
    unfold Fn
    k_fill
    intro dp un gd cn cs a ccd cl outer A₀ base h₀ L m s p loose mean mg mb Q E B F X N Tp hk hG hd hu hret
    refine wpAny_call ?_
    k_dflt k_enter
    have hC : CodeHd _ 287 283 := codeHd_of_K (c := 287) (P := 283) (by assumption : (heap w.params).In _) (by kernel_rfl)
    rename 283 < _ ∧ AllLt _ news => l0
    have l2 : 283 < _ + 1 ∧ AllLt (_ + 1) news := ⟨Nat.lt_succ_of_lt l0.1, allLt_succ l0.2⟩
    k_steps
    rename News h₀ _ _ _ => N9
    refine hret _ _ _ _ _ (by k_asm) N9 hG ⟨⟨_, _, _, _, _, _, _, _, _, _, _, _, _, _, _, _, _, _, _, _, _, _, _, _, _, _⟩, _, _, _, _, _, rfl, ⟨?a1, ?a2, ?a3, ?a4, ?a5, ?a6, ?a7, ?a8, ?a9, ?cell, ?code⟩, ?us, ?hn, ?hc, rfl⟩
    case us => assumption
    case cell => assumption
    case code => exact ⟨_, _, by assumption, by assumption⟩
    case hn => exact fun p hp => Nat.lt_succ_of_lt (allLt_mem l0.2 p hp)
    case hc => exact Nat.lt_succ_of_lt l0.1
    all_goals (refine ltN ?_; dsimp only; omega)
end
section
local macro_rules | `(tactic| omega) => `(tactic| lia)
open PySem PySem.W PyProof.Rows PySem.Spec PySem.Calls
section
variable {prog : Program} {w : World} {A : Around} {E : Value → Shared → Prop} {s : Shared} {h₀ : Heap} {L D : Addr} {m : Str → Option Value} {news news' : List (Addr × Obj)} {us : List Value} {y : Value} {n : Nat}
theorem truthy_led_nil {Q : Bool → Shared → Prop} (N : News h₀ L s.heap news) (hm : (D, PySem.W.listOf (#[] : Array Value) n) ∈ news) (h : Q false { s with toks := s.toks + 1 + 1 }) : wpAny (model prog w) A (truthy (.ref D)) Q E s :=
  wpAny_truthy_list (items := #[]) ⟨_, (N _ hm).1, rfl, n, rfl⟩ (by decide) h
theorem truthy_led_cons {Q : Bool → Shared → Prop} (N : News h₀ L s.heap news) (hm : (D, PySem.W.listOf (y :: us).toArray n) ∈ news) (hz : us.length ≤ 2000) (h : Q true { s with toks := s.toks + 1 + 1 }) : wpAny (model prog w) A (truthy (.ref D)) Q E s :=
  wpAny_truthy_list (items := (y :: us).toArray) ⟨_, (N _ hm).1, rfl, n, rfl⟩ (by simp; omega) h
theorem pop0_led {u : Tok} {Q : Value → Shared → Prop} (F : Fr h₀ L s.heap m) (N : News h₀ L s.heap news) (U : Upd D (PySem.W.listOf (y :: us).toArray n) (PySem.W.listOf us.toArray (n + 1)) news news') (hz : us.length ≤ 2000)
    (h : ∀ h', Fr h₀ L h' m → News h₀ L h' news' → Q y { s with heap := h' }) : wpAny (model prog w) A (call (.builtin "list.pop") [.ref D, .int 0 u]) Q E s :=
  kl_popAt (p := []) (q := us) (k := 0) F N rfl (by simp only [seqIndex?]; simp) rfl U (by rw [PySem.sizeLine_eq]; simp; omega) h
end
local macro_rules | `(tactic| walk_at "getMethod ref") => `(tactic| (k_here; k_dflt (refine' kmu_own ?k1 ?k2 ?k3 ?k4 ?k5 ?_; (case k1 => k_asm); (case k2 => k_asm); (case k3 => k_inst); (case k4 => k_is); (case k5 => k_is); k_whole)))
local macro_rules | `(tactic| walk_at "truthy ref") => `(tactic| (k_here; (with_reducible show wpAny _ _ (truthy (Value.ref _)) _ _ _); k_dflt (first | (refine' truthy_led_nil ?N ?m ?_; (case N => k_asm); (case m => k_mem)) | (refine' truthy_led_cons ?N ?m ?z ?_; (case N => k_asm); (case m => k_mem); (case z => omega)))))
local macro_rules | `(tactic| walk_at "call builtin:list.pop") => `(tactic| (k_here; (with_reducible show wpAny _ _ (call (Value.builtin _) [Value.ref _, Value.int _ _]) _ _ _); k_dflt (refine' pop0_led ?F ?N ?U ?z ?_; (case F => k_asm); (case N => k_asm); (case U => k_upd); (case z => omega)); (intro h' F' N'; (try dsimp only [List.nil_append, List.cons_append] at N'))))
theorem nl_true {c : Nat} (h : (mk [c] == Str.ofString "\n") = true) : c = 10 := by
  have : mk [c] = mk [10] := eq_of_beq h
  simpa [mk] using this
theorem nl_false {c : Nat} (h : (mk [c] == Str.ofString "\n") = false) : ¬ c = 10 := fun q => by
  subst q; exact absurd h (by decide +kernel)
/-- what a code does, in any frame -/
noncomputable def FnC (w : World) (f : Addr) (pos : List Value) (d u : Nat) (news : List (Addr × Obj)) (R : Value → List (Addr × Obj) → Prop) : Prop :=
  ∀ (dp un : Nat) (gd : Option (List Code)) (cn : Str) (cs : Scope) (a : Addr) (ccd : Value) (cl : List (Str × Addr)) (outer : List Env) (A₀ : Around) (base h₀ : Heap) (L : Addr) (m : Str → Option Value) (s : Shared)
    (p : Program) (loose : List Str) (mean : ExcName → Option Value) (mg mb : Str → Option Value) (Rz : Result → Shared → Prop),
    Below A₀ base outer h₀ → Fr h₀ L s.heap m → (heap w.params).In h₀ → News h₀ L s.heap news → Top p loose mean mg mb h₀ → cs.kind = .function → AllBare s.gens → dp + d < recursionLimit → un + u < cLine →
    (∀ r news' h' g' tk', Fr h₀ L h' m → News h₀ L h' news' → AllBare g' → R r news' → Rz (.ok (.ret r)) ⟨h', g', s.drawn, tk', s.os⟩) →
    codeAny (model PySem.Challenge.rw_sh0064_01.prog w) (ktrTop dp un gd cn cs L a ccd cl outer) (.call (.ref f) ⟨pos, []⟩) Rz s
theorem FnC.fn {w : World} {f : Addr} {pos : List Value} {d u : Nat} {news : List (Addr × Obj)} {R : Value → List (Addr × Obj) → Prop} (C : FnC w f pos d u news R) : Fn w (call (.ref f) pos) d u news R :=
  fun _ _ _ _ _ _ _ _ _ _ _ _ _ _ _ _ _ _ _ _ _ _ B F X N T hk hG hd hu h => wpAny_call (C _ _ _ _ _ _ _ _ _ _ _ _ _ _ _ _ _ _ _ _ _ B F X N T hk hG hd hu fun r n h' g t a b c e => h r n h' g t a b c e)
noncomputable def chs (r : List Nat) : List Str := r.map fun c => mk [c]
set_option maxRecDepth 100000 in
set_option maxHeartbeats 8000000 in
theorem readc_nil (w : World) (C : LexC) (O : LexOk C) (line : Int) (kl : Tok) (pbs : List Value) (n1 n4 : Nat) (news : List (Addr × Obj)) (hap : ∀ p ∈ news, p.1 ≠ C.rl ∧ p.1 ≠ C.dl) :
    FnC w 97 [.ref C.lx] 5 100 (lexO w.params C line kl pbs [] n1 n4 ++ news)
    (fun r news' => ∃ tk, r = .str (Str.ofString "") tk ∧ news' = lexO w.params C line kl pbs [] n1 n4 ++ news) := by
    obtain ⟨a1, a2, a3, a4, a5, a6, a7, a8, a9, hcell, ⟨vs, tq, hcd, hvs⟩⟩ := O
    have hdl : ∀ p ∈ news, p.1 ≠ C.dl := fun p hp => (hap p hp).2
    unfold FnC
    k_fill
    intro dp un gd cn cs a ccd cl outer A₀ base h₀ L m s p loose mean mg mb Rz B F X N Tp hk hG hd hu hret
    k_dflt k_enter
    have hC : CodeHd _ 287 283 := codeHd_of_K (c := 287) (P := 283) (by assumption : (heap w.params).In _) (by kernel_rfl)
    k_steps
    exact hret _ _ _ _ _ (by k_asm) (by k_asm) hG ⟨_, rfl, rfl⟩
set_option maxRecDepth 100000 in
set_option maxHeartbeats 8000000 in
theorem readc_cons (w : World) (C : LexC) (O : LexOk C) (line : Int) (kl : Tok) (pbs us : List Value) (c : Nat) (t : Tok) (n1 n4 : Nat) (news : List (Addr × Obj)) (hap : ∀ p ∈ news, p.1 ≠ C.rl ∧ p.1 ≠ C.dl) (hz : us.length ≤ 2000) :
    FnC w 97 [.ref C.lx] 5 100 (lexO w.params C line kl pbs (.str (mk [c]) t :: us) n1 n4 ++ news)
    (fun r news' => ∃ line' kl' n4', line' = (if c = 10 then line + 1 else line) ∧ r = .str (mk [c]) t ∧ news' = lexO w.params C line' kl' pbs us n1 n4' ++ news) := by
    obtain ⟨a1, a2, a3, a4, a5, a6, a7, a8, a9, hcell, ⟨vs, tq, hcd, hvs⟩⟩ := O
    have hdl : ∀ p ∈ news, p.1 ≠ C.dl := fun p hp => (hap p hp).2
    have hrl : ∀ p ∈ news, p.1 ≠ C.rl := fun p hp => (hap p hp).1
    unfold FnC
    k_fill
    intro dp un gd cn cs a ccd cl outer A₀ base h₀ L m s p loose mean mg mb Rz B F X N Tp hk hG hd hu hret
    k_dflt k_enter
    have hC : CodeHd _ 287 283 := codeHd_of_K (c := 287) (P := 283) (by assumption : (heap w.params).In _) (by kernel_rfl)
    k_steps
    · have hc : c = 10 := nl_true (by assumption)
      subst hc
      exact hret _ _ _ _ _ (by k_asm) (by k_asm) hG ⟨_, _, _, rfl, rfl, rfl⟩
    · have hc : ¬ c = 10 := nl_false (by assumption)
      exact hret _ _ _ _ _ (by k_asm) (by k_asm) hG ⟨_, _, _, (if_neg hc).symm, rfl, rfl⟩
end
section
local macro_rules | `(tactic| omega) => `(tactic| lia)
open PySem PySem.W PyProof.Rows PySem.Spec PySem.Calls
noncomputable def ws (c : Nat) : Bool := c == 10 || c == 9 || c == 13 || c == 32
/-- a word in quotation marks, from behind the first -/
noncomputable def quoted : Bool → List Nat → List Nat → List Nat × List Nat
  | _, [], acc => (acc, [])
  | true, d :: r, acc => quoted false r (acc ++ [d])
  | false, c :: r, acc => if c = 34 then (acc, r) else if c = 92 then quoted true r acc else quoted false r (acc ++ [c])
/-- a word without -/
noncomputable def plainW : Bool → List Nat → List Nat → List Nat × List Nat
  | _, [], acc => (acc, [])
  | true, d :: r, acc => plainW false r (acc ++ [d])
  | false, c :: r, acc => if ws c then (acc, r) else if c = 92 then plainW true r acc else plainW false r (acc ++ [c])
noncomputable def tokOf : List Nat → List Nat × List Nat
  | [] => ([], [])
  | c :: r => if ws c then tokOf r else if c = 34 then quoted false r [] else if c = 92 then plainW true r [] else plainW false r [c]
noncomputable def nls (r : List Nat) : Int := (r.filter (· == 10)).length
theorem nls_cons (c : Nat) (r : List Nat) : nls (c :: r) = nls r + (if c = 10 then 1 else 0) := by
  unfold nls
  by_cases h : c = 10
  · subst h; simp
  · rw [List.filter_cons_of_neg (by simpa using h), if_neg h]; omega
theorem strs_cons {us : List Value} {c : Nat} {r : List Nat} (h : StrsAre us (chs (c :: r))) : ∃ t us', us = .str (mk [c]) t :: us' ∧ StrsAre us' (chs r) := by
  cases h with
  | cons _ t h => exact ⟨t, _, rfl, h⟩
theorem strs_nil {us : List Value} (h : StrsAre us (chs [])) : us = [] := by cases h; rfl
theorem strs_n {us : List Value} {ss : List Str} (h : StrsAre us ss) : us.length = ss.length := by induction h with
  | nil => rfl
  | cons _ _ _ ih => simp [ih]
/-- the next sign from the lexer's own iterator -/
theorem lex_next {w : World} (C : LexC) (O : LexOk C) {T : Int} {rest : List Nat} {line : Int} {kl : Tok} {pbs us : List Value} {n1 n4 : Nat} {I M : Addr} {t : Tok} {news : List (Addr × Obj)}
    {dp un : Nat} {gd : Option (List Code)} {cn : Str} {cs : Scope} {a : Addr} {ccd : Value} {cl : List (Str × Addr)} {outer : List Env} {A₀ : Around} {base h₀ : Heap} {L : Addr} {m : Str → Option Value} {s : Shared}
    {p : Program} {loose : List Str} {mean : ExcName → Option Value} {mg mb : Str → Option Value} {Q : Option Value → Shared → Prop} {E : Value → Shared → Prop}
    (B : Below A₀ base outer h₀) (F : Fr h₀ L s.heap m) (X : (heap w.params).In h₀) (N : News h₀ L s.heap ((I, citO M t) :: (M, methodObj (.ref 97) (.ref C.lx)) :: (lexO w.params C line kl pbs us n1 n4 ++ news)))
    (Tp : Top p loose mean mg mb h₀) (hk : cs.kind = .function) (hG : AllBare s.gens) (hd : dp + 5 < recursionLimit) (hu : un + 101 < cLine)
    (hap : ∀ p ∈ news, p.1 ≠ C.rl ∧ p.1 ≠ C.dl) (hI : C.pb < M) (hM : M < I) (hIn : ∀ p ∈ news, p.1 ≠ I) (hus : StrsAre us (chs rest)) (hz : rest.length ≤ 2000) (hT : line + nls rest = T)
    (hY : ∀ c r line' kl' tc us' n4' h' g' tk', rest = c :: r → StrsAre us' (chs r) → line' + nls r = T → Fr h₀ L h' m → News h₀ L h' ((I, citO M t) :: (M, methodObj (.ref 97) (.ref C.lx)) :: (lexO w.params C line' kl' pbs us' n1 n4' ++ news)) → AllBare g' → Q (some (.str (mk [c]) tc)) ⟨h', g', s.drawn, tk', s.os⟩)
    (hP : ∀ h' g' tk', rest = [] → Fr h₀ L h' m → News h₀ L h' ((I, citE) :: (M, methodObj (.ref 97) (.ref C.lx)) :: (lexO w.params C T kl pbs [] n1 n4 ++ news)) → AllBare g' → Q none ⟨h', g', s.drawn, tk', s.os⟩) :
    wpAny (model PySem.Challenge.rw_sh0064_01.prog w) (ktrTop dp un gd cn cs L a ccd cl outer) (pyNext (.ref I)) Q E s := by
  have hap' : ∀ p ∈ (I, citO M t) :: (M, methodObj (.ref 97) (.ref C.lx)) :: news, p.1 ≠ C.rl ∧ p.1 ≠ C.dl := by
    have := O.a2; have := O.a3; have := O.a4; have := O.a5; have := O.a6; have := O.a7; have := O.a8; have := O.a9
    refine List.forall_mem_cons.mpr ⟨⟨?_, ?_⟩, List.forall_mem_cons.mpr ⟨⟨?_, ?_⟩, hap⟩⟩ <;> (refine neN ?_; dsimp only; have := ltN hI; have := ltN hM; omega)
  have sw1 : ∀ l : List (Addr × Obj), ∀ p ∈ l ++ (I, citO M t) :: (M, methodObj (.ref 97) (.ref C.lx)) :: news, p ∈ (I, citO M t) :: (M, methodObj (.ref 97) (.ref C.lx)) :: (l ++ news) := fun l p hp => by
    simp only [List.mem_append, List.mem_cons] at hp ⊢
    rcases hp with h | h | h | h <;> simp [h]
  have sw2 : ∀ l : List (Addr × Obj), ∀ p ∈ (I, citO M t) :: (M, methodObj (.ref 97) (.ref C.lx)) :: (l ++ news), p ∈ l ++ (I, citO M t) :: (M, methodObj (.ref 97) (.ref C.lx)) :: news := fun l p hp => by
    simp only [List.mem_append, List.mem_cons] at hp ⊢
    rcases hp with h | h | h | h <;> simp [h]
  have hfun : ∃ o fd, (heap w.params).lookup 97 = some o ∧ o.data = .func fd := ⟨_, _, rfl, rfl⟩
  obtain ⟨o97, fd97, e97, d97⟩ := hfun
  refine cit_next (A := ktrTop dp un gd cn cs L a ccd cl outer) (f := 97) (lx := C.lx) (o := o97) (fd := fd97) rfl (N _ (.head _)).1 (N _ (.tail _ (.head _))).1 (F.keep _ _ (X _ _ e97)) d97 fun R hR => ?_
  cases rest with
  | nil =>
    have := strs_nil hus
    subst this
    refine readc_nil w C O line kl pbs n1 n4 _ hap' dp (un + 1) gd cn cs a ccd cl outer A₀ base h₀ L m s p loose mean mg mb R B F X (news_sub N (sw1 _)) Tp hk hG hd (by omega) fun r news' h' g' tk' F' N' G' hr => ?_
    obtain ⟨tk, rfl, rfl⟩ := hr
    have N2 := news_sub N' (sw2 _)
    refine hR _ _ ⟨_, _, rfl, (N2 _ (.head _)).1, .inr ⟨rfl, (N2 _ (.tail _ (.head _))).1, ⟨o97, fd97, F'.keep _ _ (X _ _ e97), d97⟩, fun h2 hx hc => ?_⟩⟩
    have hl : line = T := by rw [← hT]; simp [nls]
    subst hl
    have hne : ∀ p ∈ (M, methodObj (.ref 97) (.ref C.lx)) :: (lexO w.params C line kl pbs [] n1 n4 ++ news), p.1 ≠ I := by
      have h1 := O.a1; have h2 := O.a2; have := O.a3; have := O.a4; have := O.a5; have := O.a6; have := O.a7; have := O.a8; have := O.a9; have := ltN hI; have := ltN hM
      simp only [List.cons_append, List.nil_append]
      repeat' (refine List.forall_mem_cons.mpr ⟨?_, ?_⟩; · (refine neN ?_; dsimp only; omega))
      exact hIn
    refine hP h2 _ _ rfl ?_ ?_ G'
    · have z := (N2 _ (.head _)).2
      exact ⟨F'.ns.at' fun o e => hx _ o (Ne.symm z.1) e, fun b o e => hx b o (fun q => by rw [q, z.2] at e; cases e) (F'.keep b o e), F'.above⟩
    · intro q hq
      rcases List.mem_cons.mp hq with rfl | hq
      · exact ⟨hc, (N2 _ (.head _)).2⟩
      · exact ⟨hx _ _ (hne q hq) (N2 q (.tail _ hq)).1, (N2 q (.tail _ hq)).2⟩
  | cons c r =>
    obtain ⟨tc, us', rfl, hus'⟩ := strs_cons hus
    have hl := strs_n hus'
    simp only [chs, List.length_map] at hl
    simp only [List.length_cons] at hz
    refine readc_cons w C O line kl pbs us' c tc n1 n4 _ hap' (by omega) dp (un + 1) gd cn cs a ccd cl outer A₀ base h₀ L m s p loose mean mg mb R B F X (news_sub N (sw1 _)) Tp hk hG hd (by omega) fun r' news' h' g' tk' F' N' G' hr => ?_
    obtain ⟨line', kl', n4', hline, rfl, rfl⟩ := hr
    have N2 := news_sub N' (sw2 _)
    refine hR _ _ ⟨_, _, rfl, (N2 _ (.head _)).1, .inl ⟨?_, hY c r line' kl' tc us' n4' h' g' tk' rfl hus' ?_ F' N2 G'⟩⟩
    · intro q
      have := congrArg Str.length q
      have h1 : (Str.ofString "").length = 0 := by decide +kernel
      rw [h1] at this
      cases this
    · rw [nls_cons] at hT
      rw [hline]
      split <;> rename_i q <;> simp only [q, if_true, if_false] at hT <;> omega
end
section
local macro_rules | `(tactic| omega) => `(tactic| lia)
local macro_rules | `(tactic| walk_at "no such key 0") => `(tactic| skip)
open PySem PySem.W PyProof.Rows PySem.Spec PySem.Calls
local macro_rules | `(tactic| walk_at "truthy ref") => `(tactic| (k_here; (with_reducible show wpAny _ _ (truthy (Value.ref _)) _ _ _); k_dflt (first | (refine' truthy_led_nil ?N ?m ?_; (case N => k_asm); (case m => k_mem)) | (refine' truthy_led_cons ?N ?m ?z ?_; (case N => k_asm); (case m => k_mem); (case z => omega)))))
local macro_rules | `(tactic| walk_at "call builtin:list.pop") => `(tactic| (k_here; (with_reducible show wpAny _ _ (call (Value.builtin _) [Value.ref _, Value.int _ _]) _ _ _); k_dflt (refine' pop0_led ?F ?N ?U ?z ?_; (case F => k_asm); (case N => k_asm); (case U => k_upd); (case z => omega)); (intro h' F' N'; (try dsimp only [List.nil_append, List.cons_append] at N'))))
local macro_rules | `(tactic| walk_at "call builtin:iter") => `(tactic| (k_here; (with_reducible show wpAny _ _ (call (Value.builtin _) [Value.ref _, Value.str _ _]) _ _ _); k_dflt (refine' cit_new ?F ?N ?m ?_; (case F => k_asm); (case N => k_asm); (case m => k_mem)); (intro I' h' F' N' l1; (try k_lt l1))))
theorem mk_append (a b : List Nat) : mk a ++ mk b = mk (a ++ b) := by
  show Str.append _ _ = _
  unfold Str.append mk
  simp
theorem mk_length (a : List Nat) : (mk a).length = a.length := by show (List.toArray a).size = _; simp
theorem mk_nil : Str.ofString "" = mk [] := by decide +kernel
noncomputable abbrev ledC (w : World) (C : LexC) (I M : Addr) (o : Obj) (line : Int) (kl : Tok) (pbs us : List Value) (n1 n4 : Nat) (news : List (Addr × Obj)) : List (Addr × Obj) := (I, o) :: (M, methodObj (.ref 97) (.ref C.lx)) :: (lexO w.params C line kl pbs us n1 n4 ++ news)
/-- one sign, whether there is one or not -/
theorem readc_any (w : World) (C : LexC) (O : LexOk C) (T line : Int) (kl : Tok) (pbs us : List Value) (rest : List Nat) (n1 n4 : Nat) (I M : Addr) (oI : Obj) (news : List (Addr × Obj)) (hap : ∀ p ∈ news, p.1 ≠ C.rl ∧ p.1 ≠ C.dl) (hI : C.pb < M) (hM : M < I)
    (hus : StrsAre us (chs rest)) (hz : rest.length ≤ 2000) (hT : line + nls rest = T) :
    Fn w (call (.ref 97) [.ref C.lx]) 5 100 (ledC w C I M oI line kl pbs us n1 n4 news)
    (fun r news' => ∃ d tk line' kl' us' n4', r = .str d tk ∧ d = mk rest.head?.toList ∧ StrsAre us' (chs rest.tail) ∧ line' + nls rest.tail = T ∧ news' = ledC w C I M oI line' kl' pbs us' n1 n4' news) := by
  have hap' : ∀ p ∈ (I, oI) :: (M, methodObj (.ref 97) (.ref C.lx)) :: news, p.1 ≠ C.rl ∧ p.1 ≠ C.dl := by
    have := O.a2; have := O.a3; have := O.a4; have := O.a5; have := O.a6; have := O.a7; have := O.a8; have := O.a9
    refine List.forall_mem_cons.mpr ⟨⟨?_, ?_⟩, List.forall_mem_cons.mpr ⟨⟨?_, ?_⟩, hap⟩⟩ <;> (refine neN ?_; dsimp only; have := ltN hI; have := ltN hM; omega)
  have sw1 : ∀ l : List (Addr × Obj), ∀ p ∈ l ++ (I, oI) :: (M, methodObj (.ref 97) (.ref C.lx)) :: news, p ∈ (I, oI) :: (M, methodObj (.ref 97) (.ref C.lx)) :: (l ++ news) := fun l p hp => by
    simp only [List.mem_append, List.mem_cons] at hp ⊢
    rcases hp with h | h | h | h <;> simp [h]
  have sw2 : ∀ l : List (Addr × Obj), ∀ p ∈ (I, oI) :: (M, methodObj (.ref 97) (.ref C.lx)) :: (l ++ news), p ∈ l ++ (I, oI) :: (M, methodObj (.ref 97) (.ref C.lx)) :: news := fun l p hp => by
    simp only [List.mem_append, List.mem_cons] at hp ⊢
    rcases hp with h | h | h | h <;> simp [h]
  intro dp un gd cn cs a ccd cl outer A₀ base h₀ L m s p loose mean mg mb Q E B F X N Tp hk hG hd hu hret
  cases rest with
  | nil =>
    have := strs_nil hus
    subst this
    refine (readc_nil w C O line kl pbs n1 n4 _ hap').fn dp un gd cn cs a ccd cl outer A₀ base h₀ L m s p loose mean mg mb Q E B F X (news_sub N (sw1 _)) Tp hk hG hd hu fun r news' h' g' tk' F' N' G' hr => ?_
    obtain ⟨tk, rfl, rfl⟩ := hr
    exact hret _ _ _ _ _ F' (news_sub N' (sw2 _)) G' ⟨_, _, _, _, _, _, rfl, mk_nil, .nil, hT, rfl⟩
  | cons c r =>
    obtain ⟨tc, us', rfl, hus'⟩ := strs_cons hus
    have hl := strs_n hus'
    simp only [chs, List.length_map] at hl
    simp only [List.length_cons] at hz
    refine (readc_cons w C O line kl pbs us' c tc n1 n4 _ hap' (by omega)).fn dp un gd cn cs a ccd cl outer A₀ base h₀ L m s p loose mean mg mb Q E B F X (news_sub N (sw1 _)) Tp hk hG hd hu fun r' news' h' g' tk' F' N' G' hr => ?_
    obtain ⟨line', kl', n4', hline, rfl, rfl⟩ := hr
    refine hret _ _ _ _ _ F' (news_sub N' (sw2 _)) G' ⟨_, _, _, _, _, _, rfl, rfl, hus', ?_, rfl⟩
    rw [nls_cons] at hT
    rw [hline]
    split <;> rename_i q <;> simp only [q, if_true, if_false] at hT <;> simp only [List.tail_cons] <;> omega
/-- between two turns of the outer loop -/
inductive OI (w : World) (C : LexC) (h₀ : Heap) (L I M : Addr) (t : Tok) (T : Int) (n1 : Nat) (news : List (Addr × Obj)) (Y : List Nat × List Nat) (s₀ : Shared) (k : Nat) (s : Shared) : Prop where
  | mk (h : Heap) (g : Array GenState) (tk : Tok) (m : Str → Option Value) (x : Str) (tkz : Tok)
    (c0 : s = ⟨h, g, s₀.drawn, tk, s₀.os⟩)
    (c1 : Fr h₀ L h m)
    (c2 : AllBare g)
    (c3 : m (Str.ofString "self") = some (.ref C.lx))
    (c4 : m (Str.ofString "fiter") = some (.ref I))
    (c5 : m (Str.ofString "token") = some (.str x tkz))
    (c6 : ((∃ rest line kl us n4, k = rest.length + 1 ∧ News h₀ L h (ledC w C I M (citO M t) line kl [] us n1 n4 news) ∧ StrsAre us (chs rest) ∧ line + nls rest = T ∧ rest.length ≤ 1000 ∧ tokOf rest = Y ∧ x = mk []) ∨ (∃ kl n4 acc, k = 0 ∧ News h₀ L h (ledC w C I M citE T kl [] [] n1 n4 news) ∧ Y = (acc, []) ∧ x = mk acc)))
/-- between two turns of an inner loop -/
inductive QI (q : Bool → List Nat → List Nat → List Nat × List Nat) (w : World) (C : LexC) (h₀ : Heap) (L I M : Addr) (t : Tok) (T : Int) (n1 : Nat) (news : List (Addr × Obj)) (Y : List Nat × List Nat) (s₀ : Shared) (k : Nat) (s : Shared) : Prop where
  | mk (h : Heap) (g : Array GenState) (tk : Tok) (m : Str → Option Value) (x : Str) (tkz : Tok) (rest acc : List Nat) (line : Int) (kl : Tok) (us : List Value) (n4 : Nat)
    (c0 : s = ⟨h, g, s₀.drawn, tk, s₀.os⟩)
    (c1 : Fr h₀ L h m)
    (c2 : AllBare g)
    (c3 : m (Str.ofString "self") = some (.ref C.lx))
    (c4 : m (Str.ofString "fiter") = some (.ref I))
    (c5 : m (Str.ofString "token") = some (.str x tkz))
    (c6 : k = rest.length)
    (c7 : News h₀ L h (ledC w C I M (citO M t) line kl [] us n1 n4 news))
    (c8 : StrsAre us (chs rest))
    (c9 : line + nls rest = T)
    (c10 : acc.length + rest.length ≤ 1000)
    (c11 : q false rest acc = Y)
    (c12 : x = mk acc)
set_option maxRecDepth 100000 in
set_option maxHeartbeats 8000000 in
/-- a token laid back is taken first -/
theorem tok_back (w : World) (C : LexC) (O : LexOk C) (line : Int) (kl : Tok) (v : Value) (pbs us : List Value) (n1 n4 : Nat) (news : List (Addr × Obj)) (hap : ∀ p ∈ news, p.1 ≠ C.pb) (hz : pbs.length ≤ 2000) :
    Fn w (call (.ref 104) [.ref C.lx]) 5 100 (lexO w.params C line kl (v :: pbs) us n1 n4 ++ news)
    (fun r news' => ∃ n1', r = v ∧ news' = lexO w.params C line kl pbs us n1' n4 ++ news) := by
    obtain ⟨a1, a2, a3, a4, a5, a6, a7, a8, a9, hcell, ⟨vs, tq, hcd, hvs⟩⟩ := O
    unfold Fn
    k_fill
    intro dp un gd cn cs a ccd cl outer A₀ base h₀ L m s p loose mean mg mb Q E B F X N Tp hk hG hd hu hret
    k_steps
    exact hret _ _ _ _ _ (by k_asm) (by k_asm) hG ⟨_, rfl, rfl⟩

theorem ws_empty (c : Nat) : (PySem.Builtin.Str.occurrences (Str.ofString "\n\t\r ") (mk [c]) 0 (Str.ofString "\n\t\r ").length 1).isEmpty = !ws c := by
  rw [show mk [c] = ⟨#[c]⟩ from rfl, empty_one]
  have : (Str.ofString "\n\t\r ").cps.toList = [10, 9, 13, 32] := by decide +kernel
  rw [this]
  congr 1
  simp only [ws, List.mem_cons, List.not_mem_nil, or_false]
  rcases Nat.decEq c 10 with h1 | h1 <;> rcases Nat.decEq c 9 with h2 | h2 <;> rcases Nat.decEq c 13 with h3 | h3 <;> rcases Nat.decEq c 32 with h4 | h4 <;> simp [h1, h2, h3, h4]
theorem sign_true {c d : Nat} {x : Str} (hx : x = mk [d]) (h : (mk [c] == x) = true) : c = d := by
  subst hx
  have : mk [c] = mk [d] := eq_of_beq h
  simpa [mk] using this
theorem sign_false {c d : Nat} {x : Str} (hx : x = mk [d]) (h : (mk [c] == x) = false) : ¬ c = d := fun q => by
  subst hx; subst q
  rw [beq_self_eq_true] at h; cases h
theorem dq_eq : Str.ofString "\"" = mk [34] := by decide +kernel
theorem bs_eq : Str.ofString "\\" = mk [92] := by decide +kernel
noncomputable def forB : Stmt → List Stmt
  | .For _ _ b _ _ => b
  | _ => []
noncomputable def forT : Stmt → Expr
  | .For t _ _ _ _ => t
  | _ => .Constant .none 0 default
noncomputable def ifT : Stmt → List Stmt
  | .If _ t _ _ => t
  | _ => []
noncomputable def ifE : Stmt → List Stmt
  | .If _ _ e _ => e
  | _ => []
noncomputable def defB : Stmt → List Stmt
  | .FunctionDef (body := b) .. => b
  | _ => []
noncomputable def defS : Stmt → Scope
  | .FunctionDef (scope := sc) .. => sc
  | _ => default
noncomputable def getSc : Scope := defS (clsSt 61 2)
noncomputable def outSt : Stmt := nthS (defB (clsSt 61 2)) 3
noncomputable def quoSt : Stmt := nthS (ifT (nthS (forB outSt) 1)) 0
noncomputable def plaSt : Stmt := nthS (ifE (nthS (forB outSt) 1)) 2
/-- behind a return in an inner loop -/
inductive RI (w : World) (C : LexC) (h₀ : Heap) (L I M : Addr) (T : Int) (n1 : Nat) (news : List (Addr × Obj)) (Y : List Nat × List Nat) (s₀ s : Shared) : Prop where
  | mk (h : Heap) (g : Array GenState) (tk : Tok) (m : Str → Option Value) (oI : Obj) (line : Int) (kl : Tok) (us : List Value) (n4 : Nat)
    (c0 : s = ⟨h, g, s₀.drawn, tk, s₀.os⟩)
    (c1 : Fr h₀ L h m)
    (c2 : AllBare g)
    (c3 : News h₀ L h (ledC w C I M oI line kl [] us n1 n4 news))
    (c4 : StrsAre us (chs Y.2))
    (c5 : line + nls Y.2 = T)
end
section
local macro_rules | `(tactic| omega) => `(tactic| lia)
open PySem PySem.W PyProof.Rows PySem.Spec PySem.Calls
theorem filt_run (l : List Nat) (a : Nat) : ∀ n : Nat, ((List.range n).map (fun k => a + k)).filterMap (fun i => l[i]?) = (l.drop a).take n
  | 0 => rfl
  | n + 1 => by
    rw [List.range_succ, List.map_append, List.filterMap_append, filt_run l a n, List.take_add_one]
    congr 1
    simp only [List.map_cons, List.map_nil, List.filterMap_cons, List.filterMap_nil, List.getElem?_drop]
    cases l[a + n]? <;> rfl
theorem slice_mk {l : List Nat} {lo hi : Option Int} {a b : Nat} (h : PySem.Builtin.Str.strSliceIndices lo hi 1 l.length = (List.range (b - a)).map fun k => a + k) (hab : a ≤ b) (hb : b ≤ l.length) : Txt.slice (mk l) lo hi = mk ((l.drop a).take (b - a)) := by
  have hl : (mk l).length = l.length := by show (List.toArray l).size = _; simp
  unfold Txt.slice
  rw [hl, h]
  split
  · rename_i q
    have q' : b - a = l.length := by simpa using q
    have ha : a = 0 := by omega
    subst ha
    rw [List.drop_zero, List.take_of_length_le (by omega)]
  · show Str.mk _ = Str.mk _
    congr 1
    have : (fun i : Nat => (mk l).cps[i]?) = fun i : Nat => l[i]? := by funext i; simp [mk]
    rw [← filt_run, ← this]
theorem range_one {a b : Nat} (hab : a ≤ b) : PySem.sliceRange (a : Int) (b : Int) 1 = (List.range (b - a)).map fun k => a + k := by
  unfold PySem.sliceRange
  simp only [show ((1 : Int) > 0) from by decide, if_true]
  have e : (if (a : Int) < (b : Int) then ((b : Int) - (a : Int) + 1 - 1) / 1 else 0).toNat = b - a := by
    split
    · rw [Int.ediv_one]; omega
    · omega
  rw [e]
  refine List.map_congr_left fun k _ => ?_
  omega
theorem slice_upto {l : List Nat} {k : Nat} (hk : k ≤ l.length) : Txt.slice (mk l) none (some (k : Int)) = mk (l.take k) := by
  have := slice_mk (l := l) (lo := none) (hi := some (k : Int)) (a := 0) (b := k) (by
    unfold PySem.Builtin.Str.strSliceIndices
    simp only [show ((1 : Int) > 0) from by decide, if_true]
    rw [← range_one (Nat.zero_le k)]
    congr 1
    rw [if_neg (by omega)]; omega) (Nat.zero_le _) hk
  simpa using this
theorem slice_from {l : List Nat} {k : Nat} (hk : k ≤ l.length) : Txt.slice (mk l) (some (k : Int)) none = mk (l.drop k) := by
  have := slice_mk (l := l) (lo := some (k : Int)) (hi := none) (a := k) (b := l.length) (by
    unfold PySem.Builtin.Str.strSliceIndices
    simp only [show ((1 : Int) > 0) from by decide, if_true]
    rw [← range_one hk]
    congr 1
    rw [if_neg (by omega)]; omega) hk (Nat.le_refl _)
  rw [this, List.take_of_length_le (by simp)]
theorem slice_inner {l : List Nat} (hl : 2 ≤ l.length) : Txt.slice (mk l) (some 1) (some (-1)) = mk ((l.drop 1).take (l.length - 2)) := by
  have := slice_mk (l := l) (lo := some 1) (hi := some (-1)) (a := 1) (b := l.length - 1) (by
    unfold PySem.Builtin.Str.strSliceIndices
    simp only [show ((1 : Int) > 0) from by decide, if_true]
    rw [← range_one (by omega : 1 ≤ l.length - 1)]
    congr 1
    · rw [if_neg (by omega)]; omega
    · rw [if_pos (by omega)]; omega) (by omega) (by omega)
  rw [this]
  congr 2
end
section
local macro_rules | `(tactic| omega) => `(tactic| lia)
open PySem PySem.W PyProof.Rows PySem.Spec PySem.Calls
noncomputable def sgC (s : Bool) : Nat := if s then 62 else 60
noncomputable def T.cs : T → List Nat
  | .leaf c => [letters.getD c.1 0]
  | .node s l r => 40 :: (l.cs ++ sgC s :: (r.cs ++ [41]))
theorem lp_eq : Str.ofString "(" = mk [40] := by decide +kernel
theorem rp_eq : Str.ofString ")" = mk [41] := by decide +kernel
theorem sign_mk (s : Bool) : sign s = mk [sgC s] := by cases s <;> rfl
theorem text_cs (t : T) : t.text = mk t.cs := by
  induction t with
  | leaf c => rfl
  | node s l r ihl ihr =>
    rw [T.text, ihl, ihr, lp_eq, rp_eq, sign_mk, mk_append, mk_append, mk_append, mk_append]
    congr 1
    simp [T.cs]
/-- no quotation mark, no escape -/
noncomputable def Bare (l : List Nat) : Prop := ∀ c ∈ l, c ≠ 34 ∧ c ≠ 92
noncomputable def balGo : List Nat → Int → Bool
  | [], o => decide (o = 0)
  | c :: r, o => if c = 40 then balGo r (o + 1) else if c = 41 then (if o - 1 < 0 then false else balGo r (o - 1)) else balGo r o
theorem strip_bare {l : List Nat} (h : Bare l) : strip (mk l) = mk l := by
  unfold strip
  rw [dq_eq, show mk [34] = (⟨#[34]⟩ : Str) from rfl, empty_one, if_pos]
  have : 34 ∉ (mk l).cps.toList := by
    show 34 ∉ (List.toArray l).toList
    intro q
    exact (h 34 (by simpa using q)).1 rfl
  simp [this]
theorem mk1_beq (a b : Nat) : (mk [a] == mk [b]) = decide (a = b) := by
  by_cases h : a = b
  · subst h; simp
  · rw [decide_eq_false h]
    rcases q : (mk [a] == mk [b]) with _ | _
    · rfl
    · have := eq_of_beq q; exact absurd (by simpa [mk] using this) h
theorem checkGo_bare : ∀ (l : List Nat) (i : Nat) (o : Int), Bare l → checkGo (escItems i false l) o = balGo l o
  | [], i, o, _ => by simp [escItems, checkGo, balGo]
  | c :: r, i, o, h => by
    have hc := h c (.head _)
    have ih := fun o' => checkGo_bare r (i + 1) o' fun d hd => h d (.tail _ hd)
    have e : escItems i false (c :: r) = (i, [c]) :: escItems (i + 1) false r := by simp [escItems, hc.2]
    rw [e]
    simp only [checkGo, balGo, lp_eq, rp_eq, mk1_beq, ih, decide_eq_true_eq]
theorem check_bare {l : List Nat} (h : Bare l) : check (mk l) = balGo l 0 := by
  unfold check
  rw [strip_bare h]
  have : (mk l).cps.toList = l := by simp [mk]
  rw [this]
  exact checkGo_bare l 0 0 h
noncomputable def val (c : Nat) : Int := if c = 40 then 1 else if c = 41 then -1 else 0
noncomputable def bsum : List Nat → Int
  | [] => 0
  | c :: r => val c + bsum r
theorem bsum_append (a b : List Nat) : bsum (a ++ b) = bsum a + bsum b := by
  induction a with
  | nil => simp [bsum]
  | cons c r ih => simp only [List.cons_append, bsum, ih]; omega
theorem bal_sum : ∀ (l : List Nat) (o : Int), balGo l o = true → o + bsum l = 0
  | [], o, h => by simp [balGo] at h; simp [bsum, h]
  | c :: r, o, h => by
    simp only [balGo] at h
    simp only [bsum, val]
    split at h
    · rename_i q; have := bal_sum r _ h; simp only [q, if_true]; omega
    · rename_i q
      split at h
      · rename_i q2
        split at h
        · cases h
        · have := bal_sum r _ h; simp only [q2]; simp; omega
      · rename_i q2
        have := bal_sum r _ h; simp only [q, q2, if_false]; omega
theorem letter_codes : ∀ c : Fin 10, letters.getD c.1 0 ∈ alpha ∧ letters.getD c.1 0 ≠ 34 ∧ letters.getD c.1 0 ≠ 92 ∧ letters.getD c.1 0 ≠ 40 ∧ letters.getD c.1 0 ≠ 41 ∧ ¬ kindC (letters.getD c.1 0) + 234 < 256 := by decide +kernel
theorem cs_alpha : ∀ t : T, ∀ c ∈ t.cs, c ∈ alpha
  | .leaf k, c, h => by
    simp only [T.cs, List.mem_singleton] at h
    subst h; exact (letter_codes k).1
  | .node s l r, c, h => by
    simp only [T.cs, List.mem_cons, List.mem_append, List.not_mem_nil, or_false] at h
    rcases h with rfl | h | rfl | h | rfl
    · decide
    · exact cs_alpha l c h
    · cases s <;> decide
    · exact cs_alpha r c h
    · decide
theorem alpha_bare : ∀ c ∈ alpha, c ≠ 34 ∧ c ≠ 92 := by decide
theorem bal_tree : ∀ (t : T) (r : List Nat) (o : Int), 0 ≤ o → balGo (t.cs ++ r) o = balGo r o
  | .leaf c, r, o, _ => by
    have := letter_codes c
    simp only [T.cs, List.cons_append, List.nil_append, balGo, this.2.2.2.1, this.2.2.2.2.1, if_false]
  | .node s a b, r, o, ho => by
    have h1 : ∀ q o', balGo (sgC s :: q) o' = balGo q o' := by intro q o'; cases s <;> simp [sgC, balGo]
    simp only [T.cs, List.cons_append, List.append_assoc, balGo, if_true]
    rw [bal_tree a _ _ (by omega), h1, bal_tree b _ _ (by omega)]
    simp only [List.nil_append, balGo]
    rw [if_neg (by decide), if_pos trivial, if_neg (by omega)]
    congr 1; omega
theorem bsum_tree : ∀ t : T, bsum t.cs = 0
  | .leaf c => by
    have := letter_codes c
    simp only [T.cs, bsum, val, this.2.2.2.1, this.2.2.2.2.1, if_false]; rfl
  | .node s a b => by
    have h1 : val (sgC s) = 0 := by cases s <;> rfl
    simp only [T.cs, bsum, bsum_append, bsum_tree a, bsum_tree b, h1]
    decide
theorem bsum_take : ∀ (t : T) (j : Nat), 0 ≤ bsum (t.cs.take j)
  | .leaf c, j => by
    have := letter_codes c
    cases j with
    | zero => simp [bsum]
    | succ j => simp only [T.cs, List.take_succ_cons, List.take_nil, bsum, val, this.2.2.2.1, this.2.2.2.2.1, if_false]; decide
  | .node s a b, j => by
    have h1 : val (sgC s) = 0 := by cases s <;> rfl
    cases j with
    | zero => simp [bsum]
    | succ j =>
      simp only [T.cs, List.take_succ_cons, bsum, List.take_append, bsum_append]
      have ha := bsum_take a j
      cases hj : j - a.cs.length with
      | zero => simp only [List.take_zero, bsum, show val 40 = 1 from rfl]; omega
      | succ i =>
        simp only [List.take_succ_cons, bsum, h1, List.take_append, bsum_append, show val 40 = 1 from rfl]
        have hb := bsum_take b i
        cases i - b.cs.length with
        | zero => simp only [List.take_zero, bsum]; omega
        | succ m => simp only [List.take_succ_cons, List.take_nil, bsum, show val 41 = -1 from rfl]; omega
theorem bsum_inner (s : Bool) (a b : T) (j : Nat) (h1 : 1 ≤ j) (h2 : j < (T.node s a b).cs.length) : 1 ≤ bsum ((T.node s a b).cs.take j) := by
  have hs : val (sgC s) = 0 := by cases s <;> rfl
  cases j with
  | zero => omega
  | succ j =>
    simp only [T.cs, List.length_cons, List.length_append, List.length_nil] at h2
    simp only [T.cs, List.take_succ_cons, bsum, List.take_append, bsum_append]
    have ha := bsum_take a j
    cases hj : j - a.cs.length with
    | zero => simp only [List.take_zero, bsum, show val 40 = 1 from rfl]; omega
    | succ i =>
      simp only [List.take_succ_cons, bsum, hs, List.take_append, bsum_append, show val 40 = 1 from rfl]
      have hb := bsum_take b i
      have : i - b.cs.length = 0 := by omega
      rw [this]
      simp only [List.take_zero, bsum]; omega
theorem cs_pos (t : T) : 1 ≤ t.cs.length := by cases t <;> simp [T.cs]
theorem tree_bare (t : T) : Bare t.cs := fun c hc => alpha_bare c (cs_alpha t c hc)
theorem bare_append {a b : List Nat} (ha : Bare a) (hb : Bare b) : Bare (a ++ b) := fun c hc => (List.mem_append.mp hc).elim (ha c) (hb c)
theorem bare_take {a : List Nat} (ha : Bare a) (k : Nat) : Bare (a.take k) := fun c hc => ha c (List.mem_of_mem_take hc)
theorem bare_drop {a : List Nat} (ha : Bare a) (k : Nat) : Bare (a.drop k) := fun c hc => ha c (List.mem_of_mem_drop hc)
theorem bal_cs (t : T) : balGo t.cs 0 = true := by
  have := bal_tree t [] 0 (Int.le_refl _)
  rw [List.append_nil] at this
  rw [this]; rfl
theorem inner_bare (sg : Bool) (l r : T) : Bare (l.cs ++ sgC sg :: r.cs) := bare_append (tree_bare l) fun c hc => by
  rcases List.mem_cons.mp hc with rfl | hc
  · cases sg <;> decide
  · exact tree_bare r c hc
theorem cond_eq {ls : List Nat} (h : Bare ls) {c k : Nat} (hk : k < ls.length) : condAt (mk ls) c k = (decide (kindC c + 234 < 256) && (balGo (ls.take k) 0 && balGo (ls.drop (k + 1)) 0)) := by
  unfold condAt
  rw [slice_upto (by omega), show ((k : Int) + 1) = ((k + 1 : Nat) : Int) from by omega, slice_from (by omega), check_bare (bare_take h _), check_bare (bare_drop h _)]
theorem split_pure (sg : Bool) (l r : T) : Txt.slice (T.node sg l r).text (some 1) (some (-1)) = mk (l.cs ++ sgC sg :: r.cs) ∧ (∀ c ∈ l.cs ++ sgC sg :: r.cs, c ∈ alpha) ∧ condAt (mk (l.cs ++ sgC sg :: r.cs)) (sgC sg) l.cs.length = true ∧
    (∀ k d, k < l.cs.length → (l.cs ++ sgC sg :: r.cs)[k]? = some d → condAt (mk (l.cs ++ sgC sg :: r.cs)) d k = false) ∧ Txt.slice (mk (l.cs ++ sgC sg :: r.cs)) none (some (l.cs.length : Int)) = l.text ∧ Txt.slice (mk (l.cs ++ sgC sg :: r.cs)) (some ((l.cs.length : Int) + 1)) none = r.text := by
  have hb := inner_bare sg l r
  have hlen : (l.cs ++ sgC sg :: r.cs).length = l.cs.length + 1 + r.cs.length := by simp; omega
  have t1 : (l.cs ++ sgC sg :: r.cs).take l.cs.length = l.cs := by rw [List.take_append, List.take_length]; simp
  have t2 : (l.cs ++ sgC sg :: r.cs).drop (l.cs.length + 1) = r.cs := by rw [List.drop_append, List.drop_of_length_le (by omega)]; simp
  refine ⟨?_, ?_, ?_, ?_, ?_, ?_⟩
  · rw [text_cs, slice_inner (by simp [T.cs]; omega)]
    congr 1
    simp only [T.cs, List.drop_succ_cons, List.drop_zero, List.length_cons, List.length_append, List.length_nil]
    rw [show l.cs ++ sgC sg :: (r.cs ++ [41]) = (l.cs ++ sgC sg :: r.cs) ++ [41] from by simp, List.take_append_of_le_length (by simp), List.take_of_length_le (by simp)]
  · intro c hc
    rcases List.mem_append.mp hc with h | h
    · exact cs_alpha l c h
    · rcases List.mem_cons.mp h with rfl | h
      · cases sg <;> decide
      · exact cs_alpha r c h
  · rw [cond_eq hb (by omega), t1, t2, bal_cs, bal_cs]
    cases sg <;> decide
  · intro k d hk hd
    rw [cond_eq hb (by omega)]
    rw [List.getElem?_append_left hk] at hd
    have hda := cs_alpha l d (List.mem_of_getElem? hd)
    rcases q1 : decide (kindC d + 234 < 256) with _ | _
    · rfl
    · rcases q2 : balGo ((l.cs ++ sgC sg :: r.cs).take k) 0 with _ | _
      · rfl
      · rcases q3 : balGo ((l.cs ++ sgC sg :: r.cs).drop (k + 1)) 0 with _ | _
        · rfl
        · exfalso
          have s1 := bal_sum _ _ q2
          have s2 := bal_sum _ _ q3
          have hks : k < (l.cs ++ sgC sg :: r.cs).length := by omega
          have e : l.cs ++ sgC sg :: r.cs = (l.cs ++ sgC sg :: r.cs).take k ++ d :: (l.cs ++ sgC sg :: r.cs).drop (k + 1) := by
            have hg : (l.cs ++ sgC sg :: r.cs)[k] = d := by
              have := List.getElem?_eq_getElem hks
              rw [List.getElem?_append_left hk, hd] at this
              exact (Option.some.inj this).symm
            rw [← hg, ← List.drop_eq_getElem_cons hks, List.take_append_drop]
          have s0 : bsum (l.cs ++ sgC sg :: r.cs) = 0 := by
            have h1 : val (sgC sg) = 0 := by cases sg <;> rfl
            rw [bsum_append, bsum, bsum_tree, bsum_tree, h1]; rfl
          rw [e, bsum_append, bsum] at s0
          have hv : val d = 0 := by omega
          rw [List.take_append_of_le_length (by omega)] at s1
          cases l with
          | leaf c =>
            have hk0 : k = 0 := by simp [T.cs] at hk; omega
            subst hk0
            simp only [T.cs, List.getElem?_cons_zero, Option.some.injEq] at hd
            subst hd
            exact (letter_codes c).2.2.2.2.2 (of_decide_eq_true q1)
          | node s a b =>
            cases k with
            | zero =>
              simp only [T.cs, List.getElem?_cons_zero, Option.some.injEq] at hd
              subst hd
              exact absurd hv (by decide)
            | succ k =>
              have := bsum_inner s a b (k + 1) (by omega) hk
              omega
  · rw [slice_upto (by omega), t1, text_cs]
  · rw [show ((l.cs.length : Int) + 1) = ((l.cs.length + 1 : Nat) : Int) from by omega, slice_from (by omega), t2, text_cs]
end
section
local macro_rules | `(tactic| omega) => `(tactic| lia)
open PySem PySem.W PyProof.Rows PySem.Spec PySem.Calls
local macro_rules | `(tactic| walk_at "call ref") => `(tactic| first
  | ((with_reducible show wpAny _ _ (call (Value.ref 97) _ _) _ _ _); refine hold_it ?_))
noncomputable abbrev getEnv (sc : Scope) (L : Addr) : Env := envOf (Str.ofString "_netrclex.get_token") sc L 104 (.ref 103)
set_option maxRecDepth 100000 in
set_option maxHeartbeats 8000000 in
theorem quo_loop (w : World) (C : LexC) (O : LexOk C) {T : Int} {I M : Addr} {t : Tok} {n1 : Nat} {news : List (Addr × Obj)} {Y : List Nat × List Nat} {s₀ s : Shared} {k : Nat}
    {dp un : Nat} {gd : Option (List Code)} {outer : List Env} {A₀ : Around} {base h₀ : Heap} {L : Addr}
    {p : Program} {loose : List Str} {mean : ExcName → Option Value} {mg mb : Str → Option Value} {Q : Flow → Shared → Prop} {E : Value → Shared → Prop}
    (B : Below A₀ base outer h₀) (X : (heap w.params).In h₀) (Tp : Top p loose mean mg mb h₀) (hd : dp + 6 < recursionLimit) (hu : un + 102 < cLine)
    (hap : ∀ p ∈ news, p.1 ≠ C.rl ∧ p.1 ≠ C.dl) (hI : C.pb < M) (hM : M < I) (hIn : ∀ p ∈ news, p.1 ≠ I)
    (hend : ∀ s', OI w C h₀ L I M t T n1 news Y s₀ 0 s' → Q .next s') (hret : ∀ s' tk, RI w C h₀ L I M T n1 news Y s₀ s' → Q (.ret (.str (mk Y.1) tk)) s')
    (hI0 : QI quoted w C h₀ L I M t T n1 news Y s₀ k s) :
    codeAny (model PySem.Challenge.rw_sh0064_01.prog w) (ktrTop dp un gd (Str.ofString "_netrclex.get_token") getSc L 104 (.ref 103) [] outer) (.forLoop (forT quoSt) (.ref I) (forB quoSt) [] (getEnv getSc L))
      (fun r s' => match r with | .ok f => Q f s' | .error e => cameBackBy (model PySem.Challenge.rw_sh0064_01.prog w) (ktrTop dp un gd (Str.ofString "_netrclex.get_token") getSc L 104 (.ref 103) [] outer) (getEnv getSc L) E e s') s := by
  revert X; k_fill; intro X
  conv in (occs := *) getSc => all_goals whnf
  conv in forT quoSt => whnf
  conv in forB quoSt => whnf
  refine for_inv (QI quoted w C h₀ L I M t T n1 news Y s₀) ?turn _ hI0
  case turn =>
    intro k s' E' gA hAg hI
    obtain ⟨h, g, tk, mI, x, tkx, rest, acc, line, kl, us, n4, rfl, F2, G2, m1, m2, m3, rfl, N2, hus, hT, hz, hY, rfl⟩ := hI
    have F3 := know3 F2 m1 m2 m3
    refine lex_next C O B F3 X N2 Tp rfl G2 (by omega) (by omega) hap hI hM hIn hus (by omega) hT ?_ ?_
    · intro c r line' kl' tc us' n4' h' g' tk' hr hus' hT' F4 N4 G4
      subst hr
      simp only [List.length_cons] at hz
      have lx : (mk acc).length ≤ 1000 := by rw [mk_length]; omega
      have lc : (mk [c]).length ≤ 1 := by rw [mk_length]; exact Nat.le_refl _
      clear N2 F2 F3 hus
      refine let_name ?_
      k_steps
      · have hc : c = 34 := sign_true dq_eq (by assumption)
        subst hc
        dsimp only
        unfold TurnEnd
        dsimp only
        have e : Y = (acc, r) := by rw [← hY]; rfl
        subst e
        exact hret _ _ ⟨_, _, _, _, _, _, _, _, _, rfl, (by k_asm), G4, (by k_asm), hus', hT'⟩
      · have hc : c = 92 := sign_true bs_eq (by assumption)
        subst hc
        ((try unfold Hold); refine' fn_use ?IH ?k1 ?k2 ?k3 ?k4 ?k5 ?kK ?kG ?kd ?ku ?_; (case IH => exact readc_any w C O T line' kl' [] us' r n1 n4' I M (citO M t) news hap hI hM hus' (by omega) hT'); (case k1 => k_asm); (case k2 => k_asm); (case k3 => k_asm); (case k4 => k_asm); (case k5 => k_asm); (case kK => first | exact rfl | assumption); (case kG => assumption); (case kd => (first | exact room0 hd (by decide) | omega)); (case ku => (first | exact room0 hu (by decide) | omega)); intro r1 news1 h1 g1 tk1 F1 N1 G1 hR1)
        obtain ⟨d, tkd, line2, kl2, us2, n42, rfl, hdd, hus2, hT2, rfl⟩ := hR1
        have hrl : r.head?.toList.length + r.tail.length = r.length := by cases r <;> simp; omega
        have ld : d.length ≤ 1 := by rw [hdd, mk_length]; cases r <;> simp
        k_steps
        have hq : quoted false r.tail (acc ++ r.head?.toList) = Y := by
          rw [← hY]
          cases r <;> simp [quoted]
        refine hAg (r.tail.length) _ (by simp only [List.length_cons]; omega) ⟨_, _, _, _, _, _, r.tail, acc ++ r.head?.toList, _, _, _, _, rfl, (by k_asm), G1, by with_unfolding_all rfl, by with_unfolding_all rfl, by with_unfolding_all rfl, rfl, (by k_asm), hus2, hT2, by rw [List.length_append]; omega, hq, by rw [hdd, mk_append]⟩
      · have hc1 : ¬ c = 34 := sign_false dq_eq (by assumption)
        have hc2 : ¬ c = 92 := sign_false bs_eq (by assumption)
        have hq : quoted false r (acc ++ [c]) = Y := by rw [← hY, quoted, if_neg hc1, if_neg hc2]
        refine hAg (r.length) _ (Nat.lt_succ_self _) ⟨_, _, _, _, _, _, r, acc ++ [c], _, _, _, _, rfl, (by k_asm), G4, by with_unfolding_all rfl, by with_unfolding_all rfl, by with_unfolding_all rfl, rfl, (by k_asm), hus', hT', by rw [List.length_append, List.length_singleton]; omega, hq, by rw [mk_append]⟩
    · intro h' g' tk' hr F4 N4 G4
      subst hr
      exact hend _ ⟨_, _, _, _, _, _, rfl, F4, G4, by with_unfolding_all rfl, by with_unfolding_all rfl, by with_unfolding_all rfl, .inr ⟨_, _, _, rfl, N4, by rw [← hY]; rfl, rfl⟩⟩
end
section
local macro_rules | `(tactic| omega) => `(tactic| lia)
local macro_rules | `(tactic| walk_at "no such key 0") => `(tactic| skip)
open PySem PySem.W PyProof.Rows PySem.Spec PySem.Calls
local macro_rules | `(tactic| walk_at "call ref") => `(tactic| first
  | ((with_reducible show wpAny _ _ (call (Value.ref 97) _ _) _ _ _); refine hold_it ?_))
set_option maxRecDepth 100000 in
set_option maxHeartbeats 8000000 in
theorem pla_loop (w : World) (C : LexC) (O : LexOk C) {T : Int} {I M : Addr} {t : Tok} {n1 : Nat} {news : List (Addr × Obj)} {Y : List Nat × List Nat} {s₀ s : Shared} {k : Nat}
    {dp un : Nat} {gd : Option (List Code)} {outer : List Env} {A₀ : Around} {base h₀ : Heap} {L : Addr}
    {p : Program} {loose : List Str} {mean : ExcName → Option Value} {mg mb : Str → Option Value} {Q : Flow → Shared → Prop} {E : Value → Shared → Prop}
    (B : Below A₀ base outer h₀) (X : (heap w.params).In h₀) (Tp : Top p loose mean mg mb h₀) (hd : dp + 6 < recursionLimit) (hu : un + 102 < cLine)
    (hap : ∀ p ∈ news, p.1 ≠ C.rl ∧ p.1 ≠ C.dl) (hI : C.pb < M) (hM : M < I) (hIn : ∀ p ∈ news, p.1 ≠ I)
    (hend : ∀ s', OI w C h₀ L I M t T n1 news Y s₀ 0 s' → Q .next s') (hret : ∀ s' tk, RI w C h₀ L I M T n1 news Y s₀ s' → Q (.ret (.str (mk Y.1) tk)) s')
    (hI0 : QI plainW w C h₀ L I M t T n1 news Y s₀ k s) :
    codeAny (model PySem.Challenge.rw_sh0064_01.prog w) (ktrTop dp un gd (Str.ofString "_netrclex.get_token") getSc L 104 (.ref 103) [] outer) (.forLoop (forT plaSt) (.ref I) (forB plaSt) [] (getEnv getSc L))
      (fun r s' => match r with | .ok f => Q f s' | .error e => cameBackBy (model PySem.Challenge.rw_sh0064_01.prog w) (ktrTop dp un gd (Str.ofString "_netrclex.get_token") getSc L 104 (.ref 103) [] outer) (getEnv getSc L) E e s') s := by
  revert X; k_fill; intro X
  conv in (occs := *) getSc => all_goals whnf
  conv in forT plaSt => whnf
  conv in forB plaSt => whnf
  refine for_inv (QI plainW w C h₀ L I M t T n1 news Y s₀) ?turn _ hI0
  case turn =>
    intro k s' E' gA hAg hI
    obtain ⟨h, g, tk, mI, x, tkx, rest, acc, line, kl, us, n4, rfl, F2, G2, m1, m2, m3, rfl, N2, hus, hT, hz, hY, rfl⟩ := hI
    have F3 := know3 F2 m1 m2 m3
    refine lex_next C O B F3 X N2 Tp rfl G2 (by omega) (by omega) hap hI hM hIn hus (by omega) hT ?_ ?_
    · intro c r line' kl' tc us' n4' h' g' tk' hr hus' hT' F4 N4 G4
      subst hr
      simp only [List.length_cons] at hz
      have lx : (mk acc).length ≤ 1000 := by rw [mk_length]; omega
      have lc : (mk [c]).length ≤ 1 := by rw [mk_length]; exact Nat.le_refl _
      clear N2 F2 F3 hus
      refine let_name ?_
      k_steps
      · have hws : ws c = false := by have a1 := ws_empty c; rw [(by assumption : (PySem.Builtin.Str.occurrences (Str.ofString "\n\t\r ") (mk [c]) 0 (Str.ofString "\n\t\r ").length 1).isEmpty = true)] at a1; simpa using a1.symm
        have hc : c = 92 := sign_true bs_eq (by assumption)
        subst hc
        ((try unfold Hold); refine' fn_use ?IH ?k1 ?k2 ?k3 ?k4 ?k5 ?kK ?kG ?kd ?ku ?_; (case IH => exact readc_any w C O T line' kl' [] us' r n1 n4' I M (citO M t) news hap hI hM hus' (by omega) hT'); (case k1 => k_asm); (case k2 => k_asm); (case k3 => k_asm); (case k4 => k_asm); (case k5 => k_asm); (case kK => first | exact rfl | assumption); (case kG => assumption); (case kd => (first | exact room0 hd (by decide) | omega)); (case ku => (first | exact room0 hu (by decide) | omega)); intro r1 news1 h1 g1 tk1 F1 N1 G1 hR1)
        obtain ⟨d, tkd, line2, kl2, us2, n42, rfl, hdd, hus2, hT2, rfl⟩ := hR1
        have hrl : r.head?.toList.length + r.tail.length = r.length := by cases r <;> simp; omega
        have ld : d.length ≤ 1 := by rw [hdd, mk_length]; cases r <;> simp
        k_steps
        have hq : plainW false r.tail (acc ++ r.head?.toList) = Y := by
          rw [← hY]
          cases r <;> simp [plainW, ws]
        refine hAg (r.tail.length) _ (by simp only [List.length_cons]; omega) ⟨_, _, _, _, _, _, r.tail, acc ++ r.head?.toList, _, _, _, _, rfl, (by k_asm), G1, by with_unfolding_all rfl, by with_unfolding_all rfl, by with_unfolding_all rfl, rfl, (by k_asm), hus2, hT2, by rw [List.length_append]; omega, hq, by rw [hdd, mk_append]⟩
      · have hws : ws c = false := by have a1 := ws_empty c; rw [(by assumption : (PySem.Builtin.Str.occurrences (Str.ofString "\n\t\r ") (mk [c]) 0 (Str.ofString "\n\t\r ").length 1).isEmpty = true)] at a1; simpa using a1.symm
        have hc2 : ¬ c = 92 := sign_false bs_eq (by assumption)
        have hq : plainW false r (acc ++ [c]) = Y := by rw [← hY, plainW, if_neg (by rw [hws]; exact Bool.false_ne_true), if_neg hc2]
        refine hAg (r.length) _ (Nat.lt_succ_self _) ⟨_, _, _, _, _, _, r, acc ++ [c], _, _, _, _, rfl, (by k_asm), G4, by with_unfolding_all rfl, by with_unfolding_all rfl, by with_unfolding_all rfl, rfl, (by k_asm), hus', hT', by rw [List.length_append, List.length_singleton]; omega, hq, by rw [mk_append]⟩
      · have hws : ws c = true := by have a1 := ws_empty c; rw [(by assumption : (PySem.Builtin.Str.occurrences (Str.ofString "\n\t\r ") (mk [c]) 0 (Str.ofString "\n\t\r ").length 1).isEmpty = false)] at a1; simpa using a1.symm
        dsimp only
        unfold TurnEnd
        dsimp only
        have e : Y = (acc, r) := by rw [← hY, plainW, if_pos hws]
        subst e
        exact hret _ _ ⟨_, _, _, _, _, _, _, _, _, rfl, (by k_asm), G4, (by k_asm), hus', hT'⟩
    · intro h' g' tk' hr F4 N4 G4
      subst hr
      exact hend _ ⟨_, _, _, _, _, _, rfl, F4, G4, by with_unfolding_all rfl, by with_unfolding_all rfl, by with_unfolding_all rfl, .inr ⟨_, _, _, rfl, N4, by rw [← hY]; rfl, rfl⟩⟩
end
section
local macro_rules | `(tactic| omega) => `(tactic| lia)
open PySem PySem.W PyProof.Rows PySem.Spec PySem.Calls
local macro_rules | `(tactic| walk_at "call ref") => `(tactic| first
  | ((with_reducible show wpAny _ _ (call (Value.ref 97) _ _) _ _ _); refine hold_it ?_))
local macro_rules | `(tactic| walk_at "truthy ref") => `(tactic| (k_here; (with_reducible show wpAny _ _ (truthy (Value.ref _)) _ _ _); k_dflt (refine' truthy_led_nil ?N ?m ?_; (case N => k_asm); (case m => k_mem))))
local macro_rules | `(tactic| walk_at "call builtin:iter") => `(tactic| (k_here; (with_reducible show wpAny _ _ (call (Value.builtin _) [Value.ref _, Value.str _ _]) _ _ _); k_dflt (refine' cit_new ?F ?N ?m ?_; (case F => k_asm); (case N => k_asm); (case m => k_mem)); (intro I' h' F' N' l1; (try k_lt l1))))
theorem mem_skip2 {α : Type} {a b : α} {l : List α} : ∀ p ∈ l, p ∈ a :: b :: l := fun _ hp => .tail _ (.tail _ hp)
theorem readc_led {w : World} {C : LexC} {line : Int} {kl : Tok} {pbs us : List Value} {n1 n4 : Nat} {I M : Addr} {oI : Obj} {news : List (Addr × Obj)} {h₀ h : Heap} {L : Addr} (_ : News h₀ L h (ledC w C I M oI line kl pbs us n1 n4 news)) (O : LexOk C) (T : Int) (rest : List Nat) (hap : ∀ p ∈ news, p.1 ≠ C.rl ∧ p.1 ≠ C.dl) (hI : C.pb < M) (hM : M < I)
    (hus : StrsAre us (chs rest)) (hz : rest.length ≤ 2000) (hT : line + nls rest = T) :
    Fn w (call (.ref 97) [.ref C.lx]) 5 100 (ledC w C I M oI line kl pbs us n1 n4 news)
    (fun r news' => ∃ d tk line' kl' us' n4', r = .str d tk ∧ d = mk rest.head?.toList ∧ StrsAre us' (chs rest.tail) ∧ line' + nls rest.tail = T ∧ news' = ledC w C I M oI line' kl' pbs us' n1 n4' news) := readc_any w C O T line kl pbs us rest n1 n4 I M oI news hap hI hM hus hz hT
theorem fr_up {h₀ h h' : Heap} {L : Addr} {m : Str → Option Value} (F : Fr h₀ L h m) (hk : ∀ b o, h.get? b = some o → h'.get? b = some o) : Fr h₀ L h' m :=
  ⟨F.ns.keeps hk, fun b o e => hk b o (F.keep b o e), F.above⟩
set_option maxRecDepth 100000 in
set_option maxHeartbeats 8000000 in
theorem tok_ok (w : World) (C : LexC) (O : LexOk C) (T line : Int) (kl : Tok) (us : List Value) (rest : List Nat) (n1 n4 : Nat) (news : List (Addr × Obj)) (hap : ∀ p ∈ news, p.1 ≠ C.rl ∧ p.1 ≠ C.dl) (hus : StrsAre us (chs rest)) (hz : rest.length ≤ 1000) (hT : line + nls rest = T) :
    Fn w (call (.ref 104) [.ref C.lx]) 7 200 (lexO w.params C line kl [] us n1 n4 ++ news)
    (fun r news' => ∃ tk line' kl' us' n4', r = .str (mk (tokOf rest).1) tk ∧ StrsAre us' (chs (tokOf rest).2) ∧ line' + nls (tokOf rest).2 = T ∧ news' = lexO w.params C line' kl' [] us' n1 n4' ++ news) := by
    have O' := O
    obtain ⟨a1, a2, a3, a4, a5, a6, a7, a8, a9, hcell, ⟨vs, tq, hcd, hvs⟩⟩ := O'
    unfold Fn
    k_fill
    intro dp un gd cn cs a ccd cl outer A₀ base h₀ L m s p loose mean mg mb Q E B F X N Tp hk hG hd hu hret
    k_steps
    rename ∀ p ∈ lexO w.params C line kl [] us n1 n4 ++ news, p.1 < _ => lM
    rename _ < _ ∧ AllLt _ (lexO w.params C line kl [] us n1 n4 ++ news) => lI
    have hpbM := lM _ (.head _)
    have hnI := allLt_mem lI.2
    have hnI' : ∀ p ∈ news, p.1 ≠ _ := fun p hp => Nat.ne_of_lt (hnI p (List.mem_append_right _ hp))
    refine cit_iter (by k_asm) (.head _) rfl ?_
    have init : ∀ tkz, OI w C _ _ _ _ _ T n1 news (tokOf rest) s _ ⟨_, s.gens, s.drawn, tkz, s.os⟩ := fun tkz =>
      ⟨_, _, _, _, _, _, rfl, (by k_asm), hG, by with_unfolding_all rfl, by with_unfolding_all rfl, by with_unfolding_all rfl, .inl ⟨rest, line, kl, us, n4, rfl, (by k_asm), hus, hT, hz, rfl, mk_nil⟩⟩
    refine for_inv (OI w C _ _ _ _ _ T n1 news (tokOf rest) s) ?turn _ (init _)
    case turn =>
      intro k s' E' gA hAg hI
      obtain ⟨h, g, tk, mI, x, tkx, rfl, F2, G2, m1, m2, m3, ⟨rest, line, kl, us, n4, rfl, N2, hus, hT, hz, hY, rfl⟩ | ⟨kl, n4, acc, rfl, N2, hY, rfl⟩⟩ := hI
      · have F3 := know3 F2 m1 m2 m3
        refine lex_next C O (by k_asm) F3 (by k_asm) N2 (by k_asm) rfl G2 (by show dp + 1 + 5 < _; omega) (by show un + 3 + 101 < _; omega) hap hpbM lI.1 hnI' hus (by omega) hT ?_ ?_
        · intro c r line' kl' tc us' n4' h' g' tk' hr hus' hT' F4 N4 G4
          subst hr
          simp only [List.length_cons] at hz
          have lc : (mk [c]).length ≤ 1 := by rw [mk_length]; exact Nat.le_refl _
          have l0 : (mk ([] : List Nat)).length ≤ 0 := Nat.le_refl _
          clear N2 F2 F3 hus
          refine let_name ?_
          k_steps
          · have hws : ws c = false := by have a1 := ws_empty c; rw [(by assumption : (PySem.Builtin.Str.occurrences (Str.ofString "\n\t\r ") (mk [c]) 0 (Str.ofString "\n\t\r ").length 1).isEmpty = true)] at a1; simpa using a1.symm
            have hc : c = 34 := sign_true dq_eq (by assumption)
            subst hc
            refine cit_iter (by k_asm) (.head _) rfl ?_
            refine quo_loop w C O (k := r.length) (T := T) (n1 := n1) (news := news) (Y := tokOf rest) (s₀ := s) (by k_asm) (by k_asm) (by k_asm) (by show dp + 1 + 6 < _; omega) (by show un + 3 + 102 < _; omega) hap hpbM lI.1 hnI' (fun s' ho => ?_) (fun s' tk ho => ?_)
              ⟨_, _, _, _, _, _, r, [], _, _, _, _, rfl, (by k_asm), G4, by with_unfolding_all rfl, by with_unfolding_all rfl, by with_unfolding_all rfl, rfl, (by k_asm), hus', hT', by simp only [List.length_nil]; omega, by rw [← hY]; rfl, rfl⟩
            · show wpAny _ _ (execs [] _) _ _ _
              k_steps
              exact hAg 0 _ (Nat.succ_pos _) ho
            · obtain ⟨h5, g5, tk5, m5, oI5, line5, kl5, us5, n45, rfl, F5, G5, N5, hs5, hl5⟩ := ho
              dsimp only
              unfold TurnEnd
              dsimp only
              k_steps
              exact hret _ (lexO w.params C line5 kl5 [] us5 n1 n45 ++ news) _ _ _ (by k_asm) (news_sub (by k_asm) mem_skip2) G5 ⟨_, _, _, _, _, rfl, hs5, hl5, rfl⟩
          · have hws : ws c = false := by have a1 := ws_empty c; rw [(by assumption : (PySem.Builtin.Str.occurrences (Str.ofString "\n\t\r ") (mk [c]) 0 (Str.ofString "\n\t\r ").length 1).isEmpty = true)] at a1; simpa using a1.symm
            have hc : c = 92 := sign_true bs_eq (by assumption)
            subst hc
            rename News _ _ _ _ => N6
            ((try unfold Hold); refine' fn_use ?IH ?k1 ?k2 ?k3 ?k4 ?k5 ?kK ?kG ?kd ?ku ?_; (case IH => exact readc_led N6 O T r hap hpbM lI.1 hus' (by omega) hT'); (case k1 => k_asm); (case k2 => k_asm); (case k3 => k_asm); (case k4 => k_asm); (case k5 => k_asm); (case kK => first | exact rfl | assumption); (case kG => assumption); (case kd => (show dp + 1 + _ < _; first | exact room1 hd (by decide) | omega)); (case ku => (show un + 3 + _ < _; first | exact room3 hu (by decide) | omega)); intro r1 news1 h1 g1 tk1 F1 N1 G1 hR1)
            obtain ⟨d, tkd, line2, kl2, us2, n42, rfl, hdd, hus2, hT2, rfl⟩ := hR1
            have hrl : r.head?.toList.length + r.tail.length = r.length := by cases r <;> simp; omega
            have ld : d.length ≤ 1 := by rw [hdd, mk_length]; cases r <;> simp
            k_steps
            have hq : plainW false r.tail r.head?.toList = tokOf rest := by
              rw [← hY]
              cases r <;> simp [tokOf, plainW, ws]
            refine cit_iter (by k_asm) (.head _) rfl ?_
            refine pla_loop w C O (k := r.tail.length) (T := T) (n1 := n1) (news := news) (Y := tokOf rest) (s₀ := s) (by k_asm) (by k_asm) (by k_asm) (by show dp + 1 + 6 < _; omega) (by show un + 3 + 102 < _; omega) hap hpbM lI.1 hnI' (fun s' ho => ?_) (fun s' tk ho => ?_)
              ⟨_, _, _, _, _, _, r.tail, r.head?.toList, _, _, _, _, rfl, (by k_asm), G1, by with_unfolding_all rfl, by with_unfolding_all rfl, by with_unfolding_all rfl, rfl, (by k_asm), hus2, hT2, by omega, hq, by rw [hdd, mk_append, List.nil_append]⟩
            · show wpAny _ _ (execs [] _) _ _ _
              k_steps
              exact hAg 0 _ (Nat.succ_pos _) ho
            · obtain ⟨h5, g5, tk5, m5, oI5, line5, kl5, us5, n45, rfl, F5, G5, N5, hs5, hl5⟩ := ho
              dsimp only
              unfold TurnEnd
              dsimp only
              k_steps
              exact hret _ (lexO w.params C line5 kl5 [] us5 n1 n45 ++ news) _ _ _ (by k_asm) (news_sub (by k_asm) mem_skip2) G5 ⟨_, _, _, _, _, rfl, hs5, hl5, rfl⟩
          · have hws : ws c = false := by have a1 := ws_empty c; rw [(by assumption : (PySem.Builtin.Str.occurrences (Str.ofString "\n\t\r ") (mk [c]) 0 (Str.ofString "\n\t\r ").length 1).isEmpty = true)] at a1; simpa using a1.symm
            have hc1 : ¬ c = 34 := sign_false dq_eq (by assumption)
            have hc2 : ¬ c = 92 := sign_false bs_eq (by assumption)
            have hq : plainW false r [c] = tokOf rest := by rw [← hY, tokOf, if_neg (by rw [hws]; exact Bool.false_ne_true), if_neg hc1, if_neg hc2]
            refine cit_iter (by k_asm) (.head _) rfl ?_
            refine pla_loop w C O (k := r.length) (T := T) (n1 := n1) (news := news) (Y := tokOf rest) (s₀ := s) (by k_asm) (by k_asm) (by k_asm) (by show dp + 1 + 6 < _; omega) (by show un + 3 + 102 < _; omega) hap hpbM lI.1 hnI' (fun s' ho => ?_) (fun s' tk ho => ?_)
              ⟨_, _, _, _, _, _, r, [c], _, _, _, _, rfl, (by k_asm), G4, by with_unfolding_all rfl, by with_unfolding_all rfl, by with_unfolding_all rfl, rfl, (by k_asm), hus', hT', by simp only [List.length_singleton]; omega, hq, by rw [mk_append, List.nil_append]⟩
            · show wpAny _ _ (execs [] _) _ _ _
              k_steps
              exact hAg 0 _ (Nat.succ_pos _) ho
            · obtain ⟨h5, g5, tk5, m5, oI5, line5, kl5, us5, n45, rfl, F5, G5, N5, hs5, hl5⟩ := ho
              dsimp only
              unfold TurnEnd
              dsimp only
              k_steps
              exact hret _ (lexO w.params C line5 kl5 [] us5 n1 n45 ++ news) _ _ _ (by k_asm) (news_sub (by k_asm) mem_skip2) G5 ⟨_, _, _, _, _, rfl, hs5, hl5, rfl⟩
          · have hws : ws c = true := by have a1 := ws_empty c; rw [(by assumption : (PySem.Builtin.Str.occurrences (Str.ofString "\n\t\r ") (mk [c]) 0 (Str.ofString "\n\t\r ").length 1).isEmpty = false)] at a1; simpa using a1.symm
            dsimp only
            unfold TurnEnd
            dsimp only
            have hq : tokOf r = tokOf rest := by rw [← hY]; conv => rhs; rw [tokOf, if_pos hws]
            exact hAg (r.length + 1) _ (Nat.lt_succ_self _) ⟨_, _, _, _, _, _, rfl, (by k_asm), G4, by with_unfolding_all rfl, by with_unfolding_all rfl, by with_unfolding_all rfl, .inl ⟨r, _, _, _, _, rfl, (by k_asm), hus', hT', by omega, hq, rfl⟩⟩
        · intro h' g' tk' hr F4 N4 G4
          subst hr
          show wpAny _ _ _ _ _ _
          k_steps
          exact hret _ (lexO w.params C T kl [] [] n1 n4 ++ news) _ _ _ (by k_asm) (news_sub (by k_asm) mem_skip2) G4 ⟨_, _, _, _, _, by rw [← hY]; rfl, by rw [← hY]; exact .nil, by rw [← hY]; show T + 0 = T; omega, rfl⟩
      · refine cit_next_ended rfl (N2 _ (.head _)).1 fun h' hk => ?_
        show wpAny _ _ _ _ _ _
        have F4 : Fr _ _ h' _ := fr_up (know3 F2 m1 m2 m3) hk
        have N4 : News _ _ h' (ledC w C _ _ citE T kl [] [] n1 n4 news) := fun p hp => ⟨hk _ _ (N2 p hp).1, (N2 p hp).2⟩
        clear N2 F2
        k_steps
        exact hret _ (lexO w.params C T kl [] [] n1 n4 ++ news) _ _ _ (by k_asm) (news_sub (by k_asm) mem_skip2) G2 ⟨_, _, _, _, _, by rw [hY], by rw [hY]; exact .nil, by rw [hY]; show T + 0 = T; omega, rfl⟩
end
section
local macro_rules | `(tactic| omega) => `(tactic| lia)
open PySem PySem.W PyProof.Rows PySem.Spec PySem.Calls
section
variable {prog : Program} {w : World} {A : Around} {E : Value → Shared → Prop} {s : Shared} {h₀ : Heap} {L D : Addr} {m : Str → Option Value} {news news' : List (Addr × Obj)} {us : List Value} {x : Value} {n : Nat}
theorem app_led {Q : Value → Shared → Prop} (F : Fr h₀ L s.heap m) (N : News h₀ L s.heap news) (U : Upd D (PySem.W.listOf us.toArray n) (PySem.W.listOf (us ++ [x]).toArray (n + 1)) news news') (hz : us.length ≤ 2000)
    (h : ∀ h', Fr h₀ L h' m → News h₀ L h' news' → Q .none { s with heap := h' }) : wpAny (model prog w) A (call (.builtin "list.append") [.ref D, x]) Q E s := by
  obtain ⟨pre, post, rfl, rfl, a, b⟩ := U.split
  have z := N (D, PySem.W.listOf us.toArray n) (List.mem_append.mpr (.inr (.head _)))
  refine append_at (hsz := by rw [PySem.sizeLine_eq]; simp; omega) z.1 fun h' hs ho' => h h' (F.change hs z.2.1 z.2.2) ?_
  have := news_set N a b hs ho'
  simpa using this
end
local macro_rules | `(tactic| walk_at "call builtin:list.append") => `(tactic| (k_here; (with_reducible show wpAny _ _ (call (Value.builtin _) [Value.ref _, _]) _ _ _); k_dflt (refine' app_led ?F ?N ?U ?z ?_; (case F => k_asm); (case N => k_asm); (case U => k_upd); (case z => omega)); (intro h' F' N'; (try dsimp only [List.nil_append, List.cons_append] at N'))))
set_option maxRecDepth 100000 in
set_option maxHeartbeats 8000000 in
theorem push_ok (w : World) (C : LexC) (O : LexOk C) (line : Int) (kl : Tok) (v : Value) (pbs us : List Value) (n1 n4 : Nat) (news : List (Addr × Obj)) (hap : ∀ p ∈ news, p.1 ≠ C.pb) (hz : pbs.length ≤ 2000) :
    Fn w (call (.ref 111) [.ref C.lx, v]) 5 100 (lexO w.params C line kl pbs us n1 n4 ++ news)
    (fun r news' => ∃ n1', r = .none ∧ news' = lexO w.params C line kl (pbs ++ [v]) us n1' n4 ++ news) := by
    obtain ⟨a1, a2, a3, a4, a5, a6, a7, a8, a9, hcell, ⟨vs, tq, hcd, hvs⟩⟩ := O
    unfold Fn
    k_fill
    intro dp un gd cn cs a ccd cl outer A₀ base h₀ L m s p loose mean mg mb Q E B F X N Tp hk hG hd hu hret
    k_steps
    exact hret _ _ _ _ _ (by k_asm) (by k_asm) hG ⟨_, rfl, rfl⟩
end
section
open PySem PySem.W PyProof.Rows PySem.Spec PySem.Calls
local macro_rules | `(tactic| walk_at "getMethod ref") => `(tactic| (k_here; first | (refine' gm_search123 ?X ?_; (case X => k_in)) | (refine' gm_search128 ?X ?_; (case X => k_in))))
local macro_rules | `(tactic| walk_at "call builtin:re.Pattern.search") => `(tactic| (k_here; first | (refine' sc_search123 ?X ?hx ?_; (case X => k_in); (case hx => assumption)) | (refine' sc_search128 ?X ?hx ?_; (case X => k_in); (case hx => assumption))))
/-- the references of a list are pairs of texts -/
inductive Pairs (news : List (Addr × Obj)) : List Value → List (Str × Str) → Prop
  | nil : Pairs news [] []
  | cons {a : Addr} {k v : Str} {t1 t2 : Tok} {n : Nat} {vs : List Value} {kvs : List (Str × Str)} : (a, tupO [.str k t1, .str v t2] n) ∈ news → Pairs news vs kvs → Pairs news (.ref a :: vs) ((k, v) :: kvs)
theorem Pairs.mono {news news' : List (Addr × Obj)} {vs : List Value} {kvs : List (Str × Str)} (h : Pairs news vs kvs) (hs : ∀ p ∈ news, p ∈ news') : Pairs news' vs kvs := by
  induction h with
  | nil => exact .nil
  | cons hm _ ih => exact .cons (hs _ hm) ih
theorem Pairs.length {news : List (Addr × Obj)} {vs : List Value} {kvs : List (Str × Str)} (h : Pairs news vs kvs) : vs.length = kvs.length := by
  induction h with
  | nil => rfl
  | cons _ _ ih => simp [ih]
theorem Pairs.at {news : List (Addr × Obj)} {vs : List Value} {kvs : List (Str × Str)} (h : Pairs news vs kvs) : ∀ (i : Nat) (v : Value), vs[i]? = some v → ∃ (a : Addr) (k y : Str) (t1 t2 : Tok) (n : Nat), v = .ref a ∧ kvs[i]? = some (k, y) ∧ (a, tupO [.str k t1, .str y t2] n) ∈ news := by
  induction h with
  | nil => intro i v e; cases e
  | cons hm _ ih =>
    intro i v e
    cases i with
    | zero => cases e; exact ⟨_, _, _, _, _, _, rfl, rfl, hm⟩
    | succ i => simpa using ih i v (by simpa using e)
noncomputable def getV (kvs : List (Str × Str)) (x : Str) : Option Str := (kvs.find? fun p => Txt.lower p.1 == Txt.lower x).map (·.2)
noncomputable abbrev tabO (aT dT aH : Addr) (hsh : Int) (tk1 : Tok) (n n2 : Nat) (vs : List Value) : List (Addr × Obj) := [(aT, instObj 251 dT), (dT, dictOf [⟨hsh, .str (Str.ofString "_headers") tk1, .ref aH⟩] n), (aH, PySem.W.listOf vs.toArray n2)]
inductive HI (h₀ : Heap) (L I aH : Addr) (x : Str) (tkn : Tok) (vs : List Value) (kvs : List (Str × Str)) (led : List (Addr × Obj)) (s₀ : Shared) (k : Nat) (s : Shared) : Prop where
  | mk (h : Heap) (tk : Tok) (m : Str → Option Value) (i : Nat) (oI : Obj)
    (c0 : s = ⟨h, s₀.gens, s₀.drawn, tk, s₀.os⟩)
    (c1 : k = vs.length - i)
    (c2 : i ≤ vs.length)
    (c3 : IterO aH i oI)
    (c4 : Fr h₀ L h m)
    (c5 : News h₀ L h ((I, oI) :: led))
    (c6 : m (Str.ofString "name") = some (.str (Txt.lower x) tkn))
    (c7 : m (Str.ofString "default") = some .none)
    (c8 : getV (kvs.drop i) x = getV kvs x)
set_option maxRecDepth 100000 in
set_option maxHeartbeats 8000000 in
theorem get_ok (w : World) (x : Str) (t tk1 : Tok) (aT dT aH : Addr) (hsh : Int) (n n2 : Nat) (vs : List Value) (kvs : List (Str × Str)) (news : List (Addr × Obj)) (hx : x ∈ plainTexts) (hp : Pairs news vs kvs) (hkp : ∀ p ∈ kvs, p.1 ∈ plainTexts) :
    Fn w (call (.ref 198) [.ref aT, .str x t]) 5 100 (tabO aT dT aH hsh tk1 n n2 vs ++ news)
    (fun r news' => news' = tabO aT dT aH hsh tk1 n n2 vs ++ news ∧ ((getV kvs x = none ∧ r = .none) ∨ ∃ y tk, getV kvs x = some y ∧ r = .str y tk)) := by
    have hlx := lower_plain x hx
    have hlen := plain_len x hx
    unfold Fn
    k_fill
    intro dp un gd cn cs a ccd cl outer A₀ base h₀ L m s p loose mean mg mb Q E B F X N Tp hk hG hd hu hret
    k_steps
    refine list_iter (vs := vs) (n := n2) (by k_asm) (by k_asm) (.tail _ (.tail _ (.head _))) fun I oI h1 hI F1 N1 hlt => ?_
    have init : ∀ tkz, HI _ _ I aH x _ vs kvs (tabO aT dT aH hsh tk1 n n2 vs ++ news) s _ ⟨h1, s.gens, s.drawn, tkz, s.os⟩ := fun tkz => ⟨_, _, _, 0, oI, rfl, rfl, Nat.zero_le _, hI, F1, N1, by with_unfolding_all rfl, by with_unfolding_all rfl, rfl⟩
    refine for_inv (HI _ _ I aH x _ vs kvs (tabO aT dT aH hsh tk1 n n2 vs ++ news) s) ?turn _ (init _)
    case turn =>
      intro k s' E' gA hAg hi'
      obtain ⟨h, tk, mI, i, oI', rfl, rfl, hile, hI2, F2, N2, m1, m2, hg⟩ := hi'
      have F3 := know2 F2 m1 m2
      refine list_next (l := aH) (vs := vs) (n := n2) rfl F3 hI2 N2 (.tail _ (.tail _ (.head _))) hlt ?_ ?_
      · intro v oI3 h3 hv hI3 F4 N4
        obtain ⟨a', k', y', t1, t2, n3, rfl, hkv, hmem⟩ := hp.at i v hv
        have hki : k' ∈ plainTexts := hkp _ (List.mem_of_getElem? hkv)
        have hkl := plain_len k' hki
        have hilt : i < vs.length := by
          rcases Nat.lt_or_ge i vs.length with q | q
          · exact q
          · rw [List.getElem?_eq_none q] at hv; cases hv
        have hdrop : kvs.drop i = (k', y') :: kvs.drop (i + 1) := by
          have hl := hp.length
          rw [List.drop_eq_getElem_cons (by omega)]
          have hkv2 := hkv
          rw [List.getElem?_eq_getElem (by omega)] at hkv2
          rw [Option.some.inj hkv2]
        refine let_iter hI3 (N4 _ (.head _)).1 ?_
        have N5 := news_front N4 (.tail _ (List.mem_append_right _ hmem))
        clear N4 N2 F2 F3
        k_steps
        · have hq : (Txt.lower k' == Txt.lower x) = true := by assumption
          have hg' : getV (kvs.drop i) x = some y' := by rw [hdrop]; simp only [getV, List.find?, hq, Option.map]
          dsimp only
          unfold TurnEnd
          dsimp only
          k_steps
          exact hret _ (tabO aT dT aH hsh tk1 n n2 vs ++ news) _ _ _ (by k_asm) (news_sub (by k_asm) (fun p hp => .tail _ (.tail _ hp))) hG ⟨rfl, .inr ⟨_, _, by rw [← hg, hg'], rfl⟩⟩
        · have hq : (Txt.lower k' == Txt.lower x) = false := by assumption
          have hg' : getV (kvs.drop (i + 1)) x = getV kvs x := by rw [← hg, hdrop]; simp only [getV, List.find?, hq]
          exact hAg (vs.length - (i + 1)) _ (by omega) ⟨_, _, _, i + 1, oI3, rfl, rfl, hilt, hI3, (by k_asm), news_sub (by k_asm) (fun p hp => .tail _ hp), by with_unfolding_all rfl, by with_unfolding_all rfl, hg'⟩
      · intro h3 hv F4 N4
        show wpAny _ _ _ _ _ _
        k_steps
        have hend : kvs.drop i = [] := by
          have hl := hp.length
          have := List.getElem?_eq_none_iff.mp hv
          exact List.drop_eq_nil_of_le (by omega)
        exact hret _ _ _ _ _ (by k_asm) (by k_asm) hG ⟨rfl, .inl ⟨by rw [← hg, hend]; rfl, rfl⟩⟩
end
section
open PySem PySem.W PyProof.Rows PySem.Spec PySem.Calls
local macro_rules | `(tactic| walk_at "getMethod ref") => `(tactic| (k_here; first | (refine' gm_search123 ?X ?_; (case X => k_in)) | (refine' gm_search128 ?X ?_; (case X => k_in))))
local macro_rules | `(tactic| walk_at "call builtin:re.Pattern.search") => `(tactic| (k_here; first | (refine' sc_search123 ?X ?hx ?_; (case X => k_in); (case hx => assumption)) | (refine' sc_search128 ?X ?hx ?_; (case X => k_in); (case hx => assumption))))
local macro_rules | `(tactic| walk_at "call ref") => `(tactic| first
  | ((with_reducible show wpAny _ _ (call (Value.ref 198) _ _) _ _ _); refine hold_it ?_))
theorem swap3 {α : Type} {a b c d : α} {news : List α} : ∀ p ∈ c :: d :: a :: b :: news, p ∈ d :: a :: b :: c :: news := fun p hp => by
  simp only [List.mem_cons] at hp ⊢
  rcases hp with h | h | h | h | h <;> simp [h]
theorem swap4 {α : Type} {a b c d : α} {news : List α} : ∀ p ∈ a :: b :: c :: d :: news, p ∈ c :: d :: a :: b :: news := fun p hp => by
  simp only [List.mem_cons] at hp ⊢
  rcases hp with h | h | h | h | h <;> simp [h]
set_option maxRecDepth 100000 in
set_option maxHeartbeats 8000000 in
theorem setd_ok (w : World) (x y : Str) (t t' tk1 : Tok) (aT dT aH : Addr) (hsh : Int) (n n2 : Nat) (vs : List Value) (kvs : List (Str × Str)) (news : List (Addr × Obj)) (hx : x ∈ plainTexts) (hy : y ∈ plainTexts) (hp : Pairs news vs kvs) (hkp : ∀ p ∈ kvs, p.1 ∈ plainTexts) (hn : vs.length ≤ 100)
    (hap : ∀ p ∈ news, p.1 ≠ aH) (haT : aT ≠ aH) (hdT : dT ≠ aH) :
    Fn w (call (.ref 241) [.ref aT, .str x t, .str y t']) 7 200 (tabO aT dT aH hsh tk1 n n2 vs ++ news)
    (fun r news' => (getV kvs x ≠ none ∧ news' = tabO aT dT aH hsh tk1 n n2 vs ++ news) ∨
      (getV kvs x = none ∧ ∃ D t1 t2 n3 n4, news' = tabO aT dT aH hsh tk1 n n4 (vs ++ [.ref D]) ++ ((D, tupO [.str x t1, .str y t2] n3) :: news) ∧ ∀ p ∈ tabO aT dT aH hsh tk1 n n2 vs ++ news, p.1 < D)) := by
    have hlen := plain_len x hx
    have hleny := plain_len y hy
    unfold Fn
    k_fill
    intro dp un gd cn cs a ccd cl outer A₀ base h₀ L m s p loose mean mg mb Q E B F X N Tp hk hG hd hu hret
    k_steps
    ((try unfold Hold); refine' fn_use ?IH ?k1 ?k2 ?k3 ?k4 ?k5 ?kK ?kG ?kd ?ku ?_; (case IH => exact get_ok w x t tk1 aT dT aH hsh n n2 vs kvs news hx hp hkp); (case k1 => k_asm); (case k2 => k_asm); (case k3 => k_asm); (case k4 => k_asm); (case k5 => k_asm); (case kK => first | exact rfl | assumption); (case kG => assumption); (case kd => (show dp + 1 + _ < _; first | exact room1 hd (by decide) | omega)); (case ku => (show un + 3 + _ < _; first | exact room3 hu (by decide) | omega)); intro r1 news1 h1 g1 tk1 F1 N1 G1 hR1)
    obtain ⟨e1, ⟨hg, e2⟩ | ⟨y1, tk2, hg, e2⟩⟩ := hR1
    · subst e1; subst e2
      k_steps
      rename ∀ p ∈ tabO _ _ _ _ _ _ _ _ ++ _, p.1 < _ => l9
      refine append_led (by k_asm) (news_sub (by k_asm) swap3) (fun p hp => ?_) (by rw [PySem.sizeLine_eq]; omega) fun h' F5 N5 => ?_
      · rcases List.mem_cons.mp hp with rfl | hp
        · exact Nat.ne_of_gt (l9 _ (.tail _ (.tail _ (.head _))))
        · rcases List.mem_cons.mp hp with rfl | hp
          · exact haT
          · rcases List.mem_cons.mp hp with rfl | hp
            · exact hdT
            · exact hap p hp
      · k_steps
        exact hret _ (tabO aT dT aH hsh _ n (n2 + 1) (vs ++ [.ref _]) ++ ((_, tupO [.str x t, .str y t'] 0) :: news)) _ _ _ (by k_asm) (news_sub (by k_asm) swap4) (by assumption) (.inr ⟨hg, _, _, _, _, _, rfl, l9⟩)
    · subst e1; subst e2
      k_steps
      exact hret _ _ _ _ _ (by k_asm) (by k_asm) (by assumption) (.inl ⟨by rw [hg]; exact Option.some_ne_none _, rfl⟩)
end
section
local macro_rules | `(tactic| walk_at "no such key 0") => `(tactic| skip)
open PySem PySem.W PyProof.Rows PySem.Spec PySem.Calls
local macro_rules | `(tactic| walk_at "call ref") => `(tactic| first
  | ((with_reducible show wpAny _ _ (call (Value.ref 323) _ _) _ _ _); refine hold_it ?_)
  | ((with_reducible show wpAny _ _ (call (Value.ref 330) _ _) _ _ _); refine hold_it ?_))
local macro_rules | `(tactic| k_mem) => `(tactic| assumption)
local macro_rules | `(tactic| walk_at "subscriptTail") => `(tactic| (k_here; (with_reducible show wpAny _ _ (subscriptTail _ _ (Value.ref _) (Value.int _ _)) _ _ _); (with_unfolding_all refine sub_tup (News.get (by k_asm) (by k_mem)) (by decide) (by decide) (by rfl) ?_ (by with_unfolding_all rfl)); k_whole))
theorem mem_skip4 {α : Type} {a b c d e : α} {l : List α} : ∀ p ∈ a :: l, p ∈ a :: b :: c :: d :: e :: l := fun p hp => by
  simp only [List.mem_cons] at hp ⊢
  rcases hp with h | h <;> simp [h]
noncomputable abbrev ledOf {h₀ h : Heap} {L : Addr} {news : List (Addr × Obj)} (_ : News h₀ L h news) : List (Addr × Obj) := news
noncomputable def open_ (ls hs : List Int) : Bool := ls.all fun a => hs.all fun b => decide (a < b)
noncomputable def T.ways (ns : List Int) : T → List Int → List Int → List Str
  | .leaf c, ls, hs => if open_ ls hs then [letter c] else []
  | .node s l r, ls, hs => l.ways ns ls hs ++ (if s then r.ways ns (ls ++ [l.worth ns]) hs else r.ways ns ls (hs ++ [l.worth ns]))
theorem open_iff {ls hs : List Int} {M m : Int} (h1 : M ∈ ls) (h2 : ∀ a, a ∈ ls → a ≤ M) (h3 : m ∈ hs) (h4 : ∀ a, a ∈ hs → m ≤ a) : open_ ls hs = true ↔ M < m := by
  simp only [open_, List.all_eq_true, decide_eq_true_eq]
  constructor
  · exact fun h => h M h1 m h3
  · intro h a ha b hb
    have := h2 a ha; have := h4 b hb; omega
theorem ways_len (ns : List Int) : ∀ (t : T) (ls hs : List Int), (t.ways ns ls hs).length ≤ t.size + 1
  | .leaf c, ls, hs => by simp only [T.ways, T.size]; split <;> simp
  | .node s l r, ls, hs => by
    have h1 := ways_len ns l ls hs
    have h2 := ways_len ns r (ls ++ [l.worth ns]) hs
    have h3 := ways_len ns r ls (hs ++ [l.worth ns])
    simp only [T.ways, T.size, List.length_append]
    split <;> omega
theorem strs_app {us vs : List Value} {ss ts : List Str} (h : StrsAre us ss) (h' : StrsAre vs ts) : StrsAre (us ++ vs) (ss ++ ts) := by
  induction h with
  | nil => exact h'
  | cons y t _ ih => exact .cons y t ih
theorem strs_len {us : List Value} {ss : List Str} (h : StrsAre us ss) : us.length = ss.length := by induction h with
  | nil => rfl
  | cons _ _ _ ih => simp [ih]
theorem ints_len {us : List Value} {ns : List Int} (h : IntsAre us ns) : us.length = ns.length := by induction h with
  | nil => rfl
  | cons _ _ _ ih => simp [ih]
local macro_rules | `(tactic| walk_at "binaryOp Add ref ref") => `(tactic| ((rename Hold True => mkX); refine hold_it ?_))
set_option maxRecDepth 100000 in
set_option maxHeartbeats 8000000 in
theorem ways_ok (w : World) (us : List Value) (ns : List Int) (hi : IntsAre us ns) (h5 : us.length = 5) (n : Nat) (aK : Addr) (t : T) : ∀ (news : List (Addr × Obj)) (v : Value) (aL aH : Addr) (ul uh : List Value) (ls hs : List Int) (n1 n2 : Nat), TreeIn news v t → (aK, PySem.W.listOf us.toArray n) ∈ news → (aL, PySem.W.listOf ul.toArray n1) ∈ news → (aH, PySem.W.listOf uh.toArray n2) ∈ news →
    IntsAre ul ls → IntsAre uh hs → 0 < ls.length → 0 < hs.length → ls.length + t.depth ≤ 100 → hs.length + t.depth ≤ 100 → t.size ≤ 10 →
    Fn w (call (.ref 330) [v, .ref aL, .ref aH, .ref aK]) (t.depth + 5) (8 * t.depth + 50) news (fun r news' => ∃ D us' n', r = .ref D ∧ StrsAre us' (t.ways ns ls hs) ∧ news' = (D, PySem.W.listOf us'.toArray n') :: news ∧ ∀ p ∈ news, p.1 < D) := by
  induction t with
  | leaf c =>
    intro news v aL aH ul uh ls hs n1 n2 hR hK hL hH il ih nl nh bl bh hsz
    cases hR
    unfold Fn
    k_fill
    intro dp un gd cn cs a ccd cl outer A₀ base h₀ L m s p loose mean mg mb Q E B F X N Tp hk hG hd hu hret
    refine wpAny_call ?_
    k_dflt ktr_enter
    k_steps
    refine max_list_N rfl (by k_asm) (by k_asm) (News.isList (by assumption : News _ _ _ news) hL) il nl fun h2 M t2 tk2 F2 N2 hM hM2 => ?_
    k_steps
    refine min_list_N rfl (by k_asm) (by k_asm) (News.isList (by assumption : News _ _ _ news) hH) ih nh fun h3 m3 t3 tk3 F3 N3 hm hm2 => ?_
    k_steps
    · have hlt : M < m3 := by assumption
      exact hret _ ((_, PySem.W.listOf [Value.str (letter c) _].toArray 0) :: news) _ _ _ (by k_asm) (by k_asm) hG ⟨_, _, _, rfl, by rw [T.ways, if_pos ((open_iff hM hM2 hm hm2).mpr hlt)]; exact .cons _ _ .nil, rfl, by assumption⟩
    · have hlt : ¬ M < m3 := by assumption
      exact hret _ ((_, PySem.W.listOf ([] : List Value).toArray 0) :: news) _ _ _ (by k_asm) (by k_asm) hG ⟨_, _, _, rfl, by rw [T.ways, if_neg (fun q => hlt ((open_iff hM hM2 hm hm2).mp q))]; exact .nil, rfl, by assumption⟩
  | node sg l r ihl ihr =>
    intro news v aL aH ul uh ls hs n1 n2 hR hK hL hH il ih nl nh bl bh hsz
    have hl : l.size ≤ 10 := by simp only [T.size] at hsz; omega
    have hr : r.size ≤ 10 := by simp only [T.size] at hsz; omega
    cases hR
    rename_i hv hv' _
    unfold Fn
    k_fill
    intro dp un gd cn cs a ccd cl outer A₀ base h₀ L m s p loose mean mg mb Q E B F X N Tp hk hG hd hu hret
    refine wpAny_call ?_
    k_dflt ktr_enter
    k_steps
    ((try unfold Hold); refine' fn_use ?IH ?k1 ?k2 ?k3 ?k4 ?k5 ?kK ?kG ?kd ?ku ?_; (case IH => exact worth_ok w us ns hi h5 n aK l news _ (by assumption) hK hl); (case k1 => k_asm); (case k2 => k_asm); (case k3 => k_asm); (case k4 => k_asm); (case k5 => k_asm); (case kK => first | exact rfl | assumption); (case kG => assumption); (case kd => (first | with_reducible apply roomLk hd | with_reducible apply roomRk hd | (simp only [T.depth] at hd; show dp + 1 + _ < _; first | exact room1 hd (by decide) | omega))); (case ku => (first | with_reducible apply unitLk hu | with_reducible apply unitRk hu | (simp only [T.depth] at hu; show un + 3 + _ < _; first | exact room3 hu (by decide) | omega))); intro r1 news1 h1 g1 tk1 F1 N1 G1 hR1)
    obtain ⟨tk1, e1, e2⟩ := hR1; subst e1; subst e2
    k_steps
    ((try unfold Hold); refine' fn_use ?IH ?k1 ?k2 ?k3 ?k4 ?k5 ?kK ?kG ?kd ?ku ?_; (case IH => exact ihl news _ aL aH ul uh ls hs n1 n2 (by assumption) hK hL hH il ih nl nh (by simp only [T.depth] at bl; omega) (by simp only [T.depth] at bh; omega) hl); (case k1 => k_asm); (case k2 => k_asm); (case k3 => k_asm); (case k4 => k_asm); (case k5 => k_asm); (case kK => first | exact rfl | assumption); (case kG => assumption); (case kd => (first | with_reducible apply roomLk hd | with_reducible apply roomRk hd | (simp only [T.depth] at hd; show dp + 1 + _ < _; first | exact room1 hd (by decide) | omega))); (case ku => (first | with_reducible apply unitLk hu | with_reducible apply unitRk hu | (simp only [T.depth] at hu; show un + 3 + _ < _; first | exact room3 hu (by decide) | omega))); intro r2 news2 h2 g2 tk2 F2 N2 G2 hR2)
    obtain ⟨D2, us2, n3, e1, hs2, e2, hlt2⟩ := hR2; subst e1; subst e2
    k_steps
    · have hsg : sg = true := sign_gt (by assumption)
      rename_i D9 ws9 h9 F9 N9 hI9 l9
      ((try unfold Hold); refine' fn_use ?IH ?k1 ?k2 ?k3 ?k4 ?k5 ?kK ?kG ?kd ?ku ?_; (case IH => exact ihr (ledOf N9) _ D9 aH ws9 uh (ls ++ [l.worth ns]) hs 0 n2 (TreeIn.mono (by assumption) fun p hp => .tail _ (.tail _ (.tail _ hp))) (.tail _ (.tail _ (.tail _ hK))) (.head _) (.tail _ (.tail _ (.tail _ hH))) hI9 ih (by simp) nh (by simp only [T.depth] at bl; simp; omega) (by simp only [T.depth] at bh; omega) hr); (case k1 => k_asm); (case k2 => k_asm); (case k3 => k_asm); (case k4 => k_asm); (case k5 => k_asm); (case kK => first | exact rfl | assumption); (case kG => assumption); (case kd => (first | with_reducible apply roomLk hd | with_reducible apply roomRk hd | (simp only [T.depth] at hd; show dp + 1 + _ < _; first | exact room1 hd (by decide) | omega))); (case ku => (first | with_reducible apply unitLk hu | with_reducible apply unitRk hu | (simp only [T.depth] at hu; show un + 3 + _ < _; first | exact room3 hu (by decide) | omega))); intro r3 news3 h3 g3 tk3 F3 N3 G3 hR3)
      obtain ⟨D4, us4, n4, e1, hs4, e2, hlt4⟩ := hR3; subst e1; subst e2
      have mk9 : Hold True := trivial
      k_steps
      unfold Hold
      rename Hold True => mk9
      clear mk9
      refine kmk_add_lit (zs := us2 ++ us4) (by k_asm) (by k_asm) (News.isList N3 (.tail _ (.tail _ (.tail _ (.head _))))) (News.isList N3 (.head _)) rfl (fun D5 h5 F5 N5 hlt5 => ?_) (by have h1 := strs_len hs2; have h2 := strs_len hs4; have h3 := ways_len ns l ls hs; have h4 := ways_len ns r (ls ++ [l.worth ns]) hs; rw [PySem.sizeLine_eq]; simp; omega)
      k_steps
      exact hret _ ((D5, PySem.W.listOf (us2 ++ us4).toArray 0) :: news) _ _ _ (by k_asm) (news_sub (by k_asm) mem_skip4) (by assumption) ⟨D5, us2 ++ us4, 0, rfl, by subst hsg; exact strs_app hs2 hs4, rfl, fun p hp => hlt5 p (.tail _ (.tail _ (.tail _ (.tail _ hp))))⟩
    · have hsg : sg = false := sign_lt (by assumption)
      rename_i D9 ws9 h9 F9 N9 hI9 l9
      ((try unfold Hold); refine' fn_use ?IH ?k1 ?k2 ?k3 ?k4 ?k5 ?kK ?kG ?kd ?ku ?_; (case IH => exact ihr (ledOf N9) _ aL D9 ul ws9 ls (hs ++ [l.worth ns]) n1 0 (TreeIn.mono (by assumption) fun p hp => .tail _ (.tail _ (.tail _ hp))) (.tail _ (.tail _ (.tail _ hK))) (.tail _ (.tail _ (.tail _ hL))) (.head _) il hI9 nl (by simp) (by simp only [T.depth] at bl; omega) (by simp only [T.depth] at bh; simp; omega) hr); (case k1 => k_asm); (case k2 => k_asm); (case k3 => k_asm); (case k4 => k_asm); (case k5 => k_asm); (case kK => first | exact rfl | assumption); (case kG => assumption); (case kd => (first | with_reducible apply roomLk hd | with_reducible apply roomRk hd | (simp only [T.depth] at hd; show dp + 1 + _ < _; first | exact room1 hd (by decide) | omega))); (case ku => (first | with_reducible apply unitLk hu | with_reducible apply unitRk hu | (simp only [T.depth] at hu; show un + 3 + _ < _; first | exact room3 hu (by decide) | omega))); intro r3 news3 h3 g3 tk3 F3 N3 G3 hR3)
      obtain ⟨D4, us4, n4, e1, hs4, e2, hlt4⟩ := hR3; subst e1; subst e2
      have mk9 : Hold True := trivial
      k_steps
      unfold Hold
      rename Hold True => mk9
      clear mk9
      refine kmk_add_lit (zs := us2 ++ us4) (by k_asm) (by k_asm) (News.isList N3 (.tail _ (.tail _ (.tail _ (.head _))))) (News.isList N3 (.head _)) rfl (fun D5 h5 F5 N5 hlt5 => ?_) (by have h1 := strs_len hs2; have h2 := strs_len hs4; have h3 := ways_len ns l ls hs; have h4 := ways_len ns r ls (hs ++ [l.worth ns]); rw [PySem.sizeLine_eq]; simp; omega)
      k_steps
      exact hret _ ((D5, PySem.W.listOf (us2 ++ us4).toArray 0) :: news) _ _ _ (by k_asm) (news_sub (by k_asm) mem_skip4) (by assumption) ⟨D5, us2 ++ us4, 0, rfl, by subst hsg; exact strs_app hs2 hs4, rfl, fun p hp => hlt5 p (.tail _ (.tail _ (.tail _ (.tail _ hp))))⟩
end
section
local macro_rules | `(tactic| omega) => `(tactic| lia)
open PySem PySem.W PyProof.Rows PySem.Spec PySem.Calls PyProof.V
noncomputable def numS (n : Int) : Str := Str.ofString (toString n)
theorem num_facts : ∀ k < 199, PySem.intText? (numS ((k : Nat) - 99 : Int)) = some ((k : Nat) - 99 : Int) ∧ (numS ((k : Nat) - 99 : Int)).length ≤ 3 := by decide +kernel
theorem num_text {n : Int} (h0 : -99 ≤ n) (h1 : n ≤ 99) : PySem.intText? (numS n) = some n ∧ (numS n).length ≤ 3 := by
  have := num_facts (n + 99).toNat (by omega)
  have e : (((n + 99).toNat : Nat) : Int) - 99 = n := by omega
  rwa [e] at this
/-- what the window's reader says -/
noncomputable def T.play (ns : List Int) : T → Int → Int → Int × List Str
  | .leaf c, lo, hi => (min (max ((T.leaf c).worth ns) lo) hi, [letter c])
  | .node true l r, lo, hi => if (l.play ns lo hi).1 ≥ hi then l.play ns lo hi else ((r.play ns (l.play ns lo hi).1 hi).1, (l.play ns lo hi).2 ++ (r.play ns (l.play ns lo hi).1 hi).2)
  | .node false l r, lo, hi => if (l.play ns lo hi).1 ≤ lo then l.play ns lo hi else ((r.play ns lo (l.play ns lo hi).1).1, (l.play ns lo hi).2 ++ (r.play ns lo (l.play ns lo hi).1).2)
local macro_rules | `(tactic| walk_at "call ref") => `(tactic| first
  | ((with_reducible show wpAny _ _ (call (Value.ref 198) _ _) _ _ _); refine hold_it ?_)
  | ((with_reducible show wpAny _ _ (call (Value.ref 302) _ _) _ _ _); refine hold_it ?_)
  | ((with_reducible show wpAny _ _ (call (Value.ref 309) _ _) _ _ _); refine hold_it ?_)
  | ((with_reducible show wpAny _ _ (call (Value.ref 111) _ _) _ _ _); refine hold_it ?_))
/-- the ledger of the play -/
noncomputable abbrev playO (w : World) (C : LexC) (line : Int) (kl : Tok) (pbs us : List Value) (n1 n4 : Nat) (tab news : List (Addr × Obj)) : List (Addr × Obj) := lexO w.params C line kl pbs us n1 n4 ++ (tab ++ news)
theorem swapM {α : Type} {a b l : List α} : ∀ p ∈ b ++ (a ++ l), p ∈ a ++ (b ++ l) := fun p hp => by
  simp only [List.mem_append] at hp ⊢
  rcases hp with h | h | h <;> simp [h]
theorem sg21 {sg : Bool} (h : (if sg = true then (21 : Int) else 20) = 21) : sg = true := by cases sg <;> simp_all
theorem sg20 {sg : Bool} (h : (if sg = true then (21 : Int) else 20) ≠ 21) : sg = false := by cases sg <;> simp_all
theorem play_len (ns : List Int) : ∀ (t : T) (lo hi : Int), (t.play ns lo hi).2.length ≤ t.size + 1
  | .leaf c, lo, hi => by simp [T.play, T.size]
  | .node true l r, lo, hi => by
    have h1 := play_len ns l lo hi
    have h2 := play_len ns r (l.play ns lo hi).1 hi
    simp only [T.play, T.size]; split
    · omega
    · rw [List.length_append]; omega
  | .node false l r, lo, hi => by
    have h1 := play_len ns l lo hi
    have h2 := play_len ns r lo (l.play ns lo hi).1
    simp only [T.play, T.size]; split
    · omega
    · rw [List.length_append]; omega
theorem letter_plain : ∀ c, letter c ∈ plainTexts := by decide +kernel
theorem kind_sign (sg : Bool) : kindC (sgC sg) = if sg then 21 else 20 := by cases sg <;> decide
theorem cs_length (t : T) : t.cs.length = 1 + 4 * t.size := by
  have := len_text t
  rw [text_cs] at this
  rw [← this]
  show _ = (List.toArray t.cs).size; simp
theorem split_node (w : World) (sg : Bool) (l r : T) (t : Tok) (news : List (Addr × Obj)) (hsz : (T.node sg l r).size ≤ 5) :
    Fn w (call (.ref 302) [.str (T.node sg l r).text t]) 10 500 news (fun v news' => ∃ D t1 t2 t3 n, v = .ref D ∧ news' = (D, tupO [.int (if sg then 21 else 20) t1, .str l.text t2, .str r.text t3] n) :: news ∧ ∀ p ∈ news, p.1 < D) := by
  obtain ⟨h1, h2, h3, h4, h5, h6⟩ := split_pure sg l r
  have hlen := len_text (.node sg l r)
  have hl := cs_length l
  have hr := cs_length r
  simp only [T.size] at hsz hlen
  have := split_ok w (T.node sg l r).text _ t l.cs.length (sgC sg) news (by omega) h1 h2 (by simp; omega) (by simp) h3 h4
  rw [h5, h6, kind_sign] at this
  exact this
set_option maxRecDepth 100000 in
set_option maxHeartbeats 8000000 in
theorem play_ok (w : World) (C : LexC) (O : LexOk C) (line : Int) (kl : Tok) (us : List Value) (n4 : Nat) (ns : List Int) (kvs : List (Str × Str)) (vs : List Value) (aT dT aH : Addr) (hsh : Int) (tkT : Tok) (n n2 : Nat) (news : List (Addr × Obj))
    (hp : Pairs news vs kvs) (hkp : ∀ p ∈ kvs, p.1 ∈ plainTexts) (hkv : ∀ c, getV kvs (letter c) = some (numS ((T.leaf c).worth ns))) (hns : ∀ c, -99 ≤ (T.leaf c).worth ns ∧ (T.leaf c).worth ns ≤ 99)
    (hap : ∀ p ∈ tabO aT dT aH hsh tkT n n2 vs ++ news, p.1 ≠ C.pb) (t : T) : ∀ (lo hi : Int) (t1 t2 t3 : Tok) (pbs : List Value) (n1 : Nat), t.size ≤ 5 → pbs.length + t.size ≤ 100 →
    Fn w (call (.ref 309) [.int lo t1, .int hi t2, .str t.text t3, .ref aT, .ref C.lx]) (t.depth + 20) (8 * t.depth + 600) (playO w C line kl pbs us n1 n4 (tabO aT dT aH hsh tkT n n2 vs) news)
    (fun r news' => ∃ tk pbs' n1', r = .int (t.play ns lo hi).1 tk ∧ StrsAre pbs' (t.play ns lo hi).2 ∧ news' = playO w C line kl (pbs ++ pbs') us n1' n4 (tabO aT dT aH hsh tkT n n2 vs) news) := by
  induction t with
  | leaf c =>
    intro lo hi t1 t2 t3 pbs n1 hsz hz
    have hxp := letter_plain c
    have hg0 := hkv c
    have hb := hns c
    have hpl : (T.leaf c).play ns lo hi = (min (max ((T.leaf c).worth ns) lo) hi, [letter c]) := rfl
    rw [hpl]
    rw [show (T.leaf c).text = letter c from rfl]
    have hlen : (letter c).length = 1 := rfl
    generalize letter c = x at hlen hxp hg0 ⊢
    generalize (T.leaf c).worth ns = v at hg0 hb ⊢
    have hle : x.length ≤ 1 := Nat.le_of_eq hlen
    obtain ⟨hit, hil⟩ := num_text hb.1 hb.2
    unfold Fn
    k_fill
    intro dp un gd cn cs a ccd cl outer A₀ base h₀ L m s p loose mean mg mb Q E B F X N Tp hk hG hd hu hret
    refine wpAny_call ?_
    k_dflt ktr_enter
    k_steps
    · ((try unfold Hold); refine' fn_use ?IH ?k1 ?k2 ?k3 ?k4 ?k5 ?kK ?kG ?kd ?ku ?_; (case IH => exact push_ok w C O line kl (.str x t3) pbs us n1 n4 (tabO aT dT aH hsh tkT n n2 vs ++ news) hap (by omega)); (case k1 => k_asm); (case k2 => k_asm); (case k3 => k_asm); (case k4 => k_asm); (case k5 => k_asm); (case kK => first | exact rfl | assumption); (case kG => assumption); (case kd => (first | with_reducible apply roomLk hd | with_reducible apply roomRk hd | (simp only [T.depth] at hd; show dp + 1 + _ < _; first | exact room1 hd (by decide) | omega))); (case ku => (first | with_reducible apply unitLk hu | with_reducible apply unitRk hu | (simp only [T.depth] at hu; show un + 3 + _ < _; first | exact room3 hu (by decide) | omega))); intro r1 news1 h1 g1 tk1 F1 N1 G1 hR1)
      obtain ⟨n1', rfl, rfl⟩ := hR1
      k_steps
      rename News _ _ _ _ => N5
      have N6 := news_sub N5 (swapM (a := lexO w.params C line kl (pbs ++ [.str x t3]) us n1' n4) (b := tabO aT dT aH hsh tkT n n2 vs) (l := news))
      ((try unfold Hold); refine' fn_use ?IH ?k1 ?k2 ?k3 ?k4 ?k5 ?kK ?kG ?kd ?ku ?_; (case IH => exact get_ok w x t3 tkT aT dT aH hsh n n2 vs kvs (lexO w.params C line kl (pbs ++ [.str x t3]) us n1' n4 ++ news) hxp (hp.mono fun p hp => List.mem_append_right _ hp) hkp); (case k1 => k_asm); (case k2 => k_asm); (case k3 => k_asm); (case k4 => k_asm); (case k5 => k_asm); (case kK => first | exact rfl | assumption); (case kG => assumption); (case kd => (first | with_reducible apply roomLk hd | with_reducible apply roomRk hd | (simp only [T.depth] at hd; show dp + 1 + _ < _; first | exact room1 hd (by decide) | omega))); (case ku => (first | with_reducible apply unitLk hu | with_reducible apply unitRk hu | (simp only [T.depth] at hu; show un + 3 + _ < _; first | exact room3 hu (by decide) | omega))); intro r2 news2 h2 g2 tk2 F2 N2 G2 hR2)
      obtain ⟨e, ⟨hg, e2⟩ | ⟨y, tk2, hg, e2⟩⟩ := hR2
      · rw [hg0] at hg; cases hg
      · rw [hg0] at hg; cases hg; subst e2; subst e
        have hil' : (numS v).length ≤ 640 := by omega
        generalize numS v = y at hit hil' ⊢
        clear N5 N6
        k_steps
        rw [show (if hi < if lo > v then lo else v then hi else if lo > v then lo else v) = min (max v lo) hi by split <;> split at * <;> omega]
        exact hret _ (playO w C line kl (pbs ++ [.str x t3]) us n1' n4 (tabO aT dT aH hsh tkT n n2 vs) news) _ _ _ (by k_asm) (news_sub (by k_asm) swapM) G2 ⟨_, [.str x t3], n1', rfl, .cons _ _ .nil, rfl⟩
    all_goals omega
  | node sg l r ihl ihr =>
    intro lo hi t1 t2 t3 pbs n1 hsz hz
    have hlen := len_text (.node sg l r)
    have hs5 := hsz
    simp only [T.size] at hsz hlen hz
    unfold Fn
    k_fill
    intro dp un gd cn cs a ccd cl outer A₀ base h₀ L m s p loose mean mg mb Q E B F X N Tp hk hG hd hu hret
    refine wpAny_call ?_
    k_dflt ktr_enter
    k_steps
    (try (exfalso; omega; done))
    · ((try unfold Hold); refine' fn_use ?IH ?k1 ?k2 ?k3 ?k4 ?k5 ?kK ?kG ?kd ?ku ?_; (case IH => exact split_node w sg l r t3 (playO w C line kl pbs us n1 n4 (tabO aT dT aH hsh tkT n n2 vs) news) hs5); (case k1 => k_asm); (case k2 => k_asm); (case k3 => k_asm); (case k4 => k_asm); (case k5 => k_asm); (case kK => first | exact rfl | assumption); (case kG => assumption); (case kd => (first | with_reducible apply roomLk hd | with_reducible apply roomRk hd | (simp only [T.depth] at hd; show dp + 1 + _ < _; first | exact room1 hd (by decide) | omega))); (case ku => (first | with_reducible apply unitLk hu | with_reducible apply unitRk hu | (simp only [T.depth] at hu; show un + 3 + _ < _; first | exact room3 hu (by decide) | omega))); intro r1 news1 h1 g1 tk1 F1 N1 G1 hR1)
      obtain ⟨D, q1, q2, q3, q4, rfl, rfl, hlD⟩ := hR1
      k_steps
      rename News _ _ _ _ => N5
      have N6 := news_sub N5 (fun p hp => .tail _ hp)
      ((try unfold Hold); refine' fn_use ?IH ?k1 ?k2 ?k3 ?k4 ?k5 ?kK ?kG ?kd ?ku ?_; (case IH => exact ihl lo hi t1 t2 _ pbs n1 (by omega) (by omega)); (case k1 => k_asm); (case k2 => k_asm); (case k3 => k_asm); (case k4 => k_asm); (case k5 => k_asm); (case kK => first | exact rfl | assumption); (case kG => assumption); (case kd => (first | with_reducible apply roomLk hd | with_reducible apply roomRk hd | (simp only [T.depth] at hd; show dp + 1 + _ < _; first | exact room1 hd (by decide) | omega))); (case ku => (first | with_reducible apply unitLk hu | with_reducible apply unitRk hu | (simp only [T.depth] at hu; show un + 3 + _ < _; first | exact room3 hu (by decide) | omega))); intro r2 news2 h2 g2 tk2 F2 N2 G2 hR2)
      obtain ⟨tkr, pbs1, n1', rfl, hs1, rfl⟩ := hR2
      k_steps
      · have hsg : sg = true := sg21 (by assumption)
        subst hsg
        have hc : hi ≤ (T.play ns l lo hi).1 := by assumption
        have e : (T.node true l r).play ns lo hi = l.play ns lo hi := by rw [T.play, if_pos hc]
        rw [e] at hret
        exact hret _ _ _ _ _ (by k_asm) (by k_asm) G2 ⟨_, _, _, rfl, hs1, rfl⟩
      · have hsg : sg = true := sg21 (by assumption)
        subst hsg
        have hc : ¬ hi ≤ (T.play ns l lo hi).1 := by assumption
        have e : (T.node true l r).play ns lo hi = ((r.play ns (l.play ns lo hi).1 hi).1, (l.play ns lo hi).2 ++ (r.play ns (l.play ns lo hi).1 hi).2) := by rw [T.play, if_neg hc]
        rw [e] at hret
        ((try unfold Hold); refine' fn_use ?IH ?k1 ?k2 ?k3 ?k4 ?k5 ?kK ?kG ?kd ?ku ?_; (case IH => exact ihr (l.play ns lo hi).1 hi tkr t2 _ (pbs ++ pbs1) n1' (by omega) (by have := play_len ns l lo hi; have := strs_len hs1; rw [List.length_append]; omega)); (case k1 => k_asm); (case k2 => k_asm); (case k3 => k_asm); (case k4 => k_asm); (case k5 => k_asm); (case kK => first | exact rfl | assumption); (case kG => assumption); (case kd => (first | with_reducible apply roomLk hd | with_reducible apply roomRk hd | (simp only [T.depth] at hd; show dp + 1 + _ < _; first | exact room1 hd (by decide) | omega))); (case ku => (first | with_reducible apply unitLk hu | with_reducible apply unitRk hu | (simp only [T.depth] at hu; show un + 3 + _ < _; first | exact room3 hu (by decide) | omega))); intro r3 news3 h3 g3 tk3 F3 N3 G3 hR3)
        obtain ⟨tkr2, pbs2, n1'', rfl, hs2, rfl⟩ := hR3
        k_steps
        exact hret _ _ _ _ _ (by k_asm) (by k_asm) G3 ⟨_, pbs1 ++ pbs2, _, rfl, strs_app hs1 hs2, by rw [List.append_assoc]⟩
      · have hsg : sg = false := sg20 (by assumption)
        subst hsg
        have hc : (T.play ns l lo hi).1 ≤ lo := by assumption
        have e : (T.node false l r).play ns lo hi = l.play ns lo hi := by rw [T.play, if_pos hc]
        rw [e] at hret
        exact hret _ _ _ _ _ (by k_asm) (by k_asm) G2 ⟨_, _, _, rfl, hs1, rfl⟩
      · have hsg : sg = false := sg20 (by assumption)
        subst hsg
        have hc : ¬ (T.play ns l lo hi).1 ≤ lo := by assumption
        have e : (T.node false l r).play ns lo hi = ((r.play ns lo (l.play ns lo hi).1).1, (l.play ns lo hi).2 ++ (r.play ns lo (l.play ns lo hi).1).2) := by rw [T.play, if_neg hc]
        rw [e] at hret
        ((try unfold Hold); refine' fn_use ?IH ?k1 ?k2 ?k3 ?k4 ?k5 ?kK ?kG ?kd ?ku ?_; (case IH => exact ihr lo (l.play ns lo hi).1 t1 tkr _ (pbs ++ pbs1) n1' (by omega) (by have := play_len ns l lo hi; have := strs_len hs1; rw [List.length_append]; omega)); (case k1 => k_asm); (case k2 => k_asm); (case k3 => k_asm); (case k4 => k_asm); (case k5 => k_asm); (case kK => first | exact rfl | assumption); (case kG => assumption); (case kd => (first | with_reducible apply roomLk hd | with_reducible apply roomRk hd | (simp only [T.depth] at hd; show dp + 1 + _ < _; first | exact room1 hd (by decide) | omega))); (case ku => (first | with_reducible apply unitLk hu | with_reducible apply unitRk hu | (simp only [T.depth] at hu; show un + 3 + _ < _; first | exact room3 hu (by decide) | omega))); intro r3 news3 h3 g3 tk3 F3 N3 G3 hR3)
        obtain ⟨tkr2, pbs2, n1'', rfl, hs2, rfl⟩ := hR3
        k_steps
        exact hret _ _ _ _ _ (by k_asm) (by k_asm) G3 ⟨_, pbs1 ++ pbs2, _, rfl, strs_app hs1 hs2, by rw [List.append_assoc]⟩
end
section
local macro_rules | `(tactic| omega) => `(tactic| lia)
open PySem PySem.W PyProof.Rows PySem.Spec PySem.Calls
section
variable {prog : Program} {w : World} {A : Around} {E : Value → Shared → Prop} {s : Shared} {env : Env}
theorem while_inv {test : Expr} {body : List Stmt} {pos : Pos} {Q : Flow → Shared → Prop} (I : Nat → Shared → Prop)
    (turn : ∀ n s E' (G : Shared → Prop), (∀ m s₃, m < n → I m s₃ → G s₃) → I n s → wpAny (model prog w) A (isTrue test env (eval test env)) (fun b s₂ => if b then wpAny (model prog w) A (execs body env) (TurnEnd Q G) E' s₂ else Q .next s₂) E' s)
    (n : Nat) (h : I n s) : wpAny (model prog w) A (exec (.While test body [] pos) env) Q E s := by
  refine wpAny_While (codeAny_whileLoop I (fun n s hI => ?_) n h)
  refine wpAny_mono (turn n s _ (fun s₃ => ∃ m, m < n ∧ I m s₃) (fun m s₃ hm hi => ⟨m, hm, hi⟩) hI) (fun b s₂ h₂ => ?_) fun _ _ e => e
  cases b with
  | true =>
    simp only [if_true] at h₂ ⊢
    refine wpAny_mono h₂ (fun f s₃ h₃ => ?_) fun _ _ e => e
    cases f <;> exact h₃
  | false =>
    simp only [Bool.false_eq_true, if_false] at h₂ ⊢
    exact wpAny_execs_nil h₂
end
local macro_rules | `(tactic| walk_at "exec While Compare cons nil") => `(tactic| (refine hold_it ?_))
local macro_rules | `(tactic| walk_at "call ref") => `(tactic| first
  | ((with_reducible show wpAny _ _ (call (Value.ref 104) _ _) _ _ _); refine hold_it ?_))
local macro_rules | `(tactic| walk_at "call builtin:list.append") => `(tactic| (k_here; (with_reducible show wpAny _ _ (call (Value.builtin _) [Value.ref _, _]) _ _ _); k_dflt (refine' app_led ?F ?N ?U ?z ?_; (case F => k_asm); (case N => k_asm); (case U => k_upd); (case z => omega)); (intro h' F' N'; (try dsimp only [List.nil_append, List.cons_append] at N'))))
theorem mem_mid {α : Type} {a : α} {l r : List α} : ∀ p ∈ l ++ a :: r, p ∈ a :: (l ++ r) := fun p hp => by
  simp only [List.mem_append, List.mem_cons] at hp ⊢
  rcases hp with h | h | h <;> simp [h]
theorem LexOk.below {C : LexC} (O : LexOk C) {D : Addr} (h : @LT.lt Nat _ C.pb D) : D ≠ C.rl ∧ D ≠ C.dl ∧ D ≠ C.pb := by
  have := O.a2; have := O.a3; have := O.a4; have := O.a5; have := O.a6; have := O.a7; have := O.a8; have := O.a9
  refine ⟨?_, ?_, ?_⟩ <;> (refine neN ?_; omega)
theorem hapD_of {C : LexC} (O : LexOk C) {D : Addr} {news : List (Addr × Obj)} (hD : @LT.lt Nat _ C.pb D) (hap : ∀ p ∈ news, p.1 ≠ C.rl ∧ p.1 ≠ C.dl ∧ p.1 ≠ C.pb) (o : Obj) : ∀ p ∈ (D, o) :: news, p.1 ≠ C.rl ∧ p.1 ≠ C.dl ∧ p.1 ≠ C.pb :=
  List.forall_mem_cons.mpr ⟨O.below hD, hap⟩
theorem strs_in {us : List Value} {ss : List Str} (h : StrsAre us ss) : ∀ {v : Value}, v ∈ us → ∃ x t, v = .str x t ∧ x ∈ ss := by
  induction h with
  | nil => intro v hv; cases hv
  | cons y t _ ih =>
    intro v hv
    rcases List.mem_cons.mp hv with rfl | hv
    · exact ⟨_, _, rfl, .head _⟩
    · obtain ⟨x, t', e, hx⟩ := ih hv
      exact ⟨x, t', e, .tail _ hx⟩
/-- one token of the line -/
theorem next_ok (w : World) (C : LexC) (O : LexOk C) (T : Int) (kl : Tok) (pbs : List Value) (n1 n4 : Nat) (news : List (Addr × Obj)) (hap : ∀ p ∈ news, p.1 ≠ C.rl ∧ p.1 ≠ C.dl ∧ p.1 ≠ C.pb) (hz : pbs.length ≤ 100) :
    Fn w (call (.ref 104) [.ref C.lx]) 7 200 (lexO w.params C T kl pbs [] n1 n4 ++ news)
    (fun r news' => ∃ kl' n1' n4', news' = lexO w.params C T kl' pbs.tail [] n1' n4' ++ news ∧ ((pbs = [] ∧ ∃ tk, r = .str (Str.ofString "") tk) ∨ (∃ vs, pbs = r :: vs))) := by
  intro dp un gd cn cs a ccd cl outer A₀ base h₀ L m s p loose mean mg mb Q E B F X N Tp hk hG hd hu hret
  cases pbs with
  | nil =>
    refine tok_ok w C O T T kl [] [] n1 n4 news (fun p hp => ⟨(hap p hp).1, (hap p hp).2.1⟩) .nil (Nat.zero_le _) (by simp [nls]) dp un gd cn cs a ccd cl outer A₀ base h₀ L m s p loose mean mg mb Q E B F X N Tp hk hG hd hu fun r news' h' g' tk' F' N' G' hr => ?_
    obtain ⟨tk, line', kl', us', n4', rfl, hus, hl, rfl⟩ := hr
    have e1 := strs_nil hus
    have e2 : line' = T := by rw [← hl]; simp [tokOf, nls]
    subst e1; subst e2
    exact hret _ _ _ _ _ F' N' G' ⟨_, _, _, rfl, .inl ⟨rfl, _, by rw [mk_nil]; rfl⟩⟩
  | cons v vs =>
    simp only [List.length_cons] at hz
    refine tok_back w C O T kl v vs [] n1 n4 news (fun p hp => (hap p hp).2.2) (by omega) dp un gd cn cs a ccd cl outer A₀ base h₀ L m s p loose mean mg mb Q E B F X N Tp hk hG (by omega) (by omega) fun r news' h' g' tk' F' N' G' hr => ?_
    obtain ⟨n1', rfl, rfl⟩ := hr
    exact hret _ _ _ _ _ F' N' G' ⟨_, _, _, rfl, .inr ⟨_, rfl⟩⟩
/-- between two turns of the line's reader -/
inductive LnI (w : World) (C : LexC) (h₀ : Heap) (L D : Addr) (T : Int) (news : List (Addr × Obj)) (all : List Value) (s₀ : Shared) (j : Nat) (s : Shared) : Prop where
  | mk (h : Heap) (g : Array GenState) (tk : Tok) (m : Str → Option Value) (done rem pbs : List Value) (kl : Tok) (nD n1 n4 : Nat) (x : Str) (tx : Tok)
    (c0 : s = ⟨h, g, s₀.drawn, tk, s₀.os⟩)
    (c1 : Fr h₀ L h m)
    (c2 : AllBare g)
    (c3 : m (Str.ofString "lexer") = some (.ref C.lx))
    (c4 : m (Str.ofString "words") = some (.ref D))
    (c5 : m (Str.ofString "word") = some (.str x tx))
    (c6 : j = rem.length)
    (c7 : all = done ++ rem)
    (c8 : News h₀ L h (lexO w.params C T kl pbs [] n1 n4 ++ ((D, PySem.W.listOf done.toArray nD) :: news)))
    (c9 : ((rem = [] ∧ x = Str.ofString "" ∧ pbs = []) ∨ (rem = .str x tx :: pbs ∧ x ≠ Str.ofString "")))
set_option maxRecDepth 100000 in
set_option maxHeartbeats 8000000 in
theorem line_ok (w : World) (C : LexC) (O : LexOk C) (T : Int) (kl : Tok) (ss : List Str) (pbs : List Value) (n1 n4 : Nat) (news : List (Addr × Obj)) (hap : ∀ p ∈ news, p.1 ≠ C.rl ∧ p.1 ≠ C.dl ∧ p.1 ≠ C.pb) (hs : StrsAre pbs ss) (hne : ∀ x ∈ ss, x ≠ Str.ofString "") (hz : pbs.length ≤ 100) :
    Fn w (call (.ref 316) [.ref C.lx]) 15 400 (lexO w.params C T kl pbs [] n1 n4 ++ news)
    (fun r news' => ∃ D nD kl' n1' n4', r = .ref D ∧ news' = lexO w.params C T kl' [] [] n1' n4' ++ ((D, PySem.W.listOf pbs.toArray nD) :: news) ∧ (∀ p ∈ lexO w.params C T kl pbs [] n1 n4 ++ news, p.1 < D)) := by
    have O' := O
    obtain ⟨a1, a2, a3, a4, a5, a6, a7, a8, a9, hcell, ⟨vs, tq, hcd, hvs⟩⟩ := O'
    unfold Fn
    k_fill
    intro dp un gd cn cs a ccd cl outer A₀ base h₀ L m s p loose mean mg mb Q E B F X N Tp hk hG hd hu hret
    k_steps
    rename ∀ p ∈ lexO w.params C T kl pbs [] n1 n4 ++ news, p.1 < _ => hlD
    rename News _ _ _ _ => N5
    have hpD := ltN (hlD _ (.head _))
    have hapD := hapD_of O hpD hap
    have hnD : ∀ p ∈ news, p.1 ≠ _ := fun p hp => Nat.ne_of_lt (hlD p (List.mem_append_right _ hp))
    have N6 := news_sub N5 (mem_mid (l := lexO w.params C T kl pbs [] n1 n4))
    ((try unfold Hold); refine' fn_use ?IH ?k1 ?k2 ?k3 ?k4 ?k5 ?kK ?kG ?kd ?ku ?_; (case IH => exact next_ok w C O T kl pbs n1 n4 _ (hapD (PySem.W.listOf ([] : List Value).toArray 0)) hz); (case k1 => k_asm); (case k2 => k_asm); (case k3 => k_asm); (case k4 => k_asm); (case k5 => k_asm); (case kK => first | exact rfl | assumption); (case kG => assumption); (case kd => (show dp + 1 + _ < _; first | exact room1 hd (by decide) | omega)); (case ku => (show un + 3 + _ < _; first | exact room3 hu (by decide) | omega)); intro r1 news1 h1 g1 tk1 F1 N1 G1 hR1)
    obtain ⟨kl1, n11, n41, rfl, hr⟩ := hR1
    have hst : ∃ x tx, r1 = .str x tx ∧ ((pbs = [] ∧ x = Str.ofString "" ∧ pbs.tail = []) ∨ (pbs = .str x tx :: pbs.tail ∧ x ≠ Str.ofString "")) := by
      rcases hr with ⟨rfl, tk, rfl⟩ | ⟨vs, rfl⟩
      · exact ⟨_, _, rfl, .inl ⟨rfl, rfl, rfl⟩⟩
      · cases hs with
        | cons y t h => exact ⟨_, _, rfl, .inr ⟨rfl, hne _ (.head _)⟩⟩
    obtain ⟨x, tx, rfl, hst⟩ := hst
    clear N5 N6 hr
    k_steps
    unfold Hold
    have init : ∀ tkz, LnI w C _ _ _ T news pbs s _ ⟨_, g1, s.drawn, tkz, s.os⟩ := fun tkz =>
      ⟨_, _, _, _, [], pbs, pbs.tail, kl1, 0, n11, n41, x, tx, rfl, (by k_asm), G1, by with_unfolding_all rfl, by with_unfolding_all rfl, by with_unfolding_all rfl, rfl, rfl, (by k_asm), hst⟩
    refine while_inv (LnI w C _ _ _ T news pbs s) ?turn _ (init _)
    case turn =>
      intro j s' E' gA hAg hI
      obtain ⟨h, g, tk, mI, done, rem, pb, kl, nD, n1', n4', y, ty, rfl, F2, G2, m1, m2, m3, rfl, hall, N2, hst⟩ := hI
      have F3 := know3 F2 m1 m2 m3
      have hzd : done.length + rem.length ≤ 100 := by rw [hall, List.length_append] at hz; exact hz
      clear F2
      k_steps
      · have hy : y ≠ Str.ofString "" := by have : (y != Str.ofString "") = true := by assumption
                                            simpa using this
        rcases hst with ⟨_, hy0, _⟩ | ⟨rfl, _⟩
        · exact absurd hy0 hy
        · simp only [List.length_cons] at hzd
          rename News _ _ _ _ => N7
          ((try unfold Hold); refine' fn_use ?IH ?k1 ?k2 ?k3 ?k4 ?k5 ?kK ?kG ?kd ?ku ?_; (case IH => exact next_ok w C O T kl pb n1' n4' _ (hapD (PySem.W.listOf (done ++ [Value.str y ty]).toArray (nD + 1))) (by omega)); (case k1 => k_asm); (case k2 => k_asm); (case k3 => k_asm); (case k4 => k_asm); (case k5 => k_asm); (case kK => first | exact rfl | assumption); (case kG => assumption); (case kd => (show dp + 1 + _ < _; first | exact room1 hd (by decide) | omega)); (case ku => (show un + 3 + _ < _; first | exact room3 hu (by decide) | omega)); intro r2 news2 h2 g2 tk2 F2 N2 G2 hR2)
          obtain ⟨kl2, n12, n42, rfl, hr⟩ := hR2
          have hst : ∃ x tx, r2 = .str x tx ∧ ((pb = [] ∧ x = Str.ofString "" ∧ pb.tail = []) ∨ (pb = .str x tx :: pb.tail ∧ x ≠ Str.ofString "")) := by
            rcases hr with ⟨rfl, tk, rfl⟩ | ⟨vs, rfl⟩
            · exact ⟨_, _, rfl, .inl ⟨rfl, rfl, rfl⟩⟩
            · obtain ⟨x, tx, rfl, hx⟩ := strs_in hs (v := r2) (by rw [hall]; simp)
              exact ⟨_, _, rfl, .inr ⟨rfl, hne _ hx⟩⟩
          obtain ⟨x2, tx2, rfl, hst⟩ := hst
          clear N7 hr
          k_steps
          exact hAg (pb.length) _ (Nat.lt_succ_self _) ⟨_, _, _, _, done ++ [Value.str y ty], pb, pb.tail, kl2, nD + 1, n12, n42, x2, tx2, rfl, (by k_asm), G2, by with_unfolding_all rfl, by with_unfolding_all rfl, by with_unfolding_all rfl, rfl, by rw [hall]; simp, (by k_asm), hst⟩
      · have hy : y = Str.ofString "" := by have : (y != Str.ofString "") = false := by assumption
                                            simpa using this
        rcases hst with ⟨rfl, _, rfl⟩ | ⟨_, hy0⟩
        · rw [List.append_nil] at hall
          subst hall
          exact hret _ _ _ _ _ (by k_asm) (by k_asm) G2 ⟨_, _, _, _, _, rfl, rfl, hlD⟩
        · exact absurd hy hy0
end
section
open PySem PySem.W PyProof.Rows PySem.Spec PySem.Calls PyProof.Rows.LCg
local macro_rules | `(tactic| walk_at "eval ListComp") => `(tactic| (k_here; k_dflt (refine ListComp_txt (F₀ := by k_asm) (by with_unfolding_all rfl) (by decide) (by rfl) (by decide) (by rfl) ?_)))
noncomputable def dressC (how : Int) (c : Nat) : List Nat := if how = 1 ∨ c = 34 ∨ c = 92 then [92, c] else [c]
noncomputable def dressL (n : Int) (ls : List Nat) : List Nat := if n.fmod 3 = 0 then 34 :: ls.flatMap (dressC (n.fmod 3)) ++ [34] else ls.flatMap (dressC (n.fmod 3))
theorem join_nil_mk (lss : List (List Nat)) : Txt.join (Str.ofString "") (lss.map mk) = mk lss.flatten := by
  rw [eq_of_beq (join_plain_closes (Str.ofString "") (lss.map mk)), mk_nil]
  induction lss with
  | nil => rfl
  | cons a r ih =>
    show Str.join ⟨#[]⟩ (mk a :: r.map mk) = _
    rw [join_nil_cons]
    have ih' : Str.join ⟨#[]⟩ (r.map mk) = mk r.flatten := ih
    rw [ih', mk_append]
    rfl
theorem qb_empty (c : Nat) : (PySem.Builtin.Str.occurrences (Str.ofString "\"\\") ⟨#[c]⟩ 0 (Str.ofString "\"\\").length 1).isEmpty = !decide (c = 34 ∨ c = 92) := by
  rw [empty_one]
  have : (Str.ofString "\"\\").cps.toList = [34, 92] := by decide +kernel
  rw [this]
  simp
theorem dress_len (h : Int) (c : Nat) : (dressC h c).length ≤ 2 := by unfold dressC; split <;> simp
theorem flat_len (h : Int) : ∀ ls : List Nat, (ls.flatMap (dressC h)).length ≤ 2 * ls.length
  | [] => by simp
  | c :: r => by have := flat_len h r; have := dress_len h c; simp only [List.flatMap_cons, List.length_append, List.length_cons]; omega
theorem dr_step {ys : List Value} {f : Nat → Str} {ls : List Nat} {i c : Nat} {y : Str} {t : Tok} (h : StrsAre ys ((ls.take i).map f)) (hc : ls[i]? = some c) (hy : f c = y) : StrsAre (ys ++ [.str y t]) ((ls.take (i + 1)).map f) := by
  have hi : i < ls.length := by
    rcases Nat.lt_or_ge i ls.length with q | q
    · exact q
    · rw [List.getElem?_eq_none q] at hc; cases hc
  have e : ls.take (i + 1) = ls.take i ++ [c] := by
    rw [List.take_add_one, hc]; rfl
  rw [e, List.map_append]
  subst hy
  exact strs_snoc h _ _
noncomputable def DrJ (news₀ : List (Addr × Obj)) (how : Int) (ls : List Nat) (i : Nat) (ys : List Value) (news : List (Addr × Obj)) : Prop := news = news₀ ∧ StrsAre ys ((ls.take i).map fun c => mk (dressC how c))
set_option maxRecDepth 100000 in
set_option maxHeartbeats 8000000 in
theorem dress_ok (w : World) (ls : List Nat) (n : Int) (t u : Tok) (news : List (Addr × Obj)) (hx : ls.length ≤ 100) : Fn w (call (.ref 281) [.str (mk ls) t, .int n u]) 5 100 news (fun r news' => ∃ tk, r = .str (mk (dressL n ls)) tk ∧ news = news') := by
    unfold Fn
    k_fill
    intro dp un gd cn cs a ccd cl outer A₀ base h₀ L m s p loose mean mg mb Q E B F X N Tp hk hG hd hu hret
    refine wpAny_call ?_
    k_dflt k_enter
    rename ∀ p ∈ news, p.1 < _ => l0
    have hne : ∀ p ∈ news, p.1 ≠ _ + 1 := fun p hp => Nat.ne_of_lt (Nat.lt_succ_of_lt (l0 p hp))
    k_steps
    rename News _ _ _ _ => N5
    rename Fr _ _ _ _ => F5
    refine ⟨mk ls, _, _, rfl, rfl, F5, N5, ?_, ?_⟩
    · rw [PySem.sizeLine_eq]; show (List.toArray ls).size ≤ _; simp; omega
    · rintro s₂ ⟨h2, rfl⟩
      refine comp_inv (DrJ _ (n.fmod 3) ls) ?_ _ 0 [] _ ?_ ⟨rfl, .nil⟩
      · intro i ys nw v I oI C oC D m₂ h tk E' hJ hP hoC hv F N o3 ne
        obtain ⟨rfl, hys⟩ := hJ
        obtain ⟨c, u', hc, rfl⟩ := hP
        have hci : ls[i]? = some c := by simpa [mk] using hc
        k_steps
        · have hn : n.fmod 3 = 1 := by assumption
          exact CompEnd.intro (by assumption) N _ (fun p hp => hp) o3 trivial ⟨rfl, dr_step hys hci (by rw [dressC, if_pos (.inl hn), bs_eq, show (⟨#[c]⟩ : Str) = mk [c] from rfl, mk_append]; rfl)⟩
        · have hn : n.fmod 3 ≠ 1 := by assumption
          have a1 := qb_empty c
          rw [(by assumption : (PySem.Builtin.Str.occurrences (Str.ofString "\"\\") ⟨#[c]⟩ 0 (Str.ofString "\"\\").length 1).isEmpty = true)] at a1
          have hq : ¬ (c = 34 ∨ c = 92) := by simpa using a1.symm
          exact CompEnd.intro (by assumption) N _ (fun p hp => hp) o3 trivial ⟨rfl, dr_step hys hci (by rw [dressC, if_neg (fun h => h.elim hn hq)]; rfl)⟩
        · have a1 := qb_empty c
          rw [(by assumption : (PySem.Builtin.Str.occurrences (Str.ofString "\"\\") ⟨#[c]⟩ 0 (Str.ofString "\"\\").length 1).isEmpty = false)] at a1
          have hq : c = 34 ∨ c = 92 := of_decide_eq_true (by cases hq : decide (c = 34 ∨ c = 92) with | true => rfl | false => rw [hq] at a1; cases a1)
          exact CompEnd.intro (by assumption) N _ (fun p hp => hp) o3 trivial ⟨rfl, dr_step hys hci (by rw [dressC, if_pos (.inr hq), bs_eq, show (⟨#[c]⟩ : Str) = mk [c] from rfl, mk_append]; rfl)⟩
      · intro ys nw hJ
        obtain ⟨rfl, hys⟩ := hJ
        intro D h tk F N o1
        have hsz : (mk ls).cps.size = ls.length := by simp [mk]
        rw [hsz, Nat.zero_add, List.take_length] at hys
        k_steps
        refine join_end N rfl hys (by simp; omega) (fun y hy => ?_) fun t' k => ?_
        · obtain ⟨c, _, rfl⟩ := List.mem_map.mp hy
          rw [mk_length]; have := dress_len (n.fmod 3) c; omega
        have ej : Txt.join (Str.ofString "") (ls.map fun c => mk (dressC (n.fmod 3) c)) = mk (ls.flatMap (dressC (n.fmod 3))) := by
          have e : (ls.map fun c => mk (dressC (n.fmod 3) c)) = (ls.map (dressC (n.fmod 3))).map mk := by rw [List.map_map]; rfl
          rw [e, join_nil_mk, List.flatMap_def]
        rw [ej]
        have hlw : (mk (ls.flatMap (dressC (n.fmod 3)))).length ≤ 200 := by rw [mk_length]; exact Nat.le_trans (flat_len _ _) (by omega)
        k_steps
        · have h0 : n.fmod 3 = 0 := by assumption
          exact hret _ _ _ _ _ (by k_asm) (news_sub (by k_asm) (fun p hp => .tail _ (.tail _ hp))) hG ⟨_, by rw [dressL, if_pos h0, dq_eq, mk_append, mk_append]; rfl, rfl⟩
        · have h0 : n.fmod 3 ≠ 0 := by assumption
          exact hret _ _ _ _ _ (by k_asm) (news_sub (by k_asm) (fun p hp => .tail _ (.tail _ hp))) hG ⟨_, by rw [dressL, if_neg h0], rfl⟩
end
section
local macro_rules | `(tactic| omega) => `(tactic| lia)
open PySem PySem.W PyProof.Rows PySem.Spec PySem.Calls
inductive Item where
  | name (k y : Str)
  | word (w a b c : Str) (l h : Int)
/-- what the rest of the text holds -/
inductive Reads : List Nat → List Item → Prop
  | nil {r : List Nat} : tokOf r = ([], []) → Reads r []
  | name {r : List Nat} {k y : Str} {its : List Item} : mk (tokOf r).1 = k → mk (tokOf (tokOf r).2).1 = y → k ∈ plainTexts → y ∈ plainTexts → Txt.splitMax k (Str.ofString "'") 2 = [k] → Reads (tokOf (tokOf r).2).2 its → Reads r (.name k y :: its)
  | word {r : List Nat} {w a b c : Str} {l h : Int} {its : List Item} : mk (tokOf r).1 = w → w.length ≤ 100 → Txt.splitMax w (Str.ofString "'") 2 = [a, b, c] → PySem.intText? a = some l → a.length ≤ 100 → PySem.intText? b = some h → b.length ≤ 100 → c.length ≤ 100 → w ≠ Str.ofString "" →
      Reads (tokOf r).2 its → Reads r (.word w a b c l h :: its)
noncomputable def stepT (kvs : List (Str × Str)) (k y : Str) : List (Str × Str) := if getV kvs k = none then kvs ++ [(k, y)] else kvs
noncomputable def readT : List Item → List (Str × Str) → List (Str × Str)
  | [], kvs => kvs
  | .name k y :: its, kvs => readT its (stepT kvs k y)
  | .word .. :: its, kvs => readT its kvs
noncomputable def readA : List Item → List (Int × Int × Str) → List (Int × Int × Str)
  | [], qs => qs
  | .name .. :: its, qs => readA its qs
  | .word w _ _ c l h :: its, qs => readA its (if check w then qs ++ [(l, h, strip c)] else qs)
/-- the references of a list are questions -/
inductive Asked (news : List (Addr × Obj)) : List Value → List (Int × Int × Str) → Prop
  | nil : Asked news [] []
  | snoc {vs : List Value} {qs : List (Int × Int × Str)} {a : Addr} {l h : Int} {c : Str} {t1 t2 t3 : Tok} {n : Nat} : Asked news vs qs → (a, tupO [.int l t1, .int h t2, .str c t3] n) ∈ news → Asked news (vs ++ [.ref a]) (qs ++ [(l, h, c)])
theorem Asked.mono {news news' : List (Addr × Obj)} {vs : List Value} {qs : List (Int × Int × Str)} (h : Asked news vs qs) (hs : ∀ p ∈ news, p ∈ news') : Asked news' vs qs := by
  induction h with
  | nil => exact .nil
  | snoc _ hm ih => exact .snoc ih (hs _ hm)
theorem Asked.length {news : List (Addr × Obj)} {vs : List Value} {qs : List (Int × Int × Str)} (h : Asked news vs qs) : vs.length = qs.length := by
  induction h with
  | nil => rfl
  | snoc _ _ ih => simp [ih]
theorem Pairs.snoc {news : List (Addr × Obj)} {vs : List Value} {kvs : List (Str × Str)} {a : Addr} {k y : Str} {t1 t2 : Tok} {n : Nat} (h : Pairs news vs kvs) (hm : (a, tupO [.str k t1, .str y t2] n) ∈ news) : Pairs news (vs ++ [.ref a]) (kvs ++ [(k, y)]) := by
  induction h with
  | nil => exact .cons hm .nil
  | cons hm' _ ih => exact .cons hm' ih
theorem quo_len : ∀ (r : List Nat) (b : Bool) (acc : List Nat), (quoted b r acc).2.length ≤ r.length
  | [], b, acc => by cases b <;> simp [quoted]
  | c :: r, true, acc => by have := quo_len r false (acc ++ [c]); simp [quoted]; omega
  | c :: r, false, acc => by
    have h1 := quo_len r true acc
    have h2 := quo_len r false (acc ++ [c])
    simp only [quoted]; split
    · simp
    · split <;> simp <;> omega
theorem pla_len : ∀ (r : List Nat) (b : Bool) (acc : List Nat), (plainW b r acc).2.length ≤ r.length
  | [], b, acc => by cases b <;> simp [plainW]
  | c :: r, true, acc => by have := pla_len r false (acc ++ [c]); simp [plainW]; omega
  | c :: r, false, acc => by
    have h1 := pla_len r true acc
    have h2 := pla_len r false (acc ++ [c])
    simp only [plainW]; split
    · simp
    · split <;> simp <;> omega
theorem tok_len : ∀ r : List Nat, (tokOf r).2.length ≤ r.length
  | [] => by simp [tokOf]
  | c :: r => by
    have h1 := tok_len r
    have h2 := quo_len r false []
    have h3 := pla_len r true []
    have h4 := pla_len r false [c]
    simp only [tokOf]; split
    · simp; omega
    · split
      · simp; omega
      · split <;> simp <;> omega
theorem plain_ne : ∀ x ∈ plainTexts, (x != Str.ofString "") = true := by
  have : plainTexts.all (fun x => x != Str.ofString "") = true := by decide +kernel
  exact fun x hx => List.all_eq_true.mp this x hx
section
variable {α : Type} {a d : α} {l t n : List α}
theorem pm2 : ∀ p ∈ a :: (l ++ n), p ∈ l ++ a :: n := fun p hp => by
  simp only [List.mem_append, List.mem_cons] at hp ⊢
  rcases hp with h | h | h <;> simp [h]
theorem pm3 : ∀ p ∈ t ++ (l ++ a :: n), p ∈ l ++ a :: (t ++ n) := fun p hp => by
  simp only [List.mem_append, List.mem_cons] at hp ⊢
  rcases hp with h | h | h | h <;> simp [h]
theorem pm4 : ∀ p ∈ l ++ a :: (t ++ n), p ∈ t ++ (l ++ a :: n) := fun p hp => by
  simp only [List.mem_append, List.mem_cons] at hp ⊢
  rcases hp with h | h | h | h <;> simp [h]
theorem pm5 : ∀ p ∈ l ++ a :: (t ++ d :: n), p ∈ t ++ d :: (l ++ a :: n) := fun p hp => by
  simp only [List.mem_append, List.mem_cons] at hp ⊢
  rcases hp with h | h | h | h | h <;> simp [h]
theorem pm6 : ∀ p ∈ l ++ a :: (t ++ d :: n), p ∈ d :: a :: (l ++ (t ++ n)) := fun p hp => by
  simp only [List.mem_append, List.mem_cons] at hp ⊢
  rcases hp with h | h | h | h | h <;> simp [h]
end
noncomputable abbrev ledF {h₀ h : Heap} {L : Addr} {news : List (Addr × Obj)} (_ : News h₀ L h news) : List (Addr × Obj) := news
/-- apart from what changes -/
noncomputable def Apart (C : LexC) (aH Da : Addr) (news : List (Addr × Obj)) : Prop := ∀ p ∈ news, p.1 ≠ C.rl ∧ p.1 ≠ C.dl ∧ p.1 ≠ C.pb ∧ p.1 ≠ aH ∧ p.1 ≠ Da
noncomputable abbrev readO (w : World) (C : LexC) (line : Int) (kl : Tok) (us : List Value) (n1 n4 : Nat) (Da : Addr) (avs : List Value) (nA : Nat) (tab nw : List (Addr × Obj)) : List (Addr × Obj) := lexO w.params C line kl [] us n1 n4 ++ (Da, PySem.W.listOf avs.toArray nA) :: (tab ++ nw)
theorem apX {C : LexC} (O : LexOk C) {Da aT dT aH : Addr} {nw : List (Addr × Obj)} (hD : @LT.lt Nat _ C.pb Da) (h1 : @LT.lt Nat _ C.pb aT) (h2 : @LT.lt Nat _ C.pb dT) (h3 : @LT.lt Nat _ C.pb aH) (hap : ∀ p ∈ nw, p.1 ≠ C.rl ∧ p.1 ≠ C.dl ∧ p.1 ≠ C.pb ∧ p.1 ≠ aH)
    (o : Obj) (hsh : Int) (tk : Tok) (n n2 : Nat) (vs : List Value) : ∀ p ∈ (Da, o) :: (tabO aT dT aH hsh tk n n2 vs ++ nw), p.1 ≠ C.rl ∧ p.1 ≠ C.dl :=
  List.forall_mem_cons.mpr ⟨⟨(O.below hD).1, (O.below hD).2.1⟩, List.forall_mem_cons.mpr ⟨⟨(O.below h1).1, (O.below h1).2.1⟩, List.forall_mem_cons.mpr ⟨⟨(O.below h2).1, (O.below h2).2.1⟩, List.forall_mem_cons.mpr ⟨⟨(O.below h3).1, (O.below h3).2.1⟩, fun p hp => ⟨(hap p hp).1, (hap p hp).2.1⟩⟩⟩⟩⟩
theorem lex_ne {P : Params} {C : LexC} (O : LexOk C) {D : Addr} (hD : @LT.lt Nat _ C.pb D) {line : Int} {kl : Tok} {pbs us : List Value} {n1 n4 : Nat} : ∀ p ∈ lexO P C line kl pbs us n1 n4, p.1 ≠ D := by
  have := O.a1; have := O.a2; have := O.a3; have := O.a4; have := O.a5; have := O.a6; have := O.a7; have := O.a8; have := O.a9
  repeat' (refine List.forall_mem_cons.mpr ⟨?_, ?_⟩; · (refine neN ?_; dsimp only; omega))
  exact fun _ h => nomatch h
theorem apH {P : Params} {C : LexC} (O : LexOk C) {aH Da : Addr} (h3 : @LT.lt Nat _ C.pb aH) (hd : Da ≠ aH) {nw : List (Addr × Obj)} (hn : ∀ p ∈ nw, p.1 ≠ aH) {line : Int} {kl : Tok} {pbs us : List Value} {n1 n4 : Nat} {o : Obj} :
    ∀ p ∈ lexO P C line kl pbs us n1 n4 ++ (Da, o) :: nw, p.1 ≠ aH := fun p hp => (List.mem_append.mp hp).elim (lex_ne O h3 p) fun h => (List.mem_cons.mp h).elim (fun e => by rw [e]; exact hd) (hn p)
theorem ap_snoc {P : Params} {C : LexC} (O : LexOk C) {aT dT aH Da D : Addr} {hsh : Int} {tk kl : Tok} {n n2 n1 n4 : Nat} {vs pbs us : List Value} {line : Int} {o o' : Obj} {nw : List (Addr × Obj)}
    (hlt : ∀ p ∈ tabO aT dT aH hsh tk n n2 vs ++ (lexO P C line kl pbs us n1 n4 ++ (Da, o) :: nw), p.1 < D) (hap : Apart C aH Da nw) : Apart C aH Da ((D, o') :: nw) := by
  have h1 := ltN (hlt (C.pb, _) (List.mem_append_right _ (List.mem_append_left _ (.head _))))
  have h2 := ltN (hlt (aH, _) (List.mem_append_left _ (.tail _ (.tail _ (.head _)))))
  have h3 := ltN (hlt (Da, o) (List.mem_append_right _ (List.mem_append_right _ (.head _))))
  exact List.forall_mem_cons.mpr ⟨⟨(O.below h1).1, (O.below h1).2.1, (O.below h1).2.2, Nat.ne_of_gt h2, Nat.ne_of_gt h3⟩, hap⟩
theorem apD {P : Params} {C : LexC} (O : LexOk C) {Da aT dT aH : Addr} (hD : @LT.lt Nat _ C.pb Da) (h1 : aT ≠ Da) (h2 : dT ≠ Da) (h3 : aH ≠ Da) {nw : List (Addr × Obj)} (hn : ∀ p ∈ nw, p.1 ≠ Da) {line : Int} {kl tk : Tok} {pbs us vs : List Value} {n1 n4 n n2 : Nat} {hsh : Int} :
    ∀ p ∈ lexO P C line kl pbs us n1 n4 ++ (tabO aT dT aH hsh tk n n2 vs ++ nw), p.1 ≠ Da := fun p hp => (List.mem_append.mp hp).elim (lex_ne O hD p) fun h => (List.mem_append.mp h).elim (fun h => by
      rcases List.mem_cons.mp h with rfl | h
      · exact h1
      · rcases List.mem_cons.mp h with rfl | h
        · exact h2
        · rw [List.mem_singleton.mp h]; exact h3) (hn p)
theorem ap_snoc2 {P : Params} {C : LexC} (O : LexOk C) {aT dT aH Da D : Addr} {hsh : Int} {tk kl : Tok} {n n2 n1 n4 : Nat} {vs pbs us : List Value} {line : Int} {o : Obj} {nw : List (Addr × Obj)}
    (hlt : ∀ p ∈ lexO P C line kl pbs us n1 n4 ++ (tabO aT dT aH hsh tk n n2 vs ++ nw), p.1 < D) (hd : Da < D) (hap : Apart C aH Da nw) : Apart C aH Da ((D, o) :: nw) := by
  have h1 := ltN (hlt (C.pb, _) (List.mem_append_left _ (.head _)))
  have h2 := ltN (hlt (aH, _) (List.mem_append_right _ (List.mem_append_left _ (.tail _ (.tail _ (.head _))))))
  exact List.forall_mem_cons.mpr ⟨⟨(O.below h1).1, (O.below h1).2.1, (O.below h1).2.2, Nat.ne_of_gt h2, Nat.ne_of_gt hd⟩, hap⟩
theorem tok_led {w : World} {C : LexC} {line : Int} {kl : Tok} {us : List Value} {n1 n4 : Nat} {X : List (Addr × Obj)} {h₀ h : Heap} {L : Addr} (_ : News h₀ L h (lexO w.params C line kl [] us n1 n4 ++ X)) (O : LexOk C) (T : Int) (rest : List Nat) (hap : ∀ p ∈ X, p.1 ≠ C.rl ∧ p.1 ≠ C.dl) (hus : StrsAre us (chs rest)) (hz : rest.length ≤ 1000) (hT : line + nls rest = T) :
    Fn w (call (.ref 104) [.ref C.lx]) 7 200 (lexO w.params C line kl [] us n1 n4 ++ X)
    (fun r news' => ∃ tk line' kl' us' n4', r = .str (mk (tokOf rest).1) tk ∧ StrsAre us' (chs (tokOf rest).2) ∧ line' + nls (tokOf rest).2 = T ∧ news' = lexO w.params C line' kl' [] us' n1 n4' ++ X) := tok_ok w C O T line kl us rest n1 n4 X hap hus hz hT
theorem setd_led {w : World} {aT dT aH : Addr} {hsh : Int} {tk1 : Tok} {n n2 : Nat} {vs : List Value} {X : List (Addr × Obj)} {h₀ h : Heap} {L : Addr} (_ : News h₀ L h (tabO aT dT aH hsh tk1 n n2 vs ++ X)) (x y : Str) (t t' : Tok) (kvs : List (Str × Str)) (hx : x ∈ plainTexts) (hy : y ∈ plainTexts) (hp : Pairs X vs kvs)
    (hkp : ∀ p ∈ kvs, p.1 ∈ plainTexts) (hn : vs.length ≤ 100) (hap : ∀ p ∈ X, p.1 ≠ aH) (haT : aT ≠ aH) (hdT : dT ≠ aH) :
    Fn w (call (.ref 241) [.ref aT, .str x t, .str y t']) 7 200 (tabO aT dT aH hsh tk1 n n2 vs ++ X)
    (fun r news' => (getV kvs x ≠ none ∧ news' = tabO aT dT aH hsh tk1 n n2 vs ++ X) ∨
      (getV kvs x = none ∧ ∃ D t1 t2 n3 n4, news' = tabO aT dT aH hsh tk1 n n4 (vs ++ [.ref D]) ++ ((D, tupO [.str x t1, .str y t2] n3) :: X) ∧ ∀ p ∈ tabO aT dT aH hsh tk1 n n2 vs ++ X, p.1 < D)) :=
  setd_ok w x y t t' tk1 aT dT aH hsh n n2 vs kvs X hx hy hp hkp hn hap haT hdT
/-- between two turns of the reader -/
inductive RdI (w : World) (C : LexC) (h₀ : Heap) (L : Addr) (T : Int) (aT dT aH : Addr) (hsh : Int) (tkT : Tok) (n : Nat) (news : List (Addr × Obj)) (Da : Addr) (kvsE : List (Str × Str)) (qsE : List (Int × Int × Str)) (s₀ : Shared) (j : Nat) (s : Shared) : Prop where
  | mk (h : Heap) (g : Array GenState) (tk : Tok) (m : Str → Option Value) (its : List Item) (r : List Nat) (x : Str) (tx : Tok) (us : List Value) (line : Int) (kl : Tok) (n1 n4 : Nat) (vs : List Value) (kvs : List (Str × Str)) (n2 : Nat) (avs : List Value) (qs : List (Int × Int × Str)) (nA : Nat) (nw : List (Addr × Obj))
    (c0 : s = ⟨h, g, s₀.drawn, tk, s₀.os⟩)
    (c1 : Fr h₀ L h m)
    (c2 : AllBare g)
    (c3 : m (Str.ofString "lexer") = some (.ref C.lx))
    (c4 : m (Str.ofString "table") = some (.ref aT))
    (c5 : m (Str.ofString "asked") = some (.ref Da))
    (c6 : m (Str.ofString "word") = some (.str x tx))
    (c7 : x = mk (tokOf r).1)
    (c8 : j = its.length)
    (c9 : Reads r its)
    (c10 : r.length ≤ 1000)
    (c11 : StrsAre us (chs (tokOf r).2))
    (c12 : line + nls (tokOf r).2 = T)
    (c13 : News h₀ L h (readO w C line kl us n1 n4 Da avs nA (tabO aT dT aH hsh tkT n n2 vs) nw))
    (c14 : Pairs nw vs kvs)
    (c15 : Asked nw avs qs)
    (c16 : (∀ p ∈ kvs, p.1 ∈ plainTexts))
    (c17 : vs.length + its.length ≤ 50)
    (c18 : avs.length + its.length ≤ 50)
    (c19 : Apart C aH Da nw)
    (c20 : (∀ p ∈ news, p ∈ nw))
    (c21 : readT its kvs = kvsE)
    (c22 : readA its qs = qsE)
local macro_rules | `(tactic| walk_at "exec While Compare cons nil") => `(tactic| (refine hold_it ?_))
local macro_rules | `(tactic| walk_at "call ref") => `(tactic| first
  | ((with_reducible show wpAny _ _ (call (Value.ref 104) _ _) _ _ _); refine hold_it ?_)
  | ((with_reducible show wpAny _ _ (call (Value.ref 76) _ _) _ _ _); refine hold_it ?_)
  | ((with_reducible show wpAny _ _ (call (Value.ref 241) _ _) _ _ _); refine hold_it ?_)
  | ((with_reducible show wpAny _ _ (call (Value.ref 69) _ _) _ _ _); refine hold_it ?_)
  | ((with_reducible show wpAny _ _ (call (Value.ref 62) _ _) _ _ _); refine hold_it ?_))
local macro_rules | `(tactic| walk_at "call builtin:list.append") => `(tactic| (k_here; (with_reducible show wpAny _ _ (call (Value.builtin _) [Value.ref _, _]) _ _ _); k_dflt (refine' app_led ?F ?N ?U ?z ?_; (case F => k_asm); (case N => k_asm); (case U => k_upd); (case z => omega)); (intro h' F' N'; (try dsimp only [List.nil_append, List.cons_append] at N'))))
set_option maxRecDepth 100000 in
set_option maxHeartbeats 8000000 in
theorem read_ok (w : World) (C : LexC) (O : LexOk C) (T line : Int) (kl : Tok) (us : List Value) (rest : List Nat) (its : List Item) (n1 n4 : Nat) (aT dT aH : Addr) (hsh : Int) (tkT : Tok) (n n2 : Nat) (news : List (Addr × Obj))
    (hus : StrsAre us (chs rest)) (hz : rest.length ≤ 1000) (hT : line + nls rest = T) (hR : Reads rest its) (hits : its.length ≤ 40) (hO1 : @LT.lt Nat _ C.pb aT) (hO2 : @LT.lt Nat _ C.pb dT) (hO3 : @LT.lt Nat _ C.pb aH) (hO4 : @Ne Nat aT aH) (hO5 : @Ne Nat dT aH)
    (hap : ∀ p ∈ news, p.1 ≠ C.rl ∧ p.1 ≠ C.dl ∧ p.1 ≠ C.pb ∧ p.1 ≠ aH) :
    Fn w (call (.ref 295) [.ref C.lx, .ref aT]) 20 900 (lexO w.params C line kl [] us n1 n4 ++ (tabO aT dT aH hsh tkT n n2 [] ++ news))
    (fun r news' => ∃ Da nA avs vs n2' nw kl' n1' n4', r = .ref Da ∧ news' = readO w C T kl' [] n1' n4' Da avs nA (tabO aT dT aH hsh tkT n n2' vs) nw ∧ Pairs nw vs (readT its []) ∧ Asked nw avs (readA its []) ∧ Apart C aH Da nw ∧ (∀ p ∈ news, p ∈ nw) ∧ @LT.lt Nat _ C.pb Da ∧ Da ≠ aH) := by
    unfold Fn
    k_fill
    intro dp un gd cn cs a ccd cl outer A₀ base h₀ L m s p loose mean mg mb Q E B F X N Tp hk hG hd hu hret
    k_steps
    rename ∀ p ∈ lexO w.params C line kl [] us n1 n4 ++ _, p.1 < _ => hlD
    rename News _ _ _ _ => N5
    have hpD := ltN (hlD _ (.head _))
    have haD := ltN (hlD (aT, instObj 251 dT) (List.mem_append_right _ (List.mem_append_left _ (.head _))))
    have hdD := ltN (hlD (dT, _) (List.mem_append_right _ (List.mem_append_left _ (.tail _ (.head _)))))
    have hhD := ltN (hlD (aH, _) (List.mem_append_right _ (List.mem_append_left _ (.tail _ (.tail _ (.head _))))))
    have hnD : ∀ p ∈ news, p.1 < _ := fun p hp => hlD p (List.mem_append_right _ (List.mem_append_right _ hp))
    have N6 := news_sub N5 (mem_mid (l := lexO w.params C line kl [] us n1 n4))
    have hapX := fun (nw : List (Addr × Obj)) (hap : ∀ p ∈ nw, p.1 ≠ C.rl ∧ p.1 ≠ C.dl ∧ p.1 ≠ C.pb ∧ p.1 ≠ aH) => apX O hpD hO1 hO2 hO3 hap
    ((try unfold Hold); refine' fn_use ?IH ?k1 ?k2 ?k3 ?k4 ?k5 ?kK ?kG ?kd ?ku ?_; (case IH => exact tok_ok w C O T line kl us rest n1 n4 _ (hapX news hap (PySem.W.listOf ([] : List Value).toArray 0) hsh tkT n n2 []) hus hz hT); (case k1 => k_asm); (case k2 => k_asm); (case k3 => k_asm); (case k4 => k_asm); (case k5 => k_asm); (case kK => first | exact rfl | assumption); (case kG => assumption); (case kd => (show dp + 1 + _ < _; first | exact room1 hd (by decide) | omega)); (case ku => (show un + 3 + _ < _; first | exact room3 hu (by decide) | omega)); intro r1 news1 h1 g1 tk1 F1 N1 G1 hR1)
    obtain ⟨tk0, line0, kl0, us0, n40, rfl, hus0, hT0, rfl⟩ := hR1
    clear N5 N6
    k_steps
    unfold Hold
    have init : ∀ tkz, RdI w C _ _ T aT dT aH hsh tkT n news _ (readT its []) (readA its []) s _ ⟨_, g1, s.drawn, tkz, s.os⟩ := fun tkz =>
      ⟨_, _, _, _, its, rest, _, _, us0, line0, kl0, n1, n40, [], [], n2, [], [], 0, news, rfl, (by k_asm), G1, by with_unfolding_all rfl, by with_unfolding_all rfl, by with_unfolding_all rfl, by with_unfolding_all rfl, rfl, rfl, hR, hz, hus0, hT0, (by k_asm), .nil, .nil, fun _ h => (nomatch h),
        by simp; omega, by simp; omega, fun p hp => ⟨(hap p hp).1, (hap p hp).2.1, (hap p hp).2.2.1, (hap p hp).2.2.2, Nat.ne_of_lt (hnD p hp)⟩, fun _ h => h, rfl, rfl⟩
    refine while_inv (RdI w C _ _ T aT dT aH hsh tkT n news _ (readT its []) (readA its []) s) ?turn _ (init _)
    case turn =>
      intro j s' E' gA hAg hI
      obtain ⟨h, g, tk, mI, its', r, x, tx, us', line', kl', n1', n4', vs, kvs, n2', avs, qs, nA, nw, rfl, F2, G2, m1, m2, m3, m4, rfl, rfl, hR', hz', hus', hT', N2, hp, ha, hkp, hlv, hla, hapn, hsub, hkE, hqE⟩ := hI
      have F3 := know4 F2 m1 m2 m3 m4
      clear F2
      cases hR' with
      | nil he =>
        have hx0 : mk (tokOf r).1 = Str.ofString "" := by rw [he, mk_nil]
        rw [hx0] at F3
        rw [he] at hus' hT'
        have hu0 := strs_nil hus'
        have hl0 : line' = T := by rw [← hT']; simp [nls]
        subst hu0; subst hl0
        k_steps
        simp only [readT, readA] at hkE hqE
        subst hkE; subst hqE
        exact hret _ _ _ _ _ (by k_asm) (by k_asm) G2 ⟨_, _, _, _, _, _, _, _, _, rfl, rfl, hp, ha, hapn, hsub, hpD, Ne.symm (Nat.ne_of_lt hhD)⟩
      | @name _ k y its2 hk hy hkpl hypl hspl hR2 =>
        have hkl := plain_len k hkpl
        have hk100 : k.length ≤ 100 := by omega
        have hkne := plain_ne k hkpl
        rw [hk] at F3
        have hsx : StrsAre us' (chs (tokOf r).2) := hus'
        simp only [List.length_cons] at hlv hla
        k_steps
        ((try unfold Hold); refine' fn_use ?IH ?k1 ?k2 ?k3 ?k4 ?k5 ?kK ?kG ?kd ?ku ?_; (case IH => exact decode1_ok w k tx (ledF N2) hk100 hspl); (case k1 => k_asm); (case k2 => k_asm); (case k3 => k_asm); (case k4 => k_asm); (case k5 => k_asm); (case kK => first | exact rfl | assumption); (case kG => assumption); (case kd => (show dp + 1 + _ < _; first | exact room1 hd (by decide) | omega)); (case ku => (show un + 3 + _ < _; first | exact room3 hu (by decide) | omega)); intro r5 news5 h5 g5 tk5 F5 N5 G5 hR5)
        obtain ⟨D1, rfl, rfl⟩ := hR5
        k_steps
        rename News _ _ _ _ => N7
        have N8 := news_sub N7 (fun p hp => .tail _ hp)
        ((try unfold Hold); refine' fn_use ?IH ?k1 ?k2 ?k3 ?k4 ?k5 ?kK ?kG ?kd ?ku ?_; (case IH => exact tok_ok w C O T line' kl' us' (tokOf r).2 n1' n4' _ (hapX nw (fun p hp => ⟨(hapn p hp).1, (hapn p hp).2.1, (hapn p hp).2.2.1, (hapn p hp).2.2.2.1⟩) (PySem.W.listOf avs.toArray nA) hsh tkT n n2' vs) hus' (Nat.le_trans (tok_len r) hz') hT'); (case k1 => k_asm); (case k2 => k_asm); (case k3 => k_asm); (case k4 => k_asm); (case k5 => k_asm); (case kK => first | exact rfl | assumption); (case kG => assumption); (case kd => (show dp + 1 + _ < _; first | exact room1 hd (by decide) | omega)); (case ku => (show un + 3 + _ < _; first | exact room3 hu (by decide) | omega)); intro r3 news3 h3 g3 tk3 F3 N3 G3 hR3)
        obtain ⟨tk0, line0, kl0, us0, n40, rfl, hus0, hT0, rfl⟩ := hR3
        rw [hy]
        clear N7 N8
        k_steps
        have N8 := news_sub N3 (pm3 (l := lexO w.params C line0 kl0 [] us0 n1' n40) (t := tabO aT dT aH hsh tkT n n2' vs))
        ((try unfold Hold); refine' fn_use ?IH ?k1 ?k2 ?k3 ?k4 ?k5 ?kK ?kG ?kd ?ku ?_; (case IH => exact setd_led N8 k y tx tk0 kvs hkpl hypl (hp.mono fun p hp => List.mem_append_right _ (.tail _ hp)) hkp (by omega) (apH O hO3 (Ne.symm (Nat.ne_of_lt hhD)) fun p hp => (hapn p hp).2.2.2.1) hO4 hO5); (case k1 => k_asm); (case k2 => k_asm); (case k3 => k_asm); (case k4 => k_asm); (case k5 => k_asm); (case kK => first | exact rfl | assumption); (case kG => assumption); (case kd => (show dp + 1 + _ < _; first | exact room1 hd (by decide) | omega)); (case ku => (show un + 3 + _ < _; first | exact room3 hu (by decide) | omega)); intro r4 news4 h4 g4 tk4 F4 N4 G4 hR4)
        obtain ⟨hg, rfl⟩ | ⟨hg, D2, q1, q2, q3, q4, rfl, hlt2⟩ := hR4
        · have hst : readT its2 kvs = readT its [] := by rw [← hkE]; show _ = readT its2 (stepT kvs k y); rw [stepT, if_neg hg]
          clear N8 N3
          k_steps
          rename News _ _ _ _ => N7
          have N8 := news_sub N7 (pm4 (l := lexO w.params C line0 kl0 [] us0 n1' n40) (t := tabO aT dT aH hsh tkT n n2' vs))
          ((try unfold Hold); refine' fn_use ?IH ?k1 ?k2 ?k3 ?k4 ?k5 ?kK ?kG ?kd ?ku ?_; (case IH => exact tok_ok w C O T line0 kl0 us0 (tokOf (tokOf r).2).2 n1' n40 _ (hapX nw (fun p hp => ⟨(hapn p hp).1, (hapn p hp).2.1, (hapn p hp).2.2.1, (hapn p hp).2.2.2.1⟩) (PySem.W.listOf avs.toArray nA) hsh tkT n n2' vs) hus0 (Nat.le_trans (tok_len _) (Nat.le_trans (tok_len r) hz')) hT0); (case k1 => k_asm); (case k2 => k_asm); (case k3 => k_asm); (case k4 => k_asm); (case k5 => k_asm); (case kK => first | exact rfl | assumption); (case kG => assumption); (case kd => (show dp + 1 + _ < _; first | exact room1 hd (by decide) | omega)); (case ku => (show un + 3 + _ < _; first | exact room3 hu (by decide) | omega)); intro r6 news6 h6 g6 tk6 F6 N6 G6 hR6)
          obtain ⟨tk6, line6, kl6, us6, n46, rfl, hus6, hT6, rfl⟩ := hR6
          clear N7 N8
          k_steps
          exact hAg (its2.length) _ (Nat.lt_succ_self _) ⟨_, _, _, _, its2, (tokOf (tokOf r).2).2, _, _, us6, line6, kl6, n1', n46, vs, kvs, n2', avs, qs, nA, nw, rfl, (by k_asm), G6, by with_unfolding_all rfl, by with_unfolding_all rfl, by with_unfolding_all rfl, by with_unfolding_all rfl, rfl, rfl, hR2,
            Nat.le_trans (tok_len _) (Nat.le_trans (tok_len r) hz'), hus6, hT6, (by k_asm), hp, ha, hkp, by omega, by omega, hapn, hsub, hst, hqE⟩
        · have hst : readT its2 (kvs ++ [(k, y)]) = readT its [] := by rw [← hkE]; show _ = readT its2 (stepT kvs k y); rw [stepT, if_pos hg]
          have hapn2 : Apart C aH _ ((D2, tupO [.str k q1, .str y q2] q3) :: nw) := ap_snoc O hlt2 hapn
          clear N8 N3
          k_steps
          rename News _ _ _ _ => N7
          have N8 := news_sub N7 (pm5 (l := lexO w.params C line0 kl0 [] us0 n1' n40) (t := tabO aT dT aH hsh tkT n q4 (vs ++ [.ref D2])))
          ((try unfold Hold); refine' fn_use ?IH ?k1 ?k2 ?k3 ?k4 ?k5 ?kK ?kG ?kd ?ku ?_; (case IH => exact tok_ok w C O T line0 kl0 us0 (tokOf (tokOf r).2).2 n1' n40 _ (hapX ((D2, tupO [.str k q1, .str y q2] q3) :: nw) (fun p hp => ⟨(hapn2 p hp).1, (hapn2 p hp).2.1, (hapn2 p hp).2.2.1, (hapn2 p hp).2.2.2.1⟩) (PySem.W.listOf avs.toArray nA) hsh tkT n q4 (vs ++ [.ref D2])) hus0 (Nat.le_trans (tok_len _) (Nat.le_trans (tok_len r) hz')) hT0); (case k1 => k_asm); (case k2 => k_asm); (case k3 => k_asm); (case k4 => k_asm); (case k5 => k_asm); (case kK => first | exact rfl | assumption); (case kG => assumption); (case kd => (show dp + 1 + _ < _; first | exact room1 hd (by decide) | omega)); (case ku => (show un + 3 + _ < _; first | exact room3 hu (by decide) | omega)); intro r6 news6 h6 g6 tk6 F6 N6 G6 hR6)
          obtain ⟨tk6, line6, kl6, us6, n46, rfl, hus6, hT6, rfl⟩ := hR6
          clear N7 N8
          k_steps
          exact hAg (its2.length) _ (Nat.lt_succ_self _) ⟨_, _, _, _, its2, (tokOf (tokOf r).2).2, _, _, us6, line6, kl6, n1', n46, vs ++ [.ref D2], kvs ++ [(k, y)], q4, avs, qs, nA, (D2, tupO [.str k q1, .str y q2] q3) :: nw, rfl, (by k_asm), G6, by with_unfolding_all rfl, by with_unfolding_all rfl, by with_unfolding_all rfl, by with_unfolding_all rfl, rfl, rfl, hR2,
            Nat.le_trans (tok_len _) (Nat.le_trans (tok_len r) hz'), hus6, hT6, (by k_asm), (hp.mono fun p hp => .tail _ hp).snoc (.head _), ha.mono (fun p hp => .tail _ hp), (fun p hp => (List.mem_append.mp hp).elim (hkp p) fun h => by rw [List.mem_singleton.mp h]; exact hkpl), by simp; omega, by omega, hapn2, (fun p hp => .tail _ (hsub p hp)), hst, hqE⟩
      | @word _ wt a b c l hh its2 hw hwl hspl hl hal hhh hbl hcl hwn hR2 =>
        have hwn' : (wt != Str.ofString "") = true := by simpa using hwn
        rw [hw] at F3
        simp only [List.length_cons] at hlv hla
        k_steps
        ((try unfold Hold); refine' fn_use ?IH ?k1 ?k2 ?k3 ?k4 ?k5 ?kK ?kG ?kd ?ku ?_; (case IH => exact decode3_ok w wt a b c tx (ledF N2) hwl hspl); (case k1 => k_asm); (case k2 => k_asm); (case k3 => k_asm); (case k4 => k_asm); (case k5 => k_asm); (case kK => first | exact rfl | assumption); (case kG => assumption); (case kd => (show dp + 1 + _ < _; first | exact room1 hd (by decide) | omega)); (case ku => (show un + 3 + _ < _; first | exact room3 hu (by decide) | omega)); intro r5 news5 h5 g5 tk5 F5 N5 G5 hR5)
        obtain ⟨D1, t1, t2, t3, rfl, rfl⟩ := hR5
        k_steps
        rename News _ _ _ _ => N7
        have N8 := news_sub N7 (fun p hp => .tail _ hp)
        ((try unfold Hold); refine' fn_use ?IH ?k1 ?k2 ?k3 ?k4 ?k5 ?kK ?kG ?kd ?ku ?_; (case IH => exact check_ok w wt tx (ledF N8) hwl); (case k1 => k_asm); (case k2 => k_asm); (case k3 => k_asm); (case k4 => k_asm); (case k5 => k_asm); (case kK => first | exact rfl | assumption); (case kG => assumption); (case kd => (show dp + 1 + _ < _; first | exact room1 hd (by decide) | omega)); (case ku => (show un + 3 + _ < _; first | exact room3 hu (by decide) | omega)); intro r3 news3 h3 g3 tk3 F3 N3 G3 hR3)
        obtain ⟨rfl, e3⟩ := hR3; subst e3
        simp only [ledF] at N3
        clear N7 N8
        k_steps
        · have hck : check wt = true := by assumption
          have hst : readA its2 (qs ++ [(l, hh, strip c)]) = readA its [] := by rw [← hqE]; show _ = readA its2 (if check wt then qs ++ [(l, hh, strip c)] else qs); rw [if_pos hck]
          ((try unfold Hold); refine' fn_use ?IH ?k1 ?k2 ?k3 ?k4 ?k5 ?kK ?kG ?kd ?ku ?_; (case IH => exact strip_ok w c t3 (ledF N3) hcl); (case k1 => k_asm); (case k2 => k_asm); (case k3 => k_asm); (case k4 => k_asm); (case k5 => k_asm); (case kK => first | exact rfl | assumption); (case kG => assumption); (case kd => (show dp + 1 + _ < _; first | exact room1 hd (by decide) | omega)); (case ku => (show un + 3 + _ < _; first | exact room3 hu (by decide) | omega)); intro r4 news4 h4 g4 tk4 F4 N4 G4 hR4)
          obtain ⟨tk4, rfl, e4⟩ := hR4; subst e4
          simp only [ledF] at N4
          have hDa := apD O hpD (Nat.ne_of_lt haD) (Nat.ne_of_lt hdD) (Nat.ne_of_lt hhD) (fun p hp => (hapn p hp).2.2.2.2) (P := w.params) (line := line') (kl := kl') (pbs := []) (us := us') (n1 := n1') (n4 := n4') (hsh := hsh) (tk := tkT) (n := n) (n2 := n2') (vs := vs)
          have N9 := news_sub N4 (pm2 (l := lexO w.params C line' kl' [] us' n1' n4') (n := tabO aT dT aH hsh tkT n n2' vs ++ nw))
          clear N3 N4
          k_steps
          rename _ < _ ∧ AllLt _ _ => lD2
          rename News _ _ _ _ => N7
          have hapn2 := ap_snoc2 O (allLt_mem lD2.2) lD2.1 hapn (o := tupO [.int l tk3, .int hh (tk3 + 1), .str (strip c) tk4] 0)
          have N8 := news_sub N7 (pm6 (l := lexO w.params C line' kl' [] us' n1' n4') (t := tabO aT dT aH hsh tkT n n2' vs))
          ((try unfold Hold); refine' fn_use ?IH ?k1 ?k2 ?k3 ?k4 ?k5 ?kK ?kG ?kd ?ku ?_; (case IH => exact tok_led N8 O T (tokOf r).2 (apX O hpD hO1 hO2 hO3 (fun p hp => ⟨(hapn2 p hp).1, (hapn2 p hp).2.1, (hapn2 p hp).2.2.1, (hapn2 p hp).2.2.2.1⟩) _ hsh tkT n n2' vs) hus' (Nat.le_trans (tok_len r) hz') hT'); (case k1 => k_asm); (case k2 => k_asm); (case k3 => k_asm); (case k4 => k_asm); (case k5 => k_asm); (case kK => first | exact rfl | assumption); (case kG => assumption); (case kd => (show dp + 1 + _ < _; first | exact room1 hd (by decide) | omega)); (case ku => (show un + 3 + _ < _; first | exact room3 hu (by decide) | omega)); intro r6 news6 h6 g6 tk6 F6 N6 G6 hR6)
          obtain ⟨tk6, line6, kl6, us6, n46, rfl, hus6, hT6, rfl⟩ := hR6
          clear N7 N8 hDa
          k_steps
          exact hAg (its2.length) _ (Nat.lt_succ_self _) ⟨_, _, _, _, its2, (tokOf r).2, _, _, us6, line6, kl6, n1', n46, vs, kvs, n2', avs ++ [.ref _], qs ++ [(l, hh, strip c)], nA + 1, _, rfl, (by k_asm), G6, by with_unfolding_all rfl, by with_unfolding_all rfl, by with_unfolding_all rfl, by with_unfolding_all rfl, rfl, rfl, hR2,
            Nat.le_trans (tok_len r) hz', hus6, hT6, (by k_asm), hp.mono (fun p hp => .tail _ hp), (ha.mono fun p hp => .tail _ hp).snoc (.head _), hkp, by omega, by simp; omega, hapn2, (fun p hp => .tail _ (hsub p hp)), hkE, hst⟩
        · have hck : check wt = false := by assumption
          have hst : readA its2 qs = readA its [] := by rw [← hqE]; show _ = readA its2 (if check wt then qs ++ [(l, hh, strip c)] else qs); rw [if_neg (by rw [hck]; exact Bool.false_ne_true)]
          rename News _ _ _ _ => N7
          have N8 := news_sub N7 (fun _ hp => hp)
          ((try unfold Hold); refine' fn_use ?IH ?k1 ?k2 ?k3 ?k4 ?k5 ?kK ?kG ?kd ?ku ?_; (case IH => exact tok_ok w C O T line' kl' us' (tokOf r).2 n1' n4' _ (hapX nw (fun p hp => ⟨(hapn p hp).1, (hapn p hp).2.1, (hapn p hp).2.2.1, (hapn p hp).2.2.2.1⟩) (PySem.W.listOf avs.toArray nA) hsh tkT n n2' vs) hus' (Nat.le_trans (tok_len r) hz') hT'); (case k1 => k_asm); (case k2 => k_asm); (case k3 => k_asm); (case k4 => k_asm); (case k5 => k_asm); (case kK => first | exact rfl | assumption); (case kG => assumption); (case kd => (show dp + 1 + _ < _; first | exact room1 hd (by decide) | omega)); (case ku => (show un + 3 + _ < _; first | exact room3 hu (by decide) | omega)); intro r6 news6 h6 g6 tk6 F6 N6 G6 hR6)
          obtain ⟨tk6, line6, kl6, us6, n46, rfl, hus6, hT6, rfl⟩ := hR6
          clear N7 N8
          k_steps
          exact hAg (its2.length) _ (Nat.lt_succ_self _) ⟨_, _, _, _, its2, (tokOf r).2, _, _, us6, line6, kl6, n1', n46, vs, kvs, n2', avs, qs, nA, nw, rfl, (by k_asm), G6, by with_unfolding_all rfl, by with_unfolding_all rfl, by with_unfolding_all rfl, by with_unfolding_all rfl, rfl, rfl, hR2,
            Nat.le_trans (tok_len r) hz', hus6, hT6, (by k_asm), hp, ha, hkp, by omega, by omega, hapn, hsub, hkE, hst⟩
end
section
open PySem PySem.W PyProof.Rows PySem.Spec PySem.Calls
theorem rot3 {α : Type} {a b c : α} {l : List α} : ∀ p ∈ b :: c :: a :: l, p ∈ a :: b :: c :: l := fun p hp => by
  simp only [List.mem_cons] at hp ⊢
  rcases hp with h | h | h | h <;> simp [h]
inductive NwI (h₀ : Heap) (L I l : Addr) (m : Str → Option Value) (led : List (Addr × Obj)) (s₀ : Shared) (_ : Nat) (s : Shared) : Prop where
  | mk (h : Heap) (tk : Tok) (oI : Obj)
    (c0 : s = ⟨h, s₀.gens, s₀.drawn, tk, s₀.os⟩)
    (c1 : IterO l 0 oI)
    (c2 : Fr h₀ L h m)
    (c3 : News h₀ L h ((I, oI) :: (l, PySem.W.listOf ([] : List Value).toArray 0) :: led))
set_option maxRecDepth 100000 in
set_option maxHeartbeats 8000000 in
theorem new_ok (w : World) (news : List (Addr × Obj)) :
    Fn w (call (.ref 251) []) 7 300 news
    (fun r news' => ∃ aT dT aH tk, r = .ref aT ∧ news' = tabO aT dT aH (PyData.keyHash w.params (Str.ofString "_headers")) tk 1 0 [] ++ news ∧ (∀ p ∈ news, p.1 < dT) ∧ @LT.lt Nat _ dT aT ∧ @LT.lt Nat _ aT aH) := by
    unfold Fn
    k_fill
    intro dp un gd cn cs a ccd cl outer A₀ base h₀ L m s p loose mean mg mb Q E B F X N Tp hk hG hd hu hret
    k_steps
    rename News _ _ _ _ => N5
    rename Fr _ _ _ _ => F5
    rename ∀ p ∈ news, p.1 < _ => l1
    rename _ < _ ∧ _ < _ ∧ AllLt _ news => l3
    rename _ < _ => l2
    refine list_iter (vs := []) (n := 0) F5 N5 (.head _) fun I oI h1 hI F1 N1 hlt => ?_
    have init : ∀ tkz, NwI _ _ I _ _ _ s 0 ⟨h1, s.gens, s.drawn, tkz, s.os⟩ := fun tkz => ⟨_, _, oI, rfl, hI, F1, N1⟩
    refine for_inv (NwI _ _ I _ _ _ s) ?turn _ (init _)
    case turn =>
      intro k s' E' gA hAg hi'
      obtain ⟨h, tk, oI', rfl, hI2, F2, N2⟩ := hi'
      refine list_next (vs := []) (n := 0) rfl F2 hI2 N2 (.head _) hlt ?_ ?_
      · intro v oI3 h3 hv hI3 F4 N4
        simp at hv
      · intro h3 hv F4 N4
        show wpAny _ _ _ _ _ _
        k_steps
        exact hret _ _ _ _ _ (by k_asm) (news_sub (by k_asm) rot3) hG ⟨_, _, _, _, rfl, rfl, l1, l2, l3.1⟩
set_option maxRecDepth 100000 in
set_option maxHeartbeats 8000000 in
theorem items_ok (w : World) (aT dT aH : Addr) (hsh : Int) (tk1 : Tok) (n n2 : Nat) (vs : List Value) (news : List (Addr × Obj)) (hz : vs.length ≤ 100) :
    Fn w (call (.ref 215) [.ref aT]) 7 300 (tabO aT dT aH hsh tk1 n n2 vs ++ news)
    (fun r news' => ∃ D n3, r = .ref D ∧ news' = (D, PySem.W.listOf vs.toArray n3) :: (tabO aT dT aH hsh tk1 n n2 vs ++ news)) := by
    unfold Fn
    k_fill
    intro dp un gd cn cs a ccd cl outer A₀ base h₀ L m s p loose mean mg mb Q E B F X N Tp hk hG hd hu hret
    k_steps
    rename News h₀ _ _ _ => N9
    rw [slicePick_all] at N9
    exact hret _ _ _ _ _ (by k_asm) N9 hG ⟨_, _, rfl, rfl⟩
end
section
local macro_rules | `(tactic| omega) => `(tactic| lia)
open PySem PySem.W PyProof.Rows PySem.Spec PySem.Calls
theorem med3 {l : List Int} {a b c : Int} (hp : l.Perm [a, b, c]) (ho : l.Pairwise (fun x y => x ≤ y)) (h : a < c) : l.getD 1 0 = min (max b a) c := by
  have key : ∀ {x y z : Int}, [x, y, z].Perm [a, b, c] → x ≤ y → y ≤ z → l = [x, y, z] := fun hq h1 h2 =>
    List.Perm.eq_of_pairwise (le := fun x y : Int => x ≤ y) (fun u v _ _ p q => Int.le_antisymm p q) ho (by simp; omega) (hp.trans hq.symm)
  rcases Int.lt_or_le b a with h1 | h1
  · rw [key (x := b) (y := a) (z := c) (.swap ..) (by omega) (by omega)]
    show a = _; omega
  · rcases Int.lt_or_le c b with h2 | h2
    · rw [key (x := a) (y := c) (z := b) (.cons _ (.swap ..)) (by omega) (by omega)]
      show c = _; omega
    · rw [key (x := a) (y := b) (z := c) (.refl _) (by omega) (by omega)]
      show b = _; omega
noncomputable def IsMax (M : Int) (ls : List Int) : Prop := M ∈ ls ∧ ∀ a ∈ ls, a ≤ M
noncomputable def IsMin (m : Int) (hs : List Int) : Prop := m ∈ hs ∧ ∀ a ∈ hs, m ≤ a
theorem open_max {ls hs : List Int} {M m : Int} (h1 : IsMax M ls) (h2 : IsMin m hs) : open_ ls hs = true ↔ M < m := open_iff h1.1 h1.2 h2.1 h2.2
theorem IsMax.snoc {M a : Int} {ls : List Int} (h : IsMax M ls) : IsMax (max a M) (ls ++ [a]) := by
  refine ⟨?_, fun b hb => ?_⟩
  · rcases Int.lt_or_le a M with q | q
    · rw [show max a M = M by omega]; exact List.mem_append_left _ h.1
    · rw [show max a M = a by omega]; simp
  · rcases List.mem_append.mp hb with hb | hb
    · have := h.2 b hb; omega
    · rw [List.mem_singleton.mp hb]; omega
theorem IsMin.snoc {m a : Int} {hs : List Int} (h : IsMin m hs) : IsMin (min a m) (hs ++ [a]) := by
  refine ⟨?_, fun b hb => ?_⟩
  · rcases Int.lt_or_le m a with q | q
    · rw [show min a m = m by omega]; exact List.mem_append_left _ h.1
    · rw [show min a m = a by omega]; simp
  · rcases List.mem_append.mp hb with hb | hb
    · have := h.2 b hb; omega
    · rw [List.mem_singleton.mp hb]; omega
theorem ways_shut (ns : List Int) : ∀ (t : T) (ls hs : List Int) (M m : Int), IsMax M ls → IsMin m hs → m ≤ M → t.ways ns ls hs = []
  | .leaf c, ls, hs, M, m, h1, h2, h => by
    rw [T.ways, if_neg (fun q => by have := (open_max h1 h2).mp q; omega)]
  | .node s l r, ls, hs, M, m, h1, h2, h => by
    rw [T.ways, ways_shut ns l ls hs M m h1 h2 h]
    split
    · rw [ways_shut ns r _ _ _ _ h1.snoc h2 (by omega)]; rfl
    · rw [ways_shut ns r _ _ _ _ h1 h2.snoc (by omega)]; rfl
theorem cl_hi {x y m : Int} (h : min x m ≥ m) (hxy : x ≤ y) : m ≤ x ∧ min x m = min y m :=
  have h1 := Int.le_trans h (Int.min_le_left x m)
  ⟨h1, (Int.min_eq_right h1).trans (Int.min_eq_right (Int.le_trans h1 hxy)).symm⟩
theorem cl_lo {x m : Int} (h : ¬ min x m ≥ m) : x = min x m := by
  rcases Int.le_total x m with r | r
  · exact (Int.min_eq_left r).symm
  · exact absurd (Int.le_of_eq (Int.min_eq_right r).symm) h
theorem cl_mx (a b c : Int) : max b (max a c) = max (max a b) c := by rw [← Int.max_assoc, Int.max_comm b a]
theorem cl_le {a M m : Int} (h : M < m) (q : min (max a M) m ≤ M) : a ≤ M := by
  rcases Int.le_total (max a M) m with r | r
  · rw [Int.min_eq_left r] at q; exact Int.le_trans (Int.le_max_left a M) q
  · rw [Int.min_eq_right r] at q; exact absurd h (Int.not_lt.mpr q)
theorem cl_gt {a M m : Int} (q : ¬ min (max a M) m ≤ M) : M ≤ a := by
  rcases Int.le_total M a with r | r
  · exact r
  · rw [Int.max_eq_right r] at q; exact absurd (Int.min_le_left M m) q
theorem cl_mn {a b M m : Int} (h : M ≤ a) : min (max b M) (min a m) = min (max (min a b) M) m := by
  have e : max (min a b) M = min a (max b M) := by
    rcases Int.le_total a b with r | r
    · rw [Int.min_eq_left r, Int.max_eq_left h, Int.min_eq_left (Int.le_trans r (Int.le_max_left b M))]
    · rw [Int.min_eq_right r, Int.min_eq_right (Int.max_le.mpr ⟨r, h⟩)]
  rw [e, ← Int.min_assoc, Int.min_comm (max b M) a]
/-- reading within the window reads what Baudet says, and gives the worth within the window -/
theorem play_law (ns : List Int) : ∀ (t : T) (ls hs : List Int) (M m : Int), IsMax M ls → IsMin m hs → M < m → t.ways ns ls hs = (t.play ns M m).2 ∧ (t.play ns M m).1 = min (max (t.worth ns) M) m
  | .leaf c, ls, hs, M, m, h1, h2, h => by
    rw [T.ways, if_pos ((open_max h1 h2).mpr h)]
    exact ⟨rfl, rfl⟩
  | .node true l r, ls, hs, M, m, h1, h2, h => by
    obtain ⟨a1, a2⟩ := play_law ns l ls hs M m h1 h2 h
    simp only [T.ways, T.play, T.worth, if_true]
    split
    · next q =>
      rw [a2] at q
      have e := cl_hi q (y := max (max (l.worth ns) (r.worth ns)) M) (Int.max_le.mpr ⟨Int.le_trans (Int.le_max_left _ _) (Int.le_max_left _ _), Int.le_max_right _ _⟩)
      rw [ways_shut ns r _ _ _ _ h1.snoc h2 e.1, List.append_nil, a1, a2]
      exact ⟨rfl, e.2⟩
    · next q =>
      have q' := q
      rw [a2] at q'
      have e : max (l.worth ns) M = (l.play ns M m).1 := by rw [a2]; exact cl_lo q'
      obtain ⟨b1, b2⟩ := play_law ns r (ls ++ [l.worth ns]) hs (l.play ns M m).1 m (e ▸ h1.snoc) h2 (Int.not_le.mp q)
      rw [a1, b1, b2]
      exact ⟨rfl, by rw [← e, cl_mx]⟩
  | .node false l r, ls, hs, M, m, h1, h2, h => by
    obtain ⟨a1, a2⟩ := play_law ns l ls hs M m h1 h2 h
    simp only [T.ways, T.play, T.worth, Bool.false_eq_true, if_false]
    split
    · next q =>
      rw [a2] at q
      have e := cl_le h q
      rw [ways_shut ns r _ _ _ _ h1 h2.snoc (Int.le_trans (Int.min_le_left _ _) e), List.append_nil, a1, a2]
      exact ⟨rfl, by rw [Int.max_eq_right e, Int.max_eq_right (Int.le_trans (Int.min_le_left _ _) e)]⟩
    · next q =>
      have q' := q
      rw [a2] at q'
      have g := cl_gt q'
      have e : min (l.worth ns) m = (l.play ns M m).1 := by rw [a2, Int.max_eq_left g]
      obtain ⟨b1, b2⟩ := play_law ns r ls (hs ++ [l.worth ns]) M (l.play ns M m).1 h1 (e ▸ h2.snoc) (Int.not_le.mp q)
      rw [a1, b1, b2]
      exact ⟨rfl, by rw [← e, cl_mn g]⟩
theorem play_one (ns : List Int) (t : T) {lo hi : Int} (h : lo < hi) : t.ways ns [lo] [hi] = (t.play ns lo hi).2 ∧ (t.play ns lo hi).1 = min (max (t.worth ns) lo) hi :=
  play_law ns t [lo] [hi] lo hi ⟨.head _, fun a ha => by rw [List.mem_singleton.mp ha]; omega⟩ ⟨.head _, fun a ha => by rw [List.mem_singleton.mp ha]; omega⟩ h
end
section
local macro_rules | `(tactic| omega) => `(tactic| lia)
open PySem PySem.W PyProof.Rows PySem.Spec PySem.Calls
open PySem.Builtin PySem.Builtin.Str
noncomputable def occStep (x : Str) (c : Nat) (hi limit : Nat) (st : Array Nat × Nat) (i : Nat) : Array Nat × Nat :=
  if ((st.fst.size < limit ∧ st.snd ≤ i) ∧ i + (⟨#[c]⟩ : Str).length ≤ hi) ∧ subAt x ⟨#[c]⟩ i = true then (st.fst.push i, i + (⟨#[c]⟩ : Str).length) else st
theorem occ_foldl (x : Str) (c limit : Nat) : occurrences x ⟨#[c]⟩ 0 x.length limit = ((List.range' 0 (x.length + 1)).foldl (occStep x c x.length limit) (#[], 0)).1.toList := by
  rw [StrLaws.occ_eq]
  have : StrLaws.occBody x ⟨#[c]⟩ x.length limit = fun i st => (pure (ForInStep.yield (occStep x c x.length limit st i)) : Id _) := by
    funext i st
    unfold StrLaws.occBody occStep
    split <;> rfl
  rw [this, List.forIn_pure_yield_eq_foldl]
  rfl
theorem occ_skip {x : Str} {c hi limit : Nat} : ∀ (l : List Nat) (st : Array Nat × Nat), (∀ i ∈ l, x.cps.toList[i]? ≠ some c) → hi = x.length → l.foldl (occStep x c hi limit) st = st
  | [], _, _, _ => rfl
  | i :: l, st, h, e => by
    have hn : ¬ (((st.fst.size < limit ∧ st.snd ≤ i) ∧ i + (⟨#[c]⟩ : Str).length ≤ hi) ∧ subAt x ⟨#[c]⟩ i = true) := fun q =>
      h i (.head _) ((StrLaws.subAt_one x c i).mp ⟨by rw [← e]; exact q.1.2, q.2⟩)
    rw [List.foldl_cons, occStep, if_neg hn]
    exact occ_skip l st (fun j hj => h j (.tail _ hj)) e
theorem occ_full {x : Str} {c hi limit : Nat} : ∀ (l : List Nat) (st : Array Nat × Nat), limit ≤ st.1.size → l.foldl (occStep x c hi limit) st = st
  | [], _, _ => rfl
  | i :: l, st, h => by
    have hn : ¬ (((st.fst.size < limit ∧ st.snd ≤ i) ∧ i + (⟨#[c]⟩ : Str).length ≤ hi) ∧ subAt x ⟨#[c]⟩ i = true) := fun q => by omega
    rw [List.foldl_cons, occStep, if_neg hn]
    exact occ_full l st h
theorem occ_hit {x : Str} {c limit i : Nat} {st : Array Nat × Nat} (h1 : st.1.size < limit) (h2 : st.2 ≤ i) (h3 : x.cps.toList[i]? = some c) : occStep x c x.length limit st i = (st.1.push i, i + 1) := by
  have := (StrLaws.subAt_one x c i).mpr h3
  rw [occStep, if_pos ⟨⟨⟨h1, h2⟩, this.1⟩, this.2⟩]
  rfl
theorem occ_two {c : Nat} {a b r : List Nat} (ha : c ∉ a) (hb : c ∉ b) : occurrences (mk (a ++ c :: (b ++ c :: r))) ⟨#[c]⟩ 0 (mk (a ++ c :: (b ++ c :: r))).length 2 = [a.length, a.length + 1 + b.length] := by
  rw [occ_foldl]
  have hcps : (mk (a ++ c :: (b ++ c :: r))).cps.toList = a ++ c :: (b ++ c :: r) := by simp [mk]
  have hlen : (mk (a ++ c :: (b ++ c :: r))).length = a.length + 1 + b.length + 1 + r.length := by rw [mk_length]; simp; omega
  have hr : List.range' 0 ((mk (a ++ c :: (b ++ c :: r))).length + 1) = List.range' 0 a.length ++ a.length :: (List.range' (a.length + 1) b.length ++ (a.length + 1 + b.length) :: List.range' (a.length + 1 + b.length + 1) (r.length + 1)) := by
    rw [hlen]
    have e1 : a.length :: (List.range' (a.length + 1) b.length ++ (a.length + 1 + b.length) :: List.range' (a.length + 1 + b.length + 1) (r.length + 1)) = List.range' a.length (1 + b.length + 1 + (r.length + 1)) := by
      have e2 : (a.length + 1 + b.length) :: List.range' (a.length + 1 + b.length + 1) (r.length + 1) = List.range' (a.length + 1 + b.length) (r.length + 1 + 1) := rfl
      rw [e2, List.range'_append_1]
      rw [show 1 + b.length + 1 + (r.length + 1) = (b.length + (r.length + 1 + 1)) + 1 by omega]
      rfl
    rw [e1]
    have e3 := @List.range'_append_1 0 a.length (1 + b.length + 1 + (r.length + 1))
    rw [Nat.zero_add] at e3
    rw [e3]
    congr 1; omega
  rw [hr, List.foldl_append, List.foldl_cons, List.foldl_append, List.foldl_cons]
  rw [occ_skip (List.range' 0 a.length) _ ?h1 rfl, occ_hit (st := (#[], 0)) (i := a.length) (by simp) (Nat.zero_le _) ?h2, occ_skip (List.range' (a.length + 1) b.length) _ ?h3 rfl, occ_hit ?h4 ?h5 ?h6, occ_full _ _ ?h7]
  case h1 =>
    intro i hi e
    rw [hcps] at e
    have hi' : i < a.length := by simpa using hi
    rw [List.getElem?_append_left hi'] at e
    exact ha (List.mem_of_getElem? e)
  case h2 => rw [hcps, List.getElem?_append_right (Nat.le_refl _), Nat.sub_self]; rfl
  case h3 =>
    intro i hi e
    rw [hcps] at e
    have hi' := List.mem_range'_1.mp hi
    rw [List.getElem?_append_right (by omega), show i - a.length = (i - (a.length + 1)) + 1 by omega, List.getElem?_cons_succ, List.getElem?_append_left (by omega)] at e
    exact hb (List.mem_of_getElem? e)
  case h4 => simp
  case h5 => simp
  case h6 =>
    rw [hcps, List.getElem?_append_right (by omega), show a.length + 1 + b.length - a.length = b.length + 1 by omega, List.getElem?_cons_succ, List.getElem?_append_right (Nat.le_refl _), Nat.sub_self]; rfl
  case h7 => simp
  simp
theorem strSub_mk (l : List Nat) (i j : Nat) : strSub (mk l) i j = mk ((l.drop i).take (j - i)) := by
  unfold strSub mk
  simp [List.extract_eq_take_drop]
theorem kind_tick : PySem.Builtin.Str.strKind (Str.ofString "'") = 1 := by decide +kernel
theorem kind_pos (x : Str) : 1 ≤ PySem.Builtin.Str.strKind x := by unfold PySem.Builtin.Str.strKind; split <;> (try split) <;> decide
/-- a word falls apart at its first two ticks -/
theorem split_word {a b r : List Nat} (ha : 39 ∉ a) (hb : 39 ∉ b) : Txt.splitMax (mk (a ++ 39 :: (b ++ 39 :: r))) (Str.ofString "'") 2 = [mk a, mk b, mk r] := by
  have e39 : Str.ofString "'" = ⟨#[39]⟩ := by decide +kernel
  have hk := kind_tick
  have hlen : (mk (a ++ 39 :: (b ++ 39 :: r))).length = a.length + 1 + b.length + 1 + r.length := by rw [mk_length]; simp; omega
  unfold Txt.splitMax
  rw [if_neg, show limitOf (mk (a ++ 39 :: (b ++ 39 :: r))) 2 = 2 from rfl, e39, occ_two ha hb, if_neg (by simp)]
  · unfold partsBetween
    rw [hlen]
    show [strSub _ 0 a.length, strSub _ (a.length + 1) (a.length + 1 + b.length), strSub _ (a.length + 1 + b.length + 1) _] = _
    rw [strSub_mk, strSub_mk, strSub_mk]
    congr 1
    · congr 1; simp
    · congr 1
      · congr 1
        rw [show a.length + 1 = a.length + 1 from rfl, List.drop_append, List.drop_of_length_le (by omega)]
        simp
      · congr 1
        congr 1
        rw [List.drop_append, List.drop_of_length_le (by omega), show a.length + 1 + b.length + 1 - a.length = b.length + 1 + 1 by omega]
        simp only [List.nil_append, List.drop_succ_cons]
        rw [List.drop_append, List.drop_of_length_le (by omega), show b.length + 1 - b.length = 1 by omega]
        simp only [List.nil_append, List.drop_succ_cons, List.drop_zero]
        exact List.take_of_length_le (by omega)
  · simp only [Bool.or_eq_true, decide_eq_true_eq, not_or]
    have h1 : (Str.ofString "'").length = 1 := by decide +kernel
    have := kind_pos (mk (a ++ 39 :: (b ++ 39 :: r)))
    omega
end
local macro_rules | `(tactic| walk_at "call ref") => `(tactic| first
  | ((with_reducible show wpAny _ _ (call (Value.ref 262) _ _) _ _ _); refine hold_it ?_)
  | ((with_reducible show wpAny _ _ (call (Value.ref 269) _ _) _ _ _); refine hold_it ?_)
  | ((with_reducible show wpAny _ _ (call (Value.ref 276) _ _) _ _ _); refine hold_it ?_)
  | ((with_reducible show wpAny _ _ (call (Value.ref 281) _ _) _ _ _); refine hold_it ?_)
  | ((with_reducible show wpAny _ _ (call (Value.ref 288) _ _) _ _ _); refine hold_it ?_)
  | ((with_reducible show wpAny _ _ (call (Value.ref 251) _ _) _ _ _); refine hold_it ?_)
  | ((with_reducible show wpAny _ _ (call (Value.ref 295) _ _) _ _ _); refine hold_it ?_)
  | ((with_reducible show wpAny _ _ (call (Value.ref 215) _ _) _ _ _); refine hold_it ?_)
  | ((with_reducible show wpAny _ _ (call (Value.ref 323) _ _) _ _ _); refine hold_it ?_)
  | ((with_reducible show wpAny _ _ (call (Value.ref 111) _ _) _ _ _); refine hold_it ?_)
  | ((with_reducible show wpAny _ _ (call (Value.ref 309) _ _) _ _ _); refine hold_it ?_)
  | ((with_reducible show wpAny _ _ (call (Value.ref 316) _ _) _ _ _); refine hold_it ?_)
  | ((with_reducible show wpAny _ _ (call (Value.ref 330) _ _) _ _ _); refine hold_it ?_))
local macro_rules | `(tactic| k_room) => `(tactic| decide)
local macro_rules | `(tactic| walk_at "callWith ref") => `(tactic| (k_here; (with_reducible show wpAny _ _ (callWith _ (Value.ref _) _ (backTo _ (starEach (_ :: _) _)) []) _ _ _); k_dflt (refine' callWith_K ?k1 ?k2 ?_; (case k1 => k_asm); (case k2 => k_is); k_whole)))
section
local macro_rules | `(tactic| omega) => `(tactic| lia)
open PySem PySem.W PyProof.Rows PySem.Spec PySem.Calls
noncomputable def lawSc : Scope := defS (topSt 78)
noncomputable def lawB : List Stmt := defB (topSt 78)
theorem off1_ne {D : Addr} : ∀ {l : List (Addr × Obj)}, LCg.Off1 D l → ∀ p ∈ l, p.1 ≠ D
  | [], _, _, h => nomatch h
  | _ :: _, x, p, h => (List.mem_cons.mp h).elim (fun e => e ▸ x.1) fun h => off1_ne x.2 p h
theorem ints_snoc {us : List Value} {ms : List Int} (h : IntsAre us ms) (n : Int) (t : Tok) : IntsAre (us ++ [.int n t]) (ms ++ [n]) := by
  induction h with
  | nil => exact .cons _ _ .nil
  | cons a b _ ih => exact .cons _ _ ih
theorem law_around (name : Str) (scope : Scope) (L a : Addr) (cd : Value) : callerA.deeper (envOfC name scope L a cd) = ktrTop 302 7 (some []) name scope L a cd (cellsFrom (L + 1) scope.names []) [] := rfl
theorem tree_led {w : World} {aD : Addr} {us : List Value} {n : Nat} {rest : List (Addr × Obj)} {h₀ h : Heap} {L : Addr} (_ : News h₀ L h ((aD, PySem.W.listOf us.toArray n) :: rest)) (u : Tok) (ds : List Int) (hi : IntsAre us ds) (h9 : us.length = 9) (hne : ∀ p ∈ rest, p.1 ≠ aD) :
    Fn w (call (.ref 262) [.ref aD, .int 5 u]) 5 40 ((aD, PySem.W.listOf us.toArray n) :: rest) (fun r news' => ∃ (t : T) (us' : List Value) (n' : Nat) (tl : List (Addr × Obj)), t.size + 1 = 5 ∧ (aD, PySem.W.listOf us'.toArray n') :: (tl ++ rest) = news' ∧ TreeIn tl r t ∧ (∀ p ∈ tl ++ rest, p.1 ≠ aD)) := by
  intro dp un gd cn cs a ccd cl outer A₀ base h₀ L m s p loose mean mg mb Q E B F X N Tp hk hG hd hu hret
  refine tree_ok w aD 5 us ds n u rest (by decide) (by decide) hi (by omega) (by omega) hne dp un gd cn cs a ccd cl outer A₀ base h₀ L m s p loose mean mg mb Q E B F X N Tp hk hG hd hu fun r news' h' g' tk' F' N' G' hr => ?_
  obtain ⟨t, us', ds', n', tl, _, _, h1, h2, h3, h4⟩ := hr
  exact hret _ _ _ _ _ F' N' G' ⟨t, us', n', tl, h1, h2, h3, h4⟩
local macro_rules | `(tactic| walk_at "CompSrc") => `(tactic| (refine hold_it ?_))
local macro_rules | `(tactic| walk_at "call builtin:sum") => `(tactic| (k_here; (with_reducible show wpAny _ _ (call (Value.builtin _) [Value.ref _]) _ _ _); k_dflt (refine' sum_pick ?hh ?F ?N ?m ?i ?_; (case hh => exact rfl); (case F => k_asm); (case N => k_asm); (case m => k_mem); (case i => assumption)); (intro S' h' tk' t' F' N')))
local macro_rules | `(tactic| walk_at "binaryOp FloorDiv int int") => `(tactic| (k_here; (fail_if_success (with_reducible show wpAny _ _ (binaryOp _ _ (.int (OfNat.ofNat _) _)) _ _ _)); k_dflt (first | (with_reducible refine fdiv120 (by assumption) (by assumption) ?_) | (with_reducible refine fdiv11 (by assumption) (by assumption) ?_))))
theorem depth_le : ∀ t : T, t.depth ≤ t.size + 1
  | .leaf _ => Nat.le_refl _
  | .node _ l r => by
    have := depth_le l; have := depth_le r
    simp only [T.depth, T.size]; omega
theorem bl12 (a : Int) : -6 ≤ a.fmod 12 - 6 ∧ a.fmod 12 - 6 ≤ 5 := by
  have := fmod_lt (a := a) (b := 12) (by decide)
  omega
theorem bh6 (l a : Int) : l + 1 ≤ l + 1 + a.fmod 6 ∧ l + 1 + a.fmod 6 ≤ l + 6 := by
  have := fmod_lt (a := a) (b := 6) (by decide)
  omega
theorem bt8 (a : Int) : 1 ≤ 1 + a.fmod 8 ∧ 1 + a.fmod 8 ≤ 8 := by
  have := fmod_lt (a := a) (b := 8) (by decide)
  omega
theorem sub5 (a : Int) : -5 ≤ a.fmod 11 - 5 ∧ a.fmod 11 - 5 ≤ 5 := by
  have := fmod_lt (a := a) (b := 11) (by decide)
  omega
theorem pow9 {k : Int} (h : k < 9) : k ≤ 1000000 := by omega
local macro_rules | `(tactic| walk_at "binaryOp Pow int int") => `(tactic| (k_here; k_dflt (refine pow_int_small (by assumption) (pow9 (by assumption)) (by decide) ?_)))
/-- what stands behind the first part of the law -/
structure Part1 (w : World) (h₀ : Heap) (L : Addr) (m : Str → Option Value) (h : Heap) (t : T) (v : Value) (ns : List Int) (us : List Value) (D : Addr) (nD : Nat) (sec low high turn : Int) (o1 o2 o3 : Obj) (tl : List (Addr × Obj)) : Prop where
  fr : Fr h₀ L h m
  led : News h₀ L h ((D, PySem.W.listOf us.toArray nD) :: (L + 1 + 1 + 1, o3) :: (L + 1 + 1, o2) :: (L + 1, o1) :: (283, tabObj #[]) :: tl)
  offD : @Ne Nat D 283
  off : ∀ p ∈ tl, p.1 ≠ 283
  tree : TreeIn tl v t
  size : t.size = 4
  kint : IntsAre us ns
  len : us.length = 5
  small : ∀ n ∈ ns, -5 ≤ n ∧ n ≤ 5
  cell2 : ∃ tk, o2.data = .cell (some (.int sec tk))
  cell3 : o3.data = .cell (some (.ref D))
  mtree : m (Str.ofString "tree") = some v
  mlow : ∃ tk, m (Str.ofString "low") = some (.int low tk)
  mhigh : ∃ tk, m (Str.ofString "high") = some (.int high tk)
  mformula : ∃ tk, m (Str.ofString "formula") = some (.str t.text tk)
  mturn : ∃ tk, m (Str.ofString "turn") = some (.int turn tk)
  lowB : -6 ≤ low ∧ low ≤ 5
  highB : low + 1 ≤ high ∧ high ≤ low + 6
  turnB : 1 ≤ turn ∧ turn ≤ 8
set_option maxRecDepth 100000 in
set_option maxHeartbeats 8000000 in
theorem law_part1a (w : World) {fa : Addr} {cd : Value} {base h₀ : Heap} {L l : Addr} {m : Str → Option Value} {s : Shared} {vs : List Value} {ns : List Int} {o1 o2 o3 : Obj} {v1 v2 v3 : Option Value} {p : Program} {loose : List Str} {mean : ExcName → Option Value} {mg mb : Str → Option Value} {Q : Flow → Shared → Prop} {E : Value → Shared → Prop} (rest : List Stmt)
    (B : Below callerA base [] h₀) (F : Fr h₀ L s.heap m) (hm : m (Str.ofString "script") = some (.ref l)) (X : (heap w.params).In h₀) (N : News h₀ L s.heap [(L + 1 + 1 + 1, o3), (L + 1 + 1, o2), (L + 1, o1), (283, tabObj #[])]) (Tp : Top p loose mean mg mb h₀)
    (hl : h₀.IsList l vs.toArray) (hi : IntsAre vs ns) (hkl : vs.length = ns.length) (hlen : ns.length ≤ 63) (d1 : o1.data = .cell v1) (d2 : o2.data = .cell v2) (d3 : o3.data = .cell v3) (l0 : @LT.lt Nat _ 283 L) (hG : AllBare s.gens)
    (hQ : ∀ (h' : Heap) (g' : Array GenState) (tk' : Nat) (m' : Str → Option Value) (t : T) (v : Value) (sec : Int) (tks : Tok) (o1 o2 : Obj) (tl : List (Addr × Obj)), Fr h₀ L h' m' → News h₀ L h' ((L + 1 + 1 + 1, o3) :: (L + 1 + 1, o2) :: (L + 1, o1) :: (283, tabObj #[]) :: tl) → AllBare g' → TreeIn tl v t → t.size + 1 = 5 →
      (∀ p ∈ tl, p.1 ≠ L + 1 + 1 + 1) → (∀ p ∈ tl, p.1 ≠ 283) → o2.data = .cell (some (.int sec tks)) → m' (Str.ofString "tree") = some v →
      wpAny (model PySem.Challenge.rw_sh0064_01.prog w) (ktrTop 302 7 (some []) (Str.ofString "law") lawSc L fa cd (cellsFrom (L + 1) lawSc.names []) []) (execs rest (envOfC (Str.ofString "law") lawSc L fa cd)) Q E ⟨h', g', s.drawn, tk', s.os⟩) :
    wpAny (model PySem.Challenge.rw_sh0064_01.prog w) (ktrTop 302 7 (some []) (Str.ofString "law") lawSc L fa cd (cellsFrom (L + 1) lawSc.names []) []) (execs (nthS lawB 0 :: nthS lawB 1 :: nthS lawB 2 :: rest) (envOfC (Str.ofString "law") lawSc L fa cd)) Q E s := by
  revert X; k_fill; intro X
  conv in (occs := *) lawSc => all_goals whnf
  conv in (nthS lawB 0) => whnf
  conv in (nthS lawB 1) => whnf
  conv in (nthS lawB 2) => whnf
  have F0 := know1 F hm
  clear F
  k_steps
  unfold Hold
  rename IsRange _ _ _ _ _ _ _ _ => hr
  rename News _ _ _ _ => N5
  rename Fr _ _ _ _ => F5
  refine LCg.CompSrc.range (n := 9) rfl F5 N5 hr (by decide) (by decide) (by decide) ?_
  intro g
  refine comp_invN 9 (fun i ys nw => nw = ledF N5 ∧ ∃ ms, IntsAre ys ms ∧ ms.length = i) ?_ 9 0 [] _ rfl ?_ ⟨rfl, [], .nil, rfl⟩
  · intro i ys nw v I oI C oC D m₂ h tk E' hi9 hJ hP hoC hv F N o3 ne
    obtain ⟨rfl, ms, hms, hlen⟩ := hJ
    obtain ⟨tv, rfl⟩ := hP
    have hk0 : (0 : Int) ≤ 0 + (i : Int) := by omega
    have hk9 : (0 : Int) + (i : Int) < 9 := by omega
    simp only [ledF] at N o3
    k_steps
    exact LCg.CompEnd.intro (by assumption) N _ (fun p hp => hp) o3 trivial ⟨rfl, _, ints_snoc hms _ _, by simp [hlen]⟩
  intro ys nw hJ
  obtain ⟨rfl, ms, hms, hlen⟩ := hJ
  intro D h tk F7 N7 o7
  simp only [ledF] at N7 o7
  have hl9' : ys.length = 9 := hms.length.trans hlen
  have hGb := hG
  k_steps
  ((try unfold Hold); refine' fn_use ?IH ?k1 ?k2 ?k3 ?k4 ?k5 ?kK ?kG ?kd ?ku ?_; (case IH => exact tree_led N7 _ _ hms hl9' (off1_ne o7)); (case k1 => k_asm); (case k2 => k_asm); (case k3 => k_asm); (case k4 => k_asm); (case k5 => k_asm); (case kK => first | exact rfl | assumption); (case kG => assumption); (case kd => first | decide | (refine Nat.lt_of_le_of_lt (?_ : _ ≤ 400) (by decide); omega)); (case ku => first | decide | (refine Nat.lt_of_le_of_lt (?_ : _ ≤ 2000) (by decide); omega)); intro r1 news1 h1 g1 tk1 F1 N1 G1 hR1)
  obtain ⟨t, us', nD, tl, hszt, e1, hTree, hneD⟩ := hR1
  subst e1
  clear N5 N7 F5 F7 hr g
  rename News _ _ _ _ => N5
  obtain ⟨tl2, hTree2, N6, hn3, hn2, hn1, hn0⟩ := tree_here N5 hTree (by intro _ _ q; rw [(by assumption : Obj.data _ = .cell _)] at q; cases q) (by intro _ _ q; rw [(by assumption : Obj.data _ = .cell _)] at q; cases q) (by intro _ _ q; rw [d3] at q; cases q) (by intro _ _ q; cases q)
  clear N5 hTree hneD o7 hms hl9' hlen
  k_steps
  dsimp only
  exact hQ _ _ _ _ t _ _ _ _ _ tl2 (by k_asm) (by k_asm) (by assumption) hTree2 hszt hn3 hn0 (by assumption) (by with_unfolding_all rfl)
set_option maxRecDepth 100000 in
set_option maxHeartbeats 8000000 in
theorem law_part1b (w : World) {fa : Addr} {cd : Value} {base h₀ : Heap} {L : Addr} {m : Str → Option Value} {s : Shared} {sec : Int} {tks : Tok} {o1 o2 o3 : Obj} {v3 : Option Value} {tl : List (Addr × Obj)} {p : Program} {loose : List Str} {mean : ExcName → Option Value} {mg mb : Str → Option Value} {Q : Flow → Shared → Prop} {E : Value → Shared → Prop} (rest : List Stmt)
    (B : Below callerA base [] h₀) (F : Fr h₀ L s.heap m) (X : (heap w.params).In h₀) (N : News h₀ L s.heap ((L + 1 + 1 + 1, o3) :: (L + 1 + 1, o2) :: (L + 1, o1) :: (283, tabObj #[]) :: tl)) (Tp : Top p loose mean mg mb h₀)
    (hn3 : ∀ p ∈ tl, p.1 ≠ L + 1 + 1 + 1) (hc2 : o2.data = .cell (some (.int sec tks))) (d3 : o3.data = .cell v3) (l0 : @LT.lt Nat _ 283 L) (hG : AllBare s.gens)
    (hQ : ∀ (h' : Heap) (g' : Array GenState) (tk' : Nat) (m' : Str → Option Value) (ns : List Int) (us : List Value) (D : Addr) (nD : Nat) (o3 : Obj), Fr h₀ L h' m' → News h₀ L h' ((D, PySem.W.listOf us.toArray nD) :: (L + 1 + 1 + 1, o3) :: (L + 1 + 1, o2) :: (L + 1, o1) :: (283, tabObj #[]) :: tl) → AllBare g' → @Ne Nat D 283 → IntsAre us ns → us.length = 5 → (∀ n ∈ ns, -5 ≤ n ∧ n ≤ 5) →
      o3.data = .cell (some (.ref D)) → (∀ y, m' y = m y) →
      wpAny (model PySem.Challenge.rw_sh0064_01.prog w) (ktrTop 302 7 (some []) (Str.ofString "law") lawSc L fa cd (cellsFrom (L + 1) lawSc.names []) []) (execs rest (envOfC (Str.ofString "law") lawSc L fa cd)) Q E ⟨h', g', s.drawn, tk', s.os⟩) :
    wpAny (model PySem.Challenge.rw_sh0064_01.prog w) (ktrTop 302 7 (some []) (Str.ofString "law") lawSc L fa cd (cellsFrom (L + 1) lawSc.names []) []) (execs (nthS lawB 3 :: rest) (envOfC (Str.ofString "law") lawSc L fa cd)) Q E s := by
  revert X; k_fill; intro X
  conv in (occs := *) lawSc => all_goals whnf
  conv in (nthS lawB 3) => whnf
  k_steps
  unfold Hold
  rename IsRange _ _ _ _ _ _ _ _ => hr
  rename News _ _ _ _ => N5
  rename Fr _ _ _ _ => F5
  refine LCg.CompSrc.range (n := 5) rfl F5 N5 hr (by decide) (by decide) (by decide) ?_
  intro g
  refine comp_invN 5 (fun i ys nw => nw = ledF N5 ∧ ∃ ms, IntsAre ys ms ∧ ms.length = i ∧ ∀ n ∈ ms, -5 ≤ n ∧ n ≤ 5) ?_ 5 0 [] _ rfl ?_ ⟨rfl, [], .nil, rfl, fun _ h => nomatch h⟩
  · intro i ys nw v I oI C oC D m₂ h tk E' hi9 hJ hP hoC hv F N o3 ne
    obtain ⟨rfl, ms, hms, hlen, hms5⟩ := hJ
    obtain ⟨tv, rfl⟩ := hP
    have hk0 : (0 : Int) ≤ 0 + (i : Int) := by omega
    have hk9 : (0 : Int) + (i : Int) < 9 := by omega
    simp only [ledF] at N o3
    k_steps
    refine LCg.CompEnd.intro (by assumption) N _ (fun p hp => hp) o3 trivial ⟨rfl, _, ints_snoc hms _ _, by simp [hlen], ?_⟩
    intro n hn
    rcases List.mem_append.mp hn with hn | hn
    · exact hms5 n hn
    · rw [List.mem_singleton.mp hn]
      exact sub5 _
  intro ys nw hJ
  obtain ⟨rfl, ms, hms, hlen, hms5⟩ := hJ
  intro D h tk F7 N7 o7
  simp only [ledF] at N7 o7
  have hl9' : ys.length = 5 := hms.length.trans hlen
  have hD3 : @Ne Nat D (L + 1 + 1 + 1) := Ne.symm (off1_ne o7 _ (.head _))
  have hD0 : @Ne Nat D 283 := Ne.symm (off1_ne o7 _ (.tail _ (.tail _ (.tail _ (.head _)))))
  k_steps
  dsimp only
  rename News _ _ _ _ => N9
  exact hQ _ _ _ _ ms ys D ys.length _ (by k_asm) N9 hG hD0 hms hl9' hms5 (by assumption) (fun _ => rfl)
set_option maxRecDepth 100000 in
set_option maxHeartbeats 8000000 in
theorem law_part1c (w : World) {fa : Addr} {cd : Value} {base h₀ : Heap} {L : Addr} {m : Str → Option Value} {s : Shared} {t : T} {v : Value} {sec : Int} {tks : Tok} {ms : List Int} {ys : List Value} {D : Addr} {nD : Nat} {o1 o2 o3 : Obj} {tl : List (Addr × Obj)} {p : Program} {loose : List Str} {mean : ExcName → Option Value} {mg mb : Str → Option Value} {Q : Flow → Shared → Prop} {E : Value → Shared → Prop} (rest : List Stmt)
    (B : Below callerA base [] h₀) (F : Fr h₀ L s.heap m) (hm : m (Str.ofString "tree") = some v) (X : (heap w.params).In h₀) (N : News h₀ L s.heap ((D, PySem.W.listOf ys.toArray nD) :: (L + 1 + 1 + 1, o3) :: (L + 1 + 1, o2) :: (L + 1, o1) :: (283, tabObj #[]) :: tl)) (Tp : Top p loose mean mg mb h₀)
    (hTree2 : TreeIn tl v t) (hszt : t.size + 1 = 5) (hn0 : ∀ p ∈ tl, p.1 ≠ 283) (hD0 : @Ne Nat D 283) (hms : IntsAre ys ms) (hl9' : ys.length = 5) (hms5 : ∀ n ∈ ms, -5 ≤ n ∧ n ≤ 5) (hc2 : o2.data = .cell (some (.int sec tks))) (hc3 : o3.data = .cell (some (.ref D))) (hG : AllBare s.gens)
    (hQ : ∀ (h' : Heap) (g' : Array GenState) (tk' : Nat) (m' : Str → Option Value) (low high turn : Int), Part1 w h₀ L m' h' t v ms ys D nD sec low high turn o1 o2 o3 tl → AllBare g' →
      wpAny (model PySem.Challenge.rw_sh0064_01.prog w) (ktrTop 302 7 (some []) (Str.ofString "law") lawSc L fa cd (cellsFrom (L + 1) lawSc.names []) []) (execs rest (envOfC (Str.ofString "law") lawSc L fa cd)) Q E ⟨h', g', s.drawn, tk', s.os⟩) :
    wpAny (model PySem.Challenge.rw_sh0064_01.prog w) (ktrTop 302 7 (some []) (Str.ofString "law") lawSc L fa cd (cellsFrom (L + 1) lawSc.names []) []) (execs (nthS lawB 4 :: nthS lawB 5 :: nthS lawB 6 :: nthS lawB 7 :: rest) (envOfC (Str.ofString "law") lawSc L fa cd)) Q E s := by
  revert X; k_fill; intro X
  conv in (occs := *) lawSc => all_goals whnf
  conv in (nthS lawB 4) => whnf
  conv in (nthS lawB 5) => whnf
  conv in (nthS lawB 6) => whnf
  conv in (nthS lawB 7) => whnf
  have F0 := know1 F hm
  clear F
  k_steps

  rename News _ _ _ _ => N8
  have hdep := depth_le t
  ((try unfold Hold); refine' fn_use ?IH ?k1 ?k2 ?k3 ?k4 ?k5 ?kK ?kG ?kd ?ku ?_; (case IH => exact text_ok w t (ledF N8) _ (hTree2.mono fun p hp => .tail _ (.tail _ (.tail _ (.tail _ (.tail _ hp))))) (by omega)); (case k1 => k_asm); (case k2 => k_asm); (case k3 => k_asm); (case k4 => k_asm); (case k5 => k_asm); (case kK => first | exact rfl | assumption); (case kG => assumption); (case kd => first | decide | (refine Nat.lt_of_le_of_lt (?_ : _ ≤ 400) (by decide); omega)); (case ku => first | decide | (refine Nat.lt_of_le_of_lt (?_ : _ ≤ 2000) (by decide); omega)); intro r2 news2 h2 g2 tk2 F2 N2 G2 hR2)
  obtain ⟨tkf, rfl, e2⟩ := hR2
  subst e2
  simp only [ledF] at N2
  clear N8
  k_steps
  dsimp only
  rename News _ _ _ _ => N9
  refine hQ _ _ _ _ _ _ _ ⟨by k_asm, N9, hD0, hn0, hTree2, by omega, hms, hl9', hms5, ⟨_, hc2⟩, hc3, by with_unfolding_all rfl, ⟨_, by with_unfolding_all rfl⟩, ⟨_, by with_unfolding_all rfl⟩, ⟨_, by with_unfolding_all rfl⟩, ⟨_, by with_unfolding_all rfl⟩, bl12 _, bh6 _ _, bt8 _⟩ (by assumption)
set_option maxRecDepth 100000 in
set_option maxHeartbeats 8000000 in
theorem law_part1 (w : World) {fa : Addr} {cd : Value} {base h₀ : Heap} {L l : Addr} {m : Str → Option Value} {s : Shared} {vs : List Value} {ns : List Int} {o1 o2 o3 : Obj} {v1 v2 v3 : Option Value} {p : Program} {loose : List Str} {mean : ExcName → Option Value} {mg mb : Str → Option Value} {Q : Flow → Shared → Prop} {E : Value → Shared → Prop} (rest : List Stmt)
    (B : Below callerA base [] h₀) (F : Fr h₀ L s.heap m) (hm : m (Str.ofString "script") = some (.ref l)) (X : (heap w.params).In h₀) (N : News h₀ L s.heap [(L + 1 + 1 + 1, o3), (L + 1 + 1, o2), (L + 1, o1), (283, tabObj #[])]) (Tp : Top p loose mean mg mb h₀) (hC : CodeHd h₀ 287 283)
    (hl : h₀.IsList l vs.toArray) (hi : IntsAre vs ns) (hkl : vs.length = ns.length) (hlen : ns.length ≤ 63) (d1 : o1.data = .cell v1) (d2 : o2.data = .cell v2) (d3 : o3.data = .cell v3) (l0 : @LT.lt Nat _ 283 L) (hG : AllBare s.gens)
    (hQ : ∀ (h' : Heap) (g' : Array GenState) (tk' : Nat) (m' : Str → Option Value) (t : T) (v : Value) (ns : List Int) (us : List Value) (D : Addr) (nD : Nat) (sec low high turn : Int) (o1 o2 o3 : Obj) (tl : List (Addr × Obj)), Part1 w h₀ L m' h' t v ns us D nD sec low high turn o1 o2 o3 tl → AllBare g' →
      wpAny (model PySem.Challenge.rw_sh0064_01.prog w) (ktrTop 302 7 (some []) (Str.ofString "law") lawSc L fa cd (cellsFrom (L + 1) lawSc.names []) []) (execs rest (envOfC (Str.ofString "law") lawSc L fa cd)) Q E ⟨h', g', s.drawn, tk', s.os⟩) :
    wpAny (model PySem.Challenge.rw_sh0064_01.prog w) (ktrTop 302 7 (some []) (Str.ofString "law") lawSc L fa cd (cellsFrom (L + 1) lawSc.names []) []) (execs (nthS lawB 0 :: nthS lawB 1 :: nthS lawB 2 :: nthS lawB 3 :: nthS lawB 4 :: nthS lawB 5 :: nthS lawB 6 :: nthS lawB 7 :: rest) (envOfC (Str.ofString "law") lawSc L fa cd)) Q E s := by
  refine law_part1a w _ B F hm X N Tp hl hi hkl hlen d1 d2 d3 l0 hG ?_
  intro h1 g1 tk1 m1 t v sec tks o1 o2 tl F1 N1 G1 hT hsz hn3 hn0 hc2 mt
  refine law_part1b w _ B F1 X N1 Tp hn3 hc2 d3 l0 G1 ?_
  intro h2 g2 tk2 m2 ns us D nD o3 F2 N2 G2 hD hms hl5 hms5 hc3 mr
  refine law_part1c w _ B F2 ((mr _).trans mt) X N2 Tp hT hsz hn0 hD hms hl5 hms5 hc2 hc3 G2 ?_
  intro h3 g3 tk3 m3 low high turn P3 G3
  exact hQ _ _ _ _ t v ns us D nD sec low high turn o1 o2 o3 tl P3 G3
end
section
local macro_rules | `(tactic| omega) => `(tactic| lia)
open PySem PySem.W PyProof.Rows PySem.Spec PySem.Calls
noncomputable abbrev lawA (L fa : Addr) (cd : Value) : Around := ktrTop 302 7 (some []) (Str.ofString "law") lawSc L fa cd (cellsFrom (L + 1) lawSc.names []) []
noncomputable abbrev lawE (L fa : Addr) (cd : Value) : Env := envOfC (Str.ofString "law") lawSc L fa cd
/-- the text with its remark -/
noncomputable def markT (x : Str) (k : Nat) (rm : Str) : Str := Txt.slice x none (some (k : Int)) ++ rm ++ Txt.slice x (some (k : Int)) none ++ rm
noncomputable def wordOf (n : Int) (q : Str × Str) (k : Nat) (rm : Str) : Str := mk (dressL n (q.1 ++ markT q.2 k rm).cps.toList)
noncomputable def WordsOk (n : Int) (specs : List (Str × Str)) (i : Nat) (wl : List Str) : Prop := wl.length = i ∧ ∀ j q, j < i → specs[j]? = some q → ∃ k rm, k < 16 ∧ rm ∈ remarks ∧ wl[j]? = some (wordOf n q k rm)
theorem WordsOk.step {n : Int} {specs : List (Str × Str)} {i : Nat} {wl : List Str} {q : Str × Str} {k : Nat} {rm : Str} (h : WordsOk n specs i wl) (hq : specs[i]? = some q) (hk : k < 16) (hr : rm ∈ remarks) : WordsOk n specs (i + 1) (wl ++ [wordOf n q k rm]) := by
  refine ⟨by simp [h.1], fun j q' hj hq' => ?_⟩
  rcases Nat.lt_or_ge j i with hlt | hge
  · obtain ⟨k', rm', a, b, c⟩ := h.2 j q' hlt hq'
    exact ⟨k', rm', a, b, by rw [List.getElem?_append_left (by rw [h.1]; exact hlt)]; exact c⟩
  · have e : j = i := by omega
    subst e
    rw [hq] at hq'
    cases hq'
    exact ⟨k, rm, hk, hr, by rw [List.getElem?_append_right (by rw [h.1]; exact Nat.le_refl _), h.1, Nat.sub_self]; rfl⟩
theorem mk_cps (x : Str) : mk x.cps.toList = x := by cases x; simp [mk]
theorem len_cps (x : Str) : x.cps.toList.length = x.length := by show _ = x.cps.size; simp
theorem mark_len {x rm : Str} {k : Nat} (hx : x.length = 17) (hk : k < 16) (hr : rm ∈ remarks) : (markT x k rm).length ≤ 27 := by
  have h1 := remark_len hr
  rw [← mk_cps x] at hx ⊢
  rw [mk_length] at hx
  unfold markT
  rw [slice_upto (by omega), slice_from (by omega)]
  simp only [Str.length_append, mk_length, List.length_take, List.length_drop]
  omega
/-- between two turns -/
inductive WdI (h₀ : Heap) (L I aS W : Addr) (led : List (Addr × Obj)) (specs : List (Str × Str)) (n : Int) (m : Str → Option Value) (s₀ : Shared) (j : Nat) (s : Shared) : Prop where
  | mk (h : Heap) (g : Array GenState) (tk : Tok) (m' : Str → Option Value) (i : Nat) (oI : Obj) (done : List Value) (nW : Nat) (wl : List Str)
    (c0 : s = ⟨h, g, s₀.drawn, tk, s₀.os⟩)
    (c1 : j = specs.length - i)
    (c2 : i ≤ specs.length)
    (c3 : IterO aS i oI)
    (c4 : Fr h₀ L h m')
    (c5 : AllBare g)
    (c6 : News h₀ L h ((I, oI) :: (W, PySem.W.listOf done.toArray nW) :: led))
    (c7 : StrsAre done wl)
    (c8 : WordsOk n specs i wl)
    (c9 : (∀ y, y ≠ Str.ofString "ends" → y ≠ Str.ofString "text" → m' y = m y))
local macro_rules | `(tactic| walk_at "call builtin:list.append") => `(tactic| (k_here; (with_reducible show wpAny _ _ (call (Value.builtin _) [Value.ref _, _]) _ _ _); k_dflt (refine' app_led ?F ?N ?U ?z ?_; (case F => k_asm); (case N => k_asm); (case U => k_upd); (case z => omega)); (intro h' F' N'; (try dsimp only [List.nil_append, List.cons_append] at N'))))
set_option maxRecDepth 100000 in
set_option maxHeartbeats 8000000 in
theorem words_loop (w : World) {fa : Addr} {cd : Value} {base h₀ : Heap} {L : Addr} {m : Str → Option Value} {s₀ s : Shared} {aS W I : Addr} {vs : List Value} {nS : Nat} {specs : List (Str × Str)} {sec : Int} {tk2 : Tok} {o2 : Obj} {led : List (Addr × Obj)} {j : Nat} {p : Program} {loose : List Str} {mean : ExcName → Option Value} {mg mb : Str → Option Value} {Q : Flow → Shared → Prop} {E : Value → Shared → Prop}
    (B : Below callerA base [] h₀) (X : (heap w.params).In h₀) (Tp : Top p loose mean mg mb h₀) (hC : CodeHd h₀ 287 283)
    (hp : Pairs led vs specs) (hsz : specs.length ≤ 5) (hsp : ∀ q ∈ specs, q.1.length ≤ 12 ∧ q.2.length = 17) (haS : (aS, PySem.W.listOf vs.toArray nS) ∈ led) (h2 : (L + 1 + 1, o2) ∈ led) (hc2 : o2.data = .cell (some (.int sec tk2))) (hW : ∀ q ∈ led, q.1 ≠ W) (hI : ∀ q ∈ led, q.1 < I) (hWI : @LT.lt Nat _ W I)
    (mW : m (Str.ofString "words") = some (.ref W))
    (hQ : ∀ (h' : Heap) (g' : Array GenState) (tk' : Nat) (m' : Str → Option Value) (done : List Value) (nW : Nat) (wl : List Str), Fr h₀ L h' m' → AllBare g' → News h₀ L h' ((W, PySem.W.listOf done.toArray nW) :: led) → StrsAre done wl → WordsOk (sec.fdiv 556592256) specs specs.length wl → (∀ y, y ≠ Str.ofString "ends" → y ≠ Str.ofString "text" → m' y = m y) → Q .next ⟨h', g', s₀.drawn, tk', s₀.os⟩)
    (hI0 : WdI h₀ L I aS W led specs (sec.fdiv 556592256) m s₀ j s) :
    codeAny (model PySem.Challenge.rw_sh0064_01.prog w) (lawA L fa cd) (.forLoop (forT (nthS lawB 9)) (.ref I) (forB (nthS lawB 9)) [] (lawE L fa cd))
      (fun r s' => match r with | .ok f => Q f s' | .error e => cameBackBy (model PySem.Challenge.rw_sh0064_01.prog w) (lawA L fa cd) (lawE L fa cd) E e s') s := by
  revert X; k_fill; intro X
  unfold lawA lawE
  conv in (occs := *) lawSc => all_goals whnf
  conv in forT (nthS lawB 9) => whnf
  conv in forB (nthS lawB 9) => whnf
  refine for_inv (WdI h₀ L I aS W led specs (sec.fdiv 556592256) m s₀) ?turn _ hI0
  case turn =>
    intro k s' E' gA hAg hI'
    obtain ⟨h, g, tk, mI, i, oI', done, nW, wl, rfl, rfl, hile, hI2, F2, G2, N2, hdn, hwl, hmI⟩ := hI'
    have hvl := hp.length
    have hdl : done.length ≤ 5 := by have := strs_len hdn; have := hwl.1; omega
    have hIn : ∀ q ∈ (W, PySem.W.listOf done.toArray nW) :: led, q.1 < I := List.forall_mem_cons.mpr ⟨hWI, hI⟩
    have F3 := know1 F2 ((hmI _ (by decide) (by decide)).trans mW)
    refine list_next (l := aS) (vs := vs) (n := nS) rfl F3 hI2 N2 (.tail _ haS) hIn ?_ ?_
    · intro v oI3 h3 hv hI3 F4 N4
      obtain ⟨a', e, x, t1, t2, n3, rfl, hkv, hmem⟩ := hp.at i v hv
      obtain ⟨he, hx⟩ := hsp _ (List.mem_of_getElem? hkv)
      dsimp only at he hx
      have hilt : i < specs.length := by
        rcases Nat.lt_or_ge i specs.length with q | q
        · exact q
        · rw [List.getElem?_eq_none q] at hkv; cases hkv
      have haW := neN (hW _ hmem)
      have h2W := neN (hW _ h2)
      have hIW : I ≠ W := Ne.symm (Nat.ne_of_lt hWI)
      dsimp only at haW h2W
      refine let_iter hI3 (N4 _ (.head _)).1 ?_
      have N5 := news_front (news_front N4 (.tail _ (.tail _ h2))) (.tail _ (.tail _ (.tail _ hmem)))
      clear N4 N2 F2 F3
      k_steps
      rename News _ _ _ _ => N6
      ((try unfold Hold); refine' fn_use ?IH ?k1 ?k2 ?k3 ?k4 ?k5 ?kK ?kG ?kd ?ku ?_; (case IH => exact mark_ok w x (sec.fdiv 11595672) t2 _ (ledF N6) hx); (case k1 => k_asm); (case k2 => k_asm); (case k3 => k_asm); (case k4 => k_asm); (case k5 => k_asm); (case kK => first | exact rfl | assumption); (case kG => assumption); (case kd => first | decide | (refine Nat.lt_of_le_of_lt (?_ : _ ≤ 400) (by decide); omega)); (case ku => first | decide | (refine Nat.lt_of_le_of_lt (?_ : _ ≤ 2000) (by decide); omega)); intro r1 news1 h1 g1 tk1 F1 N1 G1 hR1)
      obtain ⟨k, rm, tkm, hk16, hrm, rfl, e1⟩ := hR1
      subst e1
      simp only [ledF] at N1
      clear N6
      have hM : (Txt.slice x none (some (k : Int)) ++ rm ++ Txt.slice x (some (k : Int)) none ++ rm).length ≤ 27 := mark_len hx hk16 hrm
      have hMe : Txt.slice x none (some (k : Int)) ++ rm ++ Txt.slice x (some (k : Int)) none ++ rm = markT x k rm := rfl
      generalize Txt.slice x none (some (k : Int)) ++ rm ++ Txt.slice x (some (k : Int)) none ++ rm = M at hM hMe ⊢
      k_steps
      obtain ⟨ls, hls⟩ : ∃ ls, e ++ M = mk ls := ⟨_, (mk_cps _).symm⟩
      have hll : ls.length ≤ 100 := by rw [← mk_length ls, ← hls, Str.length_append]; omega
      rw [hls]
      rename News _ _ _ _ => N7
      ((try unfold Hold); refine' fn_use ?IH ?k1 ?k2 ?k3 ?k4 ?k5 ?kK ?kG ?kd ?ku ?_; (case IH => exact dress_ok w ls (sec.fdiv 556592256) _ _ (ledF N7) hll); (case k1 => k_asm); (case k2 => k_asm); (case k3 => k_asm); (case k4 => k_asm); (case k5 => k_asm); (case kK => first | exact rfl | assumption); (case kG => assumption); (case kd => first | decide | (refine Nat.lt_of_le_of_lt (?_ : _ ≤ 400) (by decide); omega)); (case ku => first | decide | (refine Nat.lt_of_le_of_lt (?_ : _ ≤ 2000) (by decide); omega)); intro r2 news2 h2 g2 tk2 F2 N2 G2 hR2)
      obtain ⟨tkd, rfl, e2⟩ := hR2
      subst e2
      simp only [ledF] at N2
      clear N7
      k_steps
      have hw : mk (dressL (sec.fdiv 556592256) ls) = wordOf (sec.fdiv 556592256) (e, x) k rm := by
        unfold wordOf
        rw [← hMe, hls]
        congr 2
      exact hAg (specs.length - (i + 1)) _ (by omega) ⟨_, _, _, _, i + 1, oI3, done ++ [.str (mk (dressL (sec.fdiv 556592256) ls)) tkd], nW + 1, wl ++ [mk (dressL (sec.fdiv 556592256) ls)], rfl, rfl, hilt, hI3, (by k_asm), G2, news_sub (by k_asm) (fun p hp => .tail _ (.tail _ hp)), strs_snoc hdn _ _, by rw [hw]; exact hwl.step hkv hk16 hrm, fun y a b => by
        show (if y = Str.ofString "text" then _ else if y = Str.ofString "ends" then _ else if y = Str.ofString "words" then _ else mI y) = m y
        rw [if_neg b, if_neg a]
        split
        · next q => rw [q, mW]
        · exact hmI y a b⟩
    · intro h3 hv F4 N4
      have hi : i = specs.length := by
        have := List.getElem?_eq_none_iff.mp hv
        omega
      subst hi
      exact hQ _ _ _ _ _ _ _ F4 G2 N4 hdn hwl fun y a b => by
        show (if y = Str.ofString "words" then _ else mI y) = m y
        split
        · next q => rw [q, mW]
        · exact hmI y a b
end
section
local macro_rules | `(tactic| omega) => `(tactic| lia)
local macro_rules | `(tactic| walk_at "no such key 0") => `(tactic| skip)
open PySem PySem.W PyProof.Rows PySem.Spec PySem.Calls
noncomputable def endsOf (low high : Int) : Str := numS low ++ Str.ofString "'" ++ numS high ++ Str.ofString "'"
noncomputable def e99 : Str := Str.ofString "-99'99'"
noncomputable def turned (x : Str) (turn : Int) : Str := Txt.slice x (some turn) none ++ Txt.slice x none (some turn)
noncomputable def specsOf (x : Str) (low high turn : Int) : List (Str × Str) := [(endsOf low high, turned x turn), (endsOf low high, x), (e99, x)]
theorem turned_len {x : Str} {turn : Int} (hx : x.length = 17) (h1 : 1 ≤ turn) (h2 : turn ≤ 8) : (turned x turn).length = 17 := by
  obtain ⟨k, rfl⟩ := Int.eq_ofNat_of_zero_le (show 0 ≤ turn by omega)
  rw [← mk_cps x] at hx ⊢
  rw [mk_length] at hx
  unfold turned
  rw [slice_upto (by omega), slice_from (by omega)]
  simp only [Str.length_append, mk_length, List.length_take, List.length_drop]
  omega
theorem ends_len {low high : Int} (h1 : -6 ≤ low) (h2 : low ≤ 5) (h3 : low + 1 ≤ high) (h4 : high ≤ low + 6) : (endsOf low high).length ≤ 12 := by
  have a := (num_text (n := low) (by omega) (by omega)).2
  have b := (num_text (n := high) (by omega) (by omega)).2
  have c : (Str.ofString "'").length = 1 := by decide +kernel
  unfold endsOf
  simp only [Str.length_append]
  omega
/-- what stands behind the second part of the law -/
structure Part2 (w : World) (h₀ : Heap) (L : Addr) (m : Str → Option Value) (h : Heap) (t : T) (v : Value) (ns : List Int) (us : List Value) (D : Addr) (nD : Nat) (sec low high turn : Int) (o1 o2 o3 : Obj) (tl : List (Addr × Obj)) (W : Addr) (done : List Value) (nW : Nat) (wl : List Str) : Prop where
  fr : Fr h₀ L h m
  led : News h₀ L h ((W, PySem.W.listOf done.toArray nW) :: (D, PySem.W.listOf us.toArray nD) :: (L + 1 + 1 + 1, o3) :: (L + 1 + 1, o2) :: (L + 1, o1) :: (283, tabObj #[]) :: tl)
  offD : @Ne Nat D 283
  offW : @LT.lt Nat _ 283 W
  off : ∀ p ∈ tl, p.1 ≠ 283
  tree : TreeIn tl v t
  size : t.size = 4
  kint : IntsAre us ns
  len : us.length = 5
  small : ∀ n ∈ ns, -5 ≤ n ∧ n ≤ 5
  cell2 : ∃ tk, o2.data = .cell (some (.int sec tk))
  cell3 : o3.data = .cell (some (.ref D))
  mtree : m (Str.ofString "tree") = some v
  mlow : ∃ tk, m (Str.ofString "low") = some (.int low tk)
  mhigh : ∃ tk, m (Str.ofString "high") = some (.int high tk)
  mformula : ∃ tk, m (Str.ofString "formula") = some (.str t.text tk)
  mwords : m (Str.ofString "words") = some (.ref W)
  lowB : -6 ≤ low ∧ low ≤ 5
  highB : low + 1 ≤ high ∧ high ≤ low + 6
  turnB : 1 ≤ turn ∧ turn ≤ 8
  kstrs : StrsAre done wl
  words : WordsOk (sec.fdiv 556592256) (specsOf t.text low high turn) 3 wl
theorem pmW {α : Type} {a b : α} {l r : List α} : ∀ p ∈ a :: b :: (l ++ r), p ∈ a :: (l ++ b :: r) := fun p hp => by
  simp only [List.mem_append, List.mem_cons] at hp ⊢
  rcases hp with h | h | h | h <;> simp [h]
theorem pmV {α : Type} {b : α} {l r : List α} : ∀ p ∈ l ++ r, p ∈ l ++ b :: r := fun p hp => by
  simp only [List.mem_append, List.mem_cons] at hp ⊢
  rcases hp with h | h <;> simp [h]
theorem pmU {α : Type} {a b c d e : α} {r : List α} : ∀ p ∈ a :: r, p ∈ a :: b :: c :: d :: e :: r := fun p hp => by
  simp only [List.mem_cons] at hp ⊢
  rcases hp with h | h <;> simp [h]
local macro_rules | `(tactic| walk_at "binaryOp Add str str") => `(tactic| ((refine SBL.add (hsz := ?hsz) ?_); (case hsz => size_fits); intro _ _ _))
set_option maxRecDepth 100000 in
set_option maxHeartbeats 8000000 in
theorem law_part2 (w : World) {fa : Addr} {cd : Value} {base h₀ : Heap} {L : Addr} {m : Str → Option Value} {s : Shared} {t : T} {v : Value} {ns : List Int} {us : List Value} {D : Addr} {nD : Nat} {sec low high turn : Int} {o1 o2 o3 : Obj} {tl : List (Addr × Obj)} {p : Program} {loose : List Str} {mean : ExcName → Option Value} {mg mb : Str → Option Value} {Q : Flow → Shared → Prop} {E : Value → Shared → Prop} (rest : List Stmt)
    (B : Below callerA base [] h₀) (P : Part1 w h₀ L m s.heap t v ns us D nD sec low high turn o1 o2 o3 tl) (X : (heap w.params).In h₀) (Tp : Top p loose mean mg mb h₀) (hC : CodeHd h₀ 287 283) (l0 : @LT.lt Nat _ 283 L) (hG : AllBare s.gens)
    (hQ : ∀ (h' : Heap) (g' : Array GenState) (tk' : Nat) (m' : Str → Option Value) (W : Addr) (done : List Value) (nW : Nat) (wl : List Str), Part2 w h₀ L m' h' t v ns us D nD sec low high turn o1 o2 o3 tl W done nW wl → AllBare g' →
      wpAny (model PySem.Challenge.rw_sh0064_01.prog w) (lawA L fa cd) (execs rest (lawE L fa cd)) Q E ⟨h', g', s.drawn, tk', s.os⟩) :
    wpAny (model PySem.Challenge.rw_sh0064_01.prog w) (lawA L fa cd) (execs (nthS lawB 8 :: nthS lawB 9 :: rest) (lawE L fa cd)) Q E s := by
  revert X; k_fill; intro X
  unfold lawA lawE
  conv in (occs := *) lawSc => all_goals whnf
  conv in (nthS lawB 8) => whnf
  conv in (nthS lawB 9) => whnf
  obtain ⟨F, N, hD0, hn0, hT, hsz, hms, hl5, hms5, ⟨tk2, hc2⟩, hc3, m1, ⟨q2, m2⟩, ⟨q3, m3⟩, ⟨q4, m4⟩, ⟨q5, m5⟩, hlow, hhigh, hturn⟩ := P
  have hx : t.text.length = 17 := by rw [len_text]; omega
  generalize htx : t.text = x at hx m4
  obtain ⟨hlow1, hlow2⟩ := hlow
  obtain ⟨hhigh1, hhigh2⟩ := hhigh
  obtain ⟨hturn1, hturn2⟩ := hturn
  have F0 := know4 F m2 m3 m4 m5
  clear F
  k_steps
  unfold ForGo
  rename News _ _ _ _ => N5
  rename Fr _ _ _ _ => F5
  rename _ < _ ∧ _ < _ ∧ _ < _ ∧ _ < _ ∧ _ < _ ∧ AllLt _ tl => lW
  rename _ < _ ∧ _ < _ ∧ _ < _ ∧ _ < _ ∧ _ < _ ∧ _ < _ ∧ _ < _ ∧ _ < _ ∧ _ < _ ∧ AllLt _ tl => lS
  have hel := ends_len hlow1 hlow2 hhigh1 hhigh2
  have htl := turned_len hx hturn1 hturn2
  have h99 : e99.length ≤ 12 := by decide +kernel
  refine list_iter (vs := [.ref _, .ref _, .ref _]) (n := 0) F5 N5 (.head _) fun I oI h1 hI F1 N1 hlt => ?_
  have N1' := news_sub N1 (pmW (l := [_, _, _, _]))
  refine words_loop w (specs := specsOf x low high turn) (j := 3) (s₀ := ⟨s.heap, s.gens, s.drawn, s.toks, s.os⟩) B X Tp hC ?hp (by simp [specsOf]) ?hsp (.head _) ?h2 hc2 ?hW (fun q hq => hlt q (pmV (l := [_, _, _, _]) q hq)) (hlt (_, PySem.W.listOf #[] 0) (.tail _ (.tail _ (.tail _ (.tail _ (.head _)))))) ?mW ?hQ ⟨_, _, _, _, 0, oI, [], 0, [], rfl, rfl, Nat.zero_le _, hI, F1, hG, N1', .nil, ⟨rfl, fun _ _ h => absurd h (Nat.not_lt_zero _)⟩, fun _ _ _ => rfl⟩
  case hp => exact .cons (.tail _ (.tail _ (.tail _ (.head _)))) (.cons (.tail _ (.tail _ (.head _))) (.cons (.tail _ (.head _)) .nil))
  case hsp => exact List.forall_mem_cons.mpr ⟨⟨hel, htl⟩, List.forall_mem_cons.mpr ⟨⟨hel, hx⟩, List.forall_mem_cons.mpr ⟨⟨h99, hx⟩, fun _ h => nomatch h⟩⟩⟩
  case h2 => exact .tail _ (.tail _ (.tail _ (.tail _ (.tail _ (.tail _ (.head _))))))
  case hW =>
    repeat' (refine List.forall_mem_cons.mpr ⟨?_, ?_⟩; · k_ne)
    exact fun q hq => Nat.ne_of_lt (allLt_mem lW.2.2.2.2.2 q hq)
  case mW => with_unfolding_all rfl
  case hQ =>
    intro h' g' tk' m' done nW wl F9 G9 N9 hdn hwl hm
    k_steps
    dsimp only
    refine hQ _ _ _ _ _ done nW wl ⟨F9, news_sub N9 pmU, hD0, lW.2.2.2.2.1, hn0, hT, hsz, hms, hl5, hms5, ⟨tk2, hc2⟩, hc3, ?_, ⟨q2, ?_⟩, ⟨q3, ?_⟩, ⟨q4, ?_⟩, ?_, ⟨hlow1, hlow2⟩, ⟨hhigh1, hhigh2⟩, ⟨hturn1, hturn2⟩, hdn, by rw [htx]; exact hwl⟩ G9
    · rw [hm _ (by decide) (by decide)]; with_unfolding_all exact m1
    · rw [hm _ (by decide) (by decide)]; with_unfolding_all rfl
    · rw [hm _ (by decide) (by decide)]; with_unfolding_all rfl
    · rw [hm _ (by decide) (by decide), htx]; with_unfolding_all rfl
    · rw [hm _ (by decide) (by decide)]; with_unfolding_all rfl
end
section
local macro_rules | `(tactic| omega) => `(tactic| lia)
open PySem PySem.W PyProof.Rows PySem.Spec PySem.Calls
noncomputable def letterN (k : Nat) : Str := mk [letters.getD k 0]
noncomputable def pairsOf (ns : List Int) : List (Str × Str) := (List.range 5).map fun k => (letterN k, numS (ns.getD k 0))
theorem pairs_take {ns : List Int} {i : Nat} (h : i < 5) : (pairsOf ns).take (i + 1) = (pairsOf ns).take i ++ [(letterN i, numS (ns.getD i 0))] := by
  rw [List.take_add_one]
  congr 1
  unfold pairsOf
  rw [List.getElem?_map, List.getElem?_range h]
  rfl
theorem item_letterN : ∀ i : Nat, i < 5 → Txt.item (Str.ofString "aBcDe") (i : Int) = letterN i := by decide +kernel
/-- what every later part knows of the ledger -/
structure Old (L : Addr) (nw : List (Addr × Obj)) (t : T) (v : Value) (ns : List Int) (us : List Value) (D : Addr) (nD : Nat) (sec low high turn : Int) (o2 o3 : Obj) : Prop where
  tree : TreeIn nw v t
  size : t.size = 4
  kint : IntsAre us ns
  len : us.length = 5
  small : ∀ n ∈ ns, -5 ≤ n ∧ n ≤ 5
  cell2 : ∃ tk, o2.data = .cell (some (.int sec tk))
  cell3 : o3.data = .cell (some (.ref D))
  lowB : -6 ≤ low ∧ low ≤ 5
  highB : low + 1 ≤ high ∧ high ≤ low + 6
  turnB : 1 ≤ turn ∧ turn ≤ 8
  inD : (D, PySem.W.listOf us.toArray nD) ∈ nw
  in3 : (L + 1 + 1 + 1, o3) ∈ nw
  in2 : (L + 1 + 1, o2) ∈ nw
structure OldM (m : Str → Option Value) (t : T) (v : Value) (low high : Int) : Prop where
  mtree : m (Str.ofString "tree") = some v
  mlow : ∃ tk, m (Str.ofString "low") = some (.int low tk)
  mhigh : ∃ tk, m (Str.ofString "high") = some (.int high tk)
  mformula : ∃ tk, m (Str.ofString "formula") = some (.str t.text tk)
theorem Old.mono {L : Addr} {nw nw' : List (Addr × Obj)} {t : T} {v : Value} {ns : List Int} {us : List Value} {D : Addr} {nD : Nat} {sec low high turn : Int} {o2 o3 : Obj} (h : Old L nw t v ns us D nD sec low high turn o2 o3) (hs : ∀ p ∈ nw, p ∈ nw') : Old L nw' t v ns us D nD sec low high turn o2 o3 :=
  ⟨h.tree.mono hs, h.size, h.kint, h.len, h.small, h.cell2, h.cell3, h.lowB, h.highB, h.turnB, hs _ h.inD, hs _ h.in3, hs _ h.in2⟩
theorem pmT {α : Type} {a b : α} {l r : List α} : ∀ p ∈ a :: b :: (l ++ r), p ∈ b :: (l ++ a :: r) := fun p hp => by
  simp only [List.mem_append, List.mem_cons] at hp ⊢
  rcases hp with h | h | h | h <;> simp [h]
theorem pmS {α : Type} {a b c i d e : α} {r : List α} : ∀ p ∈ i :: d :: e :: a :: r, p ∈ a :: b :: c :: i :: d :: e :: r := fun p hp => by
  simp only [List.mem_cons] at hp ⊢
  rcases hp with h | h | h | h | h <;> simp [h]
local macro_rules | `(tactic| walk_at "CompSrc") => `(tactic| (refine hold_it ?_))
set_option maxRecDepth 100000 in
set_option maxHeartbeats 8000000 in
theorem law_part3 (w : World) {fa : Addr} {cd : Value} {base h₀ : Heap} {L : Addr} {m : Str → Option Value} {s : Shared} {nw : List (Addr × Obj)} {t : T} {v : Value} {ns : List Int} {us : List Value} {D : Addr} {nD : Nat} {sec low high turn : Int} {o2 o3 : Obj} {p : Program} {loose : List Str} {mean : ExcName → Option Value} {mg mb : Str → Option Value} {Q : Flow → Shared → Prop} {E : Value → Shared → Prop} (rest : List Stmt)
    (B : Below callerA base [] h₀) (F : Fr h₀ L s.heap m) (N : News h₀ L s.heap ((283, tabObj #[]) :: nw)) (P : Old L nw t v ns us D nD sec low high turn o2 o3) (X : (heap w.params).In h₀) (Tp : Top p loose mean mg mb h₀) (hC : CodeHd h₀ 287 283) (l0 : @LT.lt Nat _ 283 L) (hG : AllBare s.gens) (off : ∀ q ∈ nw, q.1 ≠ 283)
    (hQ : ∀ (h' : Heap) (g' : Array GenState) (tk' : Nat) (m' : Str → Option Value) (Dp : Addr) (ys : List Value) (nP : Nat) (nw' : List (Addr × Obj)), Fr h₀ L h' m' → News h₀ L h' ((283, tabObj #[]) :: nw') → (∀ p ∈ nw, p ∈ nw') → (∀ q ∈ nw', q.1 ≠ 283) → (Dp, PySem.W.listOf ys.toArray nP) ∈ nw' → Pairs nw' ys (pairsOf ns) → AllBare g' → m' (Str.ofString "pairs") = some (.ref Dp) → (∀ y, y ≠ Str.ofString "pairs" → m' y = m y) →
      wpAny (model PySem.Challenge.rw_sh0064_01.prog w) (lawA L fa cd) (execs rest (lawE L fa cd)) Q E ⟨h', g', s.drawn, tk', s.os⟩) :
    wpAny (model PySem.Challenge.rw_sh0064_01.prog w) (lawA L fa cd) (execs (nthS lawB 10 :: rest) (lawE L fa cd)) Q E s := by
  revert X; k_fill; intro X
  unfold lawA lawE
  conv in (occs := *) lawSc => all_goals whnf
  conv in (nthS lawB 10) => whnf
  obtain ⟨hT, hsz, hms, hl5, hms5, ⟨tk2, hc2⟩, hc3, ⟨hlow1, hlow2⟩, ⟨hhigh1, hhigh2⟩, ⟨hturn1, hturn2⟩, iD, i3, i2⟩ := P
  k_steps
  unfold Hold
  rename IsRange _ _ _ _ _ _ _ _ => hr
  rename News _ _ _ _ => N5
  rename Fr _ _ _ _ => F5
  refine LCg.CompSrc.range (n := 5) rfl F5 N5 hr (by decide) (by decide) (by decide) ?_
  intro g
  refine comp_invN 5 (fun i ys nw9 => ∃ tups, nw9 = tups ++ ledF N5 ∧ Pairs tups ys ((pairsOf ns).take i) ∧ ∀ q ∈ tups, q.1 ≠ 283) ?_ 5 0 [] _ rfl ?_ ⟨[], rfl, .nil, fun _ h => nomatch h⟩
  · intro i ys nw9 v I oI C oC D9 m₂ h tk E' hi9 hJ hP hoC hv F N o9 ne
    obtain ⟨tups, rfl, hps, hoff⟩ := hJ
    obtain ⟨tv, rfl⟩ := hP
    have hns5 : ns.length = 5 := by have := ints_len hms; omega
    have hk0 : (0 : Int) ≤ 0 + (i : Int) := by omega
    have hk9 : (0 : Int) + (i : Int) < 5 := by omega
    simp only [ledF] at N o9
    have N7 := news_front (news_front N (.tail _ (.tail _ (.tail _ (List.mem_append_right _ (.tail _ i3)))))) (.tail _ (.tail _ (.tail _ (.tail _ (List.mem_append_right _ (.tail _ iD))))))
    have ei : (0 + (i : Int)).toNat = i := by omega
    have hgm : ns.getD (0 + (i : Int)).toNat 0 ∈ ns := by
      rw [ei, List.getD_eq_getElem?_getD, List.getElem?_eq_getElem (by omega)]
      exact List.getElem_mem _
    obtain ⟨b1, b2⟩ := hms5 _ hgm
    k_steps
    rename _ < _ ∧ _ < _ ∧ _ < _ ∧ _ < _ ∧ _ < _ ∧ AllLt _ _ => l9
    rename News _ _ _ _ => N8
    have hT283 := allLt_mem l9.2.2.2.2.2 (283, tabObj #[]) (List.mem_append_right _ (.head _))
    refine LCg.CompEnd.intro (by assumption) N8 (_ :: (tups ++ (283, tabObj #[]) :: nw)) pmS ⟨⟨Nat.ne_of_gt l9.2.2.1, Nat.ne_of_gt l9.2.2.2.1, Nat.ne_of_gt l9.2.2.2.2.1⟩, o9⟩ trivial ⟨_ :: tups, rfl, ?_, List.forall_mem_cons.mpr ⟨Nat.ne_of_gt hT283, hoff⟩⟩
    have e1 : letterN i = Txt.item (Str.ofString "aBcDe") (0 + (i : Int)) := by rw [Int.zero_add, item_letterN i hi9]
    have e2 : numS (ns.getD i 0) = Str.ofString (toString (ns.getD (0 + (i : Int)).toNat 0)) := by rw [ei]; rfl
    rw [pairs_take hi9, e1, e2]
    exact (hps.mono fun q hq => .tail _ hq).snoc (.head _)
  intro ys nw9 hJ
  obtain ⟨tups, rfl, hps, hoff⟩ := hJ
  intro D9 h tk F7 N7 o7
  simp only [ledF] at N7 o7
  k_steps
  dsimp only
  have hn0 : ∀ q ∈ tups ++ nw, q.1 ≠ 283 := fun q hq => (List.mem_append.mp hq).elim (hoff q) (off q)
  have hD9 : D9 ≠ 283 := fun e => off1_ne o7 (283, tabObj #[]) (List.mem_append_right _ (.head _)) e.symm
  have hl5' : (pairsOf ns).length = 5 := by simp [pairsOf]
  rw [List.take_of_length_le (by omega)] at hps
  refine hQ _ _ _ _ D9 ys ys.length ((D9, LCg.lst ys) :: (tups ++ nw)) F7 (news_sub N7 pmT) (fun q hq => .tail _ (List.mem_append_right _ hq)) (List.forall_mem_cons.mpr ⟨hD9, hn0⟩) (.head _) (hps.mono fun q hq => .tail _ (List.mem_append_left _ hq)) hG (by with_unfolding_all rfl) (fun y a => if_neg a)
end
section
local macro_rules | `(tactic| omega) => `(tactic| lia)
open PySem PySem.W PyProof.Rows PySem.Spec PySem.Calls PyProof.Rows.LCg
noncomputable def lineC (p : Str × Str) : List Nat := p.1.cps.toList ++ 32 :: (p.2.cps.toList ++ [10])
noncomputable def lineOf (p : Str × Str) : Str := p.1 ++ Str.ofString " " ++ p.2 ++ Str.ofString "\n"
theorem line_mk (p : Str × Str) : lineOf p = mk (lineC p) := by
  unfold lineOf lineC
  rw [show Str.ofString " " = mk [32] by decide +kernel, show Str.ofString "\n" = mk [10] by decide +kernel]
  rw [← mk_cps p.1, ← mk_cps p.2, mk_append, mk_append, mk_append]
  congr 1
  simp [mk]
noncomputable def namesC (ns : List Int) (k : Nat) : List Nat := (pairsOf ns).flatMap lineC ++ [65 + k, 32, 57, 32]
theorem pairs_get {ns : List Int} {i : Nat} {q : Str × Str} (h : (pairsOf ns)[i]? = some q) : i < 5 ∧ q = (letterN i, numS (ns.getD i 0)) := by
  unfold pairsOf at h
  rw [List.getElem?_map] at h
  rcases Nat.lt_or_ge i 5 with hi | hi
  · rw [List.getElem?_range hi] at h
    exact ⟨hi, (Option.some.inj h).symm⟩
  · rw [List.getElem?_eq_none (by simpa using hi)] at h; cases h
theorem letterN_len (i : Nat) : (letterN i).length = 1 := rfl
theorem getD_small {ns : List Int} (h : ∀ n ∈ ns, -5 ≤ n ∧ n ≤ 5) (i : Nat) : -5 ≤ ns.getD i 0 ∧ ns.getD i 0 ≤ 5 := by
  rw [List.getD_eq_getElem?_getD]
  cases e : ns[i]? with
  | none => simp
  | some x => exact h x (List.mem_of_getElem? e)
theorem lineC_len {ns : List Int} (h : ∀ n ∈ ns, -5 ≤ n ∧ n ≤ 5) {q : Str × Str} (hq : q ∈ pairsOf ns) : (lineC q).length ≤ 6 := by
  obtain ⟨i, hi⟩ := List.mem_iff_getElem?.mp hq
  obtain ⟨_, rfl⟩ := pairs_get hi
  have b := getD_small h i
  have := (num_text (n := ns.getD i 0) (by omega) (by omega)).2
  have l1 := letterN_len i
  unfold lineC
  simp only [List.length_append, List.length_cons, List.length_nil, len_cps]
  omega
theorem flat_le {α : Type} (f : α → List Nat) (n : Nat) : ∀ l : List α, (∀ a ∈ l, (f a).length ≤ n) → (l.flatMap f).length ≤ n * l.length
  | [], _ => by simp
  | a :: r, h => by
    have h1 := h a (.head _)
    have h2 := flat_le f n r fun b hb => h b (.tail _ hb)
    simp only [List.flatMap_cons, List.length_append, List.length_cons, Nat.mul_succ]; omega
theorem join_lines (ns : List Int) : Txt.join (Str.ofString "") ((pairsOf ns).map lineOf) = mk ((pairsOf ns).flatMap lineC) := by
  have : (pairsOf ns).map lineOf = ((pairsOf ns).map lineC).map mk := by
    rw [List.map_map]
    exact List.map_congr_left fun q _ => line_mk q
  rw [this, join_nil_mk, List.flatMap_def]
theorem item_big : ∀ i : Nat, i < 5 → Txt.item (Str.ofString "ABCDE") (i : Int) = mk [65 + i] := by decide +kernel
theorem str_tail : Str.ofString " 9 " = mk [32, 57, 32] := by decide +kernel
theorem item_bigZ {z : Int} (h0 : 0 ≤ z) (h1 : z < 5) : Txt.item (Str.ofString "ABCDE") z = mk [65 + z.toNat] := by
  have := item_big z.toNat (by omega)
  rwa [show ((z.toNat : Nat) : Int) = z by omega] at this
theorem pmR {α : Type} {a b c d : α} {r : List α} : ∀ p ∈ d :: r, p ∈ a :: b :: c :: d :: r := fun p hp => by
  simp only [List.mem_cons] at hp ⊢
  rcases hp with h | h <;> simp [h]
local macro_rules | `(tactic| walk_at "eval ListComp") => `(tactic| (k_here; k_dflt (refine LCp.ListComp_P (F₀ := by k_asm) (by with_unfolding_all rfl) (by decide) (by rfl) (by decide) (by rfl) (by rfl) (by decide) ?_)))
local macro_rules | `(tactic| walk_at "SrcLP") => `(tactic| (refine hold_it ?_))
set_option maxRecDepth 100000 in
set_option maxHeartbeats 8000000 in
theorem law_part4 (w : World) {fa : Addr} {cd : Value} {base h₀ : Heap} {L : Addr} {m : Str → Option Value} {s : Shared} {nw : List (Addr × Obj)} {t : T} {v : Value} {ns : List Int} {us : List Value} {D : Addr} {nD : Nat} {sec low high turn : Int} {o2 o3 : Obj} {Dp : Addr} {ys : List Value} {nP : Nat} {p : Program} {loose : List Str} {mean : ExcName → Option Value} {mg mb : Str → Option Value} {Q : Flow → Shared → Prop} {E : Value → Shared → Prop} (rest : List Stmt)
    (B : Below callerA base [] h₀) (F : Fr h₀ L s.heap m) (N : News h₀ L s.heap ((283, tabObj #[]) :: nw)) (P : Old L nw t v ns us D nD sec low high turn o2 o3) (iP : (Dp, PySem.W.listOf ys.toArray nP) ∈ nw) (hps : Pairs nw ys (pairsOf ns)) (mP : m (Str.ofString "pairs") = some (.ref Dp)) (X : (heap w.params).In h₀) (Tp : Top p loose mean mg mb h₀) (hC : CodeHd h₀ 287 283) (hG : AllBare s.gens) 
    (hQ : ∀ (h' : Heap) (g' : Array GenState) (tk' : Nat) (m' : Str → Option Value) (K : Nat), Fr h₀ L h' m' → News h₀ L h' ((283, tabObj #[]) :: nw) → AllBare g' → K < 5 → (∃ tn, m' (Str.ofString "names") = some (.str (mk (namesC ns K)) tn)) → (∀ y, y ≠ Str.ofString "names" → m' y = m y) →
      wpAny (model PySem.Challenge.rw_sh0064_01.prog w) (lawA L fa cd) (execs rest (lawE L fa cd)) Q E ⟨h', g', s.drawn, tk', s.os⟩) :
    wpAny (model PySem.Challenge.rw_sh0064_01.prog w) (lawA L fa cd) (execs (nthS lawB 11 :: rest) (lawE L fa cd)) Q E s := by
  revert X; k_fill; intro X
  unfold lawA lawE
  conv in (occs := *) lawSc => all_goals whnf
  conv in (nthS lawB 11) => whnf
  obtain ⟨hT, hsz, hms, hl5, hms5, ⟨tk2, hc2⟩, hc3, ⟨hlow1, hlow2⟩, ⟨hhigh1, hhigh2⟩, ⟨hturn1, hturn2⟩, iD, i3, i2⟩ := P
  have F0 := know1 F mP
  clear F
  have N5 := news_front (news_front N (.tail _ i2)) (.tail _ (.tail _ iP))
  clear N
  k_steps
  unfold Hold
  refine LCp.SrcLP.ledger (its := ys.toArray) (by rfl) (by k_asm) (by k_asm) (.head _) ?_ ?_
  · have := hps.length
    have h5 : (pairsOf ns).length = 5 := by simp [pairsOf]
    rw [PySem.sizeLine_eq, List.size_toArray]; omega
  intro g
  have hy5 : ys.length = 5 := by rw [hps.length]; simp [pairsOf]
  refine comp_invP 5 (fun i zs nw9 => nw9 = ledF N5 ∧ StrsAre zs (((pairsOf ns).take i).map lineOf)) ?_ _ 0 [] _ ?_ ?_ ⟨rfl, .nil⟩
  · intro i zs nw9 v hi9 hJ hP
    obtain ⟨rfl, hzs⟩ := hJ
    have hv : ys[i]? = some v := by simpa using hP
    obtain ⟨a, k, y, t1, t2, n3, rfl, hkv, hmem⟩ := hps.at i v hv
    have hq := (pairs_get hkv).2
    have hkl : k.length = 1 := by rw [(Prod.mk.inj hq).1]; rfl
    have b := getD_small hms5 i
    have hyl : y.length ≤ 3 := by rw [(Prod.mk.inj hq).2]; exact (num_text (by omega) (by omega)).2
    refine ⟨a, _, _, _, _, rfl, .tail _ (.tail _ (.tail _ hmem)), rfl, rfl, ?_⟩
    intro I oI C oC D9 m₂ h tk E' hoC hv1 hv2 F N o9 ne
    simp only [ledF] at N o9
    k_steps
    refine CompEnd.intro (by assumption) N _ (fun p hp => hp) o9 (.inr ⟨_, .head _, rfl, _, rfl⟩) ⟨rfl, ?_⟩
    rw [List.take_add_one, hkv]
    show StrsAre _ (List.map lineOf (List.take i (pairsOf ns) ++ [(k, y)]))
    rw [List.map_append]
    exact strs_snoc hzs _ _
  · show 0 + ys.toArray.size = 5
    rw [List.size_toArray]; omega
  intro zs nw9 hJ
  obtain ⟨rfl, hzs⟩ := hJ
  intro D9 h tk F7 N7 o7
  simp only [ledF] at N7 o7
  have hl5' : (pairsOf ns).length = 5 := by simp [pairsOf]
  rw [List.take_of_length_le (by omega)] at hzs
  k_steps
  refine join_end N7 rfl hzs (by simp; omega) (fun y hy => ?_) fun t' k => ?_
  · obtain ⟨q, hq, rfl⟩ := List.mem_map.mp hy
    rw [line_mk, mk_length]
    exact Nat.le_trans (lineC_len hms5 hq) (by decide)
  rw [join_lines]
  have hjl : (mk ((pairsOf ns).flatMap lineC)).length ≤ 30 := by
    rw [mk_length]
    have := flat_le lineC 6 (pairsOf ns) fun q hq => lineC_len hms5 hq
    omega
  k_steps
  have f5 := fmod_lt (a := sec) (b := 5) (by decide)
  have e : mk ((pairsOf ns).flatMap lineC) ++ Txt.item (Str.ofString "ABCDE") (sec.fmod 5) ++ Str.ofString " 9 " = mk (namesC ns (sec.fmod 5).toNat) := by
    rw [item_bigZ f5.1 f5.2, str_tail, mk_append, mk_append]
    congr 1
    simp [namesC]
  refine hQ _ _ _ _ (sec.fmod 5).toNat (by k_asm) (news_sub (by k_asm) pmR) hG (by omega) ⟨_, by rw [← e]; with_unfolding_all rfl⟩ ?_
  · intro y hy
    show (if y = Str.ofString "names" then _ else if y = Str.ofString "pairs" then _ else m y) = m y
    rw [if_neg hy]
    split
    · next q => rw [q, mP]
    · rfl
end
section
local macro_rules | `(tactic| omega) => `(tactic| lia)
open PySem PySem.W PyProof.Rows PySem.Spec PySem.Calls PyProof.Rows.LCg
section
variable {prog : Program} {w : World} {A : Around} {E : Value → Shared → Prop} {s : Shared} {h₀ : Heap} {L D : Addr} {its : Array Value} {us : List Value} {ss : List Str} {n : Nat} {t : Tok} {news : List (Addr × Obj)} {Q : Value → Shared → Prop}
theorem join_sp (N : News h₀ L s.heap news) (hm : (D, PySem.W.listOf us.toArray n) ∈ news) (hss : StrsAre us ss) (hl : ss.length ≤ 201) (hs : ∀ y ∈ ss, y.length ≤ 100)
    (h : ∀ t' k, Q (.str (Txt.join (Str.ofString " ") ss) t') { s with toks := k }) : wpAny (model prog w) A (call (.builtin "str.join") [.str (Str.ofString " ") t, .ref D]) Q E s := by
  refine join_listC (News.isList N hm) hss (by decide) ?_ h
  have := sum_len hs
  have h1 : ss.length * 100 ≤ 201 * 100 := Nat.mul_le_mul_right _ hl
  omega
end
noncomputable def restC (nm a b c : List Nat) : List Nat := nm ++ (a ++ 32 :: (b ++ 32 :: c))
theorem join3 (a b c : List Nat) : Txt.join (Str.ofString " ") [mk a, mk b, mk c] = mk (a ++ 32 :: (b ++ 32 :: c)) := by
  rw [eq_of_beq (join_plain_closes (Str.ofString " ") _), show Str.ofString " " = mk [32] by decide +kernel]
  show mk a ++ mk [32] ++ (mk b ++ mk [32] ++ mk c) = _
  rw [mk_append, mk_append, mk_append, mk_append]
  congr 1
  simp
theorem old_off {C : LexC} (O : LexOk C) {aH : Addr} (hph : @LT.lt Nat _ C.pb aH) {l : List (Addr × Obj)} (h : ∀ q ∈ l, q.1 < C.cc) : ∀ q ∈ l, q.1 ≠ C.rl ∧ q.1 ≠ C.dl ∧ q.1 ≠ C.pb ∧ q.1 ≠ aH := fun q hq => by
  have h0 := ltN (h q hq)
  have := O.a1; have := O.a2; have := O.a3; have := O.a4; have := O.a5; have := O.a6; have := O.a7; have := O.a8; have := O.a9
  refine ⟨?_, ?_, ?_, ?_⟩ <;> (refine neN ?_; omega)
local macro_rules | `(tactic| walk_at "call builtin:str.join") => `(tactic| (refine hold_it ?_))
set_option maxRecDepth 100000 in
set_option maxHeartbeats 8000000 in
theorem law_part5 (w : World) {fa : Addr} {cd : Value} {base h₀ : Heap} {L : Addr} {m : Str → Option Value} {s : Shared} {nw : List (Addr × Obj)} {W : Addr} {nW : Nat} {nm a b c : List Nat} {tn t1 t2 t3 : Tok} {its : List Item} {p : Program} {loose : List Str} {mean : ExcName → Option Value} {mg mb : Str → Option Value} {Q : Flow → Shared → Prop} {E : Value → Shared → Prop} (rest : List Stmt)
    (B : Below callerA base [] h₀) (F : Fr h₀ L s.heap m) (N : News h₀ L s.heap ((283, tabObj #[]) :: nw)) (iW : (W, PySem.W.listOf [.str (mk a) t1, .str (mk b) t2, .str (mk c) t3].toArray nW) ∈ nw) (la : a.length ≤ 100) (lb : b.length ≤ 100) (lc : c.length ≤ 100) (ln : nm.length ≤ 40)
    (mW : m (Str.ofString "words") = some (.ref W)) (mN : m (Str.ofString "names") = some (.str (mk nm) tn)) (X : (heap w.params).In h₀) (Tp : Top p loose mean mg mb h₀) (hC : CodeHd h₀ 287 283) (hG : AllBare s.gens) (off : ∀ q ∈ nw, q.1 ≠ 283)
    (hR : Reads (restC nm a b c) its) (hits : its.length ≤ 40)
    (hQ : ∀ (h' : Heap) (g' : Array GenState) (tk' : Nat) (m' : Str → Option Value) (C : LexC) (aT dT aH : Addr) (hsh : Int) (tkT : Tok) (Da : Addr) (nA : Nat) (avs vs : List Value) (n2 : Nat) (nw' : List (Addr × Obj)) (kl : Tok) (n1 n4 : Nat), LexOk C → Fr h₀ L h' m' → News h₀ L h' (readO w C (1 + nls (restC nm a b c)) kl [] n1 n4 Da avs nA (tabO aT dT aH hsh tkT 1 n2 vs) nw') → AllBare g' →
      Pairs nw' vs (readT its []) → Asked nw' avs (readA its []) → Apart C aH Da nw' → (∀ q ∈ nw, q ∈ nw') → (∃ ps, (283, tabObj ps) ∈ nw') → @LT.lt Nat _ C.pb Da → Da ≠ aH → (@LT.lt Nat _ C.pb aT ∧ @LT.lt Nat _ C.pb dT ∧ @LT.lt Nat _ C.pb aH) → m' (Str.ofString "lexer") = some (.ref C.lx) → m' (Str.ofString "table") = some (.ref aT) → m' (Str.ofString "asked") = some (.ref Da) →
      (∀ y, y ≠ Str.ofString "asked" → y ≠ Str.ofString "table" → y ≠ Str.ofString "lexer" → m' y = m y) →
      wpAny (model PySem.Challenge.rw_sh0064_01.prog w) (lawA L fa cd) (execs rest (lawE L fa cd)) Q E ⟨h', g', s.drawn, tk', s.os⟩) :
    wpAny (model PySem.Challenge.rw_sh0064_01.prog w) (lawA L fa cd) (execs (nthS lawB 12 :: nthS lawB 13 :: nthS lawB 14 :: rest) (lawE L fa cd)) Q E s := by
  revert X; k_fill; intro X
  unfold lawA lawE
  conv in (occs := *) lawSc => all_goals whnf
  conv in (nthS lawB 12) => whnf
  conv in (nthS lawB 13) => whnf
  conv in (nthS lawB 14) => whnf
  have F0 := know2 F mW mN
  clear F
  k_steps
  unfold Hold
  have lnm : (mk nm).length ≤ 40 := by rw [mk_length]; exact ln
  refine join_sp N (.tail _ iW) (.cons _ _ (.cons _ _ (.cons _ _ .nil))) (by simp) (by simp [mk_length]; omega) fun t' k => ?_
  rw [join3]
  have lj : (mk (a ++ 32 :: (b ++ 32 :: c))).length ≤ 302 := by rw [mk_length]; simp; omega
  k_steps
  have er : mk nm ++ mk (a ++ 32 :: (b ++ 32 :: c)) = mk (restC nm a b c) := by rw [mk_append]; rfl
  have hrl : (restC nm a b c).length ≤ 400 := by unfold restC; simp; omega
  rw [er]
  ((try unfold Hold); refine' fn_use ?IH ?k1 ?k2 ?k3 ?k4 ?k5 ?kK ?kG ?kd ?ku ?_; (case IH => exact lexer_ok w (mk (restC nm a b c)) _ nw (by rw [mk_length]; omega) off); (case k1 => k_asm); (case k2 => k_asm); (case k3 => k_asm); (case k4 => k_asm); (case k5 => k_asm); (case kK => first | exact rfl | assumption); (case kG => assumption); (case kd => first | decide | (refine Nat.lt_of_le_of_lt (?_ : _ ≤ 400) (by decide); omega)); (case ku => first | decide | (refine Nat.lt_of_le_of_lt (?_ : _ ≤ 2000) (by decide); omega)); intro r1 news1 h1 g1 tk1 F1 N1 G1 hR1)
  obtain ⟨C, kl, us, n1, n4, ps, rfl, O, hus, hlt, h283, e1⟩ := hR1
  subst e1
  have hus' : StrsAre us (chs (restC nm a b c)) := by
    have : chars (mk (restC nm a b c)) = chs (restC nm a b c) := by simp [chars, chs, mk]
    rw [← this]; exact hus
  clear N
  k_steps
  rename News _ _ _ _ => N5
  ((try unfold Hold); refine' fn_use ?IH ?k1 ?k2 ?k3 ?k4 ?k5 ?kK ?kG ?kd ?ku ?_; (case IH => exact new_ok w (ledF N5)); (case k1 => k_asm); (case k2 => k_asm); (case k3 => k_asm); (case k4 => k_asm); (case k5 => k_asm); (case kK => first | exact rfl | assumption); (case kG => assumption); (case kd => first | decide | (refine Nat.lt_of_le_of_lt (?_ : _ ≤ 400) (by decide); omega)); (case ku => first | decide | (refine Nat.lt_of_le_of_lt (?_ : _ ≤ 2000) (by decide); omega)); intro r2 news2 h2 g2 tk2 F2 N2 G2 hR2)
  obtain ⟨aT, dT, aH, tkT, rfl, e2, hltT, hdT, haT⟩ := hR2
  subst e2
  simp only [ledF] at N2 hltT
  clear N5
  k_steps
  rename News _ _ _ _ => N6
  have N7 := news_sub N6 (swapM (a := tabO aT dT aH (PyData.keyHash w.params (Str.ofString "_headers")) tkT 1 0 []) (b := lexO w.params C 1 kl [] us n1 n4) (l := (283, tabObj ps) :: nw))
  have hpd : @LT.lt Nat _ C.pb dT := ltN (hltT (C.pb, _) (List.mem_append_left _ (.head _)))
  have hpa : @LT.lt Nat _ C.pb aT := Nat.lt_trans hpd hdT
  have hph : @LT.lt Nat _ C.pb aH := Nat.lt_trans hpa haT
  have hda : @LT.lt Nat _ dT aH := Nat.lt_trans hdT haT
  have hall : ∀ q ∈ (283, tabObj ps) :: nw, q.1 < C.cc := List.forall_mem_cons.mpr ⟨h283, hlt⟩
  have hap := old_off O hph hall
  ((try unfold Hold); refine' fn_use ?IH ?k1 ?k2 ?k3 ?k4 ?k5 ?kK ?kG ?kd ?ku ?_; (case IH => exact read_ok w C O (1 + nls (restC nm a b c)) 1 kl us (restC nm a b c) its n1 n4 aT dT aH (PyData.keyHash w.params (Str.ofString "_headers")) tkT 1 0 ((283, tabObj ps) :: nw) hus' (by omega) rfl hR hits hpa hpd hph (Nat.ne_of_lt haT) (Nat.ne_of_lt hda) hap); (case k1 => k_asm); (case k2 => k_asm); (case k3 => k_asm); (case k4 => k_asm); (case k5 => k_asm); (case kK => first | exact rfl | assumption); (case kG => assumption); (case kd => first | decide | (refine Nat.lt_of_le_of_lt (?_ : _ ≤ 400) (by decide); omega)); (case ku => first | decide | (refine Nat.lt_of_le_of_lt (?_ : _ ≤ 2000) (by decide); omega)); intro r3 news3 h3 g3 tk3 F3 N3 G3 hR3)
  obtain ⟨Da, nA, avs, vs, n2', nw', kl', n1', n4', rfl, e3, hps, hask, hapn, hsub, hpD, hDa⟩ := hR3
  subst e3
  clear N6 N7
  k_steps
  dsimp only
  refine hQ _ _ _ _ C aT dT aH (PyData.keyHash w.params (Str.ofString "_headers")) tkT Da nA avs vs n2' nw' kl' n1' n4' O (by k_asm) (by k_asm) G3 hps hask hapn (fun q hq => hsub q (.tail _ hq)) ⟨ps, hsub _ (.head _)⟩ hpD hDa ⟨hpa, hpd, hph⟩ (by with_unfolding_all rfl) (by with_unfolding_all rfl) (by with_unfolding_all rfl) ?_
  intro y h1 h2 h3
  show (if y = Str.ofString "asked" then _ else if y = Str.ofString "table" then _ else if y = Str.ofString "lexer" then _ else if y = Str.ofString "words" then _ else if y = Str.ofString "names" then _ else m y) = m y
  rw [if_neg h1, if_neg h2, if_neg h3]
  split
  · next q => rw [q, mW]
  · split
    · next q => rw [q, mN]
    · rfl
end
section
local macro_rules | `(tactic| omega) => `(tactic| lia)
open PySem PySem.W PyProof.Rows PySem.Spec PySem.Calls PySem.SeqAt
theorem readsAll_snoc {h : Heap} {v : Value} {d : PyData} {as : List Addr} (hv : PySem.Reads h v d as) : ∀ {vs : List Value} {ds : List PyData} {bs : List Addr}, ReadsAll h vs ds bs → ∃ cs, ReadsAll h (vs ++ [v]) (ds ++ [d]) cs
  | _, _, _, .nil => ⟨_, .cons hv .nil⟩
  | _, _, _, .cons a r => by
    obtain ⟨cs, hc⟩ := readsAll_snoc hv r
    exact ⟨_, .cons a hc⟩
noncomputable def askD (q : Int × Int × Str) : PyData := .tuple [.int q.1, .int q.2.1, .str q.2.2]
noncomputable def pairD (q : Str × Str) : PyData := .tuple [.str q.1, .str q.2]
theorem asked_reads {h₀ h : Heap} {L : Addr} {news : List (Addr × Obj)} {vs : List Value} {qs : List (Int × Int × Str)} (A : Asked news vs qs) (N : News h₀ L h news) : ∃ as, ReadsAll h vs (qs.map askD) as := by
  induction A with
  | nil => exact ⟨_, .nil⟩
  | @snoc vs qs a l hh c t1 t2 t3 n _ hm ih =>
    obtain ⟨as, ha⟩ := ih
    have hr : PySem.Reads h (.ref a) (askD (l, hh, c)) _ := .tuple (N _ hm).1 rfl rfl (.cons (.int l t1) (.cons (.int hh t2) (.cons (.str c t3) .nil)))
    rw [List.map_append]
    exact readsAll_snoc hr ha
theorem pairs_reads {h₀ h : Heap} {L : Addr} {news : List (Addr × Obj)} {vs : List Value} {kvs : List (Str × Str)} (A : Pairs news vs kvs) (N : News h₀ L h news) : ∃ as, ReadsAll h vs (kvs.map pairD) as := by
  induction A with
  | nil => exact ⟨_, .nil⟩
  | @cons a k v t1 t2 n vs kvs hm _ ih =>
    obtain ⟨as, ha⟩ := ih
    have hr : PySem.Reads h (.ref a) (pairD (k, v)) _ := .tuple (N _ hm).1 rfl rfl (.cons (.str k t1) (.cons (.str v t2) .nil))
    exact ⟨_, .cons hr ha⟩
theorem list_reads {h : Heap} {a : Addr} {vs : List Value} {n : Nat} {ds : List PyData} {as : List Addr} (ho : h.get? a = some (PySem.W.listOf vs.toArray n)) (r : ReadsAll h vs ds as) : PySem.Reads h (.ref a) (.list ds) (a :: as) :=
  .list ho rfl rfl (by simpa using r)
theorem plain_ok : ∀ x ∈ plainTexts, PyData.strOk x = true := by
  have : plainTexts.all (fun x => PyData.strOk x) = true := by decide +kernel
  exact fun x hx => List.all_eq_true.mp this x hx
theorem text_ok' (t : T) : PyData.strOk t.text = true := by
  rw [text_cs]
  unfold PyData.strOk mk
  rw [Array.all_eq_true]
  intro i hi
  have hm : t.cs.toArray[i] ∈ t.cs := by simp
  have := cs_alpha t _ hm
  have ha : ∀ c ∈ alpha, decide (c < 0x110000) = true := by decide +kernel
  exact ha _ this
theorem shaped_asked {qs : List (Int × Int × Str)} (h : ∀ q ∈ qs, PyData.strOk q.2.2 = true) : shaped (.list (qs.map askD)) = true := by
  have h1 : PyData.canLayAll0 (qs.map askD) = true := by
    induction qs with
    | nil => rfl
    | cons q r ih =>
      show (PyData.canLay0 (askD q) && PyData.canLayAll0 (r.map askD)) = true
      rw [ih fun q hq => h q (.tail _ hq)]
      simp [askD, PyData.canLay0, PyData.canLayAll0, h q (.head _)]
  have h2 : PyData.depthAll (qs.map askD) ≤ 1 := by
    clear h h1
    induction qs with
    | nil => exact Nat.zero_le _
    | cons q r ih =>
      show max (PyData.depth (askD q)) (PyData.depthAll (r.map askD)) ≤ 1
      have : PyData.depth (askD q) = 1 := by simp [askD, PyData.depth, PyData.depthAll]
      omega
  unfold shaped
  rw [Bool.and_eq_true_iff]
  refine ⟨h1, decide_eq_true ?_⟩
  show PyData.depthAll (qs.map askD) + 1 ≤ 64
  omega
theorem shaped_pairs {qs : List (Str × Str)} (h : ∀ q ∈ qs, PyData.strOk q.1 = true ∧ PyData.strOk q.2 = true) : shaped (.list (qs.map pairD)) = true := by
  have h1 : PyData.canLayAll0 (qs.map pairD) = true := by
    induction qs with
    | nil => rfl
    | cons q r ih =>
      show (PyData.canLay0 (pairD q) && PyData.canLayAll0 (r.map pairD)) = true
      rw [ih fun q hq => h q (.tail _ hq)]
      simp [pairD, PyData.canLay0, PyData.canLayAll0, (h q (.head _)).1, (h q (.head _)).2]
  have h2 : PyData.depthAll (qs.map pairD) ≤ 1 := by
    clear h h1
    induction qs with
    | nil => exact Nat.zero_le _
    | cons q r ih =>
      show max (PyData.depth (pairD q)) (PyData.depthAll (r.map pairD)) ≤ 1
      have : PyData.depth (pairD q) = 1 := by simp [pairD, PyData.depth, PyData.depthAll]
      omega
  unfold shaped
  rw [Bool.and_eq_true_iff]
  refine ⟨h1, decide_eq_true ?_⟩
  show PyData.depthAll (qs.map pairD) + 1 ≤ 64
  omega
section
variable {prog : Program} {w : World} {A : Around} {E : Value → Shared → Prop} {s : Shared} {a b : Value} {d : PyData} {as bs : List Addr} {Q : Value → Shared → Prop}
theorem ne_same (ra : PySem.Reads s.heap a d as) (rb : PySem.Reads s.heap b d bs) (hs : shaped d = true) (hu : A.units + 64 < cLine) (h : Q (.bool false) s) : wpAny (model prog w) A (compareOp .NotEq a b) Q E s := by
  refine ne_dataH ra rb hs hs hu ?_
  rw [PySem.SeqAt.eqv_refl d (canLay_of_shaped hs)]
  exact h
end
end
section
local macro_rules | `(tactic| omega) => `(tactic| lia)
local macro_rules | `(tactic| walk_at "no such key 0") => `(tactic| skip)
open PySem PySem.W PyProof.Rows PySem.Spec PySem.Calls PySem.SeqAt
theorem pmQ {α : Type} {d : α} {l t n : List α} : ∀ q ∈ t ++ (l ++ d :: n), q ∈ l ++ d :: (t ++ n) := fun p hp => by
  simp only [List.mem_append, List.mem_cons] at hp ⊢
  rcases hp with h | h | h | h <;> simp [h]
theorem pmQ2 {α : Type} {l t n : List α} : ∀ q ∈ l ++ (t ++ n), q ∈ t ++ (l ++ n) := fun p hp => by
  simp only [List.mem_append] at hp ⊢
  rcases hp with h | h | h <;> simp [h]
local macro_rules | `(tactic| walk_at "compareOp NotEq ref ref") => `(tactic| (refine hold_it ?_))
set_option maxRecDepth 100000 in
set_option maxHeartbeats 8000000 in
theorem law_part6 (w : World) {fa : Addr} {cd : Value} {base h₀ : Heap} {L : Addr} {m : Str → Option Value} {s : Shared} {nw : List (Addr × Obj)} {x : Str} {low high : Int} {C : LexC} {aT dT aH : Addr} {hsh : Int} {tkT kl q2 q3 q4 : Tok} {Da Dp : Addr} {nA nP n2 n1 n4 : Nat} {avs vs ys : List Value} {kvs : List (Str × Str)} {p : Program} {loose : List Str} {mean : ExcName → Option Value} {mg mb : Str → Option Value} {Q : Flow → Shared → Prop} {E : Value → Shared → Prop} (rest : List Stmt)
    (B : Below callerA base [] h₀) (F : Fr h₀ L s.heap m) (O : LexOk C) (N : News h₀ L s.heap (readO w C 6 kl [] n1 n4 Da avs nA (tabO aT dT aH hsh tkT 1 n2 vs) nw)) (X : (heap w.params).In h₀) (Tp : Top p loose mean mg mb h₀) (hC : CodeHd h₀ 287 283) (hG : AllBare s.gens)
    (hps : Pairs nw vs kvs) (hask : Asked nw avs [(low, high, x), (-99, 99, x)]) (hys : Pairs nw ys kvs) (iP : (Dp, PySem.W.listOf ys.toArray nP) ∈ nw) (hx : PyData.strOk x = true) (hkv : ∀ q ∈ kvs, PyData.strOk q.1 = true ∧ PyData.strOk q.2 = true) (hl : kvs.length ≤ 10)
    (mL : m (Str.ofString "low") = some (.int low q2)) (mH : m (Str.ofString "high") = some (.int high q3)) (mF : m (Str.ofString "formula") = some (.str x q4)) (mP : m (Str.ofString "pairs") = some (.ref Dp)) (mX : m (Str.ofString "lexer") = some (.ref C.lx)) (mT : m (Str.ofString "table") = some (.ref aT)) (mA : m (Str.ofString "asked") = some (.ref Da))
    (hQ : ∀ (h' : Heap) (g' : Array GenState) (tk' : Nat) (m' : Str → Option Value), Fr h₀ L h' m' → News h₀ L h' (lexO w.params C 6 kl [] [] n1 n4 ++ (tabO aT dT aH hsh tkT 1 n2 vs ++ (Da, PySem.W.listOf avs.toArray nA) :: nw)) → AllBare g' → (∀ y, m' y = m y) →
      wpAny (model PySem.Challenge.rw_sh0064_01.prog w) (lawA L fa cd) (execs rest (lawE L fa cd)) Q E ⟨h', g', s.drawn, tk', s.os⟩) :
    wpAny (model PySem.Challenge.rw_sh0064_01.prog w) (lawA L fa cd) (execs (nthS lawB 15 :: rest) (lawE L fa cd)) Q E s := by
  revert X; k_fill; intro X
  unfold lawA lawE
  conv in (occs := *) lawSc => all_goals whnf
  conv in (nthS lawB 15) => whnf
  have F0 := know3 (x1 := Str.ofString "lexer") (x2 := Str.ofString "table") (x3 := Str.ofString "asked") (v1 := some (.ref C.lx)) (v2 := some (.ref aT)) (v3 := some (.ref Da)) (know4 F mL mH mF mP) (by with_unfolding_all exact mX) (by with_unfolding_all exact mT) (by with_unfolding_all exact mA)
  clear F
  k_steps
  unfold Hold
  rename News _ _ _ _ => N5
  have sub3 : ∀ q ∈ nw, q ∈ ledF N5 := fun q hq => .tail _ (.tail _ (.tail _ (List.mem_append_right _ (.tail _ (List.mem_append_right _ hq)))))
  obtain ⟨as, ha⟩ := asked_reads (hask.mono sub3) N5
  have hsh1 : shaped (.list ([(low, high, x), (-99, 99, x)].map askD)) = true := shaped_asked (List.forall_mem_cons.mpr ⟨hx, List.forall_mem_cons.mpr ⟨hx, fun _ h => nomatch h⟩⟩)
  refine ne_same (list_reads (N5 (Da, _) (.tail _ (.tail _ (.tail _ (List.mem_append_right _ (.head _)))))).1 ha) (.list (N5 _ (.head _)).1 rfl rfl (.cons (.tuple (N5 _ (.tail _ (.tail _ (.head _)))).1 rfl rfl (.cons (.int _ _) (.cons (.int _ _) (.cons (.str _ _) .nil)))) (.cons (.tuple (N5 _ (.tail _ (.head _))).1 rfl rfl (.cons (.int _ _) (.cons (.int _ _) (.cons (.str _ _) .nil)))) .nil))) hsh1 (show 7 + 64 < cLine by decide) ?_
  clear ha hsh1
  have N6 := news_sub N5 (fun q hq => .tail _ (.tail _ (.tail _ (pmQ (l := lexO w.params C 6 kl [] [] n1 n4) (t := tabO aT dT aH hsh tkT 1 n2 vs) (d := (Da, PySem.W.listOf avs.toArray nA)) (n := nw) q hq))))
  clear N5 sub3
  k_steps
  rename News _ _ _ _ => N7
  have hvl : vs.length ≤ 100 := by rw [hps.length]; omega
  ((try unfold Hold); refine' fn_use ?IH ?k1 ?k2 ?k3 ?k4 ?k5 ?kK ?kG ?kd ?ku ?_; (case IH => exact items_ok w aT dT aH hsh tkT 1 n2 vs (lexO w.params C 6 kl [] [] n1 n4 ++ (Da, PySem.W.listOf avs.toArray nA) :: nw) hvl); (case k1 => k_asm); (case k2 => k_asm); (case k3 => k_asm); (case k4 => k_asm); (case k5 => k_asm); (case kK => first | exact rfl | assumption); (case kG => assumption); (case kd => first | decide | (refine Nat.lt_of_le_of_lt (?_ : _ ≤ 400) (by decide); omega)); (case ku => first | decide | (refine Nat.lt_of_le_of_lt (?_ : _ ≤ 2000) (by decide); omega)); intro r1 news1 h1 g1 tk1 F1 N1 G1 hR1)
  obtain ⟨Di, n3, rfl, e1⟩ := hR1
  subst e1
  clear N7
  k_steps
  unfold Hold
  rename News _ _ _ _ => N8
  have sub4 : ∀ q ∈ nw, q ∈ ledF N8 := fun q hq => .tail _ (List.mem_append_right _ (List.mem_append_right _ (.tail _ hq)))
  obtain ⟨as1, ha1⟩ := pairs_reads (hps.mono sub4) N8
  obtain ⟨as2, ha2⟩ := pairs_reads (hys.mono sub4) N8
  refine ne_same (list_reads (N8 _ (.head _)).1 ha1) (list_reads (N8 _ (sub4 _ iP)).1 ha2) (shaped_pairs hkv) (show 7 + 64 < cLine by decide) ?_
  clear ha1 ha2 sub4
  k_steps
  dsimp only
  refine hQ _ _ _ _ (by k_asm) (news_sub N8 (fun q hq => .tail _ (pmQ2 q hq))) G1 fun y => ?_
  (repeat' split) <;> first | rfl | (next q => subst q; symm; assumption)
end
section
open PySem PySem.W PyProof.Rows PySem.Spec PySem.Calls PySem.SeqAt
theorem Asked.at {news : List (Addr × Obj)} {vs : List Value} {qs : List (Int × Int × Str)} (h : Asked news vs qs) : ∀ (i : Nat) (v : Value), vs[i]? = some v → ∃ (a : Addr) (l hh : Int) (c : Str) (t1 t2 t3 : Tok) (n : Nat), v = .ref a ∧ qs[i]? = some (l, hh, c) ∧ (a, tupO [.int l t1, .int hh t2, .str c t3] n) ∈ news := by
  induction h with
  | nil => intro i v e; cases e
  | @snoc vs qs a l hh c t1 t2 t3 n A hm ih =>
    intro i v e
    have hl := A.length
    rcases Nat.lt_or_ge i vs.length with hi | hi
    · rw [List.getElem?_append_left hi] at e
      rw [List.getElem?_append_left (by omega)]
      exact ih i v e
    · rw [List.getElem?_append_right hi] at e
      have h0 : i - vs.length = 0 := by
        rcases Nat.eq_zero_or_pos (i - vs.length) with q | q
        · exact q
        · rw [List.getElem?_eq_none (by simp; omega)] at e; cases e
      rw [h0] at e
      cases e
      rw [List.getElem?_append_right (by omega), ← hl, h0]
      exact ⟨_, _, _, _, _, _, _, _, rfl, rfl, hm⟩
theorem play_in (ns : List Int) : ∀ (t : T) (lo hi : Int), lo ≤ hi → lo ≤ (t.play ns lo hi).1 ∧ (t.play ns lo hi).1 ≤ hi
  | .leaf c, lo, hi, h => by
    show lo ≤ min (max _ lo) hi ∧ min (max _ lo) hi ≤ hi
    omega
  | .node true l r, lo, hi, h => by
    have h1 := play_in ns l lo hi h
    simp only [T.play]
    split
    · exact h1
    · have h2 := play_in ns r (l.play ns lo hi).1 hi h1.2
      exact ⟨by omega, h2.2⟩
  | .node false l r, lo, hi, h => by
    have h1 := play_in ns l lo hi h
    simp only [T.play]
    split
    · exact h1
    · have h2 := play_in ns r lo (l.play ns lo hi).1 h1.1
      exact ⟨h2.1, by omega⟩
/-- between two turns -/
inductive PlI (w : World) (h₀ : Heap) (L I : Addr) (C : LexC) (Da : Addr) (tab X : List (Addr × Obj)) (qn : Nat) (m : Str → Option Value) (s₀ : Shared) (j : Nat) (s : Shared) : Prop where
  | mk (h : Heap) (g : Array GenState) (tk : Tok) (m' : Str → Option Value) (i : Nat) (oI : Obj) (kl : Tok) (n1 n4 : Nat)
    (c0 : s = ⟨h, g, s₀.drawn, tk, s₀.os⟩)
    (c1 : j = qn - i)
    (c2 : i ≤ qn)
    (c3 : IterO Da i oI)
    (c4 : Fr h₀ L h m')
    (c5 : AllBare g)
    (c6 : News h₀ L h ((I, oI) :: (lexO w.params C 6 kl [] [] n1 n4 ++ (tab ++ X))))
    (c7 : (∀ y, y ≠ Str.ofString "least" → y ≠ Str.ofString "most" → y ≠ Str.ofString "told" → m' y = m y))
theorem pmI {α : Type} {d : α} {l t n : List α} : ∀ q ∈ l ++ (t ++ d :: n), q ∈ d :: (l ++ (t ++ n)) := fun p hp => by
  simp only [List.mem_append, List.mem_cons] at hp ⊢
  rcases hp with h | h | h | h <;> simp [h]
theorem play_letters (ns : List Int) : ∀ (t : T) (lo hi : Int), ∀ x ∈ (t.play ns lo hi).2, ∃ c, x = letter c
  | .leaf c, lo, hi, x, h => by
    rw [List.mem_singleton.mp h]; exact ⟨c, rfl⟩
  | .node true l r, lo, hi, x, h => by
    simp only [T.play] at h
    split at h
    · exact play_letters ns l _ _ x h
    · rcases List.mem_append.mp h with h | h
      · exact play_letters ns l _ _ x h
      · exact play_letters ns r _ _ x h
  | .node false l r, lo, hi, x, h => by
    simp only [T.play] at h
    split at h
    · exact play_letters ns l _ _ x h
    · rcases List.mem_append.mp h with h | h
      · exact play_letters ns l _ _ x h
      · exact play_letters ns r _ _ x h
theorem letter_ne (c : Fin 10) : letter c ≠ Str.ofString "" := by revert c; decide +kernel
theorem num_ne {n : Int} (h0 : -99 ≤ n) (h1 : n ≤ 99) : numS n ≠ Str.ofString "" := fun e => by
  have := (num_text h0 h1).1
  rw [e] at this
  have h : PySem.intText? (Str.ofString "") = none := by decide +kernel
  rw [h] at this; cases this
local macro_rules | `(tactic| walk_at "compareOp NotEq ref ref") => `(tactic| (refine hold_it ?_))
local macro_rules | `(tactic| walk_at "call type:str") => `(tactic| (k_here; (with_reducible show wpAny _ _ (call (Value.type _) [Value.int (List.getD _ _ _) _]) _ _ _); refine hold_it ?_))
local macro_rules | `(tactic| walk_at "binaryOp Add ref ref") => `(tactic| (refine hold_it ?_))
theorem strs_reads {h : Heap} {us : List Value} {ss : List Str} (A : StrsAre us ss) : ∃ as, ReadsAll h us (ss.map PyData.str) as := by
  induction A with
  | nil => exact ⟨_, .nil⟩
  | cons y t _ ih =>
    obtain ⟨as, ha⟩ := ih
    exact ⟨_, .cons (.str y t) ha⟩
theorem shaped_strs {ss : List Str} (h : ∀ q ∈ ss, PyData.strOk q = true) : shaped (.list (ss.map PyData.str)) = true := by
  have h1 : PyData.canLayAll0 (ss.map PyData.str) = true := by
    induction ss with
    | nil => rfl
    | cons q r ih =>
      show (PyData.strOk q && PyData.canLayAll0 (r.map PyData.str)) = true
      rw [ih fun q hq => h q (.tail _ hq), h q (.head _)]
      rfl
  have h2 : PyData.depthAll (ss.map PyData.str) ≤ 0 := by
    clear h h1
    induction ss with
    | nil => exact Nat.zero_le _
    | cons q r ih =>
      show max (PyData.depth (.str q)) (PyData.depthAll (r.map PyData.str)) ≤ 0
      have : PyData.depth (.str q) = 0 := by simp [PyData.depth]
      omega
  unfold shaped
  rw [Bool.and_eq_true_iff]
  refine ⟨h1, decide_eq_true ?_⟩
  show PyData.depthAll (ss.map PyData.str) + 1 ≤ 64
  omega
theorem num_ok_facts : ∀ k < 199, PyData.strOk (numS ((k : Nat) - 99 : Int)) = true := by decide +kernel
theorem num_ok {n : Int} (h0 : -99 ≤ n) (h1 : n ≤ 99) : PyData.strOk (numS n) = true := by
  have := num_ok_facts (n + 99).toNat (by omega)
  have e : (((n + 99).toNat : Nat) : Int) - 99 = n := by omega
  rwa [e] at this
theorem pmJ {α : Type} {a1 a2 a3 a4 a5 a6 a7 a8 d i : α} {l t n : List α} : ∀ q ∈ i :: (l ++ (t ++ n)), q ∈ a1 :: a2 :: a3 :: a4 :: a5 :: a6 :: a7 :: a8 :: (l ++ d :: (t ++ i :: n)) := fun p hp => by
  simp only [List.mem_append, List.mem_cons] at hp ⊢
  rcases hp with h | h | h | h <;> simp [h]
set_option maxRecDepth 100000 in
set_option maxHeartbeats 8000000 in
theorem asked_loop (w : World) {fa : Addr} {cd : Value} {base h₀ : Heap} {L : Addr} {m : Str → Option Value} {s₀ s : Shared} {C : LexC} {aT dT aH : Addr} {hsh : Int} {tkT q1 : Tok} {Da I D : Addr} {nA nD n2 j : Nat} {avs vs us : List Value} {ns : List Int} {kvs : List (Str × Str)} {qs : List (Int × Int × Str)} {X : List (Addr × Obj)} {o3 : Obj} {t : T} {v : Value} {p : Program} {loose : List Str} {mean : ExcName → Option Value} {mg mb : Str → Option Value} {Q : Flow → Shared → Prop} {E : Value → Shared → Prop}
    (B : Below callerA base [] h₀) (O : LexOk C) (X0 : (heap w.params).In h₀) (Tp : Top p loose mean mg mb h₀) (hC : CodeHd h₀ 287 283)
    (hps : Pairs X vs kvs) (hkp : ∀ p ∈ kvs, p.1 ∈ plainTexts) (hkv : ∀ c, getV kvs (letter c) = some (numS ((T.leaf c).worth ns))) (hns : ∀ c, -99 ≤ (T.leaf c).worth ns ∧ (T.leaf c).worth ns ≤ 99)
    (hask : Asked X avs qs) (hq : ∀ q ∈ qs, -99 ≤ q.1 ∧ q.1 < q.2.1 ∧ q.2.1 ≤ 99 ∧ q.2.2 = t.text) (hT : TreeIn X v t) (hsz : t.size = 4) (hms : IntsAre us ns) (hl5 : us.length = 5) (iD : (D, PySem.W.listOf us.toArray nD) ∈ X) (i3 : (L + 1 + 1 + 1, o3) ∈ X) (hc3 : o3.data = .cell (some (.ref D))) (iA : (Da, PySem.W.listOf avs.toArray nA) ∈ X)
    (hap : ∀ q ∈ tabO aT dT aH hsh tkT 1 n2 vs ++ X, q.1 ≠ C.rl ∧ q.1 ≠ C.dl ∧ q.1 ≠ C.pb) (hI : ∀ P kl n1 n4, ∀ q ∈ lexO P C 6 kl [] [] n1 n4 ++ (tabO aT dT aH hsh tkT 1 n2 vs ++ X), q.1 < I)
    (mV : m (Str.ofString "tree") = some v) (mX : m (Str.ofString "lexer") = some (.ref C.lx)) (mT : m (Str.ofString "table") = some (.ref aT)) (mW : m (Str.ofString "worth") = some (.int (t.worth ns) q1))
    (hQ : ∀ (h' : Heap) (g' : Array GenState) (tk' : Nat) (m' : Str → Option Value) (news : List (Addr × Obj)), Fr h₀ L h' m' → AllBare g' → News h₀ L h' news → (∀ q ∈ X, q ∈ news) → Q .next ⟨h', g', s₀.drawn, tk', s₀.os⟩)
    (hI0 : PlI w h₀ L I C Da (tabO aT dT aH hsh tkT 1 n2 vs) X qs.length m s₀ j s) :
    codeAny (model PySem.Challenge.rw_sh0064_01.prog w) (lawA L fa cd) (.forLoop (forT (nthS lawB 17)) (.ref I) (forB (nthS lawB 17)) [] (lawE L fa cd))
      (fun r s' => match r with | .ok f => Q f s' | .error e => cameBackBy (model PySem.Challenge.rw_sh0064_01.prog w) (lawA L fa cd) (lawE L fa cd) E e s') s := by
  revert X0; k_fill; intro X0
  unfold lawA lawE
  conv in (occs := *) lawSc => all_goals whnf
  conv in forT (nthS lawB 17) => whnf
  conv in forB (nthS lawB 17) => whnf
  refine for_inv (PlI w h₀ L I C Da (tabO aT dT aH hsh tkT 1 n2 vs) X qs.length m s₀) ?turn _ hI0
  case turn =>
    intro k s' E' gA hAg hI'
    obtain ⟨h, g, tk, mI, i, oI', kl, n1, n4, rfl, rfl, hile, hI2, F2, G2, N2, hmI⟩ := hI'
    have hvl := hask.length
    have mm : ∀ {y z}, y ≠ Str.ofString "least" → y ≠ Str.ofString "most" → y ≠ Str.ofString "told" → m y = z → mI y = z := fun a b c e => (hmI _ a b c).trans e
    have F3 := know4 F2 (mm (by decide) (by decide) (by decide) mV) (mm (by decide) (by decide) (by decide) mX) (mm (by decide) (by decide) (by decide) mT) (mm (by decide) (by decide) (by decide) mW)
    have hmem : ∀ q ∈ X, q ∈ lexO w.params C 6 kl [] [] n1 n4 ++ (tabO aT dT aH hsh tkT 1 n2 vs ++ X) := fun q hq => List.mem_append_right _ (List.mem_append_right _ hq)
    refine list_next (l := Da) (vs := avs) (n := nA) rfl F3 hI2 N2 (hmem _ iA) (hI _ _ _ _) ?_ ?_
    · intro va oI3 h3 hv hI3 F4 N4
      obtain ⟨a', lo, hi, c, t1, t2, t3, n3, rfl, hkv', hmem'⟩ := hask.at i va hv
      obtain ⟨hlo, hlh, hhi, hcx⟩ := hq _ (List.mem_of_getElem? hkv')
      dsimp only at hlo hlh hhi hcx
      subst hcx
      refine let_iter hI3 (N4 _ (.head _)).1 ?_
      have N5 := news_front N4 (.tail _ (hmem _ hmem'))
      clear N4 N2 F2 F3
      k_steps
      rename News _ _ _ _ => N5
      have hIb := O.below (ltN (hI w.params kl n1 n4 (C.pb, _) (.head _)))
      have hap2 : ∀ q ∈ tabO aT dT aH hsh tkT 1 n2 vs ++ (I, oI3) :: X, q.1 ≠ C.rl ∧ q.1 ≠ C.dl ∧ q.1 ≠ C.pb := fun q hq => (List.mem_append.mp hq).elim (fun h => hap q (List.mem_append_left _ h)) fun h => (List.mem_cons.mp h).elim (fun e => e ▸ hIb) fun h => hap q (List.mem_append_right _ h)
      have N6 := news_sub N5 (fun q hq => .tail _ (pmI (l := lexO w.params C 6 kl [] [] n1 n4) (t := tabO aT dT aH hsh tkT 1 n2 vs) (d := (I, oI3)) (n := X) q hq))
      clear N5
      have hdep := depth_le t
      have hbp := play_in ns t lo hi (Int.le_of_lt hlh)
      ((try unfold Hold); refine' fn_use ?IH ?k1 ?k2 ?k3 ?k4 ?k5 ?kK ?kG ?kd ?ku ?_; (case IH => exact play_ok w C O 6 kl [] n4 ns kvs vs aT dT aH hsh tkT 1 n2 ((I, oI3) :: X) (hps.mono fun q hq => .tail _ hq) hkp hkv hns (fun q hq => (hap2 q hq).2.2) t lo hi t1 t2 t3 [] n1 (by omega) (by simp; omega)); (case k1 => k_asm); (case k2 => k_asm); (case k3 => k_asm); (case k4 => k_asm); (case k5 => k_asm); (case kK => first | exact rfl | assumption); (case kG => assumption); (case kd => first | decide | (refine Nat.lt_of_le_of_lt (?_ : _ ≤ 400) (by decide); omega)); (case ku => first | decide | (refine Nat.lt_of_le_of_lt (?_ : _ ≤ 2000) (by decide); omega)); intro r1 news1 h1 g1 tk1 F1 N1 G1 hR1)
      obtain ⟨tkp, pbs, n1', rfl, hpb, e1⟩ := hR1
      subst e1
      rw [List.nil_append] at N1
      clear N6
      generalize hpv : (t.play ns lo hi).1 = pv at hbp ⊢
      have hpl : pbs.length ≤ 10 := by have := strs_len hpb; have := play_len ns t lo hi; omega
      obtain ⟨hb1, hb2⟩ := hbp
      have hb3 : -99 ≤ pv := by omega
      have hb4 : pv ≤ 99 := by omega
      k_steps
      rename News _ _ _ _ => N6
      ((try unfold Hold); refine' fn_use ?IH ?k1 ?k2 ?k3 ?k4 ?k5 ?kK ?kG ?kd ?ku ?_; (case IH => exact push_ok w C O 6 kl _ pbs [] n1' n4 (tabO aT dT aH hsh tkT 1 n2 vs ++ (I, oI3) :: X) (fun q hq => (hap2 q hq).2.2) (by omega)); (case k1 => k_asm); (case k2 => k_asm); (case k3 => k_asm); (case k4 => k_asm); (case k5 => k_asm); (case kK => first | exact rfl | assumption); (case kG => assumption); (case kd => first | decide | (refine Nat.lt_of_le_of_lt (?_ : _ ≤ 400) (by decide); omega)); (case ku => first | decide | (refine Nat.lt_of_le_of_lt (?_ : _ ≤ 2000) (by decide); omega)); intro r2 news2 h2 g2 tk2 F2 N2 G2 hR2)
      obtain ⟨n1b, rfl, e2⟩ := hR2
      subst e2
      clear N6
      k_steps
      have hss : StrsAre (pbs ++ [.str (numS pv) tk1]) ((t.play ns lo hi).2 ++ [numS pv]) := strs_snoc hpb _ _
      have hne : ∀ x ∈ (t.play ns lo hi).2 ++ [numS pv], x ≠ Str.ofString "" := fun x hx => (List.mem_append.mp hx).elim (fun h => by obtain ⟨c, rfl⟩ := play_letters ns t lo hi x h; exact letter_ne c) fun h => by rw [List.mem_singleton.mp h]; exact num_ne hb3 hb4
      ((try unfold Hold); refine' fn_use ?IH ?k1 ?k2 ?k3 ?k4 ?k5 ?kK ?kG ?kd ?ku ?_; (case IH => exact line_ok w C O 6 kl _ _ n1b n4 (tabO aT dT aH hsh tkT 1 n2 vs ++ (I, oI3) :: X) hap2 hss hne (by simp; omega)); (case k1 => k_asm); (case k2 => k_asm); (case k3 => k_asm); (case k4 => k_asm); (case k5 => k_asm); (case kK => first | exact rfl | assumption); (case kG => assumption); (case kd => first | decide | (refine Nat.lt_of_le_of_lt (?_ : _ ≤ 400) (by decide); omega)); (case ku => first | decide | (refine Nat.lt_of_le_of_lt (?_ : _ ≤ 2000) (by decide); omega)); intro r3 news3 h3 g3 tk3 F3 N3 G3 hR3)
      obtain ⟨Dl, nl, kl3, n1c, n4c, rfl, e3, hltl⟩ := hR3
      subst e3
      clear N2
      have N7 := news_front N3 (List.mem_append_right _ (.tail _ (List.mem_append_right _ (.tail _ i3))))
      clear N3
      k_steps
      rename News _ _ _ _ => N8
      have sub8 : ∀ q ∈ X, q ∈ ledF N8 := fun q hq => .tail _ (.tail _ (.tail _ (List.mem_append_right _ (.tail _ (List.mem_append_right _ (.tail _ hq))))))
      ((try unfold Hold); refine' fn_use ?IH ?k1 ?k2 ?k3 ?k4 ?k5 ?kK ?kG ?kd ?ku ?_; (case IH => exact ways_ok w us ns hms hl5 nD D t (ledF N8) v _ _ [.int lo t1] [.int hi t2] [lo] [hi] 0 0 (hT.mono sub8) (sub8 _ iD) (.tail _ (.head _)) (.head _) (.cons _ _ .nil) (.cons _ _ .nil) (by simp) (by simp) (by simp; omega) (by simp; omega) (by omega)); (case k1 => k_asm); (case k2 => k_asm); (case k3 => k_asm); (case k4 => k_asm); (case k5 => k_asm); (case kK => first | exact rfl | assumption); (case kG => assumption); (case kd => first | decide | (refine Nat.lt_of_le_of_lt (?_ : _ ≤ 400) (by decide); omega)); (case ku => first | decide | (refine Nat.lt_of_le_of_lt (?_ : _ ≤ 2000) (by decide); omega)); intro r4 news4 h4 g4 tk4 F4 N4 G4 hR4)
      obtain ⟨Dw, uw, nw4, rfl, hsw, e4, hltw⟩ := hR4
      subst e4
      simp only [ledF] at N4 hltw
      clear sub8 N8
      k_steps
      unfold Hold
      obtain ⟨e5, e6⟩ := play_one ns t hlh
      rw [hpv] at e6
      rename List.Perm _ [lo, t.worth ns, hi] => hperm
      rename List.Pairwise _ _ => hord
      rw [show Int.toNat 1 = 1 from rfl, med3 hperm hord hlh, ← e6]
      clear hperm hord
      k_steps
      unfold Hold
      rename News _ _ _ _ => N9
      refine kmk_add_lit (zs := uw ++ [.str (numS pv) _]) (by k_asm) N9 (News.isList N9 (.tail _ (.tail _ (.tail _ (.head _))))) (News.isList N9 (.head _)) rfl (fun D5 h5 F5 N5 hlt5 => ?_) (by have h1 := strs_len hsw; have h3 := ways_len ns t [lo] [hi]; rw [PySem.sizeLine_eq]; simp; omega)
      clear N9
      k_steps
      unfold Hold
      have hsd := strs_snoc hsw (numS pv) (tk4 + 1)
      rw [e5] at hsd
      obtain ⟨as1, ha1⟩ := strs_reads (h := h5) hss
      obtain ⟨as2, ha2⟩ := strs_reads (h := h5) hsd
      have hok : shaped (.list (((t.play ns lo hi).2 ++ [numS pv]).map PyData.str)) = true := shaped_strs fun x hx => (List.mem_append.mp hx).elim (fun h => by obtain ⟨c, rfl⟩ := play_letters ns t lo hi x h; exact plain_ok _ (letter_plain c)) fun h => by rw [List.mem_singleton.mp h]; exact num_ok hb3 hb4
      have mDl : (Dl, PySem.W.listOf (pbs ++ [Value.str (numS pv) tk1]).toArray nl) ∈ ledF N5 := .tail _ (.tail _ (.tail _ (.tail _ (.tail _ (.tail _ (.tail _ (.tail _ (List.mem_append_right _ (.head _)))))))))
      refine ne_same (list_reads (N5 _ mDl).1 ha1) (list_reads (N5 _ (.head _)).1 ha2) hok (show 7 + 64 < cLine by decide) ?_
      clear mDl
      clear ha1 ha2 hok hsd
      k_steps
      have hilt : i < qs.length := by
        rcases Nat.lt_or_ge i qs.length with q | q
        · exact q
        · rw [List.getElem?_eq_none q] at hkv'; cases hkv'
      refine hAg (qs.length - (i + 1)) _ (by omega) ⟨_, _, _, _, i + 1, oI3, kl3, n1c, n4c, rfl, rfl, hilt, hI3, F5, G4, news_sub N5 pmJ, fun y a b c => ?_⟩
      show (if y = Str.ofString "told" then _ else if y = Str.ofString "most" then _ else if y = Str.ofString "least" then _ else _) = m y
      rw [if_neg c, if_neg b, if_neg a]
      (repeat' split) <;> first | exact hmI y a b c | (next q => subst q; symm; assumption)
    · intro h3 hv F4 N4
      exact hQ _ _ _ _ _ F4 G2 N4 hmem
end
section
local macro_rules | `(tactic| omega) => `(tactic| lia)
open PySem PySem.W PyProof.Rows PySem.Spec PySem.Calls PySem.SeqAt
theorem lex_new {P : Params} {C : LexC} {I : Addr} {T : List (Addr × Obj)} {kl : Tok} {n1 n4 : Nat} (h : ∀ q ∈ lexO P C 6 kl [] [] n1 n4 ++ T, q.1 < I) : ∀ P' kl' n1' n4', ∀ q ∈ lexO P' C 6 kl' [] [] n1' n4' ++ T, q.1 < I := fun P' kl' n1' n4' q hq => by
  rcases List.mem_append.mp hq with hq | hq
  · have hh : ∃ o, (q.1, o) ∈ lexO P C 6 kl [] [] n1 n4 := by
      simp only [List.mem_cons, List.not_mem_nil, or_false] at hq
      rcases hq with rfl | rfl | rfl | rfl | rfl | rfl | rfl | rfl | rfl | rfl
      · exact ⟨_, .head _⟩
      · exact ⟨_, .tail _ (.head _)⟩
      · exact ⟨_, .tail _ (.tail _ (.head _))⟩
      · exact ⟨_, .tail _ (.tail _ (.tail _ (.head _)))⟩
      · exact ⟨_, .tail _ (.tail _ (.tail _ (.tail _ (.head _))))⟩
      · exact ⟨_, .tail _ (.tail _ (.tail _ (.tail _ (.tail _ (.head _)))))⟩
      · exact ⟨_, .tail _ (.tail _ (.tail _ (.tail _ (.tail _ (.tail _ (.head _))))))⟩
      · exact ⟨_, .tail _ (.tail _ (.tail _ (.tail _ (.tail _ (.tail _ (.tail _ (.head _)))))))⟩
      · exact ⟨_, .tail _ (.tail _ (.tail _ (.tail _ (.tail _ (.tail _ (.tail _ (.tail _ (.head _))))))))⟩
      · exact ⟨_, .tail _ (.tail _ (.tail _ (.tail _ (.tail _ (.tail _ (.tail _ (.tail _ (.tail _ (.head _)))))))))⟩
    obtain ⟨o, ho⟩ := hh
    exact h (q.1, o) (List.mem_append_left _ ho)
  · exact h q (List.mem_append_right _ hq)
set_option maxRecDepth 100000 in
set_option maxHeartbeats 8000000 in
theorem law_part7 (w : World) {fa : Addr} {cd : Value} {base h₀ : Heap} {L : Addr} {m : Str → Option Value} {s : Shared} {C : LexC} {aT dT aH : Addr} {hsh : Int} {tkT kl : Tok} {Da D : Addr} {nA nD n1 n4 n2 : Nat} {avs vs us : List Value} {ns : List Int} {kvs : List (Str × Str)} {qs : List (Int × Int × Str)} {X : List (Addr × Obj)} {o3 : Obj} {t : T} {v : Value} {p : Program} {loose : List Str} {mean : ExcName → Option Value} {mg mb : Str → Option Value} {Q : Flow → Shared → Prop} {E : Value → Shared → Prop}
    (B : Below callerA base [] h₀) (F : Fr h₀ L s.heap m) (N : News h₀ L s.heap (lexO w.params C 6 kl [] [] n1 n4 ++ (tabO aT dT aH hsh tkT 1 n2 vs ++ X))) (O : LexOk C) (X0 : (heap w.params).In h₀) (Tp : Top p loose mean mg mb h₀) (hC : CodeHd h₀ 287 283) (hG : AllBare s.gens)
    (hps : Pairs X vs kvs) (hkp : ∀ p ∈ kvs, p.1 ∈ plainTexts) (hkv : ∀ c, getV kvs (letter c) = some (numS ((T.leaf c).worth ns))) (hns : ∀ c, -99 ≤ (T.leaf c).worth ns ∧ (T.leaf c).worth ns ≤ 99)
    (hask : Asked X avs qs) (hq : ∀ q ∈ qs, -99 ≤ q.1 ∧ q.1 < q.2.1 ∧ q.2.1 ≤ 99 ∧ q.2.2 = t.text) (hT : TreeIn X v t) (hsz : t.size = 4) (hms : IntsAre us ns) (hl5 : us.length = 5) (iD : (D, PySem.W.listOf us.toArray nD) ∈ X) (i3 : (L + 1 + 1 + 1, o3) ∈ X) (hc3 : o3.data = .cell (some (.ref D))) (iA : (Da, PySem.W.listOf avs.toArray nA) ∈ X)
    (hap : ∀ q ∈ tabO aT dT aH hsh tkT 1 n2 vs ++ X, q.1 ≠ C.rl ∧ q.1 ≠ C.dl ∧ q.1 ≠ C.pb)
    (mV : m (Str.ofString "tree") = some v) (mX : m (Str.ofString "lexer") = some (.ref C.lx)) (mT : m (Str.ofString "table") = some (.ref aT)) (mA : m (Str.ofString "asked") = some (.ref Da))
    (hQ : ∀ (h' : Heap) (g' : Array GenState) (tk' : Nat) (m' : Str → Option Value) (news : List (Addr × Obj)), Fr h₀ L h' m' → News h₀ L h' news → (∀ q ∈ X, q ∈ news) → AllBare g' → Q (.ret (.bool true)) ⟨h', g', s.drawn, tk', s.os⟩) :
    wpAny (model PySem.Challenge.rw_sh0064_01.prog w) (lawA L fa cd) (execs [nthS lawB 16, nthS lawB 17, nthS lawB 18] (lawE L fa cd)) Q E s := by
  revert X0; k_fill; intro X0
  unfold lawA lawE
  conv in (occs := *) lawSc => all_goals whnf
  conv in (nthS lawB 16) => whnf
  conv in (nthS lawB 17) => whnf
  conv in (nthS lawB 18) => whnf
  have F0 := know4 F mV mX mT mA
  clear F
  have N5 := news_front N (List.mem_append_right _ (List.mem_append_right _ i3))
  clear N
  have hdep := depth_le t
  k_steps
  have sub5 : ∀ q ∈ X, q ∈ ledF N5 := fun q hq => .tail _ (List.mem_append_right _ (List.mem_append_right _ hq))
  ((try unfold Hold); refine' fn_use ?IH ?k1 ?k2 ?k3 ?k4 ?k5 ?kK ?kG ?kd ?ku ?_; (case IH => exact worth_ok w us ns hms hl5 nD D t (ledF N5) v (hT.mono sub5) (sub5 _ iD) (by omega)); (case k1 => k_asm); (case k2 => k_asm); (case k3 => k_asm); (case k4 => k_asm); (case k5 => k_asm); (case kK => first | exact rfl | assumption); (case kG => assumption); (case kd => first | decide | (refine Nat.lt_of_le_of_lt (?_ : _ ≤ 400) (by decide); omega)); (case ku => first | decide | (refine Nat.lt_of_le_of_lt (?_ : _ ≤ 2000) (by decide); omega)); intro r1 news1 h1 g1 tk1 F1 N1 G1 hR1)
  obtain ⟨tkw, rfl, e1⟩ := hR1
  subst e1
  simp only [ledF] at N1
  clear sub5 N5
  k_steps
  unfold ForGo
  rename News _ _ _ _ => N6
  rename Fr _ _ _ _ => F6
  have N7 := news_sub N6 (fun q hq => .tail _ hq)
  clear N6
  refine list_iter (vs := avs) (n := nA) F6 N7 (List.mem_append_right _ (List.mem_append_right _ iA)) fun I oI h2 hI F8 N8 hlt => ?_
  refine asked_loop w (s₀ := ⟨s.heap, g1, s.drawn, s.toks, s.os⟩) (j := qs.length) (q1 := tkw) B O X0 Tp hC hps hkp hkv hns hask hq hT hsz hms hl5 iD i3 hc3 iA hap (lex_new hlt) ?mV ?mX ?mT ?mW ?hQ ⟨_, _, _, _, 0, oI, kl, n1, n4, rfl, rfl, Nat.zero_le _, hI, F8, G1, N8, fun _ _ _ _ => rfl⟩
  case mV => with_unfolding_all rfl
  case mX => with_unfolding_all rfl
  case mT => with_unfolding_all rfl
  case mW => with_unfolding_all rfl
  case hQ =>
    intro h' g' tk' m' news F9 G9 N9 sub9
    k_steps
    exact hQ _ _ _ _ _ F9 N9 sub9 G9
end
section
local macro_rules | `(tactic| omega) => `(tactic| lia)
open PySem PySem.W PyProof.Rows PySem.Spec PySem.Calls
theorem slice_mid {l : List Nat} {a b : Nat} (hab : a ≤ b) (hb : b ≤ l.length) : Txt.slice (mk l) (some (a : Int)) (some (b : Int)) = mk ((l.drop a).take (b - a)) := by
  refine slice_mk ?_ hab hb
  unfold PySem.Builtin.Str.strSliceIndices
  simp only [show ((1 : Int) > 0) from by decide, if_true]
  rw [← range_one hab]
  congr 1
  · rw [if_neg (by omega)]; omega
  · rw [if_neg (by omega)]; omega
noncomputable def rmC (rm : Str) : List Nat := rm.cps.toList
theorem esc_bare : ∀ (l : List Nat) (i : Nat) (r : List Nat), Bare l → escItems i false (l ++ r) = (l.zipIdx i).map (fun p => (p.2, [p.1])) ++ escItems (i + l.length) false r
  | [], i, r, _ => by simp
  | c :: l, i, r, h => by
    have hc := h c (.head _)
    have ih := esc_bare l (i + 1) r fun d hd => h d (.tail _ hd)
    have e : escItems i false (c :: (l ++ r)) = (i, [c]) :: escItems (i + 1) false (l ++ r) := by simp [escItems, hc.2]
    rw [List.cons_append, e, ih]
    simp only [List.zipIdx_cons, List.map_cons, List.cons_append, List.length_cons]
    rw [show i + 1 + l.length = i + (l.length + 1) by omega]
theorem dq34 {c : Nat} (h : c ≠ 34) : (mk [c] == Str.ofString "\"") = false := by
  rw [dq_eq, mk1_beq]; exact decide_eq_false h
theorem go_bare (x : Str) : ∀ (l : List Nat) (i : Nat) (rest : List (Nat × List Nat)) (start : Nat) (op : Option Nat) (ss : List Str), Bare l → stripGo x ((l.zipIdx i).map (fun p => (p.2, [p.1])) ++ rest) start op ss = stripGo x rest start op ss
  | [], i, rest, start, op, ss, _ => rfl
  | c :: l, i, rest, start, op, ss, h => by
    have hc := h c (.head _)
    simp only [List.zipIdx_cons, List.map_cons, List.cons_append, stripGo]
    rw [if_neg (by rw [dq34 hc.1]; exact Bool.false_ne_true)]
    exact go_bare x l (i + 1) rest start op ss fun d hd => h d (.tail _ hd)
/-- a remark in marks is passed over -/
theorem go_mark (x : Str) {rm : Str} (hr : rm ∈ remarks) (h0 : rm ≠ Str.ofString "") (i : Nat) (r : List Nat) (start : Nat) (ss : List Str) :
    stripGo x (escItems i false (rmC rm ++ r)) start none ss = stripGo x (escItems (i + (rmC rm).length) false r) (i + (rmC rm).length) none (if start = i then ss else ss ++ [Txt.slice x (some (start : Nat)) (some (i : Nat))]) := by
  have t34 : (mk [34] == Str.ofString "\"") = true := by decide +kernel
  have t39 : (mk [39] == Str.ofString "\"") = false := by decide +kernel
  have t40 : (mk [40] == Str.ofString "\"") = false := by decide +kernel
  have t41 : (mk [41] == Str.ofString "\"") = false := by decide +kernel
  have te : (mk [92, 34] == Str.ofString "\"") = false := by decide +kernel
  simp only [remarks, List.mem_cons, List.not_mem_nil, or_false] at hr
  rcases hr with rfl | rfl | rfl
  · exact absurd rfl h0
  · have e : rmC (Str.ofString "\"'(\"") = [34, 39, 40, 34] := by decide +kernel
    rw [e]
    simp [escItems, stripGo, t34, t39, t40]
  · have e : rmC (Str.ofString "\")\\\"\"") = [34, 41, 92, 34, 34] := by decide +kernel
    rw [e]
    simp [escItems, stripGo, t34, t41, te]
theorem join_one (x : Str) : Txt.join (Str.ofString "") [x] = x := by rw [eq_of_beq (join_plain_closes (Str.ofString "") _)]; rfl
theorem join_mks (lss : List (List Nat)) : Txt.join (Str.ofString "") (lss.map mk) = mk lss.flatten := join_nil_mk lss
/-- the remarks come off -/
theorem strip_marked {pre mid : List Nat} {rm : Str} (hp : Bare pre) (hm : Bare mid) (hr : rm ∈ remarks) : strip (mk (pre ++ (rmC rm ++ (mid ++ rmC rm)))) = mk (pre ++ mid) := by
  by_cases h0 : rm = Str.ofString ""
  · subst h0
    have e : rmC (Str.ofString "") = [] := by decide +kernel
    rw [e, List.nil_append, List.append_nil]
    exact strip_bare (bare_append hp hm)
  · have h34 : 34 ∈ rmC rm := by
      simp only [remarks, List.mem_cons, List.not_mem_nil, or_false] at hr
      rcases hr with rfl | rfl | rfl
      · exact absurd rfl h0
      · decide +kernel
      · decide +kernel
    unfold strip
    have hcps : (mk (pre ++ (rmC rm ++ (mid ++ rmC rm)))).cps.toList = pre ++ (rmC rm ++ (mid ++ rmC rm)) := by simp [mk]
    rw [dq_eq, show mk [34] = (⟨#[34]⟩ : Str) from rfl, empty_one, if_neg]
    · rw [hcps, esc_bare pre 0 _ hp, go_bare _ _ _ _ _ _ _ hp, go_mark _ hr h0, esc_bare mid _ _ hm, go_bare _ _ _ _ _ _ _ hm]
      have e1 := go_mark (mk (pre ++ (rmC rm ++ (mid ++ rmC rm)))) hr h0 (0 + pre.length + (rmC rm).length + mid.length) []
      rw [List.append_nil] at e1
      rw [e1]
      have hlen : (mk (pre ++ (rmC rm ++ (mid ++ rmC rm)))).length = 0 + pre.length + (rmC rm).length + mid.length + (rmC rm).length := by rw [mk_length]; simp; omega
      simp only [escItems, stripGo, stripEnd]
      rw [if_neg (by rw [hlen]; omega)]
      have s1 : Txt.slice (mk (pre ++ (rmC rm ++ (mid ++ rmC rm)))) (some ((0 : Nat) : Int)) (some ((0 + pre.length : Nat) : Int)) = mk pre := by
        rw [slice_mid (by omega) (by simp)]
        congr 1
        simp
      have s2 : Txt.slice (mk (pre ++ (rmC rm ++ (mid ++ rmC rm)))) (some ((0 + pre.length + (rmC rm).length : Nat) : Int)) (some ((0 + pre.length + (rmC rm).length + mid.length : Nat) : Int)) = mk mid := by
        rw [slice_mid (by omega) (by simp; omega)]
        congr 1
        rw [show 0 + pre.length + (rmC rm).length = (pre ++ rmC rm).length by simp, ← List.append_assoc, List.drop_left, show (pre ++ rmC rm).length + mid.length - (pre ++ rmC rm).length = mid.length by omega, List.take_left]
      rw [s1, s2]
      have B1 : mid.length = 0 → 0 + pre.length + (rmC rm).length = 0 + pre.length + (rmC rm).length + mid.length := by omega
      have B2 : mid.length ≠ 0 → ¬ (0 + pre.length + (rmC rm).length = 0 + pre.length + (rmC rm).length + mid.length) := by omega
      have A1 : pre.length = 0 → 0 = 0 + pre.length := by omega
      have A2 : pre.length ≠ 0 → ¬ (0 = 0 + pre.length) := by omega
      by_cases hp0 : pre.length = 0
      · rw [if_pos (A1 hp0)]
        have hp1 := List.length_eq_zero_iff.mp hp0
        by_cases hm0 : mid.length = 0
        · rw [if_pos (B1 hm0), hp1, List.length_eq_zero_iff.mp hm0]
          decide +kernel
        · rw [if_neg (B2 hm0), List.nil_append, hp1]
          exact join_one _
      · rw [if_neg (A2 hp0)]
        by_cases hm0 : mid.length = 0
        · rw [if_pos (B1 hm0), List.nil_append, List.length_eq_zero_iff.mp hm0, List.append_nil]
          exact join_one _
        · rw [if_neg (B2 hm0)]
          have := join_mks [pre, mid]
          simpa using this
    · simp only [Bool.not_eq_true', decide_eq_false_iff_not, Classical.not_not, hcps]
      simp [h34]
end
section
local macro_rules | `(tactic| omega) => `(tactic| lia)
open PySem PySem.W PyProof.Rows PySem.Spec PySem.Calls
theorem mk_toList (l : List Nat) : (mk l).cps.toList = l := by simp [mk]
noncomputable def numC (n : Int) : List Nat := (numS n).cps.toList
theorem numC_facts : ∀ k < 199, ((numC ((k : Nat) - 99 : Int)).all fun c => !ws c && c != 34 && c != 92 && c != 39 && c != 40 && c != 41) = true ∧ numC ((k : Nat) - 99 : Int) ≠ [] := by decide +kernel
theorem numC_ok {n : Int} (h0 : -99 ≤ n) (h1 : n ≤ 99) : (∀ c ∈ numC n, ws c = false ∧ c ≠ 34 ∧ c ≠ 92 ∧ c ≠ 39 ∧ c ≠ 40 ∧ c ≠ 41) ∧ numC n ≠ [] := by
  have f := numC_facts (n + 99).toNat (by omega)
  have e : (((n + 99).toNat : Nat) : Int) - 99 = n := by omega
  rw [e] at f
  refine ⟨fun c hc => ?_, f.2⟩
  have := List.all_eq_true.mp f.1 c hc
  simpa [and_assoc] using this
noncomputable def markC (l : List Nat) (k : Nat) (rm : Str) : List Nat := l.take k ++ (rmC rm ++ (l.drop k ++ rmC rm))
noncomputable def endsC (lo hi : Int) : List Nat := numC lo ++ 39 :: (numC hi ++ [39])
noncomputable def wordC (lo hi : Int) (l : List Nat) (k : Nat) (rm : Str) : List Nat := numC lo ++ 39 :: (numC hi ++ 39 :: markC l k rm)
theorem mark_mk {l : List Nat} {k : Nat} (rm : Str) (hk : k ≤ l.length) : markT (mk l) k rm = mk (markC l k rm) := by
  unfold markT
  rw [slice_upto hk, slice_from hk, ← mk_cps rm, mk_append, mk_append, mk_append]
  congr 1
  simp [markC, rmC, mk]
theorem ends_mk (lo hi : Int) : endsOf lo hi = mk (endsC lo hi) := by
  unfold endsOf
  rw [show Str.ofString "'" = mk [39] by decide +kernel, ← mk_cps (numS lo), ← mk_cps (numS hi), mk_append, mk_append, mk_append]
  congr 1
  simp [endsC, numC, mk]
theorem e99_mk : e99 = endsOf (-99) 99 := by decide +kernel
theorem word_mk {lo hi : Int} {l : List Nat} {k : Nat} {rm : Str} (hk : k ≤ l.length) (n : Int) : wordOf n (endsOf lo hi, mk l) k rm = mk (dressL n (wordC lo hi l k rm)) := by
  unfold wordOf
  rw [mark_mk rm hk, ends_mk, mk_append, mk_toList]
  congr 2
  simp [endsC, wordC]
-- tokens
theorem plain_run (h : Int) (hh : True) : ∀ (ls : List Nat) (r acc : List Nat), (∀ c ∈ ls, ws c = false) → plainW false (ls.flatMap (dressC h) ++ r) acc = plainW false r (acc ++ ls)
  | [], r, acc, _ => by simp
  | c :: ls, r, acc, hw => by
    have ih := plain_run h hh ls r (acc ++ [c]) fun d hd => hw d (.tail _ hd)
    have hc := hw c (.head _)
    rw [List.flatMap_cons, List.append_assoc]
    unfold dressC
    split
    · rw [List.cons_append, List.cons_append, List.nil_append, plainW, if_neg (by decide), if_pos rfl, plainW]
      rw [show (fun c => if h = 1 ∨ c = 34 ∨ c = 92 then [92, c] else [c]) = dressC h from rfl, ih, List.append_assoc]; rfl
    · next q =>
      rw [List.cons_append, List.nil_append, plainW, if_neg (by rw [hc]; exact Bool.false_ne_true), if_neg (fun e => q (.inr (.inr e)))]
      rw [show (fun c => if h = 1 ∨ c = 34 ∨ c = 92 then [92, c] else [c]) = dressC h from rfl, ih, List.append_assoc]; rfl
theorem quoted_run (h : Int) : ∀ (ls : List Nat) (r acc : List Nat), quoted false (ls.flatMap (dressC h) ++ r) acc = quoted false r (acc ++ ls)
  | [], r, acc => by simp
  | c :: ls, r, acc => by
    have ih := quoted_run h ls r (acc ++ [c])
    rw [List.flatMap_cons, List.append_assoc]
    unfold dressC
    split
    · rw [List.cons_append, List.cons_append, List.nil_append, quoted, if_neg (by decide), if_pos rfl, quoted]
      rw [show (fun c => if h = 1 ∨ c = 34 ∨ c = 92 then [92, c] else [c]) = dressC h from rfl, ih, List.append_assoc]; rfl
    · next q =>
      rw [List.cons_append, List.nil_append, quoted, if_neg (fun e => q (.inr (.inl e))), if_neg (fun e => q (.inr (.inr e)))]
      rw [show (fun c => if h = 1 ∨ c = 34 ∨ c = 92 then [92, c] else [c]) = dressC h from rfl, ih, List.append_assoc]; rfl
theorem tok_start {c : Nat} {r : List Nat} (h1 : ws c = false) (h2 : c ≠ 34) : tokOf (c :: r) = plainW false (c :: r) [] := by
  rw [tokOf, if_neg (by rw [h1]; exact Bool.false_ne_true), if_neg h2]
  conv => rhs; rw [plainW, if_neg (by rw [h1]; exact Bool.false_ne_true)]
  split <;> rfl
theorem tok_plain {h : Int} {ls r : List Nat} (hn : ls ≠ []) (hw : ∀ c ∈ ls, ws c = false) : tokOf (ls.flatMap (dressC h) ++ r) = plainW false r ls := by
  have hr := plain_run h trivial ls r [] hw
  rw [List.nil_append] at hr
  rw [← hr]
  cases ls with
  | nil => exact absurd rfl hn
  | cons c ls =>
    have hc := hw c (.head _)
    rw [List.flatMap_cons, List.append_assoc]
    by_cases q : h = 1 ∨ c = 34 ∨ c = 92
    · rw [show dressC h c = [92, c] by rw [dressC, if_pos q]]
      exact tok_start (by decide) (by decide)
    · rw [show dressC h c = [c] by rw [dressC, if_neg q]]
      exact tok_start hc (fun e => q (.inr (.inl e)))
theorem tok_word (n : Int) {ls r : List Nat} (hn : ls ≠ []) (hw : ∀ c ∈ ls, ws c = false) : tokOf (dressL n ls ++ 32 :: r) = (ls, if n.fmod 3 = 0 then 32 :: r else r) := by
  unfold dressL
  split
  · have e : (34 :: ls.flatMap (dressC (n.fmod 3)) ++ [34]) ++ 32 :: r = 34 :: (ls.flatMap (dressC (n.fmod 3)) ++ 34 :: 32 :: r) := by simp
    rw [e, tokOf, if_neg (by decide), if_pos rfl, quoted_run, List.nil_append]
    rfl
  · rw [tok_plain hn hw]; rfl
theorem tok_last (n : Int) {ls : List Nat} (hn : ls ≠ []) (hw : ∀ c ∈ ls, ws c = false) : tokOf (dressL n ls) = (ls, []) := by
  unfold dressL
  split
  · have e : 34 :: ls.flatMap (dressC (n.fmod 3)) ++ [34] = 34 :: (ls.flatMap (dressC (n.fmod 3)) ++ [34]) := by simp
    rw [e, tokOf, if_neg (by decide), if_pos rfl, quoted_run, List.nil_append]
    rfl
  · have := tok_plain (h := n.fmod 3) (r := []) hn hw
    rw [List.append_nil] at this
    rw [this]; rfl
theorem Reads.space {r : List Nat} {its : List Item} (h : Reads r its) : Reads (32 :: r) its := by
  have e : tokOf (32 :: r) = tokOf r := by rw [tokOf, if_pos (by decide)]
  cases h with
  | nil q => exact .nil (by rw [e]; exact q)
  | name a b c d f g => exact .name (by rw [e]; exact a) (by rw [e]; exact b) c d f (by rw [e]; exact g)
  | word a b c d f g i j k l => exact .word (by rw [e]; exact a) b c d f g i j k (by rw [e]; exact l)
theorem mark_codes {l : List Nat} {k : Nat} {rm : Str} (hr : rm ∈ remarks) (hl : ∀ c ∈ l, c ∈ alpha) : ∀ c ∈ markC l k rm, ws c = false := by
  have h1 : ∀ c ∈ alpha, ws c = false := by decide
  have h2 : ∀ rm ∈ remarks, ∀ c ∈ rmC rm, ws c = false := by decide +kernel
  intro c hc
  simp only [markC, List.mem_append] at hc
  rcases hc with hc | hc | hc | hc
  · exact h1 c (hl c (List.mem_of_mem_take hc))
  · exact h2 rm hr c hc
  · exact h1 c (hl c (List.mem_of_mem_drop hc))
  · exact h2 rm hr c hc
theorem word_codes {lo hi : Int} {l : List Nat} {k : Nat} {rm : Str} (h1 : -99 ≤ lo) (h2 : lo ≤ 99) (h3 : -99 ≤ hi) (h4 : hi ≤ 99) (hr : rm ∈ remarks) (hl : ∀ c ∈ l, c ∈ alpha) : ∀ c ∈ wordC lo hi l k rm, ws c = false := by
  intro c hc
  simp only [wordC, List.mem_append, List.mem_cons] at hc
  rcases hc with hc | rfl | hc | rfl | hc
  · exact ((numC_ok h1 h2).1 c hc).1
  · decide
  · exact ((numC_ok h3 h4).1 c hc).1
  · decide
  · exact mark_codes hr hl c hc
theorem numC_len {n : Int} (h0 : -99 ≤ n) (h1 : n ≤ 99) : (numC n).length ≤ 3 := by
  have := (num_text h0 h1).2
  rwa [← len_cps] at this
theorem rm_len {rm : Str} (hr : rm ∈ remarks) : (rmC rm).length ≤ 5 := by
  have := remark_len hr
  rwa [← len_cps] at this
theorem markC_len {l : List Nat} {k : Nat} {rm : Str} (hr : rm ∈ remarks) : (markC l k rm).length ≤ l.length + 10 := by
  have := rm_len hr
  simp only [markC, List.length_append, List.length_take, List.length_drop]
  omega
theorem wordC_len {lo hi : Int} {l : List Nat} {k : Nat} {rm : Str} (h1 : -99 ≤ lo) (h2 : lo ≤ 99) (h3 : -99 ≤ hi) (h4 : hi ≤ 99) (hr : rm ∈ remarks) : (wordC lo hi l k rm).length ≤ l.length + 18 := by
  have a := numC_len h1 h2
  have b := numC_len h3 h4
  have c := markC_len (l := l) (k := k) hr
  simp only [wordC, List.length_append, List.length_cons]
  omega
theorem wordC_ne (lo hi : Int) (l : List Nat) (k : Nat) (rm : Str) : wordC lo hi l k rm ≠ [] := by simp [wordC]
/-- one dressed word is read as itself -/
theorem reads_word {lo hi : Int} {l : List Nat} {k : Nat} {rm : Str} (h1 : -99 ≤ lo) (h2 : lo ≤ 99) (h3 : -99 ≤ hi) (h4 : hi ≤ 99) (hr : rm ∈ remarks) (hl : ∀ c ∈ l, c ∈ alpha) (hlen : l.length ≤ 40) {r r' : List Nat} {its : List Item} (ht : tokOf r = (wordC lo hi l k rm, r')) (hR : Reads r' its) :
    Reads r (.word (mk (wordC lo hi l k rm)) (numS lo) (numS hi) (mk (markC l k rm)) lo hi :: its) := by
  have a := num_text h1 h2
  have b := num_text h3 h4
  have wl := wordC_len (l := l) (k := k) h1 h2 h3 h4 hr
  have ml := markC_len (l := l) (k := k) hr
  refine .word (by rw [ht]) (by rw [mk_length]; omega) ?_ a.1 (by omega) b.1 (by omega) (by rw [mk_length]; omega) ?_ (by rw [ht]; exact hR)
  · have := split_word (a := numC lo) (b := numC hi) (r := markC l k rm) (fun q => ((numC_ok h1 h2).1 39 q).2.2.2.1 rfl) (fun q => ((numC_ok h3 h4).1 39 q).2.2.2.1 rfl)
    rw [show mk (numC lo) = numS lo from mk_cps _, show mk (numC hi) = numS hi from mk_cps _] at this
    exact this
  · intro e
    have := congrArg Str.length e
    rw [mk_length, show (Str.ofString "").length = 0 by decide +kernel] at this
    exact wordC_ne _ _ _ _ _ (List.length_eq_zero_iff.mp this)
-- names
theorem plain_facts : ∀ x ∈ plainTexts, (∀ c ∈ x.cps.toList, ws c = false ∧ c ≠ 34 ∧ c ≠ 92) ∧ x.cps.toList ≠ [] ∧ Txt.splitMax x (Str.ofString "'") 2 = [x] := by
  have : plainTexts.all (fun x => (x.cps.toList.all fun c => !ws c && c != 34 && c != 92) && (x.cps.toList != []) && (Txt.splitMax x (Str.ofString "'") 2 == [x])) = true := by decide +kernel
  intro x hx
  have h := List.all_eq_true.mp this x hx
  simp only [Bool.and_eq_true, List.all_eq_true, bne_iff_ne, beq_iff_eq, Bool.not_eq_true'] at h
  exact ⟨fun c hc => ⟨(h.1.1 c hc).1.1, (h.1.1 c hc).1.2, (h.1.1 c hc).2⟩, h.1.2, h.2⟩
theorem plain_tok {x : Str} (hx : x ∈ plainTexts) {d : Nat} {r : List Nat} (hd : ws d = true) : tokOf (x.cps.toList ++ d :: r) = (x.cps.toList, r) := by
  obtain ⟨h1, h2, _⟩ := plain_facts x hx
  have e : x.cps.toList.flatMap (dressC 2) = x.cps.toList := by
    have : ∀ l : List Nat, (∀ c ∈ l, c ≠ 34 ∧ c ≠ 92) → l.flatMap (dressC 2) = l := by
      intro l
      induction l with
      | nil => intro _; rfl
      | cons c l ih =>
        intro h
        rw [List.flatMap_cons, ih fun d hd => h d (.tail _ hd), dressC, if_neg]
        · rfl
        · have := h c (.head _); omega
    exact this _ fun c hc => (h1 c hc).2
  have := tok_plain (h := 2) (r := d :: r) h2 fun c hc => (h1 c hc).1
  rw [e] at this
  rw [this, plainW, if_pos hd]
theorem reads_name {k y : Str} (hk : k ∈ plainTexts) (hy : y ∈ plainTexts) {d1 d2 : Nat} (h1 : ws d1 = true) (h2 : ws d2 = true) {r : List Nat} {its : List Item} (hR : Reads r its) : Reads (k.cps.toList ++ d1 :: (y.cps.toList ++ d2 :: r)) (.name k y :: its) := by
  have e1 := plain_tok hk (d := d1) (r := y.cps.toList ++ d2 :: r) h1
  have e2 := plain_tok hy (d := d2) (r := r) h2
  refine .name ?_ ?_ hk hy (plain_facts k hk).2.2 ?_
  · rw [e1]; exact mk_cps k
  · rw [e1]; show mk (tokOf (y.cps.toList ++ d2 :: r)).1 = y; rw [e2]; exact mk_cps y
  · rw [e1]; show Reads (tokOf (y.cps.toList ++ d2 :: r)).2 its; rw [e2]; exact hR
end
section
local macro_rules | `(tactic| omega) => `(tactic| lia)
open PySem PySem.W PyProof.Rows PySem.Spec PySem.Calls
theorem bal_skip : ∀ (a r : List Nat) (o : Int), (∀ c ∈ a, c ≠ 40 ∧ c ≠ 41) → balGo (a ++ r) o = balGo r o
  | [], _, _, _ => rfl
  | c :: a, r, o, h => by
    have hc := h c (.head _)
    rw [List.cons_append, balGo, if_neg hc.1, if_neg hc.2]
    exact bal_skip a r o fun d hd => h d (.tail _ hd)
theorem bal_pre : ∀ (a b : List Nat) (o : Int), 0 ≤ o → balGo (a ++ b) o = true → 0 ≤ o + bsum a
  | [], b, o, h, _ => by simp [bsum]; exact h
  | c :: a, b, o, h, hb => by
    simp only [List.cons_append, balGo] at hb
    simp only [bsum, val]
    split at hb
    · rename_i q; have := bal_pre a b _ (by omega) hb; simp only [q, if_true]; omega
    · rename_i q
      split at hb
      · rename_i q2
        split at hb
        · cases hb
        · have := bal_pre a b _ (by omega) hb; simp only [q2]; simp; omega
      · rename_i q2
        have := bal_pre a b _ h hb; simp only [q, q2, if_false]; omega
theorem strip_markC {l : List Nat} {k : Nat} {rm : Str} (hb : Bare l) (hr : rm ∈ remarks) : strip (mk (markC l k rm)) = mk l := by
  have := strip_marked (bare_take hb k) (bare_drop hb k) hr
  rw [List.take_append_drop] at this
  exact this
theorem check_wordC {lo hi : Int} {l : List Nat} {k : Nat} {rm : Str} (h1 : -99 ≤ lo) (h2 : lo ≤ 99) (h3 : -99 ≤ hi) (h4 : hi ≤ 99) (hb : Bare l) (hr : rm ∈ remarks) : check (mk (wordC lo hi l k rm)) = balGo l 0 := by
  have nl := (numC_ok h1 h2).1
  have nh := (numC_ok h3 h4).1
  have hpre : Bare (numC lo ++ 39 :: (numC hi ++ 39 :: l.take k)) := by
    intro c hc
    simp only [List.mem_append, List.mem_cons] at hc
    rcases hc with hc | rfl | hc | rfl | hc
    · exact ⟨(nl c hc).2.1, (nl c hc).2.2.1⟩
    · decide
    · exact ⟨(nh c hc).2.1, (nh c hc).2.2.1⟩
    · decide
    · exact bare_take hb k c hc
  have hall : Bare (numC lo ++ 39 :: (numC hi ++ 39 :: l)) := by
    intro c hc
    simp only [List.mem_append, List.mem_cons] at hc
    rcases hc with hc | rfl | hc | rfl | hc
    · exact ⟨(nl c hc).2.1, (nl c hc).2.2.1⟩
    · decide
    · exact ⟨(nh c hc).2.1, (nh c hc).2.2.1⟩
    · decide
    · exact hb c hc
  have hs : strip (mk (wordC lo hi l k rm)) = mk (numC lo ++ 39 :: (numC hi ++ 39 :: l)) := by
    have e : wordC lo hi l k rm = (numC lo ++ 39 :: (numC hi ++ 39 :: l.take k)) ++ (rmC rm ++ (l.drop k ++ rmC rm)) := by simp [wordC, markC]
    rw [e, strip_marked hpre (bare_drop hb k) hr]
    congr 1
    simp
  unfold check
  rw [hs, mk_toList, checkGo_bare _ _ _ hall]
  have e2 : numC lo ++ 39 :: (numC hi ++ 39 :: l) = (numC lo ++ 39 :: (numC hi ++ [39])) ++ l := by simp
  rw [e2, bal_skip]
  intro c hc
  simp only [List.mem_append, List.mem_cons, List.not_mem_nil, or_false] at hc
  rcases hc with hc | rfl | hc | rfl
  · exact ⟨(nl c hc).2.2.2.2.1, (nl c hc).2.2.2.2.2⟩
  · decide
  · exact ⟨(nh c hc).2.2.2.2.1, (nh c hc).2.2.2.2.2⟩
  · decide
/-- a formula turned about is out of order -/
theorem bal_turned {s : Bool} {a b : T} {j : Nat} (h1 : 1 ≤ j) (h2 : j < (T.node s a b).cs.length) : balGo ((T.node s a b).cs.drop j ++ (T.node s a b).cs.take j) 0 = false := by
  rcases q : balGo ((T.node s a b).cs.drop j ++ (T.node s a b).cs.take j) 0 with _ | _
  · rfl
  · exfalso
    have p := bal_pre _ _ _ (Int.le_refl _) q
    have i := bsum_inner s a b j h1 h2
    have t := bsum_tree (.node s a b)
    rw [← List.take_append_drop j (T.node s a b).cs, bsum_append] at t
    omega
-- the table
theorem lowerN : ∀ i < 5, Txt.lower (letterN i) = mk [97 + i] := by decide +kernel
theorem lowerBig : ∀ i < 5, Txt.lower (mk [65 + i]) = mk [97 + i] := by decide +kernel
theorem lowerL (c : Fin 10) : Txt.lower (letter c) = mk [97 + c.1 % 5] := lower_letter c
theorem pairs_five (ns : List Int) : pairsOf ns = [(letterN 0, numS (ns.getD 0 0)), (letterN 1, numS (ns.getD 1 0)), (letterN 2, numS (ns.getD 2 0)), (letterN 3, numS (ns.getD 3 0)), (letterN 4, numS (ns.getD 4 0))] := rfl
theorem getV_five (y0 y1 y2 y3 y4 : Str) (x : Str) (i : Nat) (hi : i < 5) (hx : Txt.lower x = mk [97 + i]) : getV [(letterN 0, y0), (letterN 1, y1), (letterN 2, y2), (letterN 3, y3), (letterN 4, y4)] x = some ([y0, y1, y2, y3, y4].getD i (Str.ofString "")) := by
  have e : i = 0 ∨ i = 1 ∨ i = 2 ∨ i = 3 ∨ i = 4 := by omega
  unfold getV
  rw [hx]
  simp only [List.find?, lowerN 0 (by decide), lowerN 1 (by decide), lowerN 2 (by decide), lowerN 3 (by decide), lowerN 4 (by decide), mk1_beq]
  rcases e with rfl | rfl | rfl | rfl | rfl <;> rfl
theorem getV_leaf (ns : List Int) (c : Fin 10) : getV (pairsOf ns) (letter c) = some (numS ((T.leaf c).worth ns)) := by
  have h : c.1 % 5 < 5 := Nat.mod_lt _ (by decide)
  rw [pairs_five, getV_five _ _ _ _ _ _ (c.1 % 5) h (lowerL c)]
  have e : c.1 % 5 = 0 ∨ c.1 % 5 = 1 ∨ c.1 % 5 = 2 ∨ c.1 % 5 = 3 ∨ c.1 % 5 = 4 := by omega
  simp only [T.worth]
  rcases e with e | e | e | e | e <;> rw [e] <;> rfl
theorem getV_new (kvs : List (Str × Str)) (j : Nat) (hj : j < 5) (h : ∀ q ∈ kvs, ∃ i, i < j ∧ q.1 = letterN i) : getV kvs (letterN j) = none := by
  unfold getV
  rw [lowerN j hj]
  have : kvs.find? (fun p => Txt.lower p.1 == mk [97 + j]) = none := by
    rw [List.find?_eq_none]
    intro q hq
    obtain ⟨i, hi, e⟩ := h q hq
    rw [e, lowerN i (by omega), mk1_beq]
    simp; omega
  rw [this]; rfl
noncomputable def nameI (q : Str × Str) : Item := .name q.1 q.2
theorem readT_pairs (y0 y1 y2 y3 y4 : Str) (its : List Item) : readT ([(letterN 0, y0), (letterN 1, y1), (letterN 2, y2), (letterN 3, y3), (letterN 4, y4)].map nameI ++ its) [] = readT its [(letterN 0, y0), (letterN 1, y1), (letterN 2, y2), (letterN 3, y3), (letterN 4, y4)] := by
  have m0 : ∀ {j : Nat}, ∀ q ∈ ([] : List (Str × Str)), ∃ i, i < j ∧ q.1 = letterN i := fun _ h => nomatch h
  have mc : ∀ {j : Nat} {kvs : List (Str × Str)} {i : Nat} {y : Str}, i < j → (∀ q ∈ kvs, ∃ i, i < j ∧ q.1 = letterN i) → ∀ q ∈ (letterN i, y) :: kvs, ∃ i, i < j ∧ q.1 = letterN i := fun hi h => List.forall_mem_cons.mpr ⟨⟨_, hi, rfl⟩, h⟩
  simp only [List.map_cons, List.map_nil, nameI, List.cons_append, List.nil_append, readT, stepT]
  rw [if_pos (getV_new [] 0 (by decide) m0)]
  (try simp only [List.nil_append])
  rw [if_pos (getV_new _ 1 (by decide) (mc (by decide) m0))]
  (try simp only [List.cons_append, List.nil_append])
  rw [if_pos (getV_new _ 2 (by decide) (mc (by decide) (mc (by decide) m0)))]
  (try simp only [List.cons_append, List.nil_append])
  rw [if_pos (getV_new _ 3 (by decide) (mc (by decide) (mc (by decide) (mc (by decide) m0))))]
  (try simp only [List.cons_append, List.nil_append])
  rw [if_pos (getV_new _ 4 (by decide) (mc (by decide) (mc (by decide) (mc (by decide) (mc (by decide) m0)))))]
  (try simp only [List.cons_append, List.nil_append])
theorem readA_names (l : List (Str × Str)) (its : List Item) (qs : List (Int × Int × Str)) : readA (l.map nameI ++ its) qs = readA its qs := by
  induction l with
  | nil => rfl
  | cons q r ih => exact ih
theorem letterN_plain : ∀ i < 5, letterN i ∈ plainTexts := by decide +kernel
theorem num_plain_facts : ∀ k < 11, numS ((k : Nat) - 5 : Int) ∈ plainTexts := by decide +kernel
theorem num_plain {n : Int} (h0 : -5 ≤ n) (h1 : n ≤ 5) : numS n ∈ plainTexts := by
  have := num_plain_facts (n + 5).toNat (by omega)
  have e : (((n + 5).toNat : Nat) : Int) - 5 = n := by omega
  rwa [e] at this
theorem pairs_plain {ns : List Int} (h : ∀ n ∈ ns, -5 ≤ n ∧ n ≤ 5) : ∀ q ∈ pairsOf ns, q.1 ∈ plainTexts ∧ q.2 ∈ plainTexts := by
  intro q hq
  obtain ⟨i, hi⟩ := List.mem_iff_getElem?.mp hq
  obtain ⟨h5, rfl⟩ := pairs_get hi
  have b := getD_small h i
  exact ⟨letterN_plain i h5, num_plain b.1 b.2⟩
theorem reads_lines : ∀ (l : List (Str × Str)) (r : List Nat) (its : List Item), (∀ q ∈ l, q.1 ∈ plainTexts ∧ q.2 ∈ plainTexts) → Reads r its → Reads (l.flatMap lineC ++ r) (l.map nameI ++ its)
  | [], r, its, _, h => h
  | q :: l, r, its, hp, h => by
    have ih := reads_lines l r its (fun p hp' => hp p (.tail _ hp')) h
    have hq := hp q (.head _)
    have := reads_name hq.1 hq.2 (d1 := 32) (d2 := 10) (by decide) (by decide) ih
    have e : (q :: l).flatMap lineC ++ r = q.1.cps.toList ++ 32 :: (q.2.cps.toList ++ 10 :: (l.flatMap lineC ++ r)) := by
      rw [List.flatMap_cons, List.append_assoc]
      show lineC q ++ _ = _
      simp [lineC]
    rw [e]
    exact this
theorem big_plain : ∀ i < 5, mk [65 + i] ∈ plainTexts := by decide +kernel
theorem nine_plain : Str.ofString "9" ∈ plainTexts := by decide +kernel
theorem nine_codes : (Str.ofString "9").cps.toList = [57] := by decide +kernel
end
section
local macro_rules | `(tactic| omega) => `(tactic| lia)
open PySem PySem.W PyProof.Rows PySem.Spec PySem.Calls
theorem nls_append (a b : List Nat) : nls (a ++ b) = nls a + nls b := by unfold nls; rw [List.filter_append, List.length_append]; omega
theorem nls_zero {l : List Nat} (h : ∀ c ∈ l, c ≠ 10) : nls l = 0 := by
  unfold nls
  rw [List.filter_eq_nil_iff.mpr]
  · rfl
  · intro c hc; simpa using h c hc
theorem ws_ne {c : Nat} (h : ws c = false) : c ≠ 10 := fun e => by subst e; cases h
theorem dress_mem {n : Int} {ls : List Nat} : ∀ c ∈ dressL n ls, c = 34 ∨ c = 92 ∨ c ∈ ls := by
  have hf : ∀ c ∈ ls.flatMap (dressC (n.fmod 3)), c = 34 ∨ c = 92 ∨ c ∈ ls := by
    intro c hc
    obtain ⟨d, hd, hc⟩ := List.mem_flatMap.mp hc
    unfold dressC at hc
    split at hc
    · simp only [List.mem_cons, List.not_mem_nil, or_false] at hc
      rcases hc with rfl | rfl
      · exact .inr (.inl rfl)
      · exact .inr (.inr hd)
    · rw [List.mem_singleton.mp hc]; exact .inr (.inr hd)
  intro c hc
  unfold dressL at hc
  split at hc
  · simp only [List.cons_append, List.mem_cons, List.mem_append, List.not_mem_nil, or_false] at hc
    rcases hc with rfl | hc | rfl
    · exact .inl rfl
    · exact hf c hc
    · exact .inl rfl
  · exact hf c hc
theorem dress_nls {n : Int} {ls : List Nat} (h : ∀ c ∈ ls, ws c = false) : nls (dressL n ls) = 0 := nls_zero fun c hc => by
  rcases dress_mem c hc with rfl | rfl | hc
  · decide
  · decide
  · exact ws_ne (h c hc)
theorem dressL_len {n : Int} (ls : List Nat) : (dressL n ls).length ≤ 2 * ls.length + 2 := by
  have := flat_len (n.fmod 3) ls
  unfold dressL
  split
  · simp only [List.length_cons, List.length_append, List.length_nil]; omega
  · omega
theorem line_nls {q : Str × Str} (h : q.1 ∈ plainTexts ∧ q.2 ∈ plainTexts) : nls (lineC q) = 1 := by
  have a := (plain_facts _ h.1).1
  have b := (plain_facts _ h.2).1
  have e : lineC q = q.1.cps.toList ++ ([32] ++ (q.2.cps.toList ++ [10])) := rfl
  rw [e, nls_append, nls_append, nls_append, nls_zero fun c hc => ws_ne (a c hc).1, nls_zero fun c hc => ws_ne (b c hc).1]
  rfl
theorem lines_nls : ∀ l : List (Str × Str), (∀ q ∈ l, q.1 ∈ plainTexts ∧ q.2 ∈ plainTexts) → nls (l.flatMap lineC) = l.length
  | [], _ => rfl
  | q :: l, h => by
    have ih := lines_nls l fun p hp => h p (.tail _ hp)
    rw [List.flatMap_cons, nls_append, ih, line_nls (h q (.head _)), List.length_cons]
    omega
theorem turned_mk {l : List Nat} {turn : Int} (h0 : 0 ≤ turn) (h1 : turn.toNat ≤ l.length) : turned (mk l) turn = mk (l.drop turn.toNat ++ l.take turn.toNat) := by
  unfold turned
  obtain ⟨k, rfl⟩ := Int.eq_ofNat_of_zero_le h0
  rw [Int.toNat_natCast] at h1 ⊢
  rw [slice_upto h1, slice_from h1, mk_append]
theorem three {α : Type} {l : List α} {a b c : α} (h : l.length = 3) (h0 : l[0]? = some a) (h1 : l[1]? = some b) (h2 : l[2]? = some c) : l = [a, b, c] := by
  match l, h with
  | [x, y, z], _ => simp at h0 h1 h2; simp [h0, h1, h2]
set_option maxHeartbeats 1000000 in
/-- what the law's netrc text holds -/
theorem plain_reads (t : T) (hsz : t.size = 4) {ns : List Int} (hns : ∀ n ∈ ns, -5 ≤ n ∧ n ≤ 5) {low high turn : Int} (hl1 : -6 ≤ low) (hl2 : low ≤ 5) (hh1 : low + 1 ≤ high) (hh2 : high ≤ low + 6) (ht1 : 1 ≤ turn) (ht2 : turn ≤ 8) (n : Int) {K : Nat} (hK : K < 5) {wl : List Str} (hw : WordsOk n (specsOf t.text low high turn) 3 wl) :
    ∃ a b c its, wl = [mk a, mk b, mk c] ∧ a.length ≤ 100 ∧ b.length ≤ 100 ∧ c.length ≤ 100 ∧ (namesC ns K).length ≤ 40 ∧ Reads (restC (namesC ns K) a b c) its ∧ its.length ≤ 40 ∧ nls (restC (namesC ns K) a b c) = 5 ∧ readT its [] = pairsOf ns ∧ readA its [] = [(low, high, t.text), (-99, 99, t.text)] := by
  have htx := text_cs t
  have hcl := cs_length t
  rw [hsz] at hcl
  have hal := cs_alpha t
  have hbt : balGo t.cs 0 = true := bal_cs t
  have hbr : balGo (t.cs.drop turn.toNat ++ t.cs.take turn.toNat) 0 = false := by
    cases t with
    | leaf c => simp [T.size] at hsz
    | node s l r => exact bal_turned (by omega) (by omega)
  have hbare := tree_bare t
  generalize t.cs = l at htx hcl hal hbt hbr hbare
  rw [htx] at hw ⊢
  have htm := turned_mk (l := l) (turn := turn) (by omega) (by omega)
  obtain ⟨hwl, hwj⟩ := hw
  obtain ⟨k0, r0, hk0, hr0, e0⟩ := hwj 0 _ (by decide) rfl
  obtain ⟨k1, r1, hk1, hr1, e1⟩ := hwj 1 _ (by decide) rfl
  obtain ⟨k2, r2, hk2, hr2, e2⟩ := hwj 2 _ (by decide) rfl
  rw [htm] at e0
  rw [e99_mk] at e2
  have hl' : (l.drop turn.toNat ++ l.take turn.toNat).length = 17 := by simp; omega
  have hal' : ∀ c ∈ l.drop turn.toNat ++ l.take turn.toNat, c ∈ alpha := fun c hc => (List.mem_append.mp hc).elim (fun h => hal c (List.mem_of_mem_drop h)) fun h => hal c (List.mem_of_mem_take h)
  have hbare' : Bare (l.drop turn.toNat ++ l.take turn.toNat) := bare_append (bare_drop hbare _) (bare_take hbare _)
  generalize l.drop turn.toNat ++ l.take turn.toNat = l' at e0 hl' hal' hbare' hbr
  rw [word_mk (by omega)] at e0 e1 e2
  have b1 : -99 ≤ low := by omega
  have b2 : low ≤ 99 := by omega
  have b3 : -99 ≤ high := by omega
  have b4 : high ≤ 99 := by omega
  have w0 := word_codes (k := k0) b1 b2 b3 b4 hr0 hal'
  have w1 := word_codes (k := k1) b1 b2 b3 b4 hr1 hal
  have w2 := word_codes (k := k2) (lo := -99) (hi := 99) (by decide) (by decide) (by decide) (by decide) hr2 hal
  have n0 := wordC_len (l := l') (k := k0) b1 b2 b3 b4 hr0
  have n1 := wordC_len (l := l) (k := k1) b1 b2 b3 b4 hr1
  have n2 := wordC_len (l := l) (k := k2) (lo := -99) (hi := 99) (by decide) (by decide) (by decide) (by decide) hr2
  have d0 := dressL_len (n := n) (wordC low high l' k0 r0)
  have d1 := dressL_len (n := n) (wordC low high l k1 r1)
  have d2 := dressL_len (n := n) (wordC (-99) 99 l k2 r2)
  have pp := pairs_plain hns
  have hfl := flat_le lineC 6 (pairsOf ns) fun q hq => lineC_len hns hq
  have hp5 : (pairsOf ns).length = 5 := by simp [pairsOf]
  -- the reading, from the end
  have R2 : Reads (dressL n (wordC (-99) 99 l k2 r2)) [.word (mk (wordC (-99) 99 l k2 r2)) (numS (-99)) (numS 99) (mk (markC l k2 r2)) (-99) 99] :=
    reads_word (by decide) (by decide) (by decide) (by decide) hr2 hal (by omega) (tok_last n (wordC_ne _ _ _ _ _) w2) (.nil rfl)
  have R1 : Reads (dressL n (wordC low high l k1 r1) ++ 32 :: dressL n (wordC (-99) 99 l k2 r2)) _ :=
    reads_word b1 b2 b3 b4 hr1 hal (by omega) (tok_word n (wordC_ne _ _ _ _ _) w1) (by split; exact R2.space; exact R2)
  have R0 : Reads (dressL n (wordC low high l' k0 r0) ++ 32 :: (dressL n (wordC low high l k1 r1) ++ 32 :: dressL n (wordC (-99) 99 l k2 r2))) _ :=
    reads_word b1 b2 b3 b4 hr0 hal' (by omega) (tok_word n (wordC_ne _ _ _ _ _) w0) (by split; exact R1.space; exact R1)
  have RB := reads_name (big_plain K hK) nine_plain (d1 := 32) (d2 := 32) (by decide) (by decide) R0
  have RN := reads_lines (pairsOf ns) _ _ pp RB
  refine ⟨_, _, _, (pairsOf ns).map nameI ++ (.name (mk [65 + K]) (Str.ofString "9") :: .word (mk (wordC low high l' k0 r0)) (numS low) (numS high) (mk (markC l' k0 r0)) low high :: .word (mk (wordC low high l k1 r1)) (numS low) (numS high) (mk (markC l k1 r1)) low high :: [.word (mk (wordC (-99) 99 l k2 r2)) (numS (-99)) (numS 99) (mk (markC l k2 r2)) (-99) 99]), three hwl e0 e1 e2, by omega, by omega, by omega, ?_, ?_, ?_, ?_, ?_, ?_⟩
  · unfold namesC; simp only [List.length_append, List.length_cons, List.length_nil]; omega
  · have e : restC (namesC ns K) (dressL n (wordC low high l' k0 r0)) (dressL n (wordC low high l k1 r1)) (dressL n (wordC (-99) 99 l k2 r2)) = (pairsOf ns).flatMap lineC ++ ((mk [65 + K]).cps.toList ++ 32 :: ((Str.ofString "9").cps.toList ++ 32 :: (dressL n (wordC low high l' k0 r0) ++ 32 :: (dressL n (wordC low high l k1 r1) ++ 32 :: dressL n (wordC (-99) 99 l k2 r2))))) := by
      rw [nine_codes, mk_toList]
      simp [restC, namesC]
    rw [e]
    exact RN
  · simp only [List.length_append, List.length_map, List.length_cons, List.length_nil]; omega
  · have e : restC (namesC ns K) (dressL n (wordC low high l' k0 r0)) (dressL n (wordC low high l k1 r1)) (dressL n (wordC (-99) 99 l k2 r2)) = (pairsOf ns).flatMap lineC ++ ([65 + K, 32, 57, 32] ++ (dressL n (wordC low high l' k0 r0) ++ ([32] ++ (dressL n (wordC low high l k1 r1) ++ ([32] ++ dressL n (wordC (-99) 99 l k2 r2)))))) := by
      simp [restC, namesC]
    rw [e]
    simp only [nls_append]
    rw [lines_nls _ pp, hp5, dress_nls w0, dress_nls w1, dress_nls w2, nls_zero (l := [65 + K, 32, 57, 32]) (by intro c hc; simp at hc; omega), nls_zero (l := [32]) (by decide)]
    decide
  · rw [pairs_five, readT_pairs]
    show readT _ (stepT _ _ _) = _
    rw [stepT, getV_five _ _ _ _ _ _ K hK (lowerBig K hK), if_neg (by simp)]
    rfl
  · rw [readA_names]
    show readA _ (if check (mk (wordC low high l' k0 r0)) then _ else _) = _
    rw [check_wordC b1 b2 b3 b4 hbare' hr0, hbr, if_neg Bool.false_ne_true]
    show readA _ (if check (mk (wordC low high l k1 r1)) then _ else _) = _
    rw [check_wordC b1 b2 b3 b4 hbare hr1, hbt, if_pos rfl, strip_markC hbare hr1]
    show (if check (mk (wordC (-99) 99 l k2 r2)) then _ else _) = _
    rw [check_wordC (by decide) (by decide) (by decide) (by decide) hbare hr2, hbt, if_pos rfl, strip_markC hbare hr2]
    rfl
end
section
local macro_rules | `(tactic| omega) => `(tactic| lia)
open PySem PySem.W PyProof.Rows PySem.Spec PySem.Calls
theorem lawB_eq : lawB = nthS lawB 0 :: nthS lawB 1 :: nthS lawB 2 :: nthS lawB 3 :: nthS lawB 4 :: nthS lawB 5 :: nthS lawB 6 :: nthS lawB 7 :: nthS lawB 8 :: nthS lawB 9 :: nthS lawB 10 :: nthS lawB 11 :: nthS lawB 12 :: nthS lawB 13 :: nthS lawB 14 :: nthS lawB 15 :: [nthS lawB 16, nthS lawB 17, nthS lawB 18] := by rfl
theorem pmA {α : Type} {a b c d e f : α} {l : List α} : ∀ q ∈ f :: a :: b :: c :: d :: e :: l, q ∈ a :: b :: c :: d :: e :: f :: l := fun p hp => by
  simp only [List.mem_cons] at hp ⊢
  rcases hp with h | h | h | h | h | h | h <;> simp [h]
theorem strs3 {us : List Value} {a b c : Str} (h : StrsAre us [a, b, c]) : ∃ t1 t2 t3, us = [.str a t1, .str b t2, .str c t3] := by
  cases h with
  | cons _ t1 h => cases h with
    | cons _ t2 h => cases h with
      | cons _ t3 h => cases h; exact ⟨t1, t2, t3, rfl⟩
theorem worth_small {ns : List Int} (h : ∀ n ∈ ns, -5 ≤ n ∧ n ≤ 5) (c : Fin 10) : -99 ≤ (T.leaf c).worth ns ∧ (T.leaf c).worth ns ≤ 99 := by
  have := getD_small h (c.1 % 5)
  show -99 ≤ ns.getD (c.1 % 5) 0 ∧ ns.getD (c.1 % 5) 0 ≤ 99
  omega
set_option maxRecDepth 100000 in
set_option maxHeartbeats 8000000 in
theorem law_body (w : World) {fa : Addr} {cd : Value} {base h₀ : Heap} {L l : Addr} {m : Str → Option Value} {s : Shared} {vs : List Value} {ns : List Int} {o1 o2 o3 : Obj} {v1 v2 v3 : Option Value} {p : Program} {loose : List Str} {mean : ExcName → Option Value} {mg mb : Str → Option Value} {Q : Flow → Shared → Prop} {E : Value → Shared → Prop}
    (B : Below callerA base [] h₀) (F : Fr h₀ L s.heap m) (hm : m (Str.ofString "script") = some (.ref l)) (X : (heap w.params).In h₀) (N : News h₀ L s.heap [(L + 1 + 1 + 1, o3), (L + 1 + 1, o2), (L + 1, o1), (283, tabObj #[])]) (Tp : Top p loose mean mg mb h₀) (hC : CodeHd h₀ 287 283)
    (hl : h₀.IsList l vs.toArray) (hi : IntsAre vs ns) (hkl : vs.length = ns.length) (hlen : ns.length ≤ 63) (d1 : o1.data = .cell v1) (d2 : o2.data = .cell v2) (d3 : o3.data = .cell v3) (l0 : @LT.lt Nat _ 283 L) (hG : AllBare s.gens)
    (hQ : ∀ (h' : Heap) (g' : Array GenState) (tk' : Nat) (m' : Str → Option Value) (news : List (Addr × Obj)), Fr h₀ L h' m' → News h₀ L h' news → (∃ ps, (283, tabObj ps) ∈ news) → AllBare g' → Q (.ret (.bool true)) ⟨h', g', s.drawn, tk', s.os⟩) :
    wpAny (model PySem.Challenge.rw_sh0064_01.prog w) (lawA L fa cd) (execs lawB (lawE L fa cd)) Q E s := by
  rw [lawB_eq]
  refine law_part1 w _ B F hm X N Tp hC hl hi hkl hlen d1 d2 d3 l0 hG ?_
  clear hi hl hkl hlen d1 d2 d3 N F hm hG
  clear o1 o2 o3 v1 v2 v3 vs ns m
  intro h1 g1 tk1 m1 t v ns us D nD sec low high turn o1 o2 o3 tl P1 G1
  refine law_part2 w _ B P1 X Tp hC l0 G1 ?_
  clear P1 G1
  intro h2 g2 tk2 m2 W done nW wl P2 G2
  have N2 := news_sub P2.led pmA
  have off2 : ∀ q ∈ (W, PySem.W.listOf done.toArray nW) :: (D, PySem.W.listOf us.toArray nD) :: (L + 1 + 1 + 1, o3) :: (L + 1 + 1, o2) :: (L + 1, o1) :: tl, q.1 ≠ 283 := by
    have a := P2.offD; have b := P2.offW
    refine List.forall_mem_cons.mpr ⟨Nat.ne_of_gt b, List.forall_mem_cons.mpr ⟨a, List.forall_mem_cons.mpr ⟨?_, List.forall_mem_cons.mpr ⟨?_, List.forall_mem_cons.mpr ⟨?_, P2.off⟩⟩⟩⟩⟩ <;> (refine neN ?_; dsimp only; omega)
  have old2 : Old L ((W, PySem.W.listOf done.toArray nW) :: (D, PySem.W.listOf us.toArray nD) :: (L + 1 + 1 + 1, o3) :: (L + 1 + 1, o2) :: (L + 1, o1) :: tl) t v ns us D nD sec low high turn o2 o3 :=
    ⟨P2.tree.mono fun q hq => .tail _ (.tail _ (.tail _ (.tail _ (.tail _ hq)))), P2.size, P2.kint, P2.len, P2.small, P2.cell2, P2.cell3, P2.lowB, P2.highB, P2.turnB, .tail _ (.head _), .tail _ (.tail _ (.head _)), .tail _ (.tail _ (.tail _ (.head _)))⟩
  refine law_part3 w _ B P2.fr N2 old2 X Tp hC l0 G2 off2 ?_
  intro h3 g3 tk3 m3 Dp ys nP nw3 F3 N3 sub3 off3 iP hps G3 mP mr3
  have old3 := old2.mono sub3
  have iW := sub3 _ (.head _)
  clear N2 off2 G2
  refine law_part4 w _ B F3 N3 old3 iP hps mP X Tp hC G3 ?_
  intro h4 g4 tk4 m4 K F4 N4 G4 hK mN mr4
  obtain ⟨tn, mN⟩ := mN
  clear F3 N3 G3
  obtain ⟨a, b, c, its, rfl, la, lb, lc, ln, hR, hits, hnl, hrT, hrA⟩ := plain_reads t P2.size P2.small P2.lowB.1 P2.lowB.2 P2.highB.1 P2.highB.2 P2.turnB.1 P2.turnB.2 (sec.fdiv 556592256) hK P2.words
  have hdn := P2.kstrs
  have mW4 : m4 (Str.ofString "words") = some (.ref W) := (mr4 _ (by decide)).trans ((mr3 _ (by decide)).trans P2.mwords)
  have mV4 : m4 (Str.ofString "tree") = some v := (mr4 _ (by decide)).trans ((mr3 _ (by decide)).trans P2.mtree)
  obtain ⟨q2, m2L⟩ := P2.mlow
  obtain ⟨q3, m2H⟩ := P2.mhigh
  obtain ⟨q4, m2F⟩ := P2.mformula
  have mL4 := (mr4 (Str.ofString "low") (by decide)).trans ((mr3 _ (by decide)).trans m2L)
  have mH4 := (mr4 (Str.ofString "high") (by decide)).trans ((mr3 _ (by decide)).trans m2H)
  have mF4 := (mr4 (Str.ofString "formula") (by decide)).trans ((mr3 _ (by decide)).trans m2F)
  have mP4 := (mr4 (Str.ofString "pairs") (by decide)).trans mP
  have hsm := P2.small
  have hsz := P2.size
  have hlo := P2.lowB
  have hhi := P2.highB
  clear P2 old2 mr3 mr4 m2L m2H m2F mP
  obtain ⟨t1, t2, t3, rfl⟩ := strs3 hdn
  refine law_part5 w _ B F4 N4 iW la lb lc ln mW4 mN X Tp hC G4 off3 hR hits ?_
  intro h5 g5 tk5 m5 C aT dT aH hsh tkT Da nA avs vs n2 nw5 kl n1 n4 O F5 N5 G5 hps5 hask5 hap5 sub5 htab hpD hDa hp3 mX mT mA mr5
  obtain ⟨hpa, hpd, hph⟩ := hp3
  rw [hrT] at hps5
  rw [hrA] at hask5
  rw [hnl] at N5
  have pp := pairs_plain hsm
  refine law_part6 w _ B F5 O N5 X Tp hC G5 hps5 hask5 (hps.mono sub5) (sub5 _ iP) (text_ok' t) (fun q hq => ⟨plain_ok _ (pp q hq).1, plain_ok _ (pp q hq).2⟩) (by simp [pairsOf]) ((mr5 _ (by decide) (by decide) (by decide)).trans mL4) ((mr5 _ (by decide) (by decide) (by decide)).trans mH4) ((mr5 _ (by decide) (by decide) (by decide)).trans mF4) ((mr5 _ (by decide) (by decide) (by decide)).trans mP4) mX mT mA ?_
  intro h6 g6 tk6 m6 F6 N6 G6 mr6
  have old5 := old3.mono sub5
  have hap6 : ∀ q ∈ tabO aT dT aH hsh tkT 1 n2 vs ++ (Da, PySem.W.listOf avs.toArray nA) :: nw5, q.1 ≠ C.rl ∧ q.1 ≠ C.dl ∧ q.1 ≠ C.pb := fun q hq => by
    rcases List.mem_append.mp hq with hq | hq
    · rcases List.mem_cons.mp hq with rfl | hq
      · exact O.below hpa
      · rcases List.mem_cons.mp hq with rfl | hq
        · exact O.below hpd
        · rw [List.mem_singleton.mp hq]; exact O.below hph
    · rcases List.mem_cons.mp hq with rfl | hq
      · exact O.below hpD
      · have := hap5 q hq
        exact ⟨this.1, this.2.1, this.2.2.1⟩
  refine law_part7 w (qs := [(low, high, t.text), (-99, 99, t.text)]) B F6 N6 O X Tp hC G6 (hps5.mono fun q hq => .tail _ hq) (fun q hq => (pp q hq).1) (getV_leaf ns) (worth_small hsm) (hask5.mono fun q hq => .tail _ hq) ?hq (old5.tree.mono fun q hq => .tail _ hq) hsz old5.kint old5.len (.tail _ old5.inD) (.tail _ old5.in3) old5.cell3 (.head _) hap6
    ((mr6 _).trans ((mr5 _ (by decide) (by decide) (by decide)).trans mV4)) ((mr6 _).trans mX) ((mr6 _).trans mT) ((mr6 _).trans mA) fun h' g' tk' m' news Fz Nz subz Gz => hQ _ _ _ _ _ Fz Nz (by obtain ⟨ps, hps⟩ := htab; exact ⟨ps, subz _ (.tail _ hps)⟩) Gz
  case hq => exact List.forall_mem_cons.mpr ⟨⟨by show -99 ≤ low; omega, by show low < high; omega, by show high ≤ 99; omega, rfl⟩, List.forall_mem_cons.mpr ⟨⟨by show (-99 : Int) ≤ -99; decide, by show (-99 : Int) < 99; decide, by show (99 : Int) ≤ 99; decide, rfl⟩, fun _ h => nomatch h⟩⟩
end
section
local macro_rules | `(tactic| omega) => `(tactic| lia)
open PySem PySem.W PyProof.Rows PySem.Spec PySem.Calls
/-- how the law may end: True, the code table grown, the generators done -/
theorem law_post {M : Model} {A : Around} {code : Code} {s s₁ : Shared} {cw : ClaimW} {cl : Str → Option Addr} {mean : ExcName → Option Value} {args : List WData} {c P : Addr} (hT : TabsAt [(c, P)] s₁.heap) (hr : ∀ x, cw.raises args x = false) (hp : cw.post args (.bool true) args = true)
    (h : codeAny M A code (fun r s' => r = .ok (.ret (.bool true)) ∧ (∀ b o, (ghostOf s₁.heap [(c, P)]).get? b = some o → s'.heap.get? b = some o) ∧ (∃ ps, s'.heap.get? P = some (tabObj ps)) ∧ s'.os = s₁.os ∧ AllBare s'.gens) s) : codeAny M A code (GoodWG cw cl mean args s₁) s := by
  refine codeAny_mono h fun r s' hh => ?_
  obtain ⟨rfl, hkeep, ⟨ps, hps⟩, hos, hg⟩ := hh
  have hcp := hT (c, P) (.head _)
  dsimp only at hcp
  refine ⟨.inl ⟨.bool true, .bool true, [], rfl, hr, .bool _, hp, fun _ => ⟨List.nodup_nil, fun _ q => nomatch q⟩⟩, ⟨fun b o e => ?_, fun b o e => ?_⟩, hos, hg⟩
  · rcases Nat.decEq b P with q | q
    · exact .inl (hkeep b o (ghost_ne e (by simpa using q)))
    · subst q
      rw [hcp.2] at e
      cases e
      exact .inr (.inl ⟨(hcp.1.tab hcp.2).isCodeTable, rfl, #[], ps, rfl, by rw [hps]; simp⟩)
  · rcases Nat.decEq b P with q | q
    · exact ⟨o, hkeep b o (ghost_ne e (by simpa using q))⟩
    · subst q
      exact ⟨_, hps⟩
set_option maxRecDepth 1000000 in
set_option maxHeartbeats 0 in
theorem hd : PySem.Challenge.rw_sh0064_01.Holds := by
  refine holds_law said fun said => ?_
  refine holds_open (q := q) (loose := loose) (Xt := fun s => xlAt q [] s && recOk (RowW.records RO.toRowW) s) (XP := XL q []) (Yf := Hook.obs H) (Ya := Hook.val H) (YP := Hook.says H) (N := 6600) left_ok (Hook.of H) (Hook.keeps H)
    (fun s e => xl_of s (Bool.and_eq_true_iff.mp e).1) XL.keeps (by rfl) (by rfl) (by rfl) (fun s e => recFacts_of (Bool.and_eq_true_iff.mp e).2) (by rfl) (by first | assumption | decide +kernel) (by decide +kernel) ⟨rfl, rfl, rfl, rfl, rfl, by decide +kernel⟩ ?hw ?hc
  case hw => w_witness2
  have kfl : ∀ P : Params, heap P = heap P ∧ PySem.Challenge.rw_sh0064_01 = PySem.Challenge.rw_sh0064_01 := by k_fill; exact fun _ => ⟨rfl, rfl⟩
  clear kfl
  intro w s₀ s₁ mg mb G Y fa o pm cd doc dV kV ho hd hcd hD hmg hg args vals as hpre hlay hrd hwl hlo
  have KX := km_in_of Y
  km_tabs Y
  have X := (Ground.X G).1
  have V := (Ground.X G).2
  refine Ground.open G ?_
  intro T B D TE TW
  try (refine guard_noD D (by decide +kernel) ?_; clear D)
  km_lay T hmg ho hd cd
  clear hmg
  wrow_args hpre hlay hrd hwl hlo
  all_goals (
    first | refine callC_kw (enter_call ?_) | refine enter_call ?_
    w_top on
    refine law_post hT9 (fun _ => rfl) (by first | kc_post | wrow_post) ?_
    w_call any ho hd hcd hD T F
    clear hd
    kn_ghosts F T
    k_drop)
  rename Below _ _ _ _ => B9
  rename Fr _ _ _ _ => F9
  rename News _ _ _ _ => N9
  rename Heap.IsList (ghostOf _ _) _ _ => L9
  rename IntsAre _ _ => I9
  rename Frag.In _ (ghostOf _ _) => X9
  rename Top _ _ _ _ _ (ghostOf _ _) => T9
  rename CodeHd _ _ _ => C9
  rename 283 < _ => l9
  have eP : PySem.Challenge.rw_sh0064_01.row.prog = PySem.Challenge.rw_sh0064_01.prog := rfl
  rw [eP, law_around]
  clear eP
  have hGb : AllBare s₁.gens := by rw [hg]; intro y hy; simp at hy
  refine law_body w (fa := fa) (cd := cd) (s := ⟨_, s₁.gens, s₁.drawn, _, s₁.os⟩) B9 F9 ?hm X9 N9 T9 C9 L9 I9 I9.length ?hlen (by assumption) (by assumption) (by assumption) l9 hGb ?hQ
  case hm => with_unfolding_all rfl
  case hlen => omega
  case hQ =>
    intro h' g' tk' m' news Fz Nz htab Gz
    obtain ⟨ps, hps⟩ := htab
    exact ⟨rfl, fun b o e => Fz.keep b o e, ⟨ps, (Nz _ hps).1⟩, rfl, Gz⟩
end
end
end Mine
theorem PySem.Challenge.cw_sh0064_01_holds : PySem.Challenge.rw_sh0064_01.Holds := by
  exact Mine.hd
