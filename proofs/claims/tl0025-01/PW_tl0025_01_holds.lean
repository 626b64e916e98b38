import PyProof.Rows.All
import Wide.All
import OpenK.AllK
import Wide.FinOn
import PySem.Challenge.RW_tl0025_01
open PySem PySem.W PyProof.Rows
set_option Elab.async false
set_option compiler.extract_closed false
local macro_rules | `(tactic| walk_at $s:str) => `(tactic| k_extra $(Lean.Syntax.mkStrLit ("m " ++ s.getString)):str)
namespace Mine
theorem freshFg : True ∧ True := by
  k_with_none
  w_top off
  first | (walk1; all_goals exact trivial) | exact ⟨trivial, trivial⟩
end Mine
section
open PySem PySem.W PyProof.Rows
set_option Elab.async false
set_option maxRecDepth 100000
set_option maxHeartbeats 4000000
namespace Mine
/-- the parts of the i-th def of the text -/
noncomputable def funAt (i : Nat) : Option (Arguments × List Stmt × Scope) := match PySem.Challenge.pw_tl0025_01.main.body[i]? with
  | some (.FunctionDef _ a b _ _ _ sc _ _ _) => some (a, b, sc)
  | _ => none
/-- the objects that stand when the text has been run -/
noncomputable def frag (P : Params) : Frag := (fun (a39 : Arguments) (b39 : List Stmt) (s39 : Scope) (_ : funAt 2 = some (a39, b39, s39)) (a46 : Arguments) (b46 : List Stmt) (s46 : Scope) (_ : funAt 3 = some (a46, b46, s46)) (a53 : Arguments) (b53 : List Stmt) (s53 : Scope) (_ : funAt 5 = some (a53, b53, s53)) (a60 : Arguments) (b60 : List Stmt) (s60 : Scope) (_ : funAt 6 = some (a60, b60, s60)) (a77 : Arguments) (b77 : List Stmt) (s77 : Scope) (_ : funAt 11 = some (a77, b77, s77)) (a87 : Arguments) (b87 : List Stmt) (s87 : Scope) (_ : funAt 63 = some (a87, b87, s87)) (a92 : Arguments) (b92 : List Stmt) (s92 : Scope) (_ : funAt 65 = some (a92, b92, s92)) (a97 : Arguments) (b97 : List Stmt) (s97 : Scope) (_ : funAt 66 = some (a97, b97, s97)) (a104 : Arguments) (b104 : List Stmt) (s104 : Scope) (_ : funAt 67 = some (a104, b104, s104)) (a111 : Arguments) (b111 : List Stmt) (s111 : Scope) (_ : funAt 68 = some (a111, b111, s111)) (a118 : Arguments) (b118 : List Stmt) (s118 : Scope) (_ : funAt 69 = some (a118, b118, s118)) (a123 : Arguments) (b123 : List Stmt) (s123 : Scope) (_ : funAt 70 = some (a123, b123, s123)) (a128 : Arguments) (b128 : List Stmt) (s128 : Scope) (_ : funAt 71 = some (a128, b128, s128)) (a133 : Arguments) (b133 : List Stmt) (s133 : Scope) (_ : funAt 72 = some (a133, b133, s133)) =>
  (nat_lit 2, (Obj.mk Value.none none (Data.dict #[(DictEntry.mk (PyData.keyHash P (Str.ofString "\x69mport.loaded._sre")) (Value.str (Str.ofString "\x69mport.loaded._sre") 183) (Value.bool Bool.true)), (DictEntry.mk (PyData.keyHash P (Str.ofString "class._frozen_importlib.BuiltinImporter")) (Value.str (Str.ofString "class._frozen_importlib.BuiltinImporter") 185) (Value.ref 14)), (DictEntry.mk (PyData.keyHash P (Str.ofString "watched.\x69mport")) (Value.str (Str.ofString "watched.\x69mport") 206) (Value.ref 18)), (DictEntry.mk (PyData.keyHash P (Str.ofString "class._frozen_importlib.ModuleSpec")) (Value.str (Str.ofString "class._frozen_importlib.ModuleSpec") 216) (Value.ref 22)), (DictEntry.mk (PyData.keyHash P (Str.ofString "sys.modules.booked-epoch")) (Value.str (Str.ofString "sys.modules.booked-epoch") 245) (Value.int 3 0)), (DictEntry.mk (PyData.keyHash P (Str.ofString "\x69mport.later-laid._sre")) (Value.str (Str.ofString "\x69mport.later-laid._sre") 270) (Value.bool Bool.true)), (DictEntry.mk (PyData.keyHash P (Str.ofString "watched.library")) (Value.str (Str.ofString "watched.library") 272) (Value.ref 27)), (DictEntry.mk (PyData.keyHash P (Str.ofString "watched.library-objects")) (Value.str (Str.ofString "watched.library-objects") 0) (Value.str (Str.ofString "\x0c") 0)), (DictEntry.mk (PyData.keyHash P (Str.ofString "watched.library-deep._sre")) (Value.str (Str.ofString "watched.library-deep._sre") 273) (Value.str (Str.ofString "\x04\x00\x00\x0b\x04\x00\x00\x0b\x04\x00\x00\x03\x04\x00\x00\x0b\x08\x04dict\x02") 0))] 9) #[])) ::
  (nat_lit 3, (Obj.mk (Value.type "dict") none (Data.dict (List.toArray ((DictEntry.mk (PyData.keyHash P (Str.ofString "__name__")) (Value.str (Str.ofString "__name__") 165) (Value.str (Str.ofString "law_tl0025_01") 622)) :: (DictEntry.mk (PyData.keyHash P (Str.ofString "__doc__")) (Value.str (Str.ofString "__doc__") 166) Value.none) :: (DictEntry.mk (PyData.keyHash P (Str.ofString "__package__")) (Value.str (Str.ofString "__package__") 167) Value.none) :: (DictEntry.mk (PyData.keyHash P (Str.ofString "__loader__")) (Value.str (Str.ofString "__loader__") 168) (Value.builtin "__main__.__loader__#opaque")) :: (DictEntry.mk (PyData.keyHash P (Str.ofString "__spec__")) (Value.str (Str.ofString "__spec__") 169) Value.none) :: (DictEntry.mk (PyData.keyHash P (Str.ofString "__annotations__")) (Value.str (Str.ofString "__annotations__") 170) (Value.ref 6)) :: (DictEntry.mk (PyData.keyHash P (Str.ofString "__builtins__")) (Value.str (Str.ofString "__builtins__") 171) (Value.ref 4)) :: (DictEntry.mk (PyData.keyHash P (Str.ofString "__file__")) (Value.str (Str.ofString "__file__") 173) (Value.str (Str.ofString "/claim/cut.py") 172)) :: (DictEntry.mk (PyData.keyHash P (Str.ofString "__cached__")) (Value.str (Str.ofString "__cached__") 174) Value.none) :: (DictEntry.mk (PyData.keyHash P (Str.ofString "_sre")) (Value.str (Str.ofString "_sre") 275) (Value.ref 12)) :: (DictEntry.mk (PyData.keyHash P (Str.ofString "compute_powers")) (Value.str (Str.ofString "compute_powers") 303) (Value.ref 39)) :: (DictEntry.mk (PyData.keyHash P (Str.ofString "_int2digits")) (Value.str (Str.ofString "_int2digits") 314) (Value.ref 46)) :: (DictEntry.mk (PyData.keyHash P (Str.ofString "rgb_to_hsv")) (Value.str (Str.ofString "rgb_to_hsv") 334) (Value.ref 53)) :: (DictEntry.mk (PyData.keyHash P (Str.ofString "hsv_to_rgb")) (Value.str (Str.ofString "hsv_to_rgb") 348) (Value.ref 60)) :: (DictEntry.mk (PyData.keyHash P (Str.ofString "_twin_re_1")) (Value.str (Str.ofString "_twin_re_1") 366) (Value.ref 65)) :: (DictEntry.mk (PyData.keyHash P (Str.ofString "_twin_re_2")) (Value.str (Str.ofString "_twin_re_2") 408) (Value.ref 70)) :: (DictEntry.mk (PyData.keyHash P (Str.ofString "CRLF")) (Value.str (Str.ofString "CRLF") 410) (Value.str (Str.ofString "\x0d\n") 409)) :: (DictEntry.mk (PyData.keyHash P (Str.ofString "quotedata")) (Value.str (Str.ofString "quotedata") 417) (Value.ref 77)) :: (DictEntry.mk (PyData.keyHash P (Str.ofString "ENDMARKER")) (Value.str (Str.ofString "ENDMARKER") 421) (Value.int 0 420)) :: (DictEntry.mk (PyData.keyHash P (Str.ofString "LPAR")) (Value.str (Str.ofString "LPAR") 423) (Value.int 7 422)) :: (DictEntry.mk (PyData.keyHash P (Str.ofString "RPAR")) (Value.str (Str.ofString "RPAR") 425) (Value.int 8 424)) :: (DictEntry.mk (PyData.keyHash P (Str.ofString "LSQB")) (Value.str (Str.ofString "LSQB") 427) (Value.int 9 426)) :: (DictEntry.mk (PyData.keyHash P (Str.ofString "RSQB")) (Value.str (Str.ofString "RSQB") 429) (Value.int 10 428)) :: (DictEntry.mk (PyData.keyHash P (Str.ofString "COLON")) (Value.str (Str.ofString "COLON") 431) (Value.int 11 430)) :: (DictEntry.mk (PyData.keyHash P (Str.ofString "COMMA")) (Value.str (Str.ofString "COMMA") 433) (Value.int 12 432)) :: (DictEntry.mk (PyData.keyHash P (Str.ofString "SEMI")) (Value.str (Str.ofString "SEMI") 435) (Value.int 13 434)) :: (DictEntry.mk (PyData.keyHash P (Str.ofString "PLUS")) (Value.str (Str.ofString "PLUS") 437) (Value.int 14 436)) :: (DictEntry.mk (PyData.keyHash P (Str.ofString "MINUS")) (Value.str (Str.ofString "MINUS") 439) (Value.int 15 438)) :: (DictEntry.mk (PyData.keyHash P (Str.ofString "STAR")) (Value.str (Str.ofString "STAR") 441) (Value.int 16 440)) :: (DictEntry.mk (PyData.keyHash P (Str.ofString "SLASH")) (Value.str (Str.ofString "SLASH") 443) (Value.int 17 442)) :: (DictEntry.mk (PyData.keyHash P (Str.ofString "VBAR")) (Value.str (Str.ofString "VBAR") 445) (Value.int 18 444)) :: (DictEntry.mk (PyData.keyHash P (Str.ofString "AMPER")) (Value.str (Str.ofString "AMPER") 447) (Value.int 19 446)) :: (DictEntry.mk (PyData.keyHash P (Str.ofString "LESS")) (Value.str (Str.ofString "LESS") 449) (Value.int 20 448)) :: (DictEntry.mk (PyData.keyHash P (Str.ofString "GREATER")) (Value.str (Str.ofString "GREATER") 451) (Value.int 21 450)) :: (DictEntry.mk (PyData.keyHash P (Str.ofString "EQUAL")) (Value.str (Str.ofString "EQUAL") 453) (Value.int 22 452)) :: (DictEntry.mk (PyData.keyHash P (Str.ofString "DOT")) (Value.str (Str.ofString "DOT") 455) (Value.int 23 454)) :: (DictEntry.mk (PyData.keyHash P (Str.ofString "PERCENT")) (Value.str (Str.ofString "PERCENT") 457) (Value.int 24 456)) :: (DictEntry.mk (PyData.keyHash P (Str.ofString "LBRACE")) (Value.str (Str.ofString "LBRACE") 459) (Value.int 25 458)) :: (DictEntry.mk (PyData.keyHash P (Str.ofString "RBRACE")) (Value.str (Str.ofString "RBRACE") 461) (Value.int 26 460)) :: (DictEntry.mk (PyData.keyHash P (Str.ofString "EQEQUAL")) (Value.str (Str.ofString "EQEQUAL") 463) (Value.int 27 462)) :: (DictEntry.mk (PyData.keyHash P (Str.ofString "NOTEQUAL")) (Value.str (Str.ofString "NOTEQUAL") 465) (Value.int 28 464)) :: (DictEntry.mk (PyData.keyHash P (Str.ofString "LESSEQUAL")) (Value.str (Str.ofString "LESSEQUAL") 467) (Value.int 29 466)) :: (DictEntry.mk (PyData.keyHash P (Str.ofString "GREATEREQUAL")) (Value.str (Str.ofString "GREATEREQUAL") 469) (Value.int 30 468)) :: (DictEntry.mk (PyData.keyHash P (Str.ofString "TILDE")) (Value.str (Str.ofString "TILDE") 471) (Value.int 31 470)) :: (DictEntry.mk (PyData.keyHash P (Str.ofString "CIRCUMFLEX")) (Value.str (Str.ofString "CIRCUMFLEX") 473) (Value.int 32 472)) :: (DictEntry.mk (PyData.keyHash P (Str.ofString "LEFTSHIFT")) (Value.str (Str.ofString "LEFTSHIFT") 475) (Value.int 33 474)) :: (DictEntry.mk (PyData.keyHash P (Str.ofString "RIGHTSHIFT")) (Value.str (Str.ofString "RIGHTSHIFT") 477) (Value.int 34 476)) :: (DictEntry.mk (PyData.keyHash P (Str.ofString "DOUBLESTAR")) (Value.str (Str.ofString "DOUBLESTAR") 479) (Value.int 35 478)) :: (DictEntry.mk (PyData.keyHash P (Str.ofString "PLUSEQUAL")) (Value.str (Str.ofString "PLUSEQUAL") 481) (Value.int 36 480)) :: (DictEntry.mk (PyData.keyHash P (Str.ofString "MINEQUAL")) (Value.str (Str.ofString "MINEQUAL") 483) (Value.int 37 482)) :: (DictEntry.mk (PyData.keyHash P (Str.ofString "STAREQUAL")) (Value.str (Str.ofString "STAREQUAL") 485) (Value.int 38 484)) :: (DictEntry.mk (PyData.keyHash P (Str.ofString "SLASHEQUAL")) (Value.str (Str.ofString "SLASHEQUAL") 487) (Value.int 39 486)) :: (DictEntry.mk (PyData.keyHash P (Str.ofString "PERCENTEQUAL")) (Value.str (Str.ofString "PERCENTEQUAL") 489) (Value.int 40 488)) :: (DictEntry.mk (PyData.keyHash P (Str.ofString "AMPEREQUAL")) (Value.str (Str.ofString "AMPEREQUAL") 491) (Value.int 41 490)) :: (DictEntry.mk (PyData.keyHash P (Str.ofString "VBAREQUAL")) (Value.str (Str.ofString "VBAREQUAL") 493) (Value.int 42 492)) :: (DictEntry.mk (PyData.keyHash P (Str.ofString "CIRCUMFLEXEQUAL")) (Value.str (Str.ofString "CIRCUMFLEXEQUAL") 495) (Value.int 43 494)) :: (DictEntry.mk (PyData.keyHash P (Str.ofString "LEFTSHIFTEQUAL")) (Value.str (Str.ofString "LEFTSHIFTEQUAL") 497) (Value.int 44 496)) :: (DictEntry.mk (PyData.keyHash P (Str.ofString "RIGHTSHIFTEQUAL")) (Value.str (Str.ofString "RIGHTSHIFTEQUAL") 499) (Value.int 45 498)) :: (DictEntry.mk (PyData.keyHash P (Str.ofString "DOUBLESTAREQUAL")) (Value.str (Str.ofString "DOUBLESTAREQUAL") 501) (Value.int 46 500)) :: (DictEntry.mk (PyData.keyHash P (Str.ofString "DOUBLESLASH")) (Value.str (Str.ofString "DOUBLESLASH") 503) (Value.int 47 502)) :: (DictEntry.mk (PyData.keyHash P (Str.ofString "DOUBLESLASHEQUAL")) (Value.str (Str.ofString "DOUBLESLASHEQUAL") 505) (Value.int 48 504)) :: (DictEntry.mk (PyData.keyHash P (Str.ofString "AT")) (Value.str (Str.ofString "AT") 507) (Value.int 49 506)) :: (DictEntry.mk (PyData.keyHash P (Str.ofString "ATEQUAL")) (Value.str (Str.ofString "ATEQUAL") 509) (Value.int 50 508)) :: (DictEntry.mk (PyData.keyHash P (Str.ofString "RARROW")) (Value.str (Str.ofString "RARROW") 511) (Value.int 51 510)) :: (DictEntry.mk (PyData.keyHash P (Str.ofString "ELLIPSIS")) (Value.str (Str.ofString "ELLIPSIS") 513) (Value.int 52 512)) :: (DictEntry.mk (PyData.keyHash P (Str.ofString "COLONEQUAL")) (Value.str (Str.ofString "COLONEQUAL") 515) (Value.int 53 514)) :: (DictEntry.mk (PyData.keyHash P (Str.ofString "EXCLAMATION")) (Value.str (Str.ofString "EXCLAMATION") 517) (Value.int 54 516)) :: (DictEntry.mk (PyData.keyHash P (Str.ofString "EXACT_TOKEN_TYPES")) (Value.str (Str.ofString "EXACT_TOKEN_TYPES") 614) (Value.ref 78)) :: (DictEntry.mk (PyData.keyHash P (Str.ofString "ISEOF")) (Value.str (Str.ofString "ISEOF") 621) (Value.ref 87)) :: (DictEntry.mk (PyData.keyHash P (Str.ofString "_law_hues")) (Value.str (Str.ofString "_law_hues") 629) (Value.ref 92)) :: (DictEntry.mk (PyData.keyHash P (Str.ofString "_law_arcs")) (Value.str (Str.ofString "_law_arcs") 635) (Value.ref 97)) :: (DictEntry.mk (PyData.keyHash P (Str.ofString "_law_number")) (Value.str (Str.ofString "_law_number") 646) (Value.ref 104)) :: (DictEntry.mk (PyData.keyHash P (Str.ofString "_law_next")) (Value.str (Str.ofString "_law_next") 662) (Value.ref 111)) :: (DictEntry.mk (PyData.keyHash P (Str.ofString "_law_trees")) (Value.str (Str.ofString "_law_trees") 679) (Value.ref 118)) :: (DictEntry.mk (PyData.keyHash P (Str.ofString "_law_heard")) (Value.str (Str.ofString "_law_heard") 685) (Value.ref 123)) :: (DictEntry.mk (PyData.keyHash P (Str.ofString "_law_tokens")) (Value.str (Str.ofString "_law_tokens") 691) (Value.ref 128)) :: (DictEntry.mk (PyData.keyHash P (Str.ofString "law")) (Value.str (Str.ofString "law") 697) (Value.ref 133)) :: [])) 77) #[])) ::
  (nat_lit 6, (Obj.mk (Value.type "dict") none (Data.dict #[] 0) #[])) ::
  (nat_lit 11, (Obj.mk (Value.type "dict") none (Data.dict #[(DictEntry.mk (PyData.keyHash P (Str.ofString "__name__")) (Value.str (Str.ofString "__name__") 247) (Value.str (Str.ofString "_sre") 246)), (DictEntry.mk (PyData.keyHash P (Str.ofString "__doc__")) (Value.str (Str.ofString "__doc__") 248) Value.none), (DictEntry.mk (PyData.keyHash P (Str.ofString "__package__")) (Value.str (Str.ofString "__package__") 250) (Value.str (Str.ofString "") 249)), (DictEntry.mk (PyData.keyHash P (Str.ofString "__loader__")) (Value.str (Str.ofString "__loader__") 251) (Value.builtin "off-the-table:_sre.__loader__:shared#opaque")), (DictEntry.mk (PyData.keyHash P (Str.ofString "__spec__")) (Value.str (Str.ofString "__spec__") 252) (Value.builtin "off-the-table:_sre.__spec__:shared#opaque")), (DictEntry.mk (PyData.keyHash P (Str.ofString "compile")) (Value.str (Str.ofString "compile") 253) (Value.builtin "_sre.compile")), (DictEntry.mk (PyData.keyHash P (Str.ofString "template")) (Value.str (Str.ofString "template") 254) (Value.builtin "off-the-table:_sre.template:shared#opaque")), (DictEntry.mk (PyData.keyHash P (Str.ofString "getcodesize")) (Value.str (Str.ofString "getcodesize") 255) (Value.builtin "off-the-table:_sre.getcodesize:shared#opaque")), (DictEntry.mk (PyData.keyHash P (Str.ofString "ascii_iscased")) (Value.str (Str.ofString "ascii_iscased") 256) (Value.builtin "off-the-table:_sre.ascii_iscased:shared#opaque")), (DictEntry.mk (PyData.keyHash P (Str.ofString "unicode_iscased")) (Value.str (Str.ofString "unicode_iscased") 257) (Value.builtin "off-the-table:_sre.unicode_iscased:shared#opaque")), (DictEntry.mk (PyData.keyHash P (Str.ofString "ascii_tolower")) (Value.str (Str.ofString "ascii_tolower") 258) (Value.builtin "off-the-table:_sre.ascii_tolower:shared#opaque")), (DictEntry.mk (PyData.keyHash P (Str.ofString "unicode_tolower")) (Value.str (Str.ofString "unicode_tolower") 259) (Value.builtin "off-the-table:_sre.unicode_tolower:shared#opaque")), (DictEntry.mk (PyData.keyHash P (Str.ofString "MAGIC")) (Value.str (Str.ofString "MAGIC") 261) (Value.int 20230612 260)), (DictEntry.mk (PyData.keyHash P (Str.ofString "CODESIZE")) (Value.str (Str.ofString "CODESIZE") 263) (Value.int 4 262)), (DictEntry.mk (PyData.keyHash P (Str.ofString "MAXREPEAT")) (Value.str (Str.ofString "MAXREPEAT") 265) (Value.int 4294967295 264)), (DictEntry.mk (PyData.keyHash P (Str.ofString "MAXGROUPS")) (Value.str (Str.ofString "MAXGROUPS") 267) (Value.int 1073741823 266)), (DictEntry.mk (PyData.keyHash P (Str.ofString "copyright")) (Value.str (Str.ofString "copyright") 269) (Value.str (Str.ofString " SRE 2.2.2 Copyright (c) 1997-2002 by Secret Labs AB ") 268))] 17) #[])) ::
  (nat_lit 12, (Obj.mk (Value.type "module") (some 11) Data.plain #[])) ::
  (nat_lit 32, (Obj.mk (Value.type "tuple") none (Data.seq #[(Value.bool Bool.false)] 0) #[])) ::
  (nat_lit 33, (Obj.mk (Value.type "tuple") none (Data.seq #[] 0) #[])) ::
  (nat_lit 35, (Obj.mk (Value.type "tuple") none (Data.seq #[(Value.str (Str.ofString "w") 287), (Value.str (Str.ofString "base") 288), (Value.str (Str.ofString "more_than") 289), (Value.str (Str.ofString "show") 290), (Value.str (Str.ofString "seen") 291), (Value.str (Str.ofString "need") 292), (Value.str (Str.ofString "ws") 293), (Value.str (Str.ofString "lo") 294), (Value.str (Str.ofString "d") 295), (Value.str (Str.ofString "it") 296), (Value.str (Str.ofString "first") 297), (Value.str (Str.ofString "this") 298), (Value.str (Str.ofString "hi") 299), (Value.str (Str.ofString "sq") 300)] 0) #[])) ::
  (nat_lit 36, (Obj.mk (Value.type "tuple") none (Data.seq #[] 0) #[])) ::
  (nat_lit 38, (Obj.mk (Value.type "code") none (Data.fields #[(Value.str (Str.ofString "compute_powers") 284), (Value.str (Str.ofString "compute_powers") 285), (Value.str (Str.ofString "/claim/cut.py") 286), (Value.int 3 0), (Value.int 4 0), (Value.int 0 0), (Value.int 0 0), (Value.int 3 0), (Value.ref 33), (Value.bool Bool.true), (Value.int 276 0), (Value.ref 34), Value.none, (Value.ref 35), (Value.ref 36), (Value.ref 37), (Value.int 301 0), (Value.int 3 0), (Value.str (Str.ofString "/claim/cut.py") 302)]) #[])) ::
  (nat_lit 39, (Obj.mk (Value.type "function") none (Data.func (FuncData.mk (Str.ofString "compute_powers") (Str.ofString "compute_powers") a39 (FuncBody.stmts b39) s39 3 [] (Value.ref 32) Value.none Value.none (Value.str (Str.ofString "cpy313._pylong") 282) none (Value.ref 38) Value.none 0)) #[])) ::
  (nat_lit 40, (Obj.mk (Value.type "tuple") none (Data.seq #[] 0) #[])) ::
  (nat_lit 42, (Obj.mk (Value.type "tuple") none (Data.seq #[(Value.str (Str.ofString "a") 307), (Value.str (Str.ofString "n") 308)] 0) #[])) ::
  (nat_lit 43, (Obj.mk (Value.type "tuple") none (Data.seq #[(Value.str (Str.ofString "n") 309), (Value.str (Str.ofString "a_digits") 310), (Value.str (Str.ofString "inner") 311)] 0) #[])) ::
  (nat_lit 45, (Obj.mk (Value.type "code") none (Data.fields #[(Value.str (Str.ofString "_int2digits") 304), (Value.str (Str.ofString "_int2digits") 305), (Value.str (Str.ofString "/claim/cut.py") 306), (Value.int 44 0), (Value.int 2 0), (Value.int 0 0), (Value.int 0 0), (Value.int 3 0), (Value.ref 40), (Value.bool Bool.true), (Value.int 276 0), (Value.ref 41), Value.none, (Value.ref 42), (Value.ref 43), (Value.ref 44), (Value.int 312 0), (Value.int 44 0), (Value.str (Str.ofString "/claim/cut.py") 313)]) #[])) ::
  (nat_lit 46, (Obj.mk (Value.type "function") none (Data.func (FuncData.mk (Str.ofString "_int2digits") (Str.ofString "_int2digits") a46 (FuncBody.stmts b46) s46 3 [] Value.none Value.none Value.none (Value.str (Str.ofString "cpy313._pylong") 282) none (Value.ref 45) Value.none 0)) #[])) ::
  (nat_lit 47, (Obj.mk (Value.type "tuple") none (Data.seq #[] 0) #[])) ::
  (nat_lit 49, (Obj.mk (Value.type "tuple") none (Data.seq #[(Value.str (Str.ofString "r") 320), (Value.str (Str.ofString "g") 321), (Value.str (Str.ofString "b") 322), (Value.str (Str.ofString "maxc") 323), (Value.str (Str.ofString "minc") 324), (Value.str (Str.ofString "rangec") 325), (Value.str (Str.ofString "v") 326), (Value.str (Str.ofString "s") 327), (Value.str (Str.ofString "rc") 328), (Value.str (Str.ofString "gc") 329), (Value.str (Str.ofString "bc") 330), (Value.str (Str.ofString "h") 331)] 0) #[])) ::
  (nat_lit 50, (Obj.mk (Value.type "tuple") none (Data.seq #[] 0) #[])) ::
  (nat_lit 52, (Obj.mk (Value.type "code") none (Data.fields #[(Value.str (Str.ofString "rgb_to_hsv") 317), (Value.str (Str.ofString "rgb_to_hsv") 318), (Value.str (Str.ofString "/claim/cut.py") 319), (Value.int 61 0), (Value.int 3 0), (Value.int 0 0), (Value.int 0 0), (Value.int 3 0), (Value.ref 47), (Value.bool Bool.true), (Value.int 276 0), (Value.ref 48), Value.none, (Value.ref 49), (Value.ref 50), (Value.ref 51), (Value.int 332 0), (Value.int 61 0), (Value.str (Str.ofString "/claim/cut.py") 333)]) #[])) ::
  (nat_lit 53, (Obj.mk (Value.type "function") none (Data.func (FuncData.mk (Str.ofString "rgb_to_hsv") (Str.ofString "rgb_to_hsv") a53 (FuncBody.stmts b53) s53 3 [] Value.none Value.none Value.none (Value.str (Str.ofString "cpy313.colorsys") 315) none (Value.ref 52) Value.none 0)) #[])) ::
  (nat_lit 54, (Obj.mk (Value.type "tuple") none (Data.seq #[] 0) #[])) ::
  (nat_lit 56, (Obj.mk (Value.type "tuple") none (Data.seq #[(Value.str (Str.ofString "h") 338), (Value.str (Str.ofString "s") 339), (Value.str (Str.ofString "v") 340), (Value.str (Str.ofString "i") 341), (Value.str (Str.ofString "f") 342), (Value.str (Str.ofString "p") 343), (Value.str (Str.ofString "q") 344), (Value.str (Str.ofString "t") 345)] 0) #[])) ::
  (nat_lit 57, (Obj.mk (Value.type "tuple") none (Data.seq #[] 0) #[])) ::
  (nat_lit 59, (Obj.mk (Value.type "code") none (Data.fields #[(Value.str (Str.ofString "hsv_to_rgb") 335), (Value.str (Str.ofString "hsv_to_rgb") 336), (Value.str (Str.ofString "/claim/cut.py") 337), (Value.int 80 0), (Value.int 3 0), (Value.int 0 0), (Value.int 0 0), (Value.int 3 0), (Value.ref 54), (Value.bool Bool.true), (Value.int 276 0), (Value.ref 55), Value.none, (Value.ref 56), (Value.ref 57), (Value.ref 58), (Value.int 346 0), (Value.int 80 0), (Value.str (Str.ofString "/claim/cut.py") 347)]) #[])) ::
  (nat_lit 60, (Obj.mk (Value.type "function") none (Data.func (FuncData.mk (Str.ofString "hsv_to_rgb") (Str.ofString "hsv_to_rgb") a60 (FuncBody.stmts b60) s60 3 [] Value.none Value.none Value.none (Value.str (Str.ofString "cpy313.colorsys") 315) none (Value.ref 59) Value.none 0)) #[])) ::
  (nat_lit 64, (Obj.mk (Value.type "tuple") none (Data.seq #[(Value.int 14 0), (Value.int 4 0), (Value.int 0 0), (Value.int 1 0), (Value.int 1 0), (Value.int 6 0), (Value.int 1 0), (Value.int 16 0), (Value.int 46 0), (Value.int 1 0)] 0) #[])) ::
  (nat_lit 65, (Obj.mk (Value.type "re.Pattern") none (Data.fields #[(Value.str (Str.ofString "(?m)^\\.") 352), (Value.int 40 365), (Value.int 0 0), Value.none, Value.none, (Value.ref 64), (Value.int 0 0)]) #[])) ::
  (nat_lit 69, (Obj.mk (Value.type "tuple") none (Data.seq #[(Value.int 14 0), (Value.int 9 0), (Value.int 4 0), (Value.int 1 0), (Value.int 2 0), (Value.int 16 0), (Value.int 10 0), (Value.int 16 0), (Value.int 13 0), (Value.int 0 0), (Value.int 7 0), (Value.int 7 0), (Value.int 16 0), (Value.int 13 0), (Value.int 16 0), (Value.int 10 0), (Value.int 15 0), (Value.int 18 0), (Value.int 5 0), (Value.int 16 0), (Value.int 10 0), (Value.int 15 0), (Value.int 13 0), (Value.int 11 0), (Value.int 16 0), (Value.int 13 0), (Value.int 5 0), (Value.int 5 0), (Value.int 0 0), (Value.int 16 0), (Value.int 10 0), (Value.int 1 0), (Value.int 15 0), (Value.int 2 0), (Value.int 0 0), (Value.int 1 0)] 0) #[])) ::
  (nat_lit 70, (Obj.mk (Value.type "re.Pattern") none (Data.fields #[(Value.str (Str.ofString "(?:\\r\\n|\\n|\\r(?!\\n))") 368), (Value.int 32 407), (Value.int 0 0), Value.none, Value.none, (Value.ref 69), (Value.int 0 0)]) #[])) ::
  (nat_lit 71, (Obj.mk (Value.type "tuple") none (Data.seq #[] 0) #[])) ::
  (nat_lit 73, (Obj.mk (Value.type "tuple") none (Data.seq #[(Value.str (Str.ofString "data") 414)] 0) #[])) ::
  (nat_lit 74, (Obj.mk (Value.type "tuple") none (Data.seq #[] 0) #[])) ::
  (nat_lit 76, (Obj.mk (Value.type "code") none (Data.fields #[(Value.str (Str.ofString "quotedata") 411), (Value.str (Str.ofString "quotedata") 412), (Value.str (Str.ofString "/claim/cut.py") 413), (Value.int 105 0), (Value.int 1 0), (Value.int 0 0), (Value.int 0 0), (Value.int 3 0), (Value.ref 71), (Value.bool Bool.true), (Value.int 276 0), (Value.ref 72), Value.none, (Value.ref 73), (Value.ref 74), (Value.ref 75), (Value.int 415 0), (Value.int 105 0), (Value.str (Str.ofString "/claim/cut.py") 416)]) #[])) ::
  (nat_lit 77, (Obj.mk (Value.type "function") none (Data.func (FuncData.mk (Str.ofString "quotedata") (Str.ofString "quotedata") a77 (FuncBody.stmts b77) s77 3 [] Value.none Value.none Value.none (Value.str (Str.ofString "cpy313.smtplib") 349) none (Value.ref 76) Value.none 0)) #[])) ::
  (nat_lit 78, (Obj.mk (Value.type "dict") none (Data.dict (List.toArray ((DictEntry.mk (PyData.keyHash P (Str.ofString "!")) (Value.str (Str.ofString "!") 518) (Value.int 54 516)) :: (DictEntry.mk (PyData.keyHash P (Str.ofString "!=")) (Value.str (Str.ofString "!=") 520) (Value.int 28 464)) :: (DictEntry.mk (PyData.keyHash P (Str.ofString "%")) (Value.str (Str.ofString "%") 522) (Value.int 24 456)) :: (DictEntry.mk (PyData.keyHash P (Str.ofString "%=")) (Value.str (Str.ofString "%=") 524) (Value.int 40 488)) :: (DictEntry.mk (PyData.keyHash P (Str.ofString "&")) (Value.str (Str.ofString "&") 526) (Value.int 19 446)) :: (DictEntry.mk (PyData.keyHash P (Str.ofString "&=")) (Value.str (Str.ofString "&=") 528) (Value.int 41 490)) :: (DictEntry.mk (PyData.keyHash P (Str.ofString "(")) (Value.str (Str.ofString "(") 530) (Value.int 7 422)) :: (DictEntry.mk (PyData.keyHash P (Str.ofString ")")) (Value.str (Str.ofString ")") 532) (Value.int 8 424)) :: (DictEntry.mk (PyData.keyHash P (Str.ofString "*")) (Value.str (Str.ofString "*") 534) (Value.int 16 440)) :: (DictEntry.mk (PyData.keyHash P (Str.ofString "**")) (Value.str (Str.ofString "**") 536) (Value.int 35 478)) :: (DictEntry.mk (PyData.keyHash P (Str.ofString "**=")) (Value.str (Str.ofString "**=") 538) (Value.int 46 500)) :: (DictEntry.mk (PyData.keyHash P (Str.ofString "*=")) (Value.str (Str.ofString "*=") 540) (Value.int 38 484)) :: (DictEntry.mk (PyData.keyHash P (Str.ofString "+")) (Value.str (Str.ofString "+") 542) (Value.int 14 436)) :: (DictEntry.mk (PyData.keyHash P (Str.ofString "+=")) (Value.str (Str.ofString "+=") 544) (Value.int 36 480)) :: (DictEntry.mk (PyData.keyHash P (Str.ofString ",")) (Value.str (Str.ofString ",") 546) (Value.int 12 432)) :: (DictEntry.mk (PyData.keyHash P (Str.ofString "-")) (Value.str (Str.ofString "-") 548) (Value.int 15 438)) :: (DictEntry.mk (PyData.keyHash P (Str.ofString "-=")) (Value.str (Str.ofString "-=") 550) (Value.int 37 482)) :: (DictEntry.mk (PyData.keyHash P (Str.ofString "->")) (Value.str (Str.ofString "->") 552) (Value.int 51 510)) :: (DictEntry.mk (PyData.keyHash P (Str.ofString ".")) (Value.str (Str.ofString ".") 554) (Value.int 23 454)) :: (DictEntry.mk (PyData.keyHash P (Str.ofString "...")) (Value.str (Str.ofString "...") 556) (Value.int 52 512)) :: (DictEntry.mk (PyData.keyHash P (Str.ofString "/")) (Value.str (Str.ofString "/") 558) (Value.int 17 442)) :: (DictEntry.mk (PyData.keyHash P (Str.ofString "//")) (Value.str (Str.ofString "//") 560) (Value.int 47 502)) :: (DictEntry.mk (PyData.keyHash P (Str.ofString "//=")) (Value.str (Str.ofString "//=") 562) (Value.int 48 504)) :: (DictEntry.mk (PyData.keyHash P (Str.ofString "/=")) (Value.str (Str.ofString "/=") 564) (Value.int 39 486)) :: (DictEntry.mk (PyData.keyHash P (Str.ofString ":")) (Value.str (Str.ofString ":") 566) (Value.int 11 430)) :: (DictEntry.mk (PyData.keyHash P (Str.ofString ":=")) (Value.str (Str.ofString ":=") 568) (Value.int 53 514)) :: (DictEntry.mk (PyData.keyHash P (Str.ofString ";")) (Value.str (Str.ofString ";") 570) (Value.int 13 434)) :: (DictEntry.mk (PyData.keyHash P (Str.ofString "<")) (Value.str (Str.ofString "<") 572) (Value.int 20 448)) :: (DictEntry.mk (PyData.keyHash P (Str.ofString "<<")) (Value.str (Str.ofString "<<") 574) (Value.int 33 474)) :: (DictEntry.mk (PyData.keyHash P (Str.ofString "<<=")) (Value.str (Str.ofString "<<=") 576) (Value.int 44 496)) :: (DictEntry.mk (PyData.keyHash P (Str.ofString "<=")) (Value.str (Str.ofString "<=") 578) (Value.int 29 466)) :: (DictEntry.mk (PyData.keyHash P (Str.ofString "=")) (Value.str (Str.ofString "=") 580) (Value.int 22 452)) :: (DictEntry.mk (PyData.keyHash P (Str.ofString "==")) (Value.str (Str.ofString "==") 582) (Value.int 27 462)) :: (DictEntry.mk (PyData.keyHash P (Str.ofString ">")) (Value.str (Str.ofString ">") 584) (Value.int 21 450)) :: (DictEntry.mk (PyData.keyHash P (Str.ofString ">=")) (Value.str (Str.ofString ">=") 586) (Value.int 30 468)) :: (DictEntry.mk (PyData.keyHash P (Str.ofString ">>")) (Value.str (Str.ofString ">>") 587) (Value.int 34 476)) :: (DictEntry.mk (PyData.keyHash P (Str.ofString ">>=")) (Value.str (Str.ofString ">>=") 588) (Value.int 45 498)) :: (DictEntry.mk (PyData.keyHash P (Str.ofString "@")) (Value.str (Str.ofString "@") 589) (Value.int 49 506)) :: (DictEntry.mk (PyData.keyHash P (Str.ofString "@=")) (Value.str (Str.ofString "@=") 590) (Value.int 50 508)) :: (DictEntry.mk (PyData.keyHash P (Str.ofString "[")) (Value.str (Str.ofString "[") 591) (Value.int 9 426)) :: (DictEntry.mk (PyData.keyHash P (Str.ofString "]")) (Value.str (Str.ofString "]") 592) (Value.int 10 428)) :: (DictEntry.mk (PyData.keyHash P (Str.ofString "^")) (Value.str (Str.ofString "^") 593) (Value.int 32 472)) :: (DictEntry.mk (PyData.keyHash P (Str.ofString "^=")) (Value.str (Str.ofString "^=") 594) (Value.int 43 494)) :: (DictEntry.mk (PyData.keyHash P (Str.ofString "{")) (Value.str (Str.ofString "{") 595) (Value.int 25 458)) :: (DictEntry.mk (PyData.keyHash P (Str.ofString "|")) (Value.str (Str.ofString "|") 596) (Value.int 18 444)) :: (DictEntry.mk (PyData.keyHash P (Str.ofString "|=")) (Value.str (Str.ofString "|=") 597) (Value.int 42 492)) :: (DictEntry.mk (PyData.keyHash P (Str.ofString "}")) (Value.str (Str.ofString "}") 598) (Value.int 26 460)) :: (DictEntry.mk (PyData.keyHash P (Str.ofString "~")) (Value.str (Str.ofString "~") 599) (Value.int 31 470)) :: [])) 48) #[])) ::
  (nat_lit 81, (Obj.mk (Value.type "tuple") none (Data.seq #[] 0) #[])) ::
  (nat_lit 83, (Obj.mk (Value.type "tuple") none (Data.seq #[(Value.str (Str.ofString "x") 618)] 0) #[])) ::
  (nat_lit 84, (Obj.mk (Value.type "tuple") none (Data.seq #[] 0) #[])) ::
  (nat_lit 86, (Obj.mk (Value.type "code") none (Data.fields #[(Value.str (Str.ofString "ISEOF") 615), (Value.str (Str.ofString "ISEOF") 616), (Value.str (Str.ofString "/claim/cut.py") 617), (Value.int 158 0), (Value.int 1 0), (Value.int 0 0), (Value.int 0 0), (Value.int 3 0), (Value.ref 81), (Value.bool Bool.true), (Value.int 276 0), (Value.ref 82), Value.none, (Value.ref 83), (Value.ref 84), (Value.ref 85), (Value.int 619 0), (Value.int 158 0), (Value.str (Str.ofString "/claim/cut.py") 620)]) #[])) ::
  (nat_lit 87, (Obj.mk (Value.type "function") none (Data.func (FuncData.mk (Str.ofString "ISEOF") (Str.ofString "ISEOF") a87 (FuncBody.stmts b87) s87 3 [] Value.none Value.none Value.none (Value.str (Str.ofString "cpy313.token") 418) none (Value.ref 86) Value.none 0)) #[])) ::
  (nat_lit 88, (Obj.mk (Value.type "tuple") none (Data.seq #[] 0) #[])) ::
  (nat_lit 91, (Obj.mk (Value.type "code") none (Data.fields #[(Value.str (Str.ofString "_law_hues") 624), (Value.str (Str.ofString "_law_hues") 625), (Value.str (Str.ofString "/claim/cut.py") 626), (Value.int 161 0), (Value.int 1 0), (Value.int 0 0), (Value.int 0 0), (Value.int 3 0), (Value.ref 88), (Value.bool Bool.true), (Value.int 276 0), (Value.ref 89), Value.none, Value.none, Value.none, (Value.ref 90), (Value.int 627 0), (Value.int 161 0), (Value.str (Str.ofString "/claim/cut.py") 628)]) #[])) ::
  (nat_lit 92, (Obj.mk (Value.type "function") none (Data.func (FuncData.mk (Str.ofString "_law_hues") (Str.ofString "_law_hues") a92 (FuncBody.stmts b92) s92 3 [] Value.none Value.none Value.none (Value.str (Str.ofString "law_tl0025_01") 622) none (Value.ref 91) Value.none 0)) #[])) ::
  (nat_lit 93, (Obj.mk (Value.type "tuple") none (Data.seq #[] 0) #[])) ::
  (nat_lit 96, (Obj.mk (Value.type "code") none (Data.fields #[(Value.str (Str.ofString "_law_arcs") 630), (Value.str (Str.ofString "_law_arcs") 631), (Value.str (Str.ofString "/claim/cut.py") 632), (Value.int 165 0), (Value.int 2 0), (Value.int 0 0), (Value.int 0 0), (Value.int 3 0), (Value.ref 93), (Value.bool Bool.true), (Value.int 276 0), (Value.ref 94), Value.none, Value.none, Value.none, (Value.ref 95), (Value.int 633 0), (Value.int 165 0), (Value.str (Str.ofString "/claim/cut.py") 634)]) #[])) ::
  (nat_lit 97, (Obj.mk (Value.type "function") none (Data.func (FuncData.mk (Str.ofString "_law_arcs") (Str.ofString "_law_arcs") a97 (FuncBody.stmts b97) s97 3 [] Value.none Value.none Value.none (Value.str (Str.ofString "law_tl0025_01") 622) none (Value.ref 96) Value.none 0)) #[])) ::
  (nat_lit 98, (Obj.mk (Value.type "tuple") none (Data.seq #[] 0) #[])) ::
  (nat_lit 100, (Obj.mk (Value.type "tuple") none (Data.seq #[(Value.str (Str.ofString "powers") 639), (Value.str (Str.ofString "tail") 640), (Value.str (Str.ofString "head") 641), (Value.str (Str.ofString "number") 642), (Value.str (Str.ofString "other") 643)] 0) #[])) ::
  (nat_lit 101, (Obj.mk (Value.type "tuple") none (Data.seq #[] 0) #[])) ::
  (nat_lit 103, (Obj.mk (Value.type "code") none (Data.fields #[(Value.str (Str.ofString "_law_number") 636), (Value.str (Str.ofString "_law_number") 637), (Value.str (Str.ofString "/claim/cut.py") 638), (Value.int 179 0), (Value.int 3 0), (Value.int 0 0), (Value.int 0 0), (Value.int 3 0), (Value.ref 98), (Value.bool Bool.true), (Value.int 276 0), (Value.ref 99), Value.none, (Value.ref 100), (Value.ref 101), (Value.ref 102), (Value.int 644 0), (Value.int 179 0), (Value.str (Str.ofString "/claim/cut.py") 645)]) #[])) ::
  (nat_lit 104, (Obj.mk (Value.type "function") none (Data.func (FuncData.mk (Str.ofString "_law_number") (Str.ofString "_law_number") a104 (FuncBody.stmts b104) s104 3 [] Value.none Value.none Value.none (Value.str (Str.ofString "law_tl0025_01") 622) none (Value.ref 103) Value.none 0)) #[])) ::
  (nat_lit 105, (Obj.mk (Value.type "tuple") none (Data.seq #[] 0) #[])) ::
  (nat_lit 107, (Obj.mk (Value.type "tuple") none (Data.seq #[(Value.str (Str.ofString "arcs") 650), (Value.str (Str.ofString "numbers") 651), (Value.str (Str.ofString "used") 652), (Value.str (Str.ofString "reached") 653), (Value.str (Str.ofString "spare") 654), (Value.str (Str.ofString "bars") 655), (Value.str (Str.ofString "k") 656), (Value.str (Str.ofString "rank") 657), (Value.str (Str.ofString "tail") 658), (Value.str (Str.ofString "head") 659)] 0) #[])) ::
  (nat_lit 108, (Obj.mk (Value.type "tuple") none (Data.seq #[] 0) #[])) ::
  (nat_lit 110, (Obj.mk (Value.type "code") none (Data.fields #[(Value.str (Str.ofString "_law_next") 647), (Value.str (Str.ofString "_law_next") 648), (Value.str (Str.ofString "/claim/cut.py") 649), (Value.int 185 0), (Value.int 6 0), (Value.int 0 0), (Value.int 0 0), (Value.int 3 0), (Value.ref 105), (Value.bool Bool.true), (Value.int 276 0), (Value.ref 106), Value.none, (Value.ref 107), (Value.ref 108), (Value.ref 109), (Value.int 660 0), (Value.int 185 0), (Value.str (Str.ofString "/claim/cut.py") 661)]) #[])) ::
  (nat_lit 111, (Obj.mk (Value.type "function") none (Data.func (FuncData.mk (Str.ofString "_law_next") (Str.ofString "_law_next") a111 (FuncBody.stmts b111) s111 3 [] Value.none Value.none Value.none (Value.str (Str.ofString "law_tl0025_01") 622) none (Value.ref 110) Value.none 0)) #[])) ::
  (nat_lit 112, (Obj.mk (Value.type "tuple") none (Data.seq #[] 0) #[])) ::
  (nat_lit 114, (Obj.mk (Value.type "tuple") none (Data.seq #[(Value.str (Str.ofString "arcs") 666), (Value.str (Str.ofString "numbers") 667), (Value.str (Str.ofString "ones") 668), (Value.str (Str.ofString "most") 669), (Value.str (Str.ofString "left") 670), (Value.str (Str.ofString "used") 671), (Value.str (Str.ofString "trees") 672), (Value.str (Str.ofString "still") 673), (Value.str (Str.ofString "tree") 674), (Value.str (Str.ofString "reached") 675), (Value.str (Str.ofString "k") 676)] 0) #[])) ::
  (nat_lit 115, (Obj.mk (Value.type "tuple") none (Data.seq #[] 0) #[])) ::
  (nat_lit 117, (Obj.mk (Value.type "code") none (Data.fields #[(Value.str (Str.ofString "_law_trees") 663), (Value.str (Str.ofString "_law_trees") 664), (Value.str (Str.ofString "/claim/cut.py") 665), (Value.int 192 0), (Value.int 4 0), (Value.int 0 0), (Value.int 0 0), (Value.int 3 0), (Value.ref 112), (Value.bool Bool.true), (Value.int 276 0), (Value.ref 113), Value.none, (Value.ref 114), (Value.ref 115), (Value.ref 116), (Value.int 677 0), (Value.int 192 0), (Value.str (Str.ofString "/claim/cut.py") 678)]) #[])) ::
  (nat_lit 118, (Obj.mk (Value.type "function") none (Data.func (FuncData.mk (Str.ofString "_law_trees") (Str.ofString "_law_trees") a118 (FuncBody.stmts b118) s118 3 [] Value.none Value.none Value.none (Value.str (Str.ofString "law_tl0025_01") 622) none (Value.ref 117) Value.none 0)) #[])) ::
  (nat_lit 119, (Obj.mk (Value.type "tuple") none (Data.seq #[] 0) #[])) ::
  (nat_lit 122, (Obj.mk (Value.type "code") none (Data.fields #[(Value.str (Str.ofString "_law_heard") 680), (Value.str (Str.ofString "_law_heard") 681), (Value.str (Str.ofString "/claim/cut.py") 682), (Value.int 209 0), (Value.int 2 0), (Value.int 0 0), (Value.int 0 0), (Value.int 3 0), (Value.ref 119), (Value.bool Bool.true), (Value.int 276 0), (Value.ref 120), Value.none, Value.none, Value.none, (Value.ref 121), (Value.int 683 0), (Value.int 209 0), (Value.str (Str.ofString "/claim/cut.py") 684)]) #[])) ::
  (nat_lit 123, (Obj.mk (Value.type "function") none (Data.func (FuncData.mk (Str.ofString "_law_heard") (Str.ofString "_law_heard") a123 (FuncBody.stmts b123) s123 3 [] Value.none Value.none Value.none (Value.str (Str.ofString "law_tl0025_01") 622) none (Value.ref 122) Value.none 0)) #[])) ::
  (nat_lit 124, (Obj.mk (Value.type "tuple") none (Data.seq #[] 0) #[])) ::
  (nat_lit 127, (Obj.mk (Value.type "code") none (Data.fields #[(Value.str (Str.ofString "_law_tokens") 686), (Value.str (Str.ofString "_law_tokens") 687), (Value.str (Str.ofString "/claim/cut.py") 688), (Value.int 216 0), (Value.int 1 0), (Value.int 0 0), (Value.int 0 0), (Value.int 3 0), (Value.ref 124), (Value.bool Bool.true), (Value.int 276 0), (Value.ref 125), Value.none, Value.none, Value.none, (Value.ref 126), (Value.int 689 0), (Value.int 216 0), (Value.str (Str.ofString "/claim/cut.py") 690)]) #[])) ::
  (nat_lit 128, (Obj.mk (Value.type "function") none (Data.func (FuncData.mk (Str.ofString "_law_tokens") (Str.ofString "_law_tokens") a128 (FuncBody.stmts b128) s128 3 [] Value.none Value.none Value.none (Value.str (Str.ofString "law_tl0025_01") 622) none (Value.ref 127) Value.none 0)) #[])) ::
  (nat_lit 129, (Obj.mk (Value.type "tuple") none (Data.seq #[] 0) #[])) ::
  (nat_lit 132, (Obj.mk (Value.type "code") none (Data.fields #[(Value.str (Str.ofString "law") 692), (Value.str (Str.ofString "law") 693), (Value.str (Str.ofString "/claim/cut.py") 694), (Value.int 224 0), (Value.int 1 0), (Value.int 0 0), (Value.int 0 0), (Value.int 3 0), (Value.ref 129), (Value.bool Bool.true), (Value.int 276 0), (Value.ref 130), Value.none, Value.none, Value.none, (Value.ref 131), (Value.int 695 0), (Value.int 224 0), (Value.str (Str.ofString "/claim/cut.py") 696)]) #[])) ::
  (nat_lit 133, (Obj.mk (Value.type "function") none (Data.func (FuncData.mk (Str.ofString "law") (Str.ofString "law") a133 (FuncBody.stmts b133) s133 3 [] Value.none Value.none Value.none (Value.str (Str.ofString "law_tl0025_01") 622) none (Value.ref 132) Value.none 0)) #[])) :: []) _ _ _ (by with_unfolding_all rfl) _ _ _ (by with_unfolding_all rfl) _ _ _ (by with_unfolding_all rfl) _ _ _ (by with_unfolding_all rfl) _ _ _ (by with_unfolding_all rfl) _ _ _ (by with_unfolding_all rfl) _ _ _ (by with_unfolding_all rfl) _ _ _ (by with_unfolding_all rfl) _ _ _ (by with_unfolding_all rfl) _ _ _ (by with_unfolding_all rfl) _ _ _ (by with_unfolding_all rfl) _ _ _ (by with_unfolding_all rfl) _ _ _ (by with_unfolding_all rfl) _ _ _ (by with_unfolding_all rfl)
end Mine
end

namespace Mine
theorem freshFw : True ∧ True := by
  k_with_none
  w_top off
  first | (walk1; all_goals exact trivial) | exact ⟨trivial, trivial⟩
end Mine
section
open PySem PySem.W PyProof.Rows
set_option Elab.async false
set_option maxRecDepth 100000
namespace Mine
open PySem.Calls PySem.Spec

noncomputable abbrev At (dp un : Nat) (gd : Option (List Code)) (outer : List Env) : Around := { handled := none, depth := dp, frames := some outer, guards := gd, units := un }

theorem fitN {n : Nat} (h : Nat.ble n 100 = true) : n ≤ sizeLine := Nat.le_trans (Nat.le_of_ble_eq_true h) (by decide)
theorem fitL {n : Nat} (h : n ≤ 100) : n ≤ sizeLine := Nat.le_trans h (by decide)
theorem room {dp n : Nat} (h : dp ≤ n) (hn : Nat.blt n 1000 = true) : dp < 1000 := Nat.lt_of_le_of_lt h (Nat.le_of_ble_eq_true hn)
theorem up1 {dp n m : Nat} (h : dp ≤ n) (hn : Nat.ble (n + 1) m = true) : dp + 1 ≤ m := Nat.le_trans (Nat.succ_le_succ h) (Nat.le_of_ble_eq_true hn)
theorem nu1 {a : Nat} : a ≠ a + 1 := Nat.ne_of_lt (Nat.lt_succ_self _)
theorem nu2 {a : Nat} : a ≠ a + 1 + 1 := Nat.ne_of_lt (Nat.lt_succ_of_lt (Nat.lt_succ_self _))
theorem nu3 {a : Nat} : a ≠ a + 1 + 1 + 1 := Nat.ne_of_lt (Nat.lt_succ_of_lt (Nat.lt_succ_of_lt (Nat.lt_succ_self _)))
theorem nl0 {a b : Nat} (h : a < b) : a ≠ b := Nat.ne_of_lt h
theorem nm0 {a b : Nat} {q : Prop} (h : a < b ∧ q) : a ≠ b := Nat.ne_of_lt h.1
theorem nm1 {a b : Nat} {p0 : Prop} {q : Prop} (h : p0 ∧ a < b ∧ q) : a ≠ b := Nat.ne_of_lt h.2.1
theorem ne1 {a b : Nat} {p0 : Prop} (h : p0 ∧ a < b) : a ≠ b := Nat.ne_of_lt h.2
theorem nm2 {a b : Nat} {p0 p1 : Prop} {q : Prop} (h : p0 ∧ p1 ∧ a < b ∧ q) : a ≠ b := Nat.ne_of_lt h.2.2.1
theorem ne2 {a b : Nat} {p0 p1 : Prop} (h : p0 ∧ p1 ∧ a < b) : a ≠ b := Nat.ne_of_lt h.2.2
theorem nm3 {a b : Nat} {p0 p1 p2 : Prop} {q : Prop} (h : p0 ∧ p1 ∧ p2 ∧ a < b ∧ q) : a ≠ b := Nat.ne_of_lt h.2.2.2.1
theorem ne3 {a b : Nat} {p0 p1 p2 : Prop} (h : p0 ∧ p1 ∧ p2 ∧ a < b) : a ≠ b := Nat.ne_of_lt h.2.2.2
theorem nm4 {a b : Nat} {p0 p1 p2 p3 : Prop} {q : Prop} (h : p0 ∧ p1 ∧ p2 ∧ p3 ∧ a < b ∧ q) : a ≠ b := Nat.ne_of_lt h.2.2.2.2.1
theorem ne4 {a b : Nat} {p0 p1 p2 p3 : Prop} (h : p0 ∧ p1 ∧ p2 ∧ p3 ∧ a < b) : a ≠ b := Nat.ne_of_lt h.2.2.2.2
theorem nm5 {a b : Nat} {p0 p1 p2 p3 p4 : Prop} {q : Prop} (h : p0 ∧ p1 ∧ p2 ∧ p3 ∧ p4 ∧ a < b ∧ q) : a ≠ b := Nat.ne_of_lt h.2.2.2.2.2.1
theorem ne5 {a b : Nat} {p0 p1 p2 p3 p4 : Prop} (h : p0 ∧ p1 ∧ p2 ∧ p3 ∧ p4 ∧ a < b) : a ≠ b := Nat.ne_of_lt h.2.2.2.2.2
theorem nm6 {a b : Nat} {p0 p1 p2 p3 p4 p5 : Prop} {q : Prop} (h : p0 ∧ p1 ∧ p2 ∧ p3 ∧ p4 ∧ p5 ∧ a < b ∧ q) : a ≠ b := Nat.ne_of_lt h.2.2.2.2.2.2.1
theorem ne6 {a b : Nat} {p0 p1 p2 p3 p4 p5 : Prop} (h : p0 ∧ p1 ∧ p2 ∧ p3 ∧ p4 ∧ p5 ∧ a < b) : a ≠ b := Nat.ne_of_lt h.2.2.2.2.2.2
noncomputable def Ext (h h' : Heap) : Prop := ∀ b o, h.get? b = some o → h'.get? b = some o

theorem Ext.refl (h : Heap) : Ext h h := fun _ _ e => e
theorem Ext.trans {a b c : Heap} (x : Ext a b) (y : Ext b c) : Ext a c := fun _ _ e => y _ _ (x _ _ e)

section
variable {prog : Program} {w : World} {dp un : Nat} {gd : Option (List Code)} {s : Shared} {base h₀ : Heap} {outer : List Env} {L : Addr} {m : Str → Option Value} {env : Env} {news : List (Addr × Obj)} {K : Frag}
  {name qual : Str} {params : Arguments} {body : List Stmt} {scope : Scope} {dV kV doc pm cdv ct oc : Value} {an od : Option Addr} {osl : Array (Option Value)} {f : Addr} {vals : List Value} {binds : List (Str × Value)}
  {p : Program} {loose : List Str} {mean : ExcName → Option Value} {mg mb : Str → Option Value} {Q E : Value → Shared → Prop}

theorem enter (B : Below (At dp un gd outer) base outer s.heap) (X : K.In s.heap) (T : Top p loose mean mg mb s.heap)
    (ho : K.lookup f = some ⟨oc, od, .func (fnOf name qual params body scope dV kV doc pm an cdv ct), osl⟩) (hcd : codeIn K cdv qual = true) (hroom : dp < recursionLimit)
    (hbind : BindsTo s (fnOf name qual params body scope dV kV doc pm an cdv ct) ⟨vals, []⟩ binds) (hloc : ∀ y ∈ binds, scope.names.lookup y.1 = some .local)
    (h : ∀ g L' h₁, g = s.heap → Fr g L' h₁ (fun y => binds.reverse.lookup y) → News g L' h₁ [] → Below (At dp un gd outer) base outer g → K.In g → Top p loose mean mg mb g →
      wpAny (model prog w) ((At dp un gd outer).deeper (envOf qual scope L' f cdv)) (execs body (envOf qual scope L' f cdv))
        (fun fl s' => Q (match fl with | .ret v => v | _ => .none) s') (fun _ _ => False)
        { s with heap := h₁, toks := s.toks + binds.length })
    (hco : scope.isCoroutine = false) (hgen : scope.isGenerator = false) (hk : scope.kind = .function)
    (hcell : ∀ x ∈ scope.names, x.2 ≠ .cell) : wpAny (model prog w) (At dp un gd outer) (call (.ref f) vals) Q E s := by
  refine wpAny_call (codeAny_call_def (fd := fnOf name qual params body scope dV kV doc pm an cdv ct) (body := body) (binds := binds) hroom (X _ _ ho) rfl T.nolimit (codeRec_of X hcd) rfl hbind hcell hloc (fun h₁ hns hk₁ => ?_) hco hgen hk)
  exact wpAny_mono (h s.heap s.heap.objs.size h₁ rfl ⟨hns, hk₁, Nat.le_refl _⟩ News.nil B X T) (fun fl s' hl => hl) fun _ _ x => x.elim

theorem enterC (B : Below (At dp un gd outer) base outer s.heap) (X : K.In s.heap) (T : Top p loose mean mg mb s.heap)
    (ho : K.lookup f = some ⟨oc, od, .func (fnOf name qual params body scope dV kV doc pm an cdv ct), osl⟩) (hcd : codeIn K cdv qual = true) (hroom : dp < recursionLimit)
    (hbind : BindsTo s (fnOf name qual params body scope dV kV doc pm an cdv ct) ⟨vals, []⟩ binds)
    (hkind : (binds.all fun y => scope.names.lookup y.1 == some .local || scope.names.lookup y.1 == some .cell) = true)
    (hnd : ((cellsFrom 0 scope.names []).map (·.1)).Nodup)
    (h : ∀ g L' h₁ tk cells, g = s.heap → Fr g L' h₁ (bindL (envOfC qual scope L' f cdv).kindOf binds fun _ => none) → News g L' h₁ cells →
      CellsAre (bindC (envOfC qual scope L' f cdv).kindOf binds fun _ => none) (cellsFrom (L' + 1) scope.names []) cells → Below (At dp un gd outer) base outer g → K.In g → Top p loose mean mg mb g →
      wpAny (model prog w) ((At dp un gd outer).deeper (envOfC qual scope L' f cdv)) (execs body (envOfC qual scope L' f cdv))
        (fun fl s' => Q (match fl with | .ret v => v | _ => .none) s') (fun _ _ => False)
        { s with heap := h₁, toks := tk })
    (hco : scope.isCoroutine = false) (hgen : scope.isGenerator = false) (hk : scope.kind = .function) : wpAny (model prog w) (At dp un gd outer) (call (.ref f) vals) Q E s := by
  refine wpAny_call (codeAny_call_function hroom (X _ _ ho) rfl hco hgen rfl (codeRec_of X hcd) (hbind _ _ _ _ ?_))
  refine wpAny_newFunctionEnv_cells hk (kindsX hkind _) fun env' he s' x => ?_
  subst he
  refine ⟨T.nolimit.keeps x.toInCall.keep, codeAny_func ?_⟩
  obtain ⟨h₁, tk, rfl, _⟩ := x.done
  have hk₁ := x.toInCall.keep
  obtain ⟨cells, NC, Y⟩ := Cl.news (h₀ := s.heap) (Nat.le_refl _) fun n c hm => ⟨x.cell n c (lookup_of_mem_nodup (cellsFrom_names scope.names 0 (s.heap.objs.size + 1) [] [] rfl ▸ hnd) hm), x.above n c hm⟩
  exact wpAny_mono (h s.heap s.heap.objs.size h₁ tk cells rfl ⟨x.toInCall.ns, hk₁, Nat.le_refl _⟩ NC Y B X T) (fun fl s' hl => hl) fun _ _ y => y.elim
end
end Mine
end
local macro_rules | `(tactic| k_ne) => `(tactic| (refine neN ?_; (try dsimp only); with_reducible first | exact Mine.nu1 | exact Mine.nu2 | exact Mine.nu3 | exact Mine.nu1.symm | exact Mine.nu2.symm | exact Mine.nu3.symm | exact Mine.nl0 (by assumption) | exact Mine.nm0 (by assumption) | exact Mine.nm1 (by assumption) | exact Mine.ne1 (by assumption) | exact Mine.nm2 (by assumption) | exact Mine.ne2 (by assumption) | exact Mine.nm3 (by assumption) | exact Mine.ne3 (by assumption) | exact Mine.nm4 (by assumption) | exact Mine.ne4 (by assumption) | exact Mine.nm5 (by assumption) | exact Mine.ne5 (by assumption) | exact Mine.nm6 (by assumption) | exact Mine.ne6 (by assumption) | exact (Mine.nl0 (by assumption)).symm | exact (Mine.nm0 (by assumption)).symm | exact (Mine.nm1 (by assumption)).symm | exact (Mine.ne1 (by assumption)).symm | exact (Mine.nm2 (by assumption)).symm | exact (Mine.ne2 (by assumption)).symm | exact (Mine.nm3 (by assumption)).symm | exact (Mine.ne3 (by assumption)).symm | exact (Mine.nm4 (by assumption)).symm | exact (Mine.ne4 (by assumption)).symm | exact (Mine.nm5 (by assumption)).symm | exact (Mine.ne5 (by assumption)).symm | exact (Mine.nm6 (by assumption)).symm | exact (Mine.ne6 (by assumption)).symm))
local macro_rules | `(tactic| size_fits) => `(tactic| with_unfolding_all exact Mine.fitN rfl)
namespace Mine
theorem freshF1 : True ∧ True := by
  k_with_none
  w_top off
  first | (walk1; all_goals exact trivial) | exact ⟨trivial, trivial⟩
end Mine
section
open PySem PySem.W PyProof.Rows
set_option Elab.async false
set_option maxRecDepth 100000
set_option maxHeartbeats 4000000
namespace Mine
open PySem.Calls PySem.Spec

noncomputable abbrev one : UInt64 := 4607182418800017408
noncomputable abbrev six : UInt64 := 4618441417868443648
noncomputable abbrev tupO (xs : Array Value) : Obj := { cls := .type "tuple", data := .seq xs }

noncomputable def hsvOf (h : UInt64) : UInt64 × UInt64 × UInt64 :=
  let x := Float64.mul h six
  let i := Flt.toInt Float64.truncOf x
  let f := Float64.sub x (Float64.ofInt i)
  let p := Float64.mul one (Float64.sub one one)
  let q := Float64.mul one (Float64.sub one (Float64.mul one f))
  let t := Float64.mul one (Float64.sub one (Float64.mul one (Float64.sub one f)))
  if i.fmod 6 = 0 then (one, t, p) else if i.fmod 6 = 1 then (q, one, p) else if i.fmod 6 = 2 then (p, one, t)
  else if i.fmod 6 = 3 then (p, q, one) else if i.fmod 6 = 4 then (t, p, one) else (one, p, q)

theorem fin_of {g : Heap} {L' : Addr} {h' : Heap} {m : Str → Option Value} {D : Addr} {o : Obj} {news : List (Addr × Obj)} (F : Fr g L' h' m) (N : News g L' h' ((D, o) :: news)) : Ext g h' ∧ g.get? D = none ∧ h'.get? D = some o :=
  ⟨F.keep, (N _ (.head _)).2.2, (N _ (.head _)).1⟩

theorem hsv_end {s : Shared} {g h' : Heap} {L' D : Addr} {m : Str → Option Value} {h r gg bb : UInt64} {a b c : Tok} {news : List (Addr × Obj)} {tk' : Nat} {Q : Value → Shared → Prop}
   (hret : ∀ (D : Addr) (a b c : Tok) h' tk', Ext s.heap h' → s.heap.get? D = none → h'.get? D = some (tupO #[.float (hsvOf h).1 a, .float (hsvOf h).2.1 b, .float (hsvOf h).2.2 c]) → Q (.ref D) {s with heap := h', toks := tk'})
   (eg : g = s.heap) (F : Fr g L' h' m) (N : News g L' h' ((D, tupO #[.float r a, .float gg b, .float bb c]) :: news)) (e : hsvOf h = (r, gg, bb)) : Q (.ref D) { s with heap := h', toks := tk' } := by
  subst eg
  exact hret D a b c h' tk' F.keep (N.fresh (.head _)) (by rw [e]; exact N.get (.head _))

set_option maxHeartbeats 8000000 in
theorem hsv_spec {w : World} {dp un : Nat} {gd : Option (List Code)} {s : Shared} {base : Heap} {outer : List Env} {p : Program} {loose : List Str} {mean : ExcName → Option Value} {mg mb : Str → Option Value} {Q E : Value → Shared → Prop}
   (h : UInt64) (t t1 t2 : Tok) (hfin : Float64.isFinite (Float64.mul h six) = true) (hnan : Float64.isNaN (Float64.mul h six) = false) (hinf : Float64.isInf (Float64.mul h six) = false)
   (hbig : (Flt.toInt Float64.truncOf (Float64.mul h six)).natAbs < 1000)
   (B : Below (At dp un gd outer) base outer s.heap) (X : (frag w.params).In s.heap) (T : Top p loose mean mg mb s.heap) (hd : dp ≤ 900)
   (hret : ∀ (D : Addr) (a b c : Tok) h' tk', Ext s.heap h' → s.heap.get? D = none → h'.get? D = some (tupO #[.float (hsvOf h).1 a, .float (hsvOf h).2.1 b, .float (hsvOf h).2.2 c]) → Q (.ref D) {s with heap := h', toks := tk'}) :
   wpAny (model Challenge.rw_tl0025_01.row.prog w) (At dp un gd outer) (call (.ref 60) [.float h t, .float one t1, .float one t2]) Q E s := by
  revert X; k_fill; intro X
  have c0 : (Float64.cmp 4607182418800017408 0 == some Ordering.eq) = false := by decide +kernel
  have hb2 : (Flt.toInt Float64.truncOf (Float64.mul h 4618441417868443648)).natAbs < 2 ^ 1024 - 2 ^ 970 := Nat.lt_trans hbig (by decide +kernel)
  (refine' enter (binds := [(Str.ofString "h", .float h t), (Str.ofString "s", .float one t1), (Str.ofString "v", .float one t2)]) ?k1 ?k2 ?k3 ?k6 ?k7 ?k8 ?k9 ?kB ?_ ?c2 ?c3 ?c4 ?c5; (case k1 => k_asm); (case k2 => k_asm); (case k3 => k_asm); (case k6 => k_is); (case k7 => k_is); (case k8 => (simp only [recursionLimit]; first | exact room (by assumption) rfl | omega)); (case k9 => exact BindsTo.of_eq rfl); (case c5 => decide); (case kB => exact locs rfl); (case c2 => exact rfl); (case c3 => exact rfl); (case c4 => exact rfl); k_whole)
  intro g L' h₁ eg F N B X T
  (try dsimp only)
  k_fold
  k_steps
  all_goals first
    | exact absurd (show (Float64.cmp one 0 == some Ordering.eq) = true by assumption) (by decide +kernel)
    | (refine hsv_end (s := s) hret eg (by assumption) (by assumption) ?_
       unfold hsvOf; dsimp only; repeat (first | rw [if_pos (by assumption)] | rw [if_neg (by assumption)]))
    | (exfalso; rw [Int.fmod_eq_emod_of_nonneg _ (by decide)] at *; omega)
end Mine
end

namespace Mine
theorem freshF2 : True ∧ True := by
  k_with_none
  w_top off
  first | (walk1; all_goals exact trivial) | exact ⟨trivial, trivial⟩
end Mine
section
open PySem PySem.W PyProof.Rows
set_option Elab.async false
set_option maxRecDepth 100000
set_option maxHeartbeats 4000000
namespace Mine
open PySem.Calls PySem.Spec PySem.Flt

noncomputable def fmax (a b c : UInt64) : UInt64 :=
  if (Float64.cmp a b == some .lt) = true then (if (Float64.cmp b c == some .lt) = true then c else b) else (if (Float64.cmp a c == some .lt) = true then c else a)
noncomputable def fmin (a b c : UInt64) : UInt64 :=
  if (Float64.cmp b a == some .lt) = true then (if (Float64.cmp c b == some .lt) = true then c else b) else (if (Float64.cmp c a == some .lt) = true then c else a)

section
variable {prog : Program} {w : World} {A : Around} {E : Value → Shared → Prop} {s : Shared}
theorem max3f {a b c : UInt64} {t u x : Tok} {Q : Value → Shared → Prop} {h₀ : Heap} {L : Addr} {m : Str → Option Value} {news : List (Addr × Obj)} (hh : A.handled = none)
    (F : Fr h₀ L s.heap m) (N : News h₀ L s.heap news)
    (h : ∀ h' tk y, Fr h₀ L h' m → News h₀ L h' news → (y = t ∨ y = u ∨ y = x) → Q (.float (fmax a b c) y) { s with heap := h', toks := tk }) :
    wpAny (model prog w) A (call (.builtin "max") [.float a t, .float b u, .float c x]) Q E s := by
  have hT : (s.heap.push { cls := .type "tuple", data := .seq #[.float a t, .float b u, .float c x] }).IsTuple s.heap.objs.size #[.float a t, .float b u, .float c x] := ⟨_, Heap.get?_push_size _ rfl, rfl, 0, rfl⟩
  refine call_max_three (wpAny_pyIter_tuple hT ?_)
  have hsz : (s.heap.push { cls := .type "tuple", data := .seq #[.float a t, .float b u, .float c x] }).objs.size = s.heap.objs.size + 1 := Heap.size_push ..
  refine ⟨_, [_, s.heap.objs.size], [_], _, _, _, _, rfl, Walks.tuple (A := A.in1) hh _ s.heap.objs.size (by rw [hsz]; exact Nat.ne_of_lt (Nat.lt_succ_self _)) #[.float a t, .float b u, .float c x],
    ⟨⟨_, Heap.get?_push_size _ rfl, rfl, rfl⟩, hT.push _⟩, fun d hd => ?_, by simp, cmpOf_gt #[.float a t, .float b u, .float c x] (by simp [NumV.float]), fun v h' tk hP hk => ?_⟩
  · show d < ((s.heap.push _).push _).objs.size
    rw [Heap.size_push, hsz]
    rcases List.mem_cons.mp hd with rfl | hd
    · rw [hsz]; exact Nat.lt_succ_self _
    · rcases List.mem_cons.mp hd with rfl | hd
      · exact Nat.lt_succ_of_lt (Nat.lt_succ_self _)
      · cases hd
  · have hold : ∀ d o, s.heap.get? d = some o → h'.get? d = some o := fun d o e => by
      refine hk d o (fun hm => ?_) (Heap.get?_push_of_some _ (Heap.get?_push_of_some _ e))
      rcases List.mem_cons.mp hm with e1 | hm
      · have := Heap.lt_size e; rw [e1, hsz] at this; exact Nat.lt_irrefl _ (Nat.lt_of_succ_lt this)
      · cases hm
    have F' : Fr h₀ L h' m := F.kept hold
    have N' : News h₀ L h' news := N.grown hold
    have hP' : (#[Value.float a t, .float b u, .float c x])[argBest (fun i j => ltV ((#[Value.float a t, .float b u, .float c x]).getD j .none) ((#[Value.float a t, .float b u, .float c x]).getD i .none)) 2]? = some v := hP
    have e1 : ltV ((#[Value.float a t, .float b u, .float c x]).getD 0 .none) ((#[Value.float a t, .float b u, .float c x]).getD 1 .none) = (Float64.cmp a b == some .lt) := rfl
    have e2 : ltV ((#[Value.float a t, .float b u, .float c x]).getD 0 .none) ((#[Value.float a t, .float b u, .float c x]).getD 2 .none) = (Float64.cmp a c == some .lt) := rfl
    have e3 : ltV ((#[Value.float a t, .float b u, .float c x]).getD 1 .none) ((#[Value.float a t, .float b u, .float c x]).getD 2 .none) = (Float64.cmp b c == some .lt) := rfl
    have : ∃ y, v = .float (fmax a b c) y ∧ (y = t ∨ y = u ∨ y = x) := by
      unfold fmax
      simp only [argBest, e1] at hP'
      split
      · rename_i q; simp only [q, if_true, e3] at hP'
        split
        · rename_i q2; simp only [q2, if_true] at hP'; exact ⟨x, by simpa using hP'.symm, .inr (.inr rfl)⟩
        · rename_i q2; simp only [q2] at hP'; exact ⟨u, by simpa using hP'.symm, .inr (.inl rfl)⟩
      · rename_i q; simp only [q, e2] at hP'
        split
        · rename_i q2; simp only [Bool.false_eq_true, if_false, e2, q2, if_true] at hP'; exact ⟨x, by simpa using hP'.symm, .inr (.inr rfl)⟩
        · rename_i q2; simp only [Bool.false_eq_true, if_false, e2, q2] at hP'; exact ⟨t, by simpa using hP'.symm, .inl rfl⟩
    obtain ⟨y, rfl, hy⟩ := this
    exact h h' tk y F' N' hy
theorem min3f {a b c : UInt64} {t u x : Tok} {Q : Value → Shared → Prop} {h₀ : Heap} {L : Addr} {m : Str → Option Value} {news : List (Addr × Obj)} (hh : A.handled = none)
    (F : Fr h₀ L s.heap m) (N : News h₀ L s.heap news)
    (h : ∀ h' tk y, Fr h₀ L h' m → News h₀ L h' news → Q (.float (fmin a b c) y) { s with heap := h', toks := tk }) :
    wpAny (model prog w) A (call (.builtin "min") [.float a t, .float b u, .float c x]) Q E s := by
  have hT : (s.heap.push { cls := .type "tuple", data := .seq #[.float a t, .float b u, .float c x] }).IsTuple s.heap.objs.size #[.float a t, .float b u, .float c x] := ⟨_, Heap.get?_push_size _ rfl, rfl, 0, rfl⟩
  refine call_min_three (wpAny_pyIter_tuple hT ?_)
  have hsz : (s.heap.push { cls := .type "tuple", data := .seq #[.float a t, .float b u, .float c x] }).objs.size = s.heap.objs.size + 1 := Heap.size_push ..
  refine ⟨_, [_, s.heap.objs.size], [_], _, _, _, _, rfl, Walks.tuple (A := A.in1) hh _ s.heap.objs.size (by rw [hsz]; exact Nat.ne_of_lt (Nat.lt_succ_self _)) #[.float a t, .float b u, .float c x],
    ⟨⟨_, Heap.get?_push_size _ rfl, rfl, rfl⟩, hT.push _⟩, fun d hd => ?_, by simp, cmpOf_lt #[.float a t, .float b u, .float c x] (by simp [NumV.float]), fun v h' tk hP hk => ?_⟩
  · show d < ((s.heap.push _).push _).objs.size
    rw [Heap.size_push, hsz]
    rcases List.mem_cons.mp hd with rfl | hd
    · rw [hsz]; exact Nat.lt_succ_self _
    · rcases List.mem_cons.mp hd with rfl | hd
      · exact Nat.lt_succ_of_lt (Nat.lt_succ_self _)
      · cases hd
  · have hold : ∀ d o, s.heap.get? d = some o → h'.get? d = some o := fun d o e => by
      refine hk d o (fun hm => ?_) (Heap.get?_push_of_some _ (Heap.get?_push_of_some _ e))
      rcases List.mem_cons.mp hm with e1 | hm
      · have := Heap.lt_size e; rw [e1, hsz] at this; exact Nat.lt_irrefl _ (Nat.lt_of_succ_lt this)
      · cases hm
    have F' : Fr h₀ L h' m := F.kept hold
    have N' : News h₀ L h' news := N.grown hold
    have hP' : (#[Value.float a t, .float b u, .float c x])[argBest (fun i j => ltV ((#[Value.float a t, .float b u, .float c x]).getD i .none) ((#[Value.float a t, .float b u, .float c x]).getD j .none)) 2]? = some v := hP
    have e1 : ltV ((#[Value.float a t, .float b u, .float c x]).getD 1 .none) ((#[Value.float a t, .float b u, .float c x]).getD 0 .none) = (Float64.cmp b a == some .lt) := rfl
    have e2 : ltV ((#[Value.float a t, .float b u, .float c x]).getD 2 .none) ((#[Value.float a t, .float b u, .float c x]).getD 0 .none) = (Float64.cmp c a == some .lt) := rfl
    have e3 : ltV ((#[Value.float a t, .float b u, .float c x]).getD 2 .none) ((#[Value.float a t, .float b u, .float c x]).getD 1 .none) = (Float64.cmp c b == some .lt) := rfl
    have : ∃ y, v = .float (fmin a b c) y := by
      unfold fmin
      simp only [argBest, e1] at hP'
      split
      · rename_i q; simp only [q, if_true, e3] at hP'
        split
        · rename_i q2; simp only [q2, if_true] at hP'; exact ⟨x, by simpa using hP'.symm⟩
        · rename_i q2; simp only [q2] at hP'; exact ⟨u, by simpa using hP'.symm⟩
      · rename_i q; simp only [q, e2] at hP'
        split
        · rename_i q2; simp only [Bool.false_eq_true, if_false, e2, q2, if_true] at hP'; exact ⟨x, by simpa using hP'.symm⟩
        · rename_i q2; simp only [Bool.false_eq_true, if_false, e2, q2] at hP'; exact ⟨t, by simpa using hP'.symm⟩
    obtain ⟨y, rfl⟩ := this
    exact h h' tk y F' N'
end
end Mine
end

namespace Mine
theorem freshTp : True ∧ True := by
  k_with_none
  w_top off
  first | (walk1; all_goals exact trivial) | exact ⟨trivial, trivial⟩
end Mine
section
open PySem PySem.W PyProof.Rows
set_option Elab.async false
set_option maxRecDepth 100000
namespace Mine
open PySem.Calls PySem.Spec PySem.Flt PySem.SeqAt

section
variable {prog : Program} {w : World} {A : Around} {E : Value → Shared → Prop} {s : Shared}
theorem genP {M : Model} {α : Type} {c : Sem α} {Q : α → Shared → Prop} {h : Heap} {g d o} {t : Nat} (H : ∀ tk, 0 < tk → wpAny M A c Q E (Shared.mk h g d tk o)) : wpAny M A c Q E (Shared.mk h g d (t + 1) o) := H _ (Nat.succ_pos _)
theorem quiet_sharing {K : Frag} {M : Model} {A : Around} {E : Value → Shared → Prop} {s : Shared} {t : Tok} {Q : Bool → Shared → Prop} (X : K.In s.heap) (e : nsIn K cStatics sharingNotToldKey = some none) (h : Q false s) :
    wpAny M A (sharingNotTold t) Q E s := by
  unfold sharingNotTold
  refine wpAny_bind ((looks_nsIn (M := M) X e).here ?_)
  exact wpAny_pure h

theorem isSame_floats {K : Frag} {p q : UInt64} {t u : Tok} {Q : Bool → Shared → Prop} {M : Model} (X : K.In s.heap) (e : nsIn K cStatics sharingNotToldKey = some none) (ht : t ≠ 0) (hu : u ≠ 0)
    (hq : ∀ b, Q b s) : wpAny M A (isSame (.float p t) (.float q u)) Q E s := by
  show wpAny M A (isSame.created (p == q && !Float64.isNaN p) t u) Q E s
  unfold isSame.created
  refine wpAny_ite ?_
  split
  · rename_i h; simp only [Bool.or_eq_true, beq_iff_eq] at h; rcases h with h | h
    · exact absurd h ht
    · exact absurd h hu
  refine wpAny_ite ?_
  split
  · exact wpAny_pure (hq _)
  refine wpAny_ite ?_
  split
  · exact wpAny_pure (hq _)
  refine wpAny_bind (quiet_sharing X e ?_)
  first | rw [if_neg Bool.false_ne_true] | simp only [Bool.false_eq_true, if_false]
  refine wpAny_bind (quiet_sharing X e ?_)
  first | rw [if_neg Bool.false_ne_true] | simp only [Bool.false_eq_true, if_false]
  exact wpAny_bind (wpAny_rule (wpAny_bind (wpAny_askSetting (wpAny_pure (hq _)))))

theorem eqAt_floats {K : Frag} {p q : UInt64} {t u : Tok} (X : K.In s.heap) (e : nsIn K cStatics sharingNotToldKey = some none) (ht : t ≠ 0) (hu : u ≠ 0) (hc : (Float64.cmp p q == some Ordering.eq) = true) :
    EqAt A s (.float p t) (.float q u) true := fun prog w E Q h => by
  unfold eqBool
  refine wpAny_holding ?_
  refine wpAny_ite_split (fun _ => wpAny_bind (wpAny_rule (wpAny_pure h))) (fun _ => ?_)
  refine wpAny_bind (isSame_floats X e ht hu fun b => ?_)
  cases b with
  | true => exact wpAny_pure h
  | false =>
    refine wpAny_bind ?_
    have rc : wpAny (model prog w) A (richCompare .Eq (.float p t) (.float q u)) (fun v s' => v = .bool true ∧ s' = s) E s := by
      refine richCompare_gives (op := .Eq) (AutoFloatOps.typeIs_float s p t) (AutoFloatOps.typeIs_float s q u) F.slot_float_eq F.entry_float_eq (F.args_float_eq_2 _ _) (AutoFloatG5.float___eq___float_float_0 p t q u) (fun x => nomatch x) ?_
      exact ⟨congrArg Value.bool hc, rfl⟩
    exact wpAny_mono rc (fun v s' ⟨e1, e2⟩ => by subst e1 e2; exact wpAny_truthy_bool h) fun _ _ x => x

theorem slice_tupK {h₀ : Heap} {L : Addr} {m : Str → Option Value} {news : List (Addr × Obj)} {value slice : Expr} {t : Addr} {items : Array Value} {rest : List Value} {a : Nat} {u : Tok} {Q : Value → Shared → Prop}
    (F : Fr h₀ L s.heap m) (N : News h₀ L s.heap news) (ht : IsTup s.heap t items) (h1 : 1 ≤ a) (ha : a ≤ items.size) (e : items.toList.drop a = rest)
    (h : ∀ D h', Fr h₀ L h' m → News h₀ L h' ((D, { cls := .type "tuple", data := .seq rest.toArray }) :: news) → (∀ p ∈ news, p.1 ≠ D) → Q (.ref D) { s with heap := h' })
    (hs : subscripted slice false (.ref t) (.ref s.heap.objs.size) = operate [.ref s.heap.objs.size, .ref t] (getItem (.ref t) (.ref s.heap.objs.size)) := by with_unfolding_all rfl)
    (hg : ∀ r, letTemporaryGo value (.ref t) r = pure () := by intro _; with_unfolding_all rfl)
    (hsz : items.size ≤ sizeLine := by size_fits) :
    wpAny (model prog w) A (subscriptTail value slice (.ref t) (.ref s.heap.objs.size)) Q E { s with heap := s.heap.push { cls := .type "slice", data := .fields #[.int a u, .none, .none] } } := by
  subst e
  exact slice_tuple_from F N ht h1 ha (fun h' F' N' => h _ h' F' N' fun p hp => Nat.ne_of_lt (Nat.lt_succ_of_lt (Heap.lt_size (N p hp).1))) hs hg hsz

/-- two tuples of two equal floats are not unequal -/
theorem ne_tup2 {K : Frag} {x y : Addr} {p1 p2 q1 q2 : UInt64} {t1 t2 u1 u2 : Tok} {Q : Value → Shared → Prop} (X : K.In s.heap) (e : nsIn K cStatics sharingNotToldKey = some none)
    (hx : s.heap.IsTuple x #[.float p1 t1, .float p2 t2]) (hy : s.heap.IsTuple y #[.float q1 u1, .float q2 u2]) (hu : A.units < cLine) (h1 : t1 ≠ 0) (h2 : t2 ≠ 0) (h3 : u1 ≠ 0) (h4 : u2 ≠ 0)
    (c1 : (Float64.cmp p1 q1 == some Ordering.eq) = true) (c2 : (Float64.cmp p2 q2 == some Ordering.eq) = true) (h : Q (.bool false) s) : wpAny (model prog w) A (compareOp .NotEq (.ref x) (.ref y)) Q E s := by
  show wpAny (model prog w) A (richCompare .NotEq (.ref x) (.ref y)) Q E s
  refine RcNeAt.tuples (e := fun _ => true) hx hy hu (fun j hj hj2 => ?_) prog w E Q ?_
  · have hj' : j < 2 := hj
    match j, hj' with
    | 0, _ => exact eqAt_floats X e h1 h3 c1
    | 1, _ => exact eqAt_floats X e h2 h4 c2
  · exact h
end
end Mine
end

namespace Mine
theorem freshF3 : True ∧ True := by
  k_with_none
  w_top off
  first | (walk1; all_goals exact trivial) | exact ⟨trivial, trivial⟩
end Mine
section
open PySem PySem.W PyProof.Rows
set_option Elab.async false
set_option maxRecDepth 100000
set_option maxHeartbeats 4000000
namespace Mine
open PySem.Calls PySem.Spec PySem.Flt
theorem wordsF30 : True := by
  k_with_none
  (k_with "m call builtin:max" => ((with_reducible show wpAny _ _ (call _ [Value.float _ _, Value.float _ _, Value.float _ _]) _ _ _); (rename News _ _ _ _ => N'); (rename Fr _ _ _ _ => F'); refine max3f rfl F' N' ?_; clear N' F'; intro _ _ _ _ _ _))
  (k_with "m call builtin:min" => ((with_reducible show wpAny _ _ (call _ [Value.float _ _, Value.float _ _, Value.float _ _]) _ _ _); (rename News _ _ _ _ => N'); (rename Fr _ _ _ _ => F'); refine min3f rfl F' N' ?_; clear N' F'; intro _ _ _ _ _))
  (k_with "m execs cons" => (refine genP ?_; intro _ _))
  (k_with "m execs nil" => (refine genP ?_; intro _ _))
  trivial
noncomputable def hueOf (r g b : UInt64) : UInt64 :=
  let mx := fmax r g b
  let rg := Float64.sub mx (fmin r g b)
  let rc := Float64.div (Float64.sub mx r) rg
  let gc := Float64.div (Float64.sub mx g) rg
  let bc := Float64.div (Float64.sub mx b) rg
  let h := if (Float64.cmp r mx == some .eq) = true then Float64.sub bc gc else if (Float64.cmp g mx == some .eq) = true then Float64.sub (Float64.add 4611686018427387904 rc) bc else Float64.sub (Float64.add 4616189618054758400 gc) rc
  (Float64.divmod (Float64.div h six) one).2
noncomputable def satOf (r g b : UInt64) : UInt64 := Float64.div (Float64.sub (fmax r g b) (fmin r g b)) (fmax r g b)

theorem rgb_end {s : Shared} {g h' : Heap} {L' D : Addr} {m : Str → Option Value} {r g₁ b₁ x y z : UInt64} {a b c : Tok} {news : List (Addr × Obj)} {tk' : Nat} {Q : Value → Shared → Prop}
   (hret : ∀ (D : Addr) (a b c : Tok) h' tk', b ≠ 0 → c ≠ 0 → Ext s.heap h' → s.heap.get? D = none → h'.get? D = some (tupO #[.float (hueOf r g₁ b₁) a, .float (satOf r g₁ b₁) b, .float (fmax r g₁ b₁) c]) → Q (.ref D) {s with heap := h', toks := tk'})
   (eg : g = s.heap) (F : Fr g L' h' m) (N : News g L' h' ((D, tupO #[.float x a, .float y b, .float z c]) :: news)) (hb : b ≠ 0) (hc : c ≠ 0) (e : hueOf r g₁ b₁ = x) (e2 : satOf r g₁ b₁ = y) (e3 : fmax r g₁ b₁ = z) : Q (.ref D) { s with heap := h', toks := tk' } := by
  subst eg e e2 e3
  exact hret D a b c h' tk' hb hc F.keep (N.fresh (.head _)) (N.get (.head _))

theorem rgb_spec {w : World} {dp un : Nat} {gd : Option (List Code)} {s : Shared} {base : Heap} {outer : List Env} {p : Program} {loose : List Str} {mean : ExcName → Option Value} {mg mb : Str → Option Value} {Q E : Value → Shared → Prop}
   (a b c : UInt64) (t t1 t2 : Tok) (ht : t ≠ 0) (ht1 : t1 ≠ 0) (ht2 : t2 ≠ 0)
   (B : Below (At dp un gd outer) base outer s.heap) (X : (frag w.params).In s.heap) (T : Top p loose mean mg mb s.heap) (hd : dp ≤ 900)
   (hne : (Float64.cmp (fmin a b c) (fmax a b c) == some Ordering.eq) = false) (hz : Float64.isZero (fmax a b c) = false) (hz2 : Float64.isZero (Float64.sub (fmax a b c) (fmin a b c)) = false)
   (hret : ∀ (D : Addr) (x y z : Tok) h' tk', y ≠ 0 → z ≠ 0 → Ext s.heap h' → s.heap.get? D = none → h'.get? D = some (tupO #[.float (hueOf a b c) x, .float (satOf a b c) y, .float (fmax a b c) z]) → Q (.ref D) {s with heap := h', toks := tk'}) :
   wpAny (model Challenge.rw_tl0025_01.row.prog w) (At dp un gd outer) (call (.ref 53) [.float a t, .float b t1, .float c t2]) Q E s := by
  revert X; k_fill; intro X
  (refine' enter (binds := [(Str.ofString "r", .float a t), (Str.ofString "g", .float b t1), (Str.ofString "b", .float c t2)]) ?k1 ?k2 ?k3 ?k6 ?k7 ?k8 ?k9 ?kB ?_ ?c2 ?c3 ?c4 ?c5; (case k1 => k_asm); (case k2 => k_asm); (case k3 => k_asm); (case k6 => k_is); (case k7 => k_is); (case k8 => (simp only [recursionLimit]; first | exact room (by assumption) rfl | omega)); (case k9 => exact BindsTo.of_eq rfl); (case c5 => decide); (case kB => exact locs rfl); (case c2 => exact rfl); (case c3 => exact rfl); (case c4 => exact rfl); k_whole)
  intro g L' h₁ eg F N B X T
  (try dsimp only)
  k_fold
  k_steps
  all_goals first
    | exact absurd (show (Float64.cmp (fmin a b c) (fmax a b c) == some Ordering.eq) = true by assumption) (by rw [hne]; decide)
    | exact absurd (show Float64.isZero (fmax a b c) = true by assumption) (by rw [hz]; decide)
    | exact absurd (show Float64.isZero (Float64.sub (fmax a b c) (fmin a b c)) = true by assumption) (by rw [hz2]; decide)
    | (refine rgb_end (s := s) hret eg (by assumption) (by assumption) (Nat.ne_of_gt (by assumption)) (by first | assumption | (rename (_ = t ∨ _ = t1 ∨ _ = t2) => qq; rcases qq with rfl | rfl | rfl <;> assumption)) ?_ rfl rfl
       unfold hueOf; dsimp only; first | rw [if_pos (by assumption)] | (rw [if_neg (ne_true_of_eq_false (by assumption))]; first | rw [if_pos (by assumption)] | rw [if_neg (ne_true_of_eq_false (by assumption))]))
end Mine
end

namespace Mine
theorem freshA0 : True ∧ True := by
  k_with_none
  w_top off
  first | (walk1; all_goals exact trivial) | exact ⟨trivial, trivial⟩
end Mine
section
open PySem PySem.W PyProof.Rows
set_option Elab.async false
set_option maxRecDepth 100000
namespace Mine
open PySem.Calls PySem.Spec PySem.Flt

noncomputable abbrev halfF : UInt64 := 4602678819172646912
noncomputable def quo (a b : Int) : UInt64 := Float64.ofFrac (decide (a < 0) != decide (b < 0)) a.natAbs b.natAbs
noncomputable def rnd (k : Int) (x : UInt64) : UInt64 := Float64.add (Float64.mul (Float64.ofInt k) x) halfF
noncomputable def rndI (k : Int) (x : UInt64) : Int := Flt.toInt Float64.truncOf (rnd k x)
noncomputable def halvesOf (hue : Int) : Int × Int × Int := let t := hsvOf (quo hue 12); (rndI 2 t.1, rndI 2 t.2.1, rndI 2 t.2.2)
noncomputable def toldH (a b c : Int) : UInt64 := hueOf (quo a 2) (quo b 2) (quo c 2)
noncomputable def okF (x : UInt64) : Bool := Float64.isFinite x && !Float64.isNaN x && !Float64.isInf x
noncomputable def goodHue (hue : Int) : Bool :=
  let h := quo hue 12
  let x := Float64.mul h six
  let t := hsvOf h
  let (a, b, c) := halvesOf hue
  let (r, g, b') := (quo a 2, quo b 2, quo c 2)
  okF x && decide ((Flt.toInt Float64.truncOf x).natAbs < 1000) && okF (rnd 2 t.1) && okF (rnd 2 t.2.1) && okF (rnd 2 t.2.2)
  && decide (0 ≤ a) && decide (a ≤ 2) && decide (0 ≤ b) && decide (b ≤ 2) && decide (0 ≤ c) && decide (c ≤ 2)
  && (Float64.cmp (fmin r g b') (fmax r g b') == some Ordering.eq) == false && !Float64.isZero (fmax r g b') && !Float64.isZero (Float64.sub (fmax r g b') (fmin r g b'))
  && okF (rnd 12 (toldH a b c)) && decide (rndI 12 (toldH a b c) = hue.fmod 12) && (satOf r g b' == one) && (fmax r g b' == one)
theorem goodHues : ∀ k : Fin 36, goodHue ((k.val : Nat) : Int) = true := by decide +kernel
theorem goodHue_of {hue : Int} (h0 : 0 ≤ hue) (h1 : hue < 36) : goodHue hue = true := by
  have := goodHues ⟨hue.toNat, by omega⟩
  rwa [show (((⟨hue.toNat, by omega⟩ : Fin 36).val : Nat) : Int) = hue by simp; omega] at this
end Mine
end

namespace Mine
theorem freshLp : True ∧ True := by
  k_with_none
  w_top off
  first | (walk1; all_goals exact trivial) | exact ⟨trivial, trivial⟩
end Mine
section
open PySem PySem.W PyProof.Rows
set_option Elab.async false
set_option maxRecDepth 100000
namespace Mine
open PySem.Calls PySem.Spec

section
variable {prog : Program} {w : World} {A : Around} {E : Value → Shared → Prop} {s : Shared} {env : Env} {h₀ : Heap} {L : Addr} {target : Expr} {body : List Stmt} {Q : Flow → Shared → Prop}

/-- what a turn of a loop leaves -/
noncomputable def TurnEnd (h₀ : Heap) (L : Addr) (keep : List (Addr × Obj)) (S : List (Addr × Obj) → Prop) (Inv : (Str → Option Value) → List (Addr × Obj) → Prop) (s₁ s₂ : Shared) : Prop :=
  ∃ h' tk m' news', s₂ = { s₁ with heap := h', toks := tk } ∧ Fr h₀ L h' m' ∧ News h₀ L h' (keep ++ news') ∧ (∀ p ∈ news', ∀ q ∈ keep, p.1 ≠ q.1) ∧ S news' ∧ Inv m' news'
noncomputable def TurnPost (h₀ : Heap) (L : Addr) (keep : List (Addr × Obj)) (S : List (Addr × Obj) → Prop) (Inv : (Str → Option Value) → List (Addr × Obj) → Prop) (s₁ : Shared) (Q : Flow → Shared → Prop) (f : Flow) (s₂ : Shared) : Prop :=
  match f with
  | .ret v => Q (.ret v) s₂
  | .brk => Q .next s₂
  | _ => TurnEnd h₀ L keep S Inv s₁ s₂
theorem TurnEnd.intro {keep news' all : List (Addr × Obj)} {S : List (Addr × Obj) → Prop} {Inv : (Str → Option Value) → List (Addr × Obj) → Prop} {s₁ : Shared} {h' : Heap} {tk : Nat} {m' : Str → Option Value}
    (F : Fr h₀ L h' m') (N : News h₀ L h' all) (sub : ∀ p ∈ keep ++ news', p ∈ all) (off : ∀ p ∈ news', ∀ q ∈ keep, p.1 ≠ q.1) (hS : S news') (hI : Inv m' news') : TurnEnd h₀ L keep S Inv s₁ { s₁ with heap := h', toks := tk } :=
  ⟨h', tk, m', news', rfl, F, fun p hp => N p (sub p hp), off, hS, hI⟩

theorem forLoop_G {R : Result → Shared → Prop} {target it orelse} {body : List Stmt} {env : Env} (I : Nat → Shared → Prop)
    (turn : ∀ n s, I n s → wpAny (model prog w) A (pyNext it) (fun r s₁ => match r with
      | none => wpAny (model prog w) A (execs orelse env) (fun f s₃ => R (.ok f) s₃) (notedBy (model prog w) A env fun e s' => R (.error e) s') s₁
      | some v => wpAny (model prog w) A (letOwnedTupleGo target it v) (fun _ s₁' => wpAny (model prog w) A (assign target env v) (fun _ s₂ => wpAny (model prog w) A (execs body env) (fun f s₃ => match f with
          | .next | .cont => ∃ m, m < n ∧ I m s₃
          | .brk => R (.ok .next) s₃
          | .ret v => R (.ok (.ret v)) s₃) (notedBy (model prog w) A env fun e s' => R (.error e) s') s₂) (notedBy (model prog w) A env fun e s' => R (.error e) s') s₁') (notedBy (model prog w) A env fun e s' => R (.error e) s') s₁) (notedBy (model prog w) A env fun e s' => R (.error e) s') s)
    (n : Nat) (h : I n s) : codeAny (model prog w) A (.forLoop target it body orelse env) R s := by
  refine codeAny_loop' rfl I (fun n s hI => ?_) n h
  show wpAny _ _ ((forTurn target it body orelse env).onRaise (fun x => do noteFrame x env; theTreesLotGoes x)) _ _ s
  refine wpAny_noted ?_
  simp only [forTurn]
  refine wpAny_bind (wpAny_standAt (wpAny_bind (wpAny_onRaise (wpAny_mono (turn n s hI) (fun r s₁ h₁ => ?_) fun _ _ h' => wpAny_standAt h'))))
  cases r with
  | none => exact wpAny_pure (.inr ⟨rfl, codeAny_block h₁⟩)
  | some v =>
    refine wpAny_bind (wpAny_mono h₁ (fun _ s₁' h₁' => ?_) fun _ _ h' => h')
    refine wpAny_bind (wpAny_mono h₁' (fun _ s₂ h₂ => wpAny_bind (wpAny_mono h₂ (fun f s₃ h₃ => ?_) fun _ _ h' => h')) fun _ _ h' => h')
    cases f with
    | next => exact wpAny_pure (.inl ⟨rfl, h₃⟩)
    | cont => exact wpAny_pure (.inl ⟨rfl, h₃⟩)
    | brk => exact wpAny_pure h₃
    | ret v => exact wpAny_pure h₃

theorem for_W {I : Addr} {fp : List Addr} {n : Nat} {P : Nat → Value → Prop} {St : Nat → Heap → Prop} {S : List (Addr × Obj) → Prop} {m₀ : Str → Option Value} {news₀ : List (Addr × Obj)}
    (W : Walks prog w A I fp [I] n P St) (hIo : ∀ i h, St i h → ∃ o, h.get? I = some o)
    (hSt : ∀ i h h' o nw, St i h → h.get? I = some o → h'.get? I = some o → (∀ b o, h₀.get? b = some o → h'.get? b = some o) → News h₀ L h' nw → S nw → St i h')
    (hst : St 0 s.heap) (F : Fr h₀ L s.heap m₀) (N : News h₀ L s.heap news₀) (hIL : L ≠ I) (hI₀ : h₀.get? I = none) (off : ∀ p ∈ news₀, p.1 ≠ I) (hS : S news₀)
    (Inv : Nat → (Str → Option Value) → List (Addr × Obj) → Prop) (h0 : Inv 0 m₀ news₀)
    (turn : ∀ i v m news h tk oI, i < n → P i v → Inv i m news → S news → (∀ p ∈ news, p.1 ≠ I) → Fr h₀ L h m → News h₀ L h ((I, oI) :: news) →
      wpAny (model prog w) A (assign target env v) (fun _ s₂ => wpAny (model prog w) A (execs body env) (TurnPost h₀ L [(I, oI)] S (Inv (i + 1)) s Q) (fun _ _ => False) s₂) (fun _ _ => False) { s with heap := h, toks := tk })
    (fin : ∀ m news h tk, Inv n m news → Fr h₀ L h m → News h₀ L h news → Q .next { s with heap := h, toks := tk })
    (ht : ∀ i v (s' : Shared) (Q' : Unit → Shared → Prop) E', P i v → St (i + 1) s'.heap → Q' () s' → wpAny (model prog w) A (letOwnedTupleGo target (.ref I) v) Q' E' s') :
    codeAny (model prog w) A (.forLoop target (.ref I) body [] env) (fun r s' => match r with | .ok f => Q f s' | .error e => cameBackBy (model prog w) A env E e s') s := by
  refine forLoop_G (fun k s' => ∃ h' tk m' news' i, s' = { s with heap := h', toks := tk } ∧ St i h' ∧ Fr h₀ L h' m' ∧ News h₀ L h' news' ∧ (∀ p ∈ news', p.1 ≠ I) ∧ S news' ∧ Inv i m' news' ∧ i ≤ n ∧ k = n + 1 - i) ?_ (n + 1)
    ⟨s.heap, s.toks, m₀, news₀, 0, rfl, hst, F, N, off, hS, h0, Nat.zero_le _, rfl⟩
  rintro k s' ⟨h', tk, m', news', i, rfl, hst', F', N', off', hS', hJ, hi, rfl⟩
  have next : ∀ h₁ : Heap, (∀ b o, b ∉ [I] → h'.get? b = some o → h₁.get? b = some o) → Fr h₀ L h₁ m' ∧ News h₀ L h₁ news' := fun h₁ hk₁ =>
    ⟨⟨F'.ns.at' fun o e => hk₁ _ o (by simpa using hIL) e, fun b o e => hk₁ b o (fun hb => by rw [List.mem_singleton.mp hb, hI₀] at e; cases e) (F'.keep b o e), F'.above⟩, fun p hp => ⟨hk₁ _ _ (by simpa using off' p hp) (N' p hp).1, (N' p hp).2⟩⟩
  by_cases hlt : i < n
  · refine W.item i _ _ _ hlt hst' fun v h₁ tk₁ hP hst₁ hk₁ => ?_
    obtain ⟨F₁, N₁⟩ := next h₁ hk₁
    obtain ⟨oI, heI⟩ := hIo _ _ hst₁
    have N₂ : News h₀ L h₁ ((I, oI) :: news') := fun p hp => by
      rcases List.mem_cons.mp hp with rfl | hp
      · exact ⟨heI, Ne.symm hIL, hI₀⟩
      · exact N₁ p hp
    refine ht i v _ _ _ hP hst₁ ?_
    refine wpAny_mono (turn i v m' news' h₁ tk₁ oI hlt hP hJ hS' off' F₁ N₂) (fun _ s₂ h₂ => wpAny_mono h₂ (fun f s₃ h₃ => ?_) fun _ _ x => x.elim) fun _ _ x => x.elim
    have fin' : TurnEnd h₀ L [(I, oI)] S (Inv (i + 1)) s s₃ → ∃ m, m < n + 1 - i ∧ ∃ h' tk m' news' i, s₃ = { s with heap := h', toks := tk } ∧ St i h' ∧ Fr h₀ L h' m' ∧ News h₀ L h' news' ∧ (∀ p ∈ news', p.1 ≠ I) ∧ S news' ∧ Inv i m' news' ∧ i ≤ n ∧ m = n + 1 - i := by
      rintro ⟨h₃', tk₃, m₃, news₃, rfl, F₃, N₃, off₃, hS₃, hJ₃⟩
      have N₃' : News h₀ L h₃' news₃ := fun p hp => N₃ p (List.mem_append_right _ hp)
      exact ⟨n + 1 - (i + 1), by omega, h₃', tk₃, m₃, news₃, i + 1, rfl, hSt _ _ _ _ _ hst₁ heI (N₃ (I, oI) (by simp)).1 F₃.keep N₃' hS₃, F₃, N₃', fun p hp => off₃ p hp (I, oI) (by simp), hS₃, hJ₃, hlt, rfl⟩
    cases f with
    | ret v => exact h₃
    | brk => exact h₃
    | cont => exact fin' h₃
    | next => exact fin' h₃
  · have hin : i = n := by omega
    subst hin
    refine W.done _ _ _ hst' fun h₁ tk₁ hk₁ => wpAny_execs_nil ?_
    obtain ⟨F₁, N₁⟩ := next h₁ hk₁
    exact fin m' news' h₁ tk₁ hJ F₁ N₁

/-- a for over a list that lies in the base or in the ledger -/
theorem iterList {l : Addr} {its : Array Value} {m₀ : Str → Option Value} {news₀ : List (Addr × Obj)} (Inv : Nat → (Str → Option Value) → List (Addr × Obj) → Prop)
    (hh : A.handled = none) (hS : LCg.SrcAt h₀ l its news₀) (F : Fr h₀ L s.heap m₀) (N : News h₀ L s.heap news₀) (h0 : Inv 0 m₀ news₀)
    (turn : ∀ I i v m news h tk oI, i < its.size → its[i]? = some v → Inv i m news → LCg.SrcAt h₀ l its news → (∀ p ∈ news, p.1 ≠ I) → Fr h₀ L h m → News h₀ L h ((I, oI) :: news) →
      wpAny (model prog w) A (assign target env v) (fun _ s₂ => wpAny (model prog w) A (execs body env) (TurnPost h₀ L [(I, oI)] (LCg.SrcAt h₀ l its) (Inv (i + 1)) s Q) (fun _ _ => False) s₂) (fun _ _ => False) { s with heap := h, toks := tk })
    (fin : ∀ m news h tk, Inv its.size m news → Fr h₀ L h m → News h₀ L h news → Q .next { s with heap := h, toks := tk })
    (ht : (∀ it v, letOwnedTupleGo target it v = pure ()) ∨ (∃ elts x1 pos, target = .Tuple elts x1 pos ∧ ∀ (i : Nat) (v : Value), its[i]? = some v → ∃ T : Addr, v = Value.ref T)) :
    wpAny (model prog w) A (pyIter (.ref l)) (fun it s₂ => codeAny (model prog w) A (.forLoop target it body [] env) (fun r s' => match r with | .ok f => Q f s' | .error e => cameBackBy (model prog w) A env E e s') s₂) E s := by
  have hl := hS.list F.keep N
  have hlt : l < s.heap.objs.size := by obtain ⟨_, e, _⟩ := hl; exact Heap.lt_size e
  refine wpAny_pyIter_list hl ?_
  have up : ∀ b o, s.heap.get? b = some o → (s.heap.push { cls := .type "list_iterator", data := .fields #[.ref l, .int 0 0] }).get? b = some o := fun b o e => Heap.get?_push_of_some _ e
  refine for_W (Walks.list hh s.heap.objs.size l (Nat.ne_of_lt hlt) its) (fun i h st => by obtain ⟨o, e, _⟩ := st.1; exact ⟨o, e⟩) LCg.list_st ⟨⟨_, Heap.get?_push_size _ rfl, rfl, rfl⟩, hl.push _⟩
    (F.keeps up) (N.grown up) (Nat.ne_of_lt F.ns.lt) (next_is_new F) (fun p hp => Nat.ne_of_lt (Heap.lt_size (N p hp).1)) hS Inv h0 ?_ ?_ ?_
  · intro i v m news h tk oI hi hP hJ hS off F N
    exact turn s.heap.objs.size i v m news h tk oI hi hP hJ hS off F N
  · intro m news h tk hJ F N
    exact fin m news h tk hJ F N
  · intro i v s' Q' E' hP hst hQ
    rcases ht with ht | ⟨elts, x1, pos, rfl, hv⟩
    · exact wpAny_of_eq (ht _ _) hQ
    · obtain ⟨T, rfl⟩ := hv i v hP
      exact wpAny_letOwnedTupleGo_listiter hst.1 hQ

theorem iterRange {r : Addr} {a b : Int} {t u v : Tok} {n : Nat} {m₀ : Str → Option Value} {news₀ : List (Addr × Obj)} (Inv : Nat → (Str → Option Value) → List (Addr × Obj) → Prop)
    (hh : A.handled = none) (hr : IsRange s.heap r a b 1 t u v) (hsm : Builtin.Range.small a b 1 = true) (hn : Builtin.Range.rangeSize a b 1 = ((n : Nat) : Int)) (F : Fr h₀ L s.heap m₀) (N : News h₀ L s.heap news₀) (h0 : Inv 0 m₀ news₀)
    (turn : ∀ I i t m news h tk oI, i < n → Inv i m news → (∀ p ∈ news, p.1 ≠ I) → Fr h₀ L h m → News h₀ L h ((I, oI) :: news) →
      wpAny (model prog w) A (assign target env (.int (a + (i : Int)) t)) (fun _ s₂ => wpAny (model prog w) A (execs body env) (TurnPost h₀ L [(I, oI)] (fun _ => True) (Inv (i + 1)) s Q) (fun _ _ => False) s₂) (fun _ _ => False) { s with heap := h, toks := tk })
    (fin : ∀ m news h tk, Inv n m news → Fr h₀ L h m → News h₀ L h news → Q .next { s with heap := h, toks := tk })
    (ht : ∀ it v, letOwnedTupleGo target it v = pure () := by intro _ _; rfl) :
    wpAny (model prog w) A (pyIter (.ref r)) (fun it s₂ => codeAny (model prog w) A (.forLoop target it body [] env) (fun r s' => match r with | .ok f => Q f s' | .error e => cameBackBy (model prog w) A env E e s') s₂) E s := by
  refine wpAny_pyIter_range hr hsm ?_
  refine for_W (S := fun _ => True) (LCg.range_walks hh a n) (fun i h st => ⟨_, st⟩) LCg.range_st (by show IsRangeIter _ _ _ _ _; rw [hn]; simpa using Heap.get?_push_size _ rfl)
    (F.keeps fun _ _ e => Heap.get?_push_of_some _ e) (N.grown fun _ _ e => Heap.get?_push_of_some _ e) (Nat.ne_of_lt F.ns.lt) (next_is_new F) (fun p hp => Nat.ne_of_lt (Heap.lt_size (N p hp).1)) trivial Inv h0 ?_ ?_ (fun _ _ _ _ _ _ _ hQ => wpAny_of_eq (ht _ _) hQ)
  · rintro i v m news h tk oI hi ⟨t, rfl⟩ hJ _ off F N
    exact turn s.heap.objs.size i t m news h tk oI hi hJ off F N
  · intro m news h tk hJ F N
    exact fin m news h tk hJ F N
end
end Mine
end

namespace Mine
theorem freshCm : True ∧ True := by
  k_with_none
  w_top off
  first | (walk1; all_goals exact trivial) | exact ⟨trivial, trivial⟩
end Mine
section
open PySem PySem.W PyProof.Rows
set_option Elab.async false
set_option maxRecDepth 100000
namespace Mine
open PySem.Calls PySem.Spec

section
variable {prog : Program} {w : World} {A : Around} {E : Value → Shared → Prop} {s : Shared} {env : Env} {h₀ : Heap} {L : Addr} {elt iter target : Expr} {ifs : List Expr} {scope : Scope} {pos : Pos} {cl : List (Str × Addr)}

theorem compLoop_G {it acc : Value} {R : Result → Shared → Prop} (I : Nat → Shared → Prop)
    (turn : ∀ n s, I n s → wpAny (model prog w) A (pyNext it) (fun r s₁ => match r with
      | none => R (.ok .next) s₁
      | some v => wpAny (model prog w) A (letOwnedTupleGo target it v) (fun _ s₁' => wpAny (model prog w) A (assign target env v) (fun _ s₂ =>
          wpAny (model prog w) A (forIn ifs true fun c r => if r = true then do let ok ← isTrue c env (eval c env); pure (ForInStep.yield ok) else pure (ForInStep.yield r)) (fun ok s₃ =>
            if ok = true then wpAny (model prog w) A (eval elt env) (fun x s₄ =>
              wpAny (model prog w) A (call (.builtin "list.append") [acc, x]) (fun _ s₅ => ∃ m, m < n ∧ I m s₅) (notedBy (model prog w) A env fun e s' => R (.error e) s') s₄) (notedBy (model prog w) A env fun e s' => R (.error e) s') s₃
            else ∃ m, m < n ∧ I m s₃) (notedBy (model prog w) A env fun e s' => R (.error e) s') s₂) (notedBy (model prog w) A env fun e s' => R (.error e) s') s₁') (notedBy (model prog w) A env fun e s' => R (.error e) s') s₁) (notedBy (model prog w) A env fun e s' => R (.error e) s') s)
    (n : Nat) (h : I n s) : codeAny (model prog w) A (.compLoop (.ListComp elt [⟨target, iter, ifs, 0⟩] scope pos) 0 it acc env) R s := by
  refine codeAny_loop rfl I (fun n s hI => ?_) n h
  show wpAny _ A ((compTurn (.ListComp elt [⟨target, iter, ifs, 0⟩] scope pos) 0 it acc env).onRaise (fun x => do noteFrame x env; theTreesLotGoes x)) _ _ s
  refine wpAny_noted ?_
  rw [compTurn_list]
  refine wpAny_bind (wpAny_standAt (wpAny_bind (wpAny_mono (turn n s hI) (fun r s₁ h₁ => ?_) fun _ _ h' => h')))
  cases r with
  | none => exact wpAny_pure h₁
  | some v =>
    refine wpAny_bind (wpAny_mono h₁ (fun _ s₁' h₁' => ?_) fun _ _ h' => h')
    refine wpAny_bind (wpAny_mono h₁' (fun _ s₂ h₂ => wpAny_bind (wpAny_mono h₂ (fun ok s₃ h₃ => ?_) fun _ _ h' => h')) fun _ _ h' => h')
    cases ok with
    | false => exact wpAny_pure ⟨rfl, h₃⟩
    | true =>
      exact wpAny_bind (wpAny_bind (wpAny_mono h₃ (fun x s₄ h₄ => wpAny_bind (wpAny_mono h₄ (fun _ s₅ h₅ => wpAny_pure (wpAny_pure ⟨rfl, h₅⟩)) fun _ _ h' => h')) fun _ _ h' => h'))

/-- a turn of a comprehension: all but the block's own names is kept -/
noncomputable def TurnC (C : Addr) (s₃ : Shared) (R : Prop) (s' : Shared) : Prop := R ∧ ∃ h' tk m', s' = { s₃ with heap := h', toks := tk } ∧ h'.Ns C m' ∧ ∀ b o, b ≠ C → s₃.heap.get? b = some o → h'.get? b = some o

noncomputable abbrev testsOf (A : Around) (prog : Program) (w : World) (ifs : List Expr) (env : Env) : Sem Bool := forIn ifs true fun c r => if r = true then do let ok ← isTrue c env (eval c env); pure (ForInStep.yield ok) else pure (ForInStep.yield r)

noncomputable abbrev outs (rs : List (Option Value)) : List Value := rs.filterMap id

noncomputable def TurnsC (prog : Program) (w : World) (A : Around) (env : Env) (elt target : Expr) (ifs : List Expr) (scope : Scope) (cl : List (Str × Addr)) (I : Addr) (n : Nat) (P : Nat → Value → Prop) (Rel : Nat → Option Value → Prop) (s₂ : Shared) : Prop :=
  ∀ C i v s₃ m₃, s₂.heap.objs.size ≤ C → i < n → P i v → s₃.heap.Ns C m₃ → (∀ b o, b ≠ I → s₂.heap.get? b = some o → s₃.heap.get? b = some o) → (∃ h tk, s₃ = { s₂ with heap := h, toks := tk }) →
    wpAny (model prog w) A (assign target (compEnvC scope cl C env) v) (fun _ s₄ =>
      wpAny (model prog w) A (testsOf A prog w ifs (compEnvC scope cl C env)) (fun ok s₅ => if ok = true then wpAny (model prog w) A (eval elt (compEnvC scope cl C env)) (fun y s₆ => TurnC C s₃ (Rel i (some y)) s₆) (fun _ _ => False) s₅ else TurnC C s₃ (Rel i none) s₅) (fun _ _ => False) s₄) (fun _ _ => False) s₃

theorem block_G {s₂ : Shared} {I : Addr} {fp : List Addr} {n : Nat} {P : Nat → Value → Prop} {St : Nat → Heap → Prop} {RR : Value → Addr → Result → Shared → Prop}
    (W : Walks prog w A I fp [I] n P St) (hsz : n ≤ sizeLine) (Rel : Nat → Option Value → Prop)
    (hcell : ∀ y ∈ scope.names, y.2 ≠ .cell) (hkind : scope.kind = .function) (hst : St 0 s₂.heap) (hfp : ∀ b ∈ fp, b < s₂.heap.objs.size)
    (ht : ∀ i v (s' : Shared) (Q' : Unit → Shared → Prop) E', P i v → St (i + 1) s'.heap → Q' () s' → wpAny (model prog w) A (letOwnedTupleGo target (.ref I) v) Q' E' s')
    (turn : TurnsC prog w A env elt target ifs scope cl I n P Rel s₂)
    (hRR : ∀ D C h' tk m' (rs : List (Option Value)) e, s₂.heap.get? D = none → s₂.heap.get? C = none → D ≠ C → h'.Ns C m' → h'.get? D = some (listOf (outs rs).toArray e) → rs.length = n → (∀ j r, rs[j]? = some r → Rel j r) →
      (∀ b o, b ≠ I → s₂.heap.get? b = some o → h'.get? b = some o) → RR (.ref D) C (.ok .next) { s₂ with heap := h', toks := tk }) :
    wpAny (model prog w) A (newList []) (fun acc s₃ => wpAny (model prog w) A (newFunctionEnv scope env.globals cl [] env.qual none .none (some env)) (fun cenv s₄ =>
      codeAny (model prog w) A (.compStart (.ListComp elt [⟨target, iter, ifs, 0⟩] scope pos) 0 (.ref I) acc { cenv with scope := relabel scope env }) (RR acc cenv.locals) s₄) E s₃) E s₂ := by
  refine wpAny_newObj_type (wpAny_newFunctionEnv hcell (by intro y hy; simp at hy) (fun h₁ hns₁ hsb₁ => ?_) hkind)
  dsimp only at hns₁ hsb₁ ⊢
  generalize hH2 : s₂.heap.push { cls := .type "list", dict := none, data := .seq ([] : List Value).toArray } = H2 at hns₁ hsb₁ ⊢
  have hC : H2.objs.size = s₂.heap.objs.size + 1 := by rw [← hH2, Heap.size_push]
  have hDC : s₂.heap.objs.size ≠ H2.objs.size := by rw [hC]; exact Nat.ne_of_lt (Nat.lt_succ_self _)
  have hCle : s₂.heap.objs.size ≤ H2.objs.size := by rw [hC]; exact Nat.le_succ _
  have below : ∀ b, b < s₂.heap.objs.size → b ≠ H2.objs.size ∧ b ≠ s₂.heap.objs.size := fun b hb => ⟨by rw [hC]; exact Nat.ne_of_lt (Nat.lt_succ_of_lt hb), Nat.ne_of_lt hb⟩
  have hDf : s₂.heap.objs.size ∉ fp := fun hm => Nat.lt_irrefl _ (hfp _ hm)
  have hCf : H2.objs.size ∉ fp := fun hm => by have := hfp _ hm; rw [hC] at this; exact Nat.lt_irrefl _ (Nat.lt_of_succ_lt this)
  have hIf : I ∈ fp := W.sub I (List.mem_singleton.mpr rfl)
  have hIlt : I < s₂.heap.objs.size := hfp I hIf
  have old : ∀ b o, s₂.heap.get? b = some o → h₁.get? b = some o := fun b o e => hsb₁.extBut b o (below b (Heap.lt_size e)).1 (Heap.get?_push_of_some _ (hH2 ▸ Heap.get?_push_of_some _ e))
  have hacc : h₁.get? s₂.heap.objs.size = some (listOf #[] 0) := hsb₁.extBut _ _ hDC (Heap.get?_push_of_some _ (hH2 ▸ Heap.get?_push_size _ rfl))
  have hst₁ : St 0 h₁ := W.frame _ _ _ hst fun b _ o e => old b o e
  have hCI : I ≠ H2.objs.size := (below I hIlt).1
  have hDI : I ≠ s₂.heap.objs.size := (below I hIlt).2
  have fresh : ∀ a, s₂.heap.objs.size ≤ a → s₂.heap.get? a = none := fun a ha => by
    cases e : s₂.heap.get? a with
    | none => rfl
    | some o' => exact absurd (Heap.lt_size e) (Nat.not_lt.mpr ha)
  have loop : ∀ s₃ : Shared, s₃ = { s₂ with heap := h₁, toks := s₂.toks + ([] : List (Str × Value)).length } →
      codeAny (model prog w) A (.compLoop (.ListComp elt [⟨target, iter, ifs, 0⟩] scope pos) 0 (.ref I) (.ref s₂.heap.objs.size) (compEnvC scope cl H2.objs.size env))
        (RR (.ref s₂.heap.objs.size) H2.objs.size) s₃ := by
    rintro s₃ rfl
    refine compLoop_G
      (fun k s' => ∃ h' tk i rs e m', s' = { s₂ with heap := h', toks := tk } ∧ i ≤ n ∧ k = n + 1 - i ∧ rs.length = i ∧ St i h' ∧ h'.Ns H2.objs.size m' ∧ h'.get? s₂.heap.objs.size = some (listOf (outs rs).toArray e) ∧ (∀ j r, rs[j]? = some r → Rel j r) ∧
        ∀ b o, b ≠ I → s₂.heap.get? b = some o → h'.get? b = some o) ?_ (n + 1)
      ⟨h₁, _, 0, [], 0, _, rfl, Nat.zero_le _, rfl, rfl, hst₁, hns₁, hacc, fun j r e => by simp at e, fun b o _ e => old b o e⟩
    rintro k s' ⟨h', tk, i, rs, e, m', rfl, hi, rfl, hyl, hst', hn', hD', hR', hk'⟩
    by_cases hlt : i < n
    · refine W.item i _ _ _ hlt hst' fun v h₂ tk₂ hPv hst₂ hk₂ => ?_
      have keep2 : ∀ b o, b ≠ I → h'.get? b = some o → h₂.get? b = some o := fun b o hb e => hk₂ b o (by simpa using hb) e
      refine ht i v _ _ _ hPv hst₂ ?_
      refine wpAny_mono (turn H2.objs.size i v _ _ hCle hlt hPv (hn'.at' fun o e => keep2 _ o (Ne.symm hCI) e) (fun b o hb e => keep2 b o hb (hk' b o hb e)) ⟨_, _, rfl⟩) (fun _ s₄ h₄ => wpAny_mono h₄ (fun ok s₅ h₅ => ?_) fun _ _ x => x.elim) fun _ _ x => x.elim
      have hD₂ : h₂.get? s₂.heap.objs.size = some (listOf (outs rs).toArray e) := keep2 _ _ (Ne.symm hDI) hD'
      have hlen : (outs rs).length ≤ sizeLine := Nat.le_trans (List.length_filterMap_le ..) (by rw [hyl]; exact Nat.le_trans hi hsz)
      cases ok with
      | false =>
        simp only [Bool.false_eq_true, if_false] at h₅ ⊢
        obtain ⟨hr, h₅', tk₅, m₅, rfl, hn₅, hk₅⟩ := h₅
        refine ⟨n + 1 - (i + 1), by omega, h₅', tk₅, i + 1, rs ++ [none], e, m₅, rfl, hlt, rfl, by simp [hyl], W.frame _ _ _ hst₂ fun b hb o e => hk₅ b o (fun q => hCf (q ▸ hb)) e, hn₅, ?_, ?_, fun b o hb e => hk₅ b o (below b (Heap.lt_size e)).1 (keep2 b o hb (hk' b o hb e))⟩
        · rw [show outs (rs ++ [none]) = outs rs by simp [outs]]; exact hk₅ _ _ hDC hD₂
        · intro j r hj
          rw [List.getElem?_append] at hj
          split at hj
          · exact hR' j r hj
          · rename_i q
            have : j = i := by
              have : j - rs.length < 1 := by
                rcases Nat.lt_or_ge (j - rs.length) 1 with q2 | q2
                · exact q2
                · rw [List.getElem?_eq_none (by simpa using q2)] at hj; cases hj
              omega
            subst this
            rw [show j - rs.length = 0 by omega] at hj
            cases hj; exact hr
      | true =>
        simp only [if_true] at h₅ ⊢
        refine wpAny_mono h₅ (fun y s₆ h₆ => ?_) fun _ _ x => x.elim
        obtain ⟨hr, h₆', tk₆, m₆, rfl, hn₆, hk₆⟩ := h₆
        refine append_at (hsz := by rw [List.size_toArray]; exact hlen) (hk₆ _ _ hDC hD₂) fun h₇ hs₇ hD₇ => ?_
        refine ⟨n + 1 - (i + 1), by omega, h₇, tk₆, i + 1, rs ++ [some y], e + 1, m₆, rfl, hlt, rfl, by simp [hyl], W.frame _ _ _ hst₂ fun b hb o e => hs₇.extBut b o (fun q => hDf (q ▸ hb)) (hk₆ b o (fun q => hCf (q ▸ hb)) e), hn₆.sameBut hs₇ (Ne.symm hDC), ?_, ?_,
          fun b o hb e => hs₇.extBut b o (below b (Heap.lt_size e)).2 (hk₆ b o (below b (Heap.lt_size e)).1 (keep2 b o hb (hk' b o hb e)))⟩
        · rw [hD₇]; simp [outs]
        · intro j r hj
          rw [List.getElem?_append] at hj
          split at hj
          · exact hR' j r hj
          · rename_i q
            have : j = i := by
              have : j - rs.length < 1 := by
                rcases Nat.lt_or_ge (j - rs.length) 1 with q2 | q2
                · exact q2
                · rw [List.getElem?_eq_none (by simpa using q2)] at hj; cases hj
              omega
            subst this
            rw [show j - rs.length = 0 by omega] at hj
            cases hj; exact hr
    · obtain rfl : i = n := Nat.le_antisymm hi (Nat.not_lt.mp hlt)
      refine W.done _ _ _ hst' fun h₂ tk₂ hk₂ => ?_
      have keep2 : ∀ b o, b ≠ I → h'.get? b = some o → h₂.get? b = some o := fun b o hb e => hk₂ b o (by simpa using hb) e
      exact hRR _ _ h₂ tk₂ m' rs e (fresh _ (Nat.le_refl _)) (fresh _ hCle) hDC (hn'.at' fun o e => keep2 _ o (Ne.symm hCI) e) (keep2 _ _ (Ne.symm hDI) hD') hyl hR' fun b o hb e => keep2 b o hb (hk' b o hb e)
  exact codeAny_compStart_list (loop _ rfl) (W.self 0 _ _ _ hst₁ (loop _ rfl))

noncomputable def BodyC (prog : Program) (w : World) (A : Around) (env : Env) (elt : Expr) (ifs : List Expr) (scope : Scope) (cl : List (Str × Addr)) (C : Addr) (s₃ : Shared) (Rel : Option Value → Prop) (s₄ : Shared) : Prop :=
  wpAny (model prog w) A (testsOf A prog w ifs (compEnvC scope cl C env)) (fun ok s₅ => if ok = true then wpAny (model prog w) A (eval elt (compEnvC scope cl C env)) (fun y s₆ => TurnC C s₃ (Rel (some y)) s₆) (fun _ _ => False) s₅ else TurnC C s₃ (Rel none) s₅) (fun _ _ => False) s₄

theorem TurnC.weaken {C : Addr} {s₁ : Shared} {h h' : Heap} {tk tk' : Nat} {R : Prop} {s' : Shared} (hk : ∀ b o, b ≠ C → h.get? b = some o → h'.get? b = some o)
    (x : TurnC C { s₁ with heap := h', toks := tk' } R s') : TurnC C { s₁ with heap := h, toks := tk } R s' := by
  obtain ⟨hr, h2, tk2, m2, rfl, hn, hk2⟩ := x
  exact ⟨hr, h2, tk2, m2, rfl, hn, fun b o hb e => hk2 b o hb (hk b o hb e)⟩
theorem BodyC.weaken {C : Addr} {s₁ s₄ : Shared} {h h' : Heap} {tk tk' : Nat} {Rel : Option Value → Prop} (hk : ∀ b o, b ≠ C → h.get? b = some o → h'.get? b = some o)
    (x : BodyC prog w A env elt ifs scope cl C { s₁ with heap := h', toks := tk' } Rel s₄) : BodyC prog w A env elt ifs scope cl C { s₁ with heap := h, toks := tk } Rel s₄ := by
  refine wpAny_mono x (fun ok s₅ h₅ => ?_) fun _ _ e => e
  cases ok with
  | false => simp only [Bool.false_eq_true, if_false] at h₅ ⊢; exact h₅.weaken hk
  | true => simp only [if_true] at h₅ ⊢; exact wpAny_mono h₅ (fun y s₆ h₆ => h₆.weaken hk) fun _ _ e => e

noncomputable def Turns (prog : Program) (w : World) (A : Around) (env : Env) (elt target : Expr) (ifs : List Expr) (scope : Scope) (cl : List (Str × Addr)) (n : Nat) (P : Nat → Value → Prop) (Rel : Nat → Option Value → Prop) (s₁ : Shared) : Prop :=
  ∀ C i v h tk m₃, s₁.heap.objs.size ≤ C → i < n → P i v → h.Ns C m₃ → Ext s₁.heap h →
    wpAny (model prog w) A (assign target (compEnvC scope cl C env) v) (fun _ s₄ => BodyC prog w A env elt ifs scope cl C { s₁ with heap := h, toks := tk } (Rel i) s₄) (fun _ _ => False) { s₁ with heap := h, toks := tk }

theorem Turns.name {x : Str} {px : Pos} {n : Nat} {P : Nat → Value → Prop} {Rel : Nat → Option Value → Prop} {s₁ : Shared} (hkind : scope.kind = .function) (hx : scope.names.lookup x = some .local)
    (h : ∀ C i v h tk m₃, s₁.heap.objs.size ≤ C → i < n → P i v → h.Ns C m₃ → m₃ x = some v → Ext s₁.heap h → BodyC prog w A env elt ifs scope cl C { s₁ with heap := h, toks := tk } (Rel i) { s₁ with heap := h, toks := tk }) :
    Turns prog w A env elt (.Name x px) ifs scope cl n P Rel s₁ := by
  intro C i v h' tk m₃ hC hi hP hn hk
  refine wpAny_assign_Name (wpAny_storeName_local (lookup_relabel_local hx) hn (fun h₆ hn₆ hs₆ => ?_) (by simp [compEnvC, relabel, hkind]))
  exact (h C i v h₆ (tk + 1) _ hC hi hP hn₆ (by simp) fun b o e => hs₆.extBut b o (Nat.ne_of_lt (Nat.lt_of_lt_of_le (Heap.lt_size e) hC)) (hk b o e)).weaken fun b o hb e => hs₆.extBut b o hb e

theorem Turns.three {x₁ x₂ x₃ : Str} {p₁ p₂ p₃ tp : Pos} {tk₀} {n : Nat} {P : Nat → Value → Prop} {Rel : Nat → Option Value → Prop} {s₁ : Shared} (hh : A.handled = none) (hkind : scope.kind = .function)
    (h1 : scope.names.lookup x₁ = some .local) (h2 : scope.names.lookup x₂ = some .local) (h3 : scope.names.lookup x₃ = some .local) (h12 : x₁ ≠ x₂) (h13 : x₁ ≠ x₃) (h23 : x₂ ≠ x₃)
    (hP : ∀ i v, i < n → P i v → ∃ a v₁ v₂ v₃, v = .ref a ∧ IsTup s₁.heap a #[v₁, v₂, v₃])
    (h : ∀ C i a v₁ v₂ v₃ h tk m₃, s₁.heap.objs.size ≤ C → i < n → P i (.ref a) → IsTup s₁.heap a #[v₁, v₂, v₃] → h.Ns C m₃ → m₃ x₁ = some v₁ → m₃ x₂ = some v₂ → m₃ x₃ = some v₃ → Ext s₁.heap h →
      BodyC prog w A env elt ifs scope cl C { s₁ with heap := h, toks := tk } (Rel i) { s₁ with heap := h, toks := tk }) :
    Turns prog w A env elt (.Tuple [.Name x₁ p₁, .Name x₂ p₂, .Name x₃ p₃] tk₀ tp) ifs scope cl n P Rel s₁ := by
  intro C i v h' tk m₃ hC hi hPv hn hk
  obtain ⟨a, v₁, v₂, v₃, rfl, ht⟩ := hP i v hi hPv
  have ht' : IsTup h' a #[v₁, v₂, v₃] := ht.keeps hk
  refine assign_Tuple_tuple hh ht' rfl rfl fun h₅ he => ?_
  have he' : ∀ b o, h'.get? b = some o → h₅.get? b = some o := fun b o e => he b o (Nat.ne_of_lt (Heap.lt_size e)) e
  refine assignInOrder_cons (wpAny_assign_Name (wpAny_storeName_local (lookup_relabel_local h1) (hn.at' fun o e => he' _ o e) (fun h₆ hn₆ hs₆ => ?_) (by simp [compEnvC, relabel, hkind])))
  refine assignInOrder_cons (wpAny_assign_Name (wpAny_storeName_local (lookup_relabel_local h2) hn₆ (fun h₇ hn₇ hs₇ => ?_) (by simp [compEnvC, relabel, hkind])))
  refine assignInOrder_cons (wpAny_assign_Name (wpAny_storeName_local (lookup_relabel_local h3) hn₇ (fun h₈ hn₈ hs₈ => ?_) (by simp [compEnvC, relabel, hkind])))
  refine assignInOrder_nil ?_
  have keep : ∀ b o, b ≠ C → h'.get? b = some o → h₈.get? b = some o := fun b o hb e => hs₈.extBut b o hb (hs₇.extBut b o hb (hs₆.extBut b o hb (he' b o e)))
  exact (h C i a v₁ v₂ v₃ h₈ _ _ hC hi hPv ht hn₈ (by simp [h12, h13]) (by simp [h23]) (by simp) fun b o e => keep b o (Nat.ne_of_lt (Nat.lt_of_lt_of_le (Heap.lt_size e) hC)) (hk b o e)).weaken keep

theorem Turns.toC {n : Nat} {P : Nat → Value → Prop} {Rel : Nat → Option Value → Prop} {s₁ : Shared} {oi : Obj} (h : Turns prog w A env elt target ifs scope cl n P Rel s₁) :
    TurnsC prog w A env elt target ifs scope cl s₁.heap.objs.size n P Rel { s₁ with heap := s₁.heap.push oi } := by
  rintro C i v s₃ m₃ hC hi hP hn hk ⟨h', tk, rfl⟩
  refine h C i v h' tk m₃ (Nat.le_trans (by show s₁.heap.objs.size ≤ (s₁.heap.push oi).objs.size; rw [Heap.size_push]; exact Nat.le_succ _) hC) hi hP hn fun b o e => hk b o (Nat.ne_of_lt (Heap.lt_size e)) (Heap.get?_push_of_some _ e)

noncomputable abbrev FinC (s₁ : Shared) (n : Nat) (Rel : Nat → Option Value → Prop) (Q : Value → Shared → Prop) : Prop :=
  ∀ D rs e h tk, s₁.heap.get? D = none → h.get? D = some (listOf (outs rs).toArray e) → rs.length = n → (∀ j r, rs[j]? = some r → Rel j r) → Ext s₁.heap h → Q (.ref D) { s₁ with heap := h, toks := tk }

/-- what is asked where the iterable of a comprehension is reached -/
noncomputable def CompAt (prog : Program) (w : World) (A : Around) (env : Env) (elt target : Expr) (ifs : List Expr) (scope : Scope) (cl : List (Str × Addr)) (Q : Value → Shared → Prop) (xv : Value) (s₁ : Shared) : Prop :=
  A.handled = none ∧ ∃ Rel : Nat → Option Value → Prop,
  ((∃ l its, xv = .ref l ∧ s₁.heap.IsList l its ∧ its.size ≤ sizeLine ∧
      ((∀ it v, letOwnedTupleGo target it v = pure ()) ∨ (∃ elts x1 pos, target = .Tuple elts x1 pos ∧ ∀ (i : Nat) (v : Value), its[i]? = some v → ∃ T : Addr, v = Value.ref T)) ∧
      Turns prog w A env elt target ifs scope cl its.size (fun i v => its[i]? = some v) Rel s₁ ∧ FinC s₁ its.size Rel Q) ∨
   (∃ r a b t u v n, xv = .ref r ∧ IsRange s₁.heap r a b 1 t u v ∧ Builtin.Range.small a b 1 = true ∧ Builtin.Range.rangeSize a b 1 = ((n : Nat) : Int) ∧ n ≤ sizeLine ∧ (∀ it v, letOwnedTupleGo target it v = pure ()) ∧
      Turns prog w A env elt target ifs scope cl n (fun i v => ∃ t, v = .int (a + (i : Int)) t) Rel s₁ ∧ FinC s₁ n Rel Q))

theorem evalComp {Q : Value → Shared → Prop} (hclos : closureFor scope env = pure cl) (hcell : ∀ y ∈ scope.names, y.2 ≠ .cell) (hkind : scope.kind = .function)
    (hnames : ∀ y ∈ scope.names, y.2 = .local → scope.names.lookup y.1 = some .local)
    (h : wpAny (model prog w) A (eval iter env) (CompAt prog w A env elt target ifs scope cl Q) E s)
    (hs : ∀ x, foldedSetIterable iter env x = pure x := by intro _; rfl) :
    wpAny (model prog w) A (eval (.ListComp elt [⟨target, iter, ifs, 0⟩] scope pos) env) Q E s := by
  rw [eval_ListComp]
  refine wpAny_comprehension_free (use := none) rfl hs hclos hkind hnames (wpAny_mono h (fun xv s₁ h₁ => ?_) fun _ _ e => e)
  obtain ⟨hh, Rel, ⟨l, its, rfl, hl, hsz, ht, T, fin⟩ | ⟨r, a, b, t, u, v, n, rfl, hr, hsm, hn, hsz, ht, T, fin⟩⟩ := h₁
  · have hlt : l < s₁.heap.objs.size := by obtain ⟨_, e, _⟩ := hl; exact Heap.lt_size e
    refine wpAny_pyIter_list hl ?_
    refine block_G (Walks.list hh s₁.heap.objs.size l (Nat.ne_of_lt hlt) its) hsz Rel hcell hkind ⟨⟨_, Heap.get?_push_size _ rfl, rfl, rfl⟩, hl.push _⟩ (fun b hb => ?_) (fun i v s' Q' E' hP hst hQ => ?_) T.toC ?_
    · show b < (s₁.heap.push _).objs.size
      rw [Heap.size_push]
      rcases List.mem_cons.mp hb with rfl | hb
      · exact Nat.lt_succ_self _
      · rw [List.mem_singleton.mp hb]; exact Nat.lt_succ_of_lt hlt
    · rcases ht with ht | ⟨elts, x1, pos, rfl, hv⟩
      · exact wpAny_of_eq (ht _ _) hQ
      · obtain ⟨T, rfl⟩ := hv i v hP
        exact wpAny_letOwnedTupleGo_listiter hst.1 hQ
    · intro D C h' tk m' rs e hD hC hDC hnC hDo hlen hR hk
      have hD1 : s₁.heap.get? D = none := by
        cases q : s₁.heap.get? D with
        | none => rfl
        | some o => have := Heap.get?_push_of_some (o := { cls := .type "list_iterator", data := .fields #[.ref l, .int 0 0] }) q; rw [this] at hD; cases hD
      refine ⟨m', hnC, fun h'' hs'' => fin D rs e h'' tk hD1 (hs''.extBut _ _ hDC hDo) hlen hR fun b o eb => hs''.extBut b o (fun q => ?_) (hk b o (Nat.ne_of_lt (Heap.lt_size eb)) (Heap.get?_push_of_some _ eb))⟩
      have := Heap.get?_push_of_some (o := { cls := .type "list_iterator", data := .fields #[.ref l, .int 0 0] }) eb
      rw [q] at this; rw [this] at hC; cases hC
  · refine wpAny_pyIter_range hr hsm ?_
    refine block_G (LCg.range_walks hh a n) hsz Rel hcell hkind (by show IsRangeIter _ _ _ _ _; rw [hn]; simpa using Heap.get?_push_size _ rfl) (fun b hb => ?_) (fun i v s' Q' E' hP hst hQ => wpAny_of_eq (ht _ _) hQ) T.toC ?_
    · rw [List.mem_singleton.mp hb]
      show s₁.heap.objs.size < (s₁.heap.push _).objs.size
      rw [Heap.size_push]; exact Nat.lt_succ_self _
    · intro D C h' tk m' rs e hD hC hDC hnC hDo hlen hR hk
      have up : ∀ {b : Addr} {o}, s₁.heap.get? b = some o → (s₁.heap.push { cls := .type "range_iterator", data := .fields #[rawInt a, rawInt (Builtin.Range.rangeSize a b 1), rawInt 1] }).get? b = some o := fun q => Heap.get?_push_of_some _ q
      have hD1 : s₁.heap.get? D = none := by
        cases q : s₁.heap.get? D with
        | none => rfl
        | some o => have := Heap.get?_push_of_some (o := { cls := .type "range_iterator", data := .fields #[rawInt a, rawInt (Builtin.Range.rangeSize a b 1), rawInt 1] }) q; rw [this] at hD; cases hD
      refine ⟨m', hnC, fun h'' hs'' => fin D rs e h'' tk hD1 (hs''.extBut _ _ hDC hDo) hlen hR fun b' o eb => hs''.extBut b' o (fun q => ?_) (hk b' o (Nat.ne_of_lt (Heap.lt_size eb)) (Heap.get?_push_of_some _ eb))⟩
      have := Heap.get?_push_of_some (o := { cls := .type "range_iterator", data := .fields #[rawInt a, rawInt (Builtin.Range.rangeSize a b 1), rawInt 1] }) eb
      rw [q] at this; rw [this] at hC; cases hC

noncomputable abbrev FinA (h₀ : Heap) (L : Addr) (m : Str → Option Value) (news : List (Addr × Obj)) (y : Str) (s₁ : Shared) (n : Nat) (Rel : Nat → Option Value → Prop) (Q : Flow → Shared → Prop) : Prop :=
  ∀ D rs e h tk, Fr h₀ L h (fun z => if z = y then some (.ref D) else m z) → News h₀ L h ((D, listOf (outs rs).toArray e) :: news) → (∀ p ∈ news, p.1 ≠ D) → rs.length = n → (∀ j r, rs[j]? = some r → Rel j r) → Q .next { s₁ with heap := h, toks := tk }

noncomputable def CompAtA (prog : Program) (w : World) (A : Around) (env : Env) (elt target : Expr) (ifs : List Expr) (scope : Scope) (cl : List (Str × Addr)) (y : Str) (Q : Flow → Shared → Prop) (xv : Value) (s₁ : Shared) : Prop :=
  A.handled = none ∧ ∃ Rel : Nat → Option Value → Prop, ∃ h₀ m news, Fr h₀ env.locals s₁.heap m ∧ News h₀ env.locals s₁.heap news ∧
  ((∃ l its, xv = .ref l ∧ s₁.heap.IsList l its ∧ its.size ≤ sizeLine ∧
      ((∀ it v, letOwnedTupleGo target it v = pure ()) ∨ (∃ elts x1 pos, target = .Tuple elts x1 pos ∧ ∀ (i : Nat) (v : Value), its[i]? = some v → ∃ T : Addr, v = Value.ref T)) ∧
      Turns prog w A env elt target ifs scope cl its.size (fun i v => its[i]? = some v) Rel s₁ ∧ FinA h₀ env.locals m news y s₁ its.size Rel Q) ∨
   (∃ r a b t u v n, xv = .ref r ∧ IsRange s₁.heap r a b 1 t u v ∧ Builtin.Range.small a b 1 = true ∧ Builtin.Range.rangeSize a b 1 = ((n : Nat) : Int) ∧ n ≤ sizeLine ∧ (∀ it v, letOwnedTupleGo target it v = pure ()) ∧
      Turns prog w A env elt target ifs scope cl n (fun i v => ∃ t, v = .int (a + (i : Int)) t) Rel s₁ ∧ FinA h₀ env.locals m news y s₁ n Rel Q))

theorem assign_fin {h₀ : Heap} {m : Str → Option Value} {news : List (Addr × Obj)} {y : Str} {py : Pos} {s₁ : Shared} {n : Nat} {Rel : Nat → Option Value → Prop} {Q : Flow → Shared → Prop} {D C : Addr} {h' : Heap} {tk : Nat} {m' : Str → Option Value} {rs : List (Option Value)} {e : Nat} {E : Value → Shared → Prop}
    (hy : env.kindOf y = some .local) (hp : (env.scope.kind == .class || (env.scope.kind == .module && env.locals != env.globals)) = false)
    (F : Fr h₀ env.locals s₁.heap m) (N : News h₀ env.locals s₁.heap news) (hD : s₁.heap.get? D = none) (hC : s₁.heap.get? C = none) (hDC : D ≠ C) (hnC : h'.Ns C m') (hDo : h'.get? D = some (listOf (outs rs).toArray e))
    (hlen : rs.length = n) (hR : ∀ j r, rs[j]? = some r → Rel j r) (hk : ∀ b o, s₁.heap.get? b = some o → h'.get? b = some o) (fin : FinA h₀ env.locals m news y s₁ n Rel Q) :
    wpAny (model prog w) A (assign (.Name y py) env (.ref D)) (fun _ s'' => ∃ m, s''.heap.Ns C m ∧ ∀ h', Heap.SameBut C s''.heap h' → Q .next { s'' with heap := h' }) E { s₁ with heap := h', toks := tk } := by
  obtain ⟨oL, _, _, hL, _⟩ := F.ns
  have hDL : D ≠ env.locals := fun q => by rw [← q, hD] at hL; cases hL
  have hCL : C ≠ env.locals := fun q => by rw [← q, hC] at hL; cases hL
  refine wpAny_assign_Name (wpAny_storeName_local hy (F.ns.keeps hk) (fun h₂ hn₂ hs₂ => ?_) hp)
  refine ⟨m', hnC.sameBut hs₂ hCL, fun h₃ hs₃ => ?_⟩
  have keep : ∀ b o, b ≠ env.locals → s₁.heap.get? b = some o → h₃.get? b = some o := fun b o hb eb => hs₃.extBut b o (fun q => by rw [q, hC] at eb; cases eb) (hs₂.extBut b o hb (hk b o eb))
  refine fin D rs e h₃ _ ⟨hn₂.sameBut hs₃ (Ne.symm hCL), fun b o eb => keep b o (Nat.ne_of_lt (Nat.lt_of_lt_of_le (Heap.lt_size eb) F.above)) (F.keep b o eb), F.above⟩ (fun p hp => ?_) (fun p hp q => ?_) hlen hR
  · rcases List.mem_cons.mp hp with rfl | hp
    · refine ⟨hs₃.extBut _ _ hDC (hs₂.extBut _ _ hDL hDo), hDL, ?_⟩
      cases q : h₀.get? D with
      | none => rfl
      | some o => rw [F.keep _ _ q] at hD; cases hD
    · exact ⟨keep _ _ (N p hp).2.1 (N p hp).1, (N p hp).2⟩
  · have := (N p hp).1; rw [q, hD] at this; cases this

theorem assignComp {y : Str} {py spos : Pos} {Q : Flow → Shared → Prop} (hclos : closureFor scope env = pure cl) (hcell : ∀ y ∈ scope.names, y.2 ≠ .cell) (hkind : scope.kind = .function)
    (hnames : ∀ y ∈ scope.names, y.2 = .local → scope.names.lookup y.1 = some .local) (hsw : swapsWith (.ListComp elt [⟨target, iter, ifs, 0⟩] scope pos) (some (.Name y py)) spos.line env = pure true)
    (hy : env.kindOf y = some .local) (hp : (env.scope.kind == .class || (env.scope.kind == .module && env.locals != env.globals)) = false)
    (h : wpAny (model prog w) A (eval iter env) (CompAtA prog w A env elt target ifs scope cl y Q) E s)
    (hs : ∀ x, foldedSetIterable iter env x = pure x := by intro _; rfl) :
    wpAny (model prog w) A (exec (.Assign [.Name y py] (.ListComp elt [⟨target, iter, ifs, 0⟩] scope pos) spos) env) Q E s := by
  rw [exec_Assign_Name_used _ _ _ _ hsw]
  refine wpAny_bind (wpAny_standAt (wpAny_bind ?_))
  show wpAny _ A (do let _ ← comprehension (.ListComp elt [⟨target, iter, ifs, 0⟩] scope pos) scope env _ (newList []) false (eval iter env) (some (assign (.Name y py) env))) _ _ s
  refine wpAny_bind (wpAny_mono (wpAny_comprehension_free (use := some (assign (.Name y py) env)) (Q := fun _ s' => Q .next s') rfl hs hclos hkind hnames
    (wpAny_mono h (fun xv s₁ h₁ => ?_) fun _ _ e => e)) (fun _ s' hq => wpAny_pure (wpAny_pure hq)) fun _ _ e => e)
  obtain ⟨hh, Rel, h₀, m, news, F, N, ⟨l, its, rfl, hl, hsz, ht, T, fin⟩ | ⟨r, a, b, t, u, v, n, rfl, hr, hsm, hn, hsz, ht, T, fin⟩⟩ := h₁
  · have hlt : l < s₁.heap.objs.size := by obtain ⟨_, e, _⟩ := hl; exact Heap.lt_size e
    refine wpAny_pyIter_list hl ?_
    refine block_G (Walks.list hh s₁.heap.objs.size l (Nat.ne_of_lt hlt) its) hsz Rel hcell hkind ⟨⟨_, Heap.get?_push_size _ rfl, rfl, rfl⟩, hl.push _⟩ (fun b hb => ?_) (fun i v s' Q' E' hP hst hQ => ?_) T.toC ?_
    · show b < (s₁.heap.push _).objs.size
      rw [Heap.size_push]
      rcases List.mem_cons.mp hb with rfl | hb
      · exact Nat.lt_succ_self _
      · rw [List.mem_singleton.mp hb]; exact Nat.lt_succ_of_lt hlt
    · rcases ht with ht | ⟨elts, x1, pos, rfl, hv⟩
      · exact wpAny_of_eq (ht _ _) hQ
      · obtain ⟨T, rfl⟩ := hv i v hP
        exact wpAny_letOwnedTupleGo_listiter hst.1 hQ
    · intro D C h' tk m' rs e hD hC hDC hnC hDo hlen hR hk
      have dn : ∀ {X}, (s₁.heap.push { cls := .type "list_iterator", data := .fields #[.ref l, .int 0 0] }).get? X = none → s₁.heap.get? X = none := fun {X} hX => by
        cases q : s₁.heap.get? X with
        | none => rfl
        | some o => have := Heap.get?_push_of_some (o := { cls := .type "list_iterator", data := .fields #[.ref l, .int 0 0] }) q; rw [this] at hX; cases hX
      exact assign_fin (s₁ := s₁) hy hp F N (dn hD) (dn hC) hDC hnC hDo hlen hR (fun b o eb => hk b o (Nat.ne_of_lt (Heap.lt_size eb)) (Heap.get?_push_of_some _ eb)) fin
  · refine wpAny_pyIter_range hr hsm ?_
    refine block_G (LCg.range_walks hh a n) hsz Rel hcell hkind (by show IsRangeIter _ _ _ _ _; rw [hn]; simpa using Heap.get?_push_size _ rfl) (fun b hb => ?_) (fun i v s' Q' E' hP hst hQ => wpAny_of_eq (ht _ _) hQ) T.toC ?_
    · rw [List.mem_singleton.mp hb]
      show s₁.heap.objs.size < (s₁.heap.push _).objs.size
      rw [Heap.size_push]; exact Nat.lt_succ_self _
    · intro D C h' tk m' rs e hD hC hDC hnC hDo hlen hR hk
      have dn : ∀ {X}, (s₁.heap.push { cls := .type "range_iterator", data := .fields #[rawInt a, rawInt (Builtin.Range.rangeSize a b 1), rawInt 1] }).get? X = none → s₁.heap.get? X = none := fun {X} hX => by
        cases q : s₁.heap.get? X with
        | none => rfl
        | some o => have := Heap.get?_push_of_some (o := { cls := .type "range_iterator", data := .fields #[rawInt a, rawInt (Builtin.Range.rangeSize a b 1), rawInt 1] }) q; rw [this] at hX; cases hX
      exact assign_fin (s₁ := s₁) hy hp F N (dn hD) (dn hC) hDC hnC hDo hlen hR (fun b o eb => hk b o (Nat.ne_of_lt (Heap.lt_size eb)) (Heap.get?_push_of_some _ eb)) fin
end
end Mine
end

namespace Mine
theorem freshF4 : True ∧ True := by
  k_with_none
  w_top off
  first | (walk1; all_goals exact trivial) | exact ⟨trivial, trivial⟩
end Mine
section
open PySem PySem.W PyProof.Rows
set_option Elab.async false
set_option maxRecDepth 100000
set_option maxHeartbeats 1500000
namespace Mine
open PySem.Calls PySem.Spec PySem.Flt
noncomputable def plan : List Int := [1, 15, 29, 9, 19, 35, 2, 18, 34]
noncomputable def padOf (ns : List Int) : List Int := List.take 9 ns ++ (List.replicate (Int.toNat 9) [(0 : Int)]).flatten
noncomputable def hueAt (ns : List Int) (k : Int) : Int := Int.fmod ((plan).getD k.toNat 0 + (padOf ns).getD k.toNat 0) 36
theorem pad_fit {ns : List Int} {k : Int} (h : k < 0 + (9 : Nat)) : k < ((List.take 9 ns ++ (List.replicate (Int.toNat 9) [(0 : Int)]).flatten).length : Int) := by
  have e : (List.replicate (Int.toNat 9) [(0 : Int)]).flatten.length = 9 := by decide
  rw [List.length_append, e]; omega
theorem plan_ints {t0 t1 t2 t3 t4 t5 t6 t7 t8 : Tok} : IntsAre [Value.int 1 t0, .int 15 t1, .int 29 t2, .int 9 t3, .int 19 t4, .int 35 t5, .int 2 t6, .int 18 t7, .int 34 t8] plan :=
  .cons _ _ (.cons _ _ (.cons _ _ (.cons _ _ (.cons _ _ (.cons _ _ (.cons _ _ (.cons _ _ (.cons _ _ .nil))))))))
theorem idx9 {k : Int} (h : k < 0 + ((9 - 0 : Int).toNat : Int)) : k < 2 ^ 63 := by omega
theorem drop4 {h₀ h : Heap} {L : Addr} {a b c d e f g : Addr × Obj} (N : News h₀ L h [a, b, c, d, e, f, g]) : News h₀ L h [a, e, f, g] := fun p hp => by
  simp only [List.mem_cons, List.not_mem_nil, or_false] at hp
  rcases hp with rfl | rfl | rfl | rfl <;> exact N _ (by simp)
theorem wordsF40 : True := by
  k_with_none
  (k_with "m eval ListComp" => (k_here; (with_reducible rename News _ _ _ _ => kN); replace kN := drop4 kN; k_dflt (refine LCg.ListComp_U (F₀ := by k_asm) (by with_unfolding_all rfl) (by decide) (by rfl) (by decide) (by rfl) ?_)))
  (k_with "m CompSrc" => (k_here; k_dflt (refine LCg.CompSrc.range (n := 9) (by rfl) (by k_asm) (by k_asm) (by assumption) (by decide) (by rfl) (by decide) ?_; intro g'; refine kcf_range (g := hueAt _) ?_ ?_; rotate_left)))
  (k_with "m subscriptTail Name Name ref int" => ((with_reducible show wpAny _ _ (subscriptTail _ _ (Value.ref _) (Value.int _ _)) _ _ _); (with_unfolding_all refine' item_list_ints ?zkk1 ?zkk2 ?zkk3 ?zkk4 ?zkk5 ?_; (case zkk1 => is_list); (case zkk2 => first | assumption | exact plan_ints); (case zkk3 => assumption); (case zkk4 => first | exact pad_fit (by assumption) | assumption); (case zkk5 => first | exact idx9 (by assumption) | omega); k_whole); intro _))
  trivial
noncomputable def huesOf (ns : List Int) : List Int := List.map (fun k' => (plan.getD k'.toNat 0 + (padOf ns).getD k'.toNat 0).fmod 36) (rangeKs 0 (9 - 0 : Int).toNat) ++ [0, 4, 8]
theorem ints_end {s : Shared} {g h' : Heap} {L' D : Addr} {m : Str → Option Value} {ws : List Value} {R : List Int} {n : Nat} {news : List (Addr × Obj)} {tk' : Nat} {Q : Value → Shared → Prop}
   (hret : ∀ (D : Addr) (ws : List Value) n h' tk', Ext s.heap h' → s.heap.get? D = none → h'.get? D = some (listOf ws.toArray n) → IntsAre ws R → Q (.ref D) {s with heap := h', toks := tk'})
   (eg : g = s.heap) (F : Fr g L' h' m) (N : News g L' h' ((D, listOf ws.toArray n) :: news)) (hi : IntsAre ws R) : Q (.ref D) { s with heap := h', toks := tk' } := by
  subst eg
  exact hret D ws n h' tk' F.keep (N.fresh (.head _)) (N.get (.head _)) hi
theorem hues_spec {w : World} {dp un : Nat} {gd : Option (List Code)} {s : Shared} {base : Heap} {outer : List Env} {p : Program} {loose : List Str} {mean : ExcName → Option Value} {mg mb : Str → Option Value} {Q E : Value → Shared → Prop}
   (l : Addr) (vs : List Value) (ns : List Int) (hl : s.heap.IsList l vs.toArray) (hi : IntsAre vs ns) (hlen : ns.length ≤ 63)
   (B : Below (At dp un gd outer) base outer s.heap) (X : (frag w.params).In s.heap) (T : Top p loose mean mg mb s.heap) (hd : dp ≤ 900)
   (hret : ∀ (D : Addr) (ws : List Value) n h' tk', Ext s.heap h' → s.heap.get? D = none → h'.get? D = some (listOf ws.toArray n) → IntsAre ws (huesOf ns) → Q (.ref D) {s with heap := h', toks := tk'}) :
   wpAny (model Challenge.rw_tl0025_01.row.prog w) (At dp un gd outer) (call (.ref 92) [.ref l]) Q E s := by
  revert X; k_fill; intro X
  (refine' enterC (binds := [(Str.ofString "script", .ref l)]) ?k1 ?k2 ?k3 ?k6 ?k7 ?k8 ?k9 ?kB ?kD ?_ ?c2 ?c3 ?c4; (case k1 => k_asm); (case k2 => k_asm); (case k3 => k_asm); (case k6 => k_is); (case k7 => k_is); (case k8 => (simp only [recursionLimit]; first | exact room (by assumption) rfl | omega)); (case k9 => exact BindsTo.of_eq rfl); (case kD => decide +kernel); (case kB => exact rfl); (case c2 => exact rfl); (case c3 => exact rfl); (case c4 => exact rfl); k_whole)
  intro g L' h₁ tk cells eg F N Y B X T
  (try dsimp only)
  k_fold
  k_cells Y
  rw [← eg] at hl
  k_steps
  exact ints_end (s := s) hret eg (by assumption) (by assumption) (by assumption)
end Mine
end

namespace Mine
theorem freshF5a : True ∧ True := by
  k_with_none
  w_top off
  first | (walk1; all_goals exact trivial) | exact ⟨trivial, trivial⟩
end Mine
section
open PySem PySem.W PyProof.Rows
set_option Elab.async false
set_option maxRecDepth 100000
set_option maxHeartbeats 4000000
namespace Mine
open PySem.Calls PySem.Spec PySem.Flt

noncomputable def Hold (P : Prop) : Prop := P
theorem Hold.mk' {P : Prop} (h : Hold P) : P := h
theorem Hold.out {P : Prop} (h : P) : Hold P := h

noncomputable def AllNe (d : Addr) : List (Addr × Obj) → Prop
  | [] => True
  | p :: r => @Ne Nat p.1 d ∧ AllNe d r
theorem allNe_of {d : Addr} : ∀ {l : List (Addr × Obj)}, (∀ p ∈ l, p.1 ≠ d) → AllNe d l
  | [], _ => trivial
  | p :: _, h => ⟨h p (.head _), allNe_of fun q hq => h q (.tail _ hq)⟩
theorem of_allNe {d : Addr} : ∀ {l : List (Addr × Obj)}, AllNe d l → ∀ p ∈ l, p.1 ≠ d
  | [], _, _, h => nomatch h
  | _ :: _, x, p, h => by
    rcases List.mem_cons.mp h with rfl | h
    · exact x.1
    · exact of_allNe x.2 p h
/-- an unequality that omega does not see -/
noncomputable def Off (a b : Addr) : Prop := @Ne Nat a b
theorem Off.ne {a b : Addr} (h : Off a b) : @Ne Nat a b := h
theorem Off.ne' {a b : Addr} (h : Off a b) : @Ne Nat b a := Ne.symm h
noncomputable def AllOff (d : Addr) : List (Addr × Obj) → Prop
  | [] => True
  | p :: r => Off p.1 d ∧ AllOff d r
theorem offs {d : Addr} : ∀ {l : List (Addr × Obj)}, AllNe d l → AllOff d l
  | [], _ => trivial
  | _ :: _, h => ⟨h.1, offs h.2⟩
theorem AllOff.ne {d : Addr} : ∀ {l : List (Addr × Obj)}, AllOff d l → AllNe d l
  | [], _ => trivial
  | _ :: _, h => ⟨h.1, AllOff.ne h.2⟩
theorem use1 {h₀ h h' : Heap} {L D : Addr} {m : Str → Option Value} {news : List (Addr × Obj)} {o : Obj} (F : Fr h₀ L h m) (N : News h₀ L h news) (x : Ext h h') (hn : h.get? D = none) (hD : h'.get? D = some o) :
    Fr h₀ L h' m ∧ News h₀ L h' ((D, o) :: news) ∧ AllNe D news := by
  obtain ⟨oL, _, _, hL, _⟩ := id F.ns
  refine ⟨F.kept x, fun p hp => ?_, allNe_of fun p hp q => ?_⟩
  · rcases List.mem_cons.mp hp with rfl | hp
    · refine ⟨hD, fun (q : D = L) => ?_, ?_⟩
      · rw [← q, hn] at hL; cases hL
      · cases q : h₀.get? D with
        | none => rfl
        | some o' => rw [F.keep _ _ q] at hn; cases hn
    · exact ⟨x _ _ (N p hp).1, (N p hp).2⟩
  · have := (N p hp).1; rw [q, hn] at this; cases this

noncomputable abbrev Arc := Int × Int × Int
noncomputable def tailOf (H : List Int) (j : Nat) : Int := ((((List.range 3).filter fun i => decide (i ≠ j) && decide (H.getD i 0 > 0)).map fun i => (2 : Int) ^ i) ++ [0]).getD 0 0
noncomputable def arcJ (rk : Int) (H : List Int) (j : Nat) : List Arc := if H.getD j 0 = 2 then [(rk, tailOf H j, 2 ^ j)] else []
noncomputable def hList (hue : Int) : List Int := let t := halvesOf hue; [t.1, t.2.1, t.2.2]
noncomputable def arcsUpTo (rk : Int) (H : List Int) (k : Nat) : List Arc := (List.range k).flatMap (arcJ rk H)
noncomputable def arcsHue (first hue : Int) : List Arc := arcsUpTo ((hue.fmod 12 - first).fmod 12) (hList hue) 3
noncomputable def rawArcs (first : Int) (hues : List Int) : List Arc := hues.flatMap (arcsHue first)

noncomputable def ArcIn (T : List (Addr × Obj)) (v : Value) (x : Arc) : Prop := ∃ a t1 t2 t3, v = .ref a ∧ (a, tupO #[.int x.1 t1, .int x.2.1 t2, .int x.2.2 t3]) ∈ T
noncomputable def ArcsIn (T : List (Addr × Obj)) (arr : List Value) (xs : List Arc) : Prop := Paired (ArcIn T) arr xs
theorem Paired.mono' {α β : Type} {F F' : α → β → Prop} (hm : ∀ a b, F a b → F' a b) : ∀ {l₁ : List α} {l₂ : List β}, Paired F l₁ l₂ → Paired F' l₁ l₂
  | _, _, .nil => .nil
  | _, _, .cons h t => .cons (hm _ _ h) (Paired.mono' hm t)
theorem ArcsIn.mono {T T' : List (Addr × Obj)} {arr : List Value} {xs : List Arc} (h : ArcsIn T arr xs) (hs : ∀ p ∈ T, p ∈ T') : ArcsIn T' arr xs :=
  Paired.mono' (fun _ _ ⟨a, t1, t2, t3, e, hm⟩ => ⟨a, t1, t2, t3, e, hs _ hm⟩) h
theorem ArcsIn.snoc {T : List (Addr × Obj)} {arr : List Value} {xs : List Arc} {v : Value} {x : Arc} (h : ArcsIn T arr xs) (hx : ArcIn T v x) : ArcsIn T (arr ++ [v]) (xs ++ [x]) := Paired.snoc h hx

/-- the state of _law_arcs between two hues -/
noncomputable def InvA (A cj ch : Addr) (first : Int) (hues : List Int) (i : Nat) (m : Str → Option Value) (news : List (Addr × Obj)) : Prop :=
  ∃ arr n oj oh dj dh T, news = (A, listOf (List.toArray arr) n) :: (cj, oj) :: (ch, oh) :: T ∧ oj.data = .cell dj ∧ oh.data = .cell dh ∧ ArcsIn T arr (rawArcs first (hues.take i)) ∧ arr.length ≤ 6 * i ∧
    AllNe A T ∧ AllNe cj T ∧ AllNe ch T ∧ m "arcs" = some (.ref A) ∧ (∃ t, m "first" = some (.int first t))

/-- the state of the inner loop -/
noncomputable def InvJ (A cj ch lh I : Addr) (oI : Obj) (hs : Array Value) (nh : Nat) (first tw : Int) (base : List Arc) (H : List Int) (b : Nat) (j : Nat) (m : Str → Option Value) (news : List (Addr × Obj)) : Prop :=
  ∃ arr n oj oh dj T, news = (A, listOf (List.toArray arr) n) :: (cj, oj) :: (ch, oh) :: (lh, listOf hs nh) :: (I, oI) :: T ∧ oj.data = .cell dj ∧ oh.data = .cell (some (.ref lh)) ∧
    ArcsIn T arr (base ++ arcsUpTo ((tw - first).fmod 12) H j) ∧ arr.length ≤ b + 2 * j ∧ AllNe A T ∧ AllNe cj T ∧ AllNe ch T ∧ AllNe lh T ∧ AllNe I T ∧ m "arcs" = some (.ref A) ∧ (∃ t, m "first" = some (.int first t)) ∧ (∃ t, m "twelfth" = some (.int tw t))

theorem reorderJ {g h : Heap} {L : Addr} {p1 p2 p3 p4 p5 p6 p7 p8 p9 : Addr × Obj} {T : List (Addr × Obj)} (N : News g L h (p1 :: p2 :: p3 :: p4 :: p5 :: p6 :: p7 :: p8 :: p9 :: T)) : News g L h (p7 :: p8 :: p9 :: p4 :: p6 :: T) := fun p hp => N p (by
  simp only [List.mem_cons] at hp ⊢
  rcases hp with h | h | h | h | h | h <;> simp [h])

theorem nameJ {g h : Heap} {L : Addr} {p1 p2 p3 : Addr × Obj} {lh : Addr} {hs : Array Value} {nh : Nat} {T : List (Addr × Obj)} (_ : News g L h (p1 :: p2 :: p3 :: (lh, listOf hs nh) :: T)) : ∃ lh' hs' nh', lh' = lh ∧ hs' = hs ∧ nh' = nh := ⟨_, _, _, rfl, rfl, rfl⟩
theorem allNe_of_allLt {d : Addr} : ∀ {l : List (Addr × Obj)}, AllLt d l → AllNe d l
  | [], _ => trivial
  | _ :: _, h => ⟨Nat.ne_of_lt h.1, allNe_of_allLt h.2⟩
theorem last6 {d : Addr} {T : List (Addr × Obj)} {a b c e f : Prop} (h : a ∧ b ∧ c ∧ e ∧ f ∧ AllLt d T) : AllNe d T := allNe_of_allLt h.2.2.2.2.2

theorem hs_at {hs : Array Value} {a b c : Int} {t1 t2 t3 : Tok} {H : List Int} (e : hs = #[.int a t1, .int b t2, .int c t3]) (eH : H = [a, b, c]) {j : Nat} (h : j < 3) : ∃ t, hs[(0 + (j : Int)).toNat]? = some (.int (H.getD j 0) t) := by
  subst e eH
  match j, h with
  | 0, _ => exact ⟨t1, rfl⟩
  | 1, _ => exact ⟨t2, rfl⟩
  | 2, _ => exact ⟨t3, rfl⟩
theorem H_bounds {a b c : Int} {H : List Int} (eH : H = [a, b, c]) (a0 : 0 ≤ a) (a2 : a ≤ 2) (b0 : 0 ≤ b) (b2 : b ≤ 2) (c0 : 0 ≤ c) (c2 : c ≤ 2) (j : Nat) : 0 ≤ H.getD j 0 ∧ H.getD j 0 ≤ 2 := by
  subst eH
  match j with
  | 0 => exact ⟨a0, a2⟩
  | 1 => exact ⟨b0, b2⟩
  | 2 => exact ⟨c0, c2⟩
  | _ + 3 => exact ⟨by simp, by simp⟩

theorem compFrame {g h₁ h : Heap} {L C : Addr} {m m₃ : Str → Option Value} {news : List (Addr × Obj)} (F : Fr g L h₁ m) (N : News g L h₁ news) (hC : h₁.objs.size ≤ C) (hk : Ext h₁ h) (hn : h.Ns C m₃) : Fr g C h m₃ ∧ News g C h news :=
  ⟨⟨hn, fun b o e => hk _ _ (F.keep b o e), Nat.le_trans (Nat.le_trans F.above (Nat.le_of_lt F.ns.lt)) hC⟩, fun p hp => ⟨hk _ _ (N p hp).1, Nat.ne_of_lt (Nat.lt_of_lt_of_le (Heap.lt_size (N p hp).1) hC), (N p hp).2.2⟩⟩
theorem arcsUpTo_succ (rk : Int) (H : List Int) (j : Nat) : arcsUpTo rk H (j + 1) = arcsUpTo rk H j ++ arcJ rk H j := by simp [arcsUpTo, List.range_succ, List.flatMap_append]
theorem outs_filter_from {P : Nat → Bool} {f : Nat → Int} : ∀ (rs : List (Option Value)) (k : Nat), (∀ (i : Nat) (r : Option Value), rs[i]? = some r → match r with | some y => P (k + i) = true ∧ ∃ t, y = .int (f (k + i)) t | none => P (k + i) = false) →
    IntsAre (outs rs) (((List.range' k rs.length).filter P).map f)
  | [], k, _ => .nil
  | r :: rs, k, h => by
    have ih := outs_filter_from (P := P) (f := f) rs (k + 1) fun i r hr => by have := h (i + 1) r (by simpa using hr); rwa [show k + (i + 1) = k + 1 + i by omega] at this
    have h0 := h 0 r rfl
    rw [List.length_cons, List.range'_succ, List.filter_cons]
    cases r with
    | none => simp only [Nat.add_zero] at h0; simp only [h0]; simpa [outs] using ih
    | some y =>
      simp only [Nat.add_zero] at h0
      obtain ⟨hp, t, rfl⟩ := h0
      simp only [hp, if_true, List.map_cons]
      exact .cons _ _ ih
theorem outs_filter {P : Nat → Bool} {f : Nat → Int} {rs : List (Option Value)} {n : Nat} (hl : rs.length = n) (h : ∀ (i : Nat) (r : Option Value), rs[i]? = some r → match r with | some y => P i = true ∧ ∃ t, y = .int (f i) t | none => P i = false) :
    IntsAre (outs rs) (((List.range n).filter P).map f) := by
  have := outs_filter_from rs 0 (P := P) (f := f) (by simpa using h)
  rwa [hl, ← List.range_eq_range'] at this

theorem off5 {d a1 a2 a3 a4 a5 : Addr} {od o1 o2 o3 o4 o5 : Obj} {T : List (Addr × Obj)} (r1 : a1 ≠ d) (r2 : a2 ≠ d) (r3 : a3 ≠ d) (r4 : a4 ≠ d) (r5 : a5 ≠ d) (r6 : AllNe d T) :
    ∀ p ∈ (a1, o1) :: (a2, o2) :: (a3, o3) :: (a4, o4) :: (a5, o5) :: T, ∀ q ∈ [(d, od)], p.1 ≠ q.1 := fun p hp q hq => by
  rw [List.mem_singleton.mp hq]; exact of_allNe (show AllNe d ((a1, o1) :: (a2, o2) :: (a3, o3) :: (a4, o4) :: (a5, o5) :: T) from ⟨r1, r2, r3, r4, r5, r6⟩) p hp

/-- what the tails are, item by item -/
noncomputable def RelT (H : List Int) (j : Nat) (i : Nat) (r : Option Value) : Prop := match r with
  | some y => (decide (i ≠ j) && decide (H.getD i 0 > 0)) = true ∧ ∃ t, y = .int ((2 : Int) ^ i) t
  | none => (decide (i ≠ j) && decide (H.getD i 0 > 0)) = false

theorem know {g h : Heap} {L : Addr} {m : Str → Option Value} {x : Str} {v : Value} (F : Fr g L h m) (hx : m x = some v) : Fr g L h (fun y => if y = x then some v else m y) := by
  have e : (fun y => if y = x then some v else m y) = m := funext fun y => by
    by_cases q : y = x
    · rw [if_pos q, q, hx]
    · rw [if_neg q]
  rw [e]; exact F

theorem know3 {g h : Heap} {L : Addr} {m : Str → Option Value} {x y z : Str} {u v t : Value} (F : Fr g L h m) (hx : m x = some u) (hy : m y = some v) (hz : m z = some t) (n1 : y ≠ x) (n2 : z ≠ x) (n3 : z ≠ y) :
    Fr g L h (fun q => if q = z then some t else if q = y then some v else if q = x then some u else m q) :=
  know (know (know F hx) ((if_neg n1).trans hy)) ((if_neg n3).trans ((if_neg n2).trans hz))
theorem rawArcs_succ {first k : Int} {hues : List Int} {i : Nat} (hk : hues[i]? = some k) : rawArcs first (hues.take (i + 1)) = rawArcs first (hues.take i) ++ arcsUpTo ((k.fmod 12 - first).fmod 12) (hList k) 3 := by
  rw [List.take_add_one, hk]; simp [rawArcs, arcsHue]
theorem off3 {d a1 a2 a3 : Addr} {od o1 o2 o3 : Obj} {T : List (Addr × Obj)} (r1 : a1 ≠ d) (r2 : a2 ≠ d) (r3 : a3 ≠ d) (r6 : AllNe d T) : ∀ p ∈ (a1, o1) :: (a2, o2) :: (a3, o3) :: T, ∀ q ∈ [(d, od)], p.1 ≠ q.1 := fun p hp q hq => by
  rw [List.mem_singleton.mp hq]; exact of_allNe (show AllNe d ((a1, o1) :: (a2, o2) :: (a3, o3) :: T) from ⟨r1, r2, r3, r6⟩) p hp
theorem sub5 {p1 p2 p3 p4 p5 : Addr × Obj} {T : List (Addr × Obj)} : ∀ p ∈ [p5] ++ (p1 :: p2 :: p3 :: T), p ∈ p1 :: p2 :: p3 :: p4 :: p5 :: T := by
  intro p hp
  simp only [List.cons_append, List.nil_append, List.mem_cons] at hp ⊢
  rcases hp with h | h | h | h | h <;> simp [h]

theorem tails_len (P : Nat → Bool) (f : Nat → Int) : (((List.range 3).filter P).map f).length + [(0 : Int)].length ≤ sizeLine := by
  have := List.length_filter_le P (List.range 3)
  rw [List.length_map]
  simp only [List.length_range, List.length_cons, List.length_nil] at this ⊢
  exact Nat.le_trans (show _ ≤ 4 by omega) (by decide)
theorem ints_first {us : List Value} {ns : List Int} {x : Int} (h : IntsAre us (ns ++ [x])) : ∃ t, (List.toArray us)[Int.toNat 0]? = some (.int ((ns ++ [x]).getD 0 0) t) := by
  cases ns with
  | nil => cases h with | cons n t r => exact ⟨t, rfl⟩
  | cons a r => cases h with | cons n t r => exact ⟨t, rfl⟩

theorem arcs_turn {g h' : Heap} {L A cj ch lh I I2 D : Addr} {m' : Str → Option Value} {oI oI2 oj oh : Obj} {hs : Array Value} {nh n b j : Nat} {first tw v2 v3 : Int} {t1 t2 t3 : Tok} {base : List Arc} {H : List Int} {arr : List Value} {T2 : List (Addr × Obj)}
    {p5 p6 p7 : Addr × Obj} {dj : Option Value} {s₁ : Shared} {tk : Nat} {P1 P2 P3 : Prop}
    (F : Fr g L h' m') (N : News g L h' ((D, tupO #[.int ((tw - first).fmod 12) t1, .int v2 t2, .int v3 t3]) :: p5 :: p6 :: p7 :: (I2, oI2) :: (A, listOf ((List.toArray arr).push (.ref D)) (n + 1)) :: (cj, oj) :: (ch, oh) :: (lh, listOf hs nh) :: (I, oI) :: T2))
    (hl : P1 ∧ P2 ∧ P3 ∧ I2 < D ∧ A < D ∧ cj < D ∧ ch < D ∧ lh < D ∧ I < D ∧ AllLt D T2) (e2 : v2 = tailOf H j) (e3 : v3 = 2 ^ j) (hj : H.getD j 0 = 2)
    (hArc : ArcsIn T2 arr (base ++ arcsUpTo ((tw - first).fmod 12) H j)) (hLen : arr.length ≤ b + 2 * j) (hoj : oj.data = .cell dj) (hoh : oh.data = .cell (some (.ref lh)))
    (hA : AllNe A T2) (hcj : AllNe cj T2) (hch : AllNe ch T2) (hlh : AllNe lh T2) (hI : AllNe I T2) (r1 : Off A I2) (r2 : Off cj I2) (r3 : Off ch I2) (r4 : Off lh I2) (r5 : Off I I2) (r6 : AllOff I2 T2)
    (hm1 : m' "arcs" = some (.ref A)) (hm2 : ∃ t, m' "first" = some (.int first t)) (hm3 : ∃ t, m' "twelfth" = some (.int tw t)) :
    TurnEnd g L [(I2, oI2)] (fun _ => True) (InvJ A cj ch lh I oI hs nh first tw base H b (j + 1)) s₁ { s₁ with heap := h', toks := tk } := by
  subst e2 e3
  obtain ⟨_, _, _, d1, d2, d3, d4, d5, d6, d7⟩ := hl
  rw [List.push_toArray] at N
  refine TurnEnd.intro (news' := (A, listOf (List.toArray (arr ++ [.ref D])) (n + 1)) :: (cj, oj) :: (ch, oh) :: (lh, listOf hs nh) :: (I, oI) :: (D, tupO #[.int ((tw - first).fmod 12) t1, .int (tailOf H j) t2, .int (2 ^ j) t3]) :: T2) F N (fun p hp => ?_)
    (off5 r1 r2 r3 r4 r5 ⟨Nat.ne_of_gt d1, AllOff.ne r6⟩) trivial
    ⟨arr ++ [.ref D], n + 1, oj, oh, dj, (D, tupO #[.int ((tw - first).fmod 12) t1, .int (tailOf H j) t2, .int (2 ^ j) t3]) :: T2, rfl, hoj, hoh, ?_, ?_, ⟨Nat.ne_of_gt d2, hA⟩, ⟨Nat.ne_of_gt d3, hcj⟩, ⟨Nat.ne_of_gt d4, hch⟩, ⟨Nat.ne_of_gt d5, hlh⟩, ⟨Nat.ne_of_gt d6, hI⟩, hm1, hm2, hm3⟩
  · simp only [List.cons_append, List.nil_append, List.mem_cons] at hp ⊢
    rcases hp with h | h | h | h | h | h | h | h <;> simp [h]
  · rw [arcsUpTo_succ, arcJ, if_pos hj, ← List.append_assoc]
    exact (hArc.mono fun p hp => List.mem_cons_of_mem _ hp).snoc ⟨D, t1, t2, t3, rfl, List.mem_cons_self⟩
  · rw [List.length_append, List.length_singleton]; omega

theorem arcJ_len (rk : Int) (H : List Int) (j : Nat) : (arcJ rk H j).length ≤ 1 := by unfold arcJ; split <;> simp
theorem arcsHue_len (first k : Int) : (arcsHue first k).length ≤ 3 := by
  have h0 := arcJ_len ((k.fmod 12 - first).fmod 12) (hList k) 0
  have h1 := arcJ_len ((k.fmod 12 - first).fmod 12) (hList k) 1
  have h2 := arcJ_len ((k.fmod 12 - first).fmod 12) (hList k) 2
  unfold arcsHue
  rw [arcsUpTo_succ, arcsUpTo_succ, arcsUpTo_succ]
  simp only [List.length_append]
  have : (arcsUpTo ((k.fmod 12 - first).fmod 12) (hList k) 0).length = 0 := rfl
  omega
theorem rawArcs_len (first : Int) : ∀ hues : List Int, (rawArcs first hues).length ≤ 3 * hues.length
  | [] => Nat.le_refl _
  | k :: r => by
    have := arcsHue_len first k
    have ih := rawArcs_len first r
    show (arcsHue first k ++ rawArcs first r).length ≤ _
    rw [List.length_append, List.length_cons]
    omega

theorem okF_of {x : UInt64} (h : okF x = true) : Float64.isFinite x = true ∧ Float64.isNaN x = false ∧ Float64.isInf x = false := by
  simp only [okF, Bool.and_eq_true, Bool.not_eq_true'] at h
  exact ⟨h.1.1, h.1.2, h.2⟩
theorem hue_facts {k : Int} (hg : goodHue k = true) : okF (Float64.mul (quo k 12) six) = true ∧ (Flt.toInt Float64.truncOf (Float64.mul (quo k 12) six)).natAbs < 1000 ∧
    okF (rnd 2 (hsvOf (quo k 12)).1) = true ∧ okF (rnd 2 (hsvOf (quo k 12)).2.1) = true ∧ okF (rnd 2 (hsvOf (quo k 12)).2.2) = true ∧
    ∃ a b c, a = rndI 2 (hsvOf (quo k 12)).1 ∧ b = rndI 2 (hsvOf (quo k 12)).2.1 ∧ c = rndI 2 (hsvOf (quo k 12)).2.2 ∧ hList k = [a, b, c] ∧ 0 ≤ a ∧ a ≤ 2 ∧ 0 ≤ b ∧ b ≤ 2 ∧ 0 ≤ c ∧ c ≤ 2 ∧
      (Float64.cmp (fmin (quo a 2) (quo b 2) (quo c 2)) (fmax (quo a 2) (quo b 2) (quo c 2)) == some Ordering.eq) = false ∧ Float64.isZero (fmax (quo a 2) (quo b 2) (quo c 2)) = false ∧ Float64.isZero (Float64.sub (fmax (quo a 2) (quo b 2) (quo c 2)) (fmin (quo a 2) (quo b 2) (quo c 2))) = false ∧
      okF (rnd 12 (hueOf (quo a 2) (quo b 2) (quo c 2))) = true ∧ rndI 12 (hueOf (quo a 2) (quo b 2) (quo c 2)) = k.fmod 12 ∧ satOf (quo a 2) (quo b 2) (quo c 2) = one ∧ fmax (quo a 2) (quo b 2) (quo c 2) = one := by
  simp only [goodHue, halvesOf, toldH, Bool.and_eq_true, decide_eq_true_eq, beq_iff_eq, Bool.not_eq_true'] at hg
  obtain ⟨⟨⟨⟨⟨⟨⟨⟨⟨⟨⟨⟨⟨⟨⟨⟨⟨h1, h2⟩, h3⟩, h4⟩, h5⟩, h6⟩, h7⟩, h8⟩, h9⟩, h10⟩, h11⟩, h12⟩, h13⟩, h14⟩, h15⟩, h16⟩, h17⟩, h18⟩ := hg
  exact ⟨h1, h2, h3, h4, h5, _, _, _, rfl, rfl, rfl, rfl, of_decide_eq_true h6, of_decide_eq_true h7, of_decide_eq_true h8, of_decide_eq_true h9, of_decide_eq_true h10, of_decide_eq_true h11, h12, h13, h14, h15, of_decide_eq_true h16, h17, h18⟩

end Mine
end

namespace Mine
theorem freshSo : True ∧ True := by
  k_with_none
  w_top off
  first | (walk1; all_goals exact trivial) | exact ⟨trivial, trivial⟩
end Mine
section
open PySem PySem.W PyProof.Rows
set_option Elab.async false
set_option maxRecDepth 100000
namespace Mine
open PySem.Calls PySem.Spec

/-- all leaves of a tree of questions, and all that is asked -/
noncomputable def AllK {α : Type} (n : Nat) (S : α → Prop) : KasT α → Prop
  | .ret a => S a
  | .ask i j k => i < n ∧ j < n ∧ ∀ b, AllK n S (k b)
theorem AllK.bind {α β : Type} {n : Nat} {S : α → Prop} {S' : β → Prop} {f : α → KasT β} : ∀ {t : KasT α}, AllK n S t → (∀ a, S a → AllK n S' (f a)) → AllK n S' (t.bind f)
  | .ret _, h, hf => hf _ h
  | .ask _ _ _, h, hf => ⟨h.1, h.2.1, fun b => AllK.bind (h.2.2 b) hf⟩
theorem AllK.mono {α : Type} {n : Nat} {S S' : α → Prop} (hs : ∀ a, S a → S' a) : ∀ {t : KasT α}, AllK n S t → AllK n S' t
  | .ret _, h => hs _ h
  | .ask _ _ _, h => ⟨h.1, h.2.1, fun b => AllK.mono hs (h.2.2 b)⟩
theorem AllK.wp {α : Type} {n : Nat} {S : α → Prop} {cmp : Nat → Nat → (Bool → Shared → Prop) → Shared → Prop} {J : Shared → Prop} {Q : α → Shared → Prop}
    (hc : ∀ i j R s, i < n → j < n → J s → (∀ b s', J s' → R b s') → cmp i j R s) (hQ : ∀ a s, S a → J s → Q a s) : ∀ {t : KasT α} {s : Shared}, AllK n S t → J s → t.kasWp cmp Q s
  | .ret _, s, h, hJ => hQ _ s h hJ
  | .ask i j k, s, h, hJ => hc i j _ s h.1 h.2.1 hJ fun b s' hJ' => AllK.wp hc hQ (h.2.2 b) hJ'

noncomputable def PermOf (n : Nat) (p : Array Nat) : Prop := p.toList.Perm (List.range n)
theorem PermOf.getD {n : Nat} {p : Array Nat} (h : PermOf n p) (hn : 0 < n) (i : Nat) : p.getD i 0 < n := by
  rw [Array.getD_eq_getD_getElem?]
  cases q : p[i]? with
  | none => exact hn
  | some v =>
    have : v ∈ p.toList := by rw [← Array.getElem?_toList] at q; exact List.mem_of_getElem? q
    simpa using (h.mem_iff.mp this)
theorem PermOf.perm {n : Nat} {p q : Array Nat} (h : PermOf n p) (hq : q.Perm p) : PermOf n q := hq.toList.trans h
theorem PermOf.rev {n : Nat} {p : Array Nat} (h : PermOf n p) (i j : Nat) : PermOf n (kas_rev p i j) := h.perm (mirror_perm _ _ _ _)
theorem PermOf.bub {n : Nat} {p : Array Nat} (h : PermOf n p) (i j : Nat) : PermOf n (bubble p i j) := h.perm (bubble_perm _ _ _)

section
variable {n : Nat} (hn : 0 < n)
include hn
theorem all_asc {p : Array Nat} (h : PermOf n p) : ∀ f k, AllK n (fun _ => True) (kas_asc p f k)
  | 0, _ => trivial
  | f + 1, k => ⟨h.getD hn _, h.getD hn _, fun b => by cases b <;> first | exact trivial | exact all_asc h f (k + 1)⟩
theorem all_desc : ∀ f (p : Array Nat) k q, PermOf n p → AllK n (fun r => PermOf n r.1) (kas_desc f p k q)
  | 0, _, _, _, h => h
  | f + 1, p, k, q, h => by
    refine ⟨h.getD hn _, h.getD hn _, fun b => ?_⟩
    cases b with
    | true =>
      simp only [if_true]
      split
      · exact all_desc f _ _ _ (h.rev _ _)
      · exact all_desc f _ _ _ h
    | false =>
      simp only [Bool.false_eq_true, if_false]
      refine ⟨h.getD hn _, h.getD hn _, fun d => ?_⟩
      cases d with
      | true => exact h
      | false => exact all_desc f _ _ _ h
theorem all_tail3 (k r : Nat) {p : Array Nat} (h : PermOf n p) : AllK n (fun r => PermOf n r.2) (kas_tail3 k r p) :=
  (all_asc hn (h.rev 0 k) _ _).bind fun _ _ => h.rev 0 k
theorem all_descPart (k r : Nat) {p : Array Nat} (h : PermOf n p) : AllK n (fun r => PermOf n r.2) (kas_descPart k r p) := by
  refine (all_desc hn _ _ _ _ h).bind fun a ha => ?_
  split
  · exact all_tail3 hn _ _ (ha.rev _ _)
  · exact all_tail3 hn _ _ ha
theorem all_count (r : Nat) {p : Array Nat} (h : PermOf n p) : AllK n (fun r => PermOf n r.2) (kas_count r p) := by
  refine (all_asc hn h _ _).bind fun a _ => ?_
  split
  · exact h
  · split
    · refine ⟨h.getD hn _, h.getD hn _, fun b => ?_⟩
      cases b with
      | true => exact h
      | false => exact all_descPart hn _ _ (h.rev _ _)
    · exact all_descPart hn _ _ h
theorem all_place {p : Array Nat} (h : PermOf n p) (k : Nat) : ∀ f l r, AllK n (fun _ => True) (kas_place p k f l r)
  | 0, _, _ => trivial
  | f + 1, l, r => by
    unfold kas_place
    split
    · exact trivial
    · refine ⟨h.getD hn _, h.getD hn _, fun b => ?_⟩
      cases b with
      | true => exact all_place h k f _ _
      | false => exact all_place h k f _ _
theorem all_bin : ∀ f (p : Array Nat) k, PermOf n p → AllK n (PermOf n) (kas_bin f p k)
  | 0, _, _, h => h
  | f + 1, p, k, h => (all_place hn h k k 0 k).bind fun l _ => all_bin f _ _ (h.bub _ _)
theorem all_sort : AllK n (PermOf n) (kas_sort n) := by
  refine (all_count hn n (p := List.toArray (List.range n)) (by show (List.range n).Perm _; exact List.Perm.refl _)).bind fun a ha => ?_
  split
  · exact all_bin hn _ _ _ ha
  · exact ha
end
end Mine
end

namespace Mine
theorem freshSa : True ∧ True := by
  k_with_none
  w_top off
  first | (walk1; all_goals exact trivial) | exact ⟨trivial, trivial⟩
end Mine
section
open PySem PySem.W PyProof.Rows
set_option Elab.async false
set_option maxRecDepth 100000
namespace Mine
open PySem.Calls PySem.Spec PySem.SeqAt

theorem arcs_len {T : List (Addr × Obj)} : ∀ {vs : List Value} {xs : List Arc}, ArcsIn T vs xs → vs.length = xs.length
  | _, _, .nil => rfl
  | _, _, .cons _ t => congrArg (· + 1) (arcs_len t)
theorem arcs_vs {T : List (Addr × Obj)} : ∀ {vs : List Value} {xs : List Arc}, ArcsIn T vs xs → ∀ i, i < vs.length → ArcIn T (vs.getD i .none) (xs.getD i (0, 0, 0))
  | _, _, .cons h _, 0, _ => h
  | _, _, .cons _ t, i + 1, hi => by simpa using arcs_vs t i (Nat.lt_of_succ_lt_succ hi)
theorem arcs_pick {T : List (Addr × Obj)} {vs : List Value} {xs : List Arc} (h : ArcsIn T vs xs) : ∀ (ps : List Nat), (∀ p ∈ ps, p < vs.length) → ArcsIn T (ps.map fun i => vs.getD i .none) (ps.map fun i => xs.getD i (0, 0, 0))
  | [], _ => .nil
  | p :: ps, hp => .cons (arcs_vs h p (hp p (.head _))) (arcs_pick h ps fun q hq => hp q (.tail _ hq))
theorem arcs_tups {g h : Heap} {L : Addr} {news T : List (Addr × Obj)} (N : News g L h news) (hT : ∀ p ∈ T, p ∈ news) : ∀ {vs : List Value} {xs : List Arc}, ArcsIn T vs xs → ∃ fs, KatTups h vs fs ∧ fs.length = vs.length ∧ ∀ v ∈ fs, ∃ n t, v = .int n t
  | _, _, .nil => ⟨[], .nil, rfl, fun _ h => nomatch h⟩
  | _, _, .cons (a := v) (b := x) ha t => by
    obtain ⟨fs, h1, h2, h3⟩ := arcs_tups N hT t
    obtain ⟨a, t1, t2, t3, rfl, hm⟩ := ha
    refine ⟨.int x.1 t1 :: fs, .cons (N.get (hT _ hm)) rfl rfl rfl h1, by simp [h2], fun v hv => ?_⟩
    rcases List.mem_cons.mp hv with rfl | hv
    · exact ⟨_, _, rfl⟩
    · exact h3 v hv
theorem getD_range {α : Type} (d : α) : ∀ (xs : List α), (List.range xs.length).map (fun i => xs.getD i d) = xs := by
  intro xs
  apply List.ext_getElem
  · simp
  · intro i h1 h2
    simp [List.getD_eq_getElem?_getD, List.getElem?_eq_getElem h2]

section
variable {prog : Program} {w : World} {A : Around} {E : Value → Shared → Prop} {s : Shared}
theorem lex3 {x y : Arc} {t1 t2 t3 u1 u2 u3 : Tok} {R : Bool → Shared → Prop} (hR : ∀ b, R b s) :
    KatLex prog w A true false R [(.int x.1 t1, .int y.1 u1), (.int x.2.1 t2, .int y.2.1 u2), (.int x.2.2 t3, .int y.2.2 u3)] 0 s := by
  refine kat_cons (EqAt.int_int _ _ _ _ prog w _ _ (kat_go (fun _ => kat_yes ?_) fun _ => kat_no (oneLt_int (hR _))))
  refine kat_cons (EqAt.int_int _ _ _ _ prog w _ _ (kat_go (fun _ => kat_yes ?_) fun _ => kat_no (kat_one _ _ (lt_int (hR _)))))
  exact kat_cons (EqAt.int_int _ _ _ _ prog w _ _ (kat_go (fun _ => kat_yes (kat_nil (hR _))) fun _ => kat_no (kat_one _ _ (lt_int (hR _)))))

theorem ask_arcs {g : Heap} {L : Addr} {news T : List (Addr × Obj)} {vs : List Value} {xs : List Arc} {i j : Nat} {R : Bool → Shared → Prop} (N : News g L s.heap news) (hT : ∀ p ∈ T, p ∈ news) (hA : ArcsIn T vs xs)
    (hi : i < vs.length) (hj : j < vs.length) (hR : ∀ b, R b s) : kas_ask prog w A (tuples' true) vs i j R s := by
  obtain ⟨a, t1, t2, t3, e, hm⟩ := arcs_vs hA i hi
  obtain ⟨b, u1, u2, u3, e', hm'⟩ := arcs_vs hA j hj
  unfold kas_ask
  rw [e, e']
  exact kat_lt (N.get (hT _ hm)) rfl (N.get (hT _ hm')) rfl (lex3 hR)

theorem sorted_arcs {h₀ : Heap} {L l : Addr} {m : Str → Option Value} {news T : List (Addr × Obj)} {vs : List Value} {xs : List Arc} {Q : Value → Shared → Prop}
    (F : Fr h₀ L s.heap m) (N : News h₀ L s.heap news) (hl : s.heap.IsList l vs.toArray) (hA : ArcsIn T vs xs) (hT : ∀ p ∈ T, p ∈ news) (h2 : 2 ≤ vs.length) (h64 : vs.length < 64)
    (h : ∀ D h' vs' xs' c, Fr h₀ L h' m → News h₀ L h' ((D, listOf (List.toArray vs') c) :: news) → ArcsIn T vs' xs' → xs'.Perm xs → (∀ q ∈ news, q.1 < D) → Q (.ref D) { s with heap := h' }) :
    wpAny (model prog w) A (call (.builtin "sorted") [.ref l]) Q E s := by
  refine kat_sorted F N hl h2 h64 fun D e1 h' F' N' lt => ?_
  obtain ⟨fs, f1, f2, f3⟩ := arcs_tups N' (fun p hp => List.mem_cons_of_mem _ (hT p hp)) hA
  refine kat_kind (T := .type "int") f1 (by omega) (fun v hv => ?_) rfl ?_
  · obtain ⟨n, t, rfl⟩ := f3 v hv
    exact Looks.of_pure rfl
  · show (kas_sort vs.length).kasWp (kas_ask prog w A.in1.in1 (tuples' true) vs) _ _
    refine AllK.wp (n := vs.length) (S := PermOf vs.length) (J := fun s' => s' = { s with heap := h' }) (fun i j R s' hi hj hJ hR => ?_) (fun p s' hp hJ => ?_) (all_sort (by omega)) rfl
    · subst hJ
      exact ask_arcs (s := { s with heap := h' }) N' (fun p hp => List.mem_cons_of_mem _ (hT p hp)) hA hi hj fun b => hR b _ rfl
    · subst hJ
      refine KasFin.intro (s := { s with heap := h' }) F' N' (UpdF.head fun q hq => Nat.ne_of_lt (lt q hq)) fun h'' c F2 N2 => ?_
      have hlt : ∀ i ∈ p.toList, i < vs.length := fun i hi => by simpa using hp.mem_iff.mp hi
      refine h D h'' _ (p.toList.map fun i => xs.getD i (0, 0, 0)) c F2 N2 (arcs_pick hA p.toList hlt) ?_ lt
      have := List.Perm.map (fun i => xs.getD i (0, 0, 0)) hp
      rw [arcs_len hA, getD_range] at this
      exact this
end
end Mine
end

namespace Mine
theorem freshF5 : True ∧ True := by
  k_with_none
  w_top off
  first | (walk1; all_goals exact trivial) | exact ⟨trivial, trivial⟩
end Mine
section
open PySem PySem.W PyProof.Rows
set_option Elab.async false
set_option maxRecDepth 100000
set_option maxHeartbeats 40000000
namespace Mine
open PySem.Calls PySem.Spec PySem.Flt
theorem wordsF50 : True := by
  k_with_none
  (k_with "m exec For Name Name cons nil" => refine wpAny_For ?_)
  (k_with "m exec For Name Call cons nil" => refine wpAny_For ?_)
  (k_with "m pyIter ref" => refine Hold.mk' ?_)
  (k_with "m call ref" => refine Hold.mk' ?_)
  (k_with "m exec Assign cons ListComp" => refine Hold.mk' ?_)
  trivial

local macro_rules | `(tactic| k_ne) => `(tactic| (refine neN ?_; (try dsimp only); first | (refine Off.ne ?_; with_reducible assumption) | (refine Off.ne' ?_; with_reducible assumption)))
local macro_rules | `(tactic| k_all) => `(tactic| exact of_allNe (AllOff.ne (by assumption)))
local macro_rules | `(tactic| k_all) => `(tactic| exact of_allNe (by assumption))
theorem wordsF51 : True := by
  (k_with "m execs cons" => (refine genP ?_; intro _ _))
  (k_with "m execs nil" => (refine genP ?_; intro _ _))
  (k_with "m subscriptTail Name Slice ref ref" => refine Hold.mk' ?_)
  (k_with "m call builtin:sorted" => refine Hold.mk' ?_)
  (k_with "m compareOp NotEq ref ref" => refine Hold.mk' ?_)
  (k_with "m call builtin:list.append" => (k_dflt (refine' append_K ?zkk1 ?zkk2 ?zkk3 ?_ ?zkz; (case zkk1 => k_asm); (case zkk2 => k_asm); (case zkk3 => k_upd); (case zkz => with_reducible assumption); k_whole); intro h' F' N'; (try k_sweep)))
  trivial
theorem item3_0 {a b c : Value} : (#[a, b, c] : Array Value)[Int.toNat 0]? = some a := rfl
theorem item3_1 {a b c : Value} : (#[a, b, c] : Array Value)[Int.toNat 1]? = some b := rfl
theorem item3_2 {a b c : Value} : (#[a, b, c] : Array Value)[Int.toNat 2]? = some c := rfl
theorem wordsF52 : True := by
  (k_with "m subscriptTail Name Constant ref int" => ((with_reducible show wpAny _ _ (subscriptTail _ _ (Value.ref _) (Value.int _ _)) _ _ _); (with_unfolding_all refine' item_list ?zkk1 ?zkk2 ?zkk3 ?zkk4 ?_; (case zkk1 => is_list); (case zkk2 => first | (with_reducible assumption) | decide); (case zkk3 => first | (with_reducible assumption) | decide); (case zkk4 => first | (with_reducible assumption) | (with_reducible exact item3_0) | (with_reducible exact item3_1) | (with_reducible exact item3_2)); k_whole)))
  (k_with "m subscriptTail BinOp Constant ref int" => ((with_reducible show wpAny _ _ (subscriptTail _ _ (Value.ref _) (Value.int _ _)) _ _ _); (with_unfolding_all refine' item_list ?zkk1 ?zkk2 ?zkk3 ?zkk4 ?_; (case zkk1 => is_list); (case zkk2 => first | (with_reducible assumption) | decide); (case zkk3 => first | (with_reducible assumption) | decide); (case zkk4 => first | (with_reducible assumption) | (with_reducible exact item3_0) | (with_reducible exact item3_1) | (with_reducible exact item3_2)); k_whole)))
  (k_with "m subscriptTail Name Name ref int" => ((with_reducible show wpAny _ _ (subscriptTail _ _ (Value.ref _) (Value.int _ _)) _ _ _); (with_unfolding_all refine' item_list ?zkk1 ?zkk2 ?zkk3 ?zkk4 ?_; (case zkk1 => is_list); (case zkk2 => first | (with_reducible assumption) | decide); (case zkk3 => first | (with_reducible assumption) | decide); (case zkk4 => first | (with_reducible assumption) | (with_reducible exact item3_0) | (with_reducible exact item3_1) | (with_reducible exact item3_2)); k_whole)))
  (k_with "m junk" => ((repeat (rename ¬ (Float64.isInf _ = true) => z'; clear z')); (repeat (rename Float64.isFinite _ = true => z'; clear z')); (repeat (rename Int.natAbs _ < 2 ^ 1024 - 2 ^ 970 => z'; clear z')); (repeat (rename @Ne Int _ 0 => z'; clear z')); (repeat (rename 0 < (_ : Nat) => z'; clear z'))))
  trivial
theorem small_fits {a : Int} (h0 : 0 ≤ a) (h2 : a ≤ 2) : a.natAbs < 2 ^ 1023 := Nat.lt_of_le_of_lt (show a.natAbs ≤ 2 by omega) (by decide +kernel)
theorem arcs_spec {w : World} {dp un : Nat} {gd : Option (List Code)} {s : Shared} {base : Heap} {outer : List Env} {p : Program} {loose : List Str} {mean : ExcName → Option Value} {mg mb : Str → Option Value} {Q E : Value → Shared → Prop}
   (l : Addr) (vs : List Value) (hues : List Int) (first : Int) (t0 : Tok) (hl : s.heap.IsList l vs.toArray) (hi : IntsAre vs hues) (hlen : hues.length = 12) (hb : ∀ h ∈ hues, 0 ≤ h ∧ h < 36)
   (B : Below (At dp un gd outer) base outer s.heap) (X : (frag w.params).In s.heap) (T : Top p loose mean mg mb s.heap) (h2 : 2 ≤ (rawArcs first hues).length) (hdp : dp ≤ 880) (hun : un < 9000)
   (hret : ∀ (D : Addr) (ws : List Value) (xs : List Arc) (T : List (Addr × Obj)) n h' tk', Ext s.heap h' → s.heap.get? D = none → h'.get? D = some (listOf (List.toArray ws) n) → (∀ p ∈ T, s.heap.get? p.1 = none ∧ h'.get? p.1 = some p.2 ∧ p.1 ≠ D) →
      ArcsIn T ws xs → xs.Perm (rawArcs first hues) → Q (.ref D) {s with heap := h', toks := tk'}) :
   wpAny (model Challenge.rw_tl0025_01.row.prog w) (At dp un gd outer) (call (.ref 97) [.ref l, .int first t0]) Q E s := by
  revert X; k_fill; intro X
  (refine' enterC (binds := [(Str.ofString "hues", .ref l), (Str.ofString "first", .int first t0)]) ?k1 ?k2 ?k3 ?k6 ?k7 ?k8 ?k9 ?kB ?kD ?_ ?c2 ?c3 ?c4; (case k1 => k_asm); (case k2 => k_asm); (case k3 => k_asm); (case k6 => k_is); (case k7 => k_is); (case k8 => (simp only [recursionLimit]; first | exact room (by assumption) rfl | omega)); (case k9 => exact BindsTo.of_eq rfl); (case kD => decide +kernel); (case kB => exact rfl); (case c2 => exact rfl); (case c3 => exact rfl); (case c4 => exact rfl); k_whole)
  intro g L' h₁ tk cells eg F N Y B X T
  (try dsimp only)
  k_fold
  k_cells Y
  rw [← eg] at hl
  k_steps
  unfold Hold
  rename Fr _ _ _ _ => F'
  rename News _ _ _ _ => N'
  rename_i o1 o2 d1 d2 A h2 l1 h3 tkA tkA0
  refine iterList (its := vs.toArray) (InvA A (L' + 1 + 1) (L' + 1) first hues) rfl (Or.inl hl) F' N' ?_ ?_ ?_ (Or.inl fun _ _ => rfl)
  · exact ⟨[], 0, o1, o2, _, _, [], rfl, d1, d2, .nil, Nat.zero_le _, trivial, trivial, trivial, rfl, _, rfl⟩
  · intro I i v m news h tk oI hi' hv hInv hS hoff F N
    obtain ⟨arr, n, oj, oh, dj, dh, T₀, rfl, hoj, hoh, hArc, hLen, hA, hj, hh, hma, ⟨tf, hmf⟩⟩ := hInv
    replace hoff := offs (allNe_of hoff)
    simp only [AllOff] at hoff
    obtain ⟨hIA, hIj, hIh, hIT⟩ := hoff
    replace hIT := AllOff.ne hIT
    obtain ⟨k, tv, hk, rfl⟩ : ∃ k t, hues[i]? = some k ∧ v = .int k t := by
      obtain ⟨k, t, e, hk⟩ := IntsAre.at hi i v (by simpa using hv)
      exact ⟨k, t, hk, e⟩
    have hkb := hb k (List.mem_of_getElem? hk)
    have hg := goodHue_of hkb.1 hkb.2
    obtain ⟨q1, q2, q3, q4, q5, a, b, c, ha, hb', hc, hHL, a0, a2, b0, b2, c0, c2, z1, z2, z3, q6, q7, q8, q9⟩ := hue_facts hg
    obtain ⟨q1a, q1b, q1c⟩ := okF_of q1
    obtain ⟨q3a, q3b, q3c⟩ := okF_of q3
    obtain ⟨q4a, q4b, q4c⟩ := okF_of q4
    obtain ⟨q5a, q5b, q5c⟩ := okF_of q5
    clear F' N' hv hS hg q1 q3 q4 q5
    k_steps
    unfold Hold
    rename Fr _ _ _ _ => F'
    rename News _ _ _ _ => N'
    refine hsv_spec (quo k 12) _ _ _ q1a q1b q1c q2 (pushX B F' rfl rfl) (Frag.In.keeps X F'.keep) (Top.keeps T F'.keep) (by show dp + 1 ≤ 900; omega) ?_
    intro D tr tg tb hh1 tk1 x1 x2 x3
    obtain ⟨F2, N2, l2⟩ := use1 F' N' x1 x2 x3
    replace l2 := offs l2
    simp only [AllOff] at l2
    (repeat (obtain ⟨_, l2⟩ := l2))
    replace l2 := AllOff.ne l2
    unfold rnd halfF at q3a q3b q3c q4a q4b q4c q5a q5b q5c
    unfold rndI rnd halfF at ha hb' hc
    generalize (hsvOf (quo k 12)).1 = r at *
    generalize (hsvOf (quo k 12)).2.1 = gg at *
    generalize (hsvOf (quo k 12)).2.2 = bb at *
    subst ha hb' hc
    clear F' N' x1 x2 x3 q1a q1b q1c q2
    have n1 := small_fits a0 a2
    have n2 := small_fits b0 b2
    have n3 := small_fits c0 c2
    k_steps
    unfold Hold
    rename Fr _ _ _ _ => F'
    rename News _ _ _ _ => N'
    generalize toInt Float64.truncOf (Float64.add (Float64.mul (Float64.ofInt 2) r) 4602678819172646912) = a at *
    generalize toInt Float64.truncOf (Float64.add (Float64.mul (Float64.ofInt 2) gg) 4602678819172646912) = b at *
    generalize toInt Float64.truncOf (Float64.add (Float64.mul (Float64.ofInt 2) bb) 4602678819172646912) = c at *
    refine rgb_spec (quo a 2) (quo b 2) (quo c 2) _ _ _ (by first | exact Nat.ne_of_gt (by assumption) | exact Nat.succ_ne_zero _) (by first | exact Nat.ne_of_gt (by assumption) | exact Nat.succ_ne_zero _) (by first | exact Nat.ne_of_gt (by assumption) | exact Nat.succ_ne_zero _) (pushX B F' rfl rfl) (Frag.In.keeps X F'.keep) (Top.keeps T F'.keep) (by show dp + 1 ≤ 900; omega) z1 z2 z3 ?_
    intro D2 tr2 tg2 tb2 hh2 tk2 tg0 tb0 x1 x2 x3
    obtain ⟨F3, N3, l3⟩ := use1 F' N' x1 x2 x3
    replace l3 := offs l3
    simp only [AllOff] at l3
    (repeat (obtain ⟨_, l3⟩ := l3))
    replace l3 := AllOff.ne l3
    rw [q8, q9] at N3
    obtain ⟨q6a, q6b, q6c⟩ := okF_of q6
    unfold rnd halfF at q6a q6b q6c
    unfold rndI rnd halfF at q7
    generalize hueOf (quo a 2) (quo b 2) (quo c 2) = hu at *
    clear F' N' x1 x2 x3 q6 q8 q9 z1 z2 z3 q3a q3b q3c q4a q4b q4c q5a q5b q5c n1 n2 n3
    have cmp1 : (Float64.cmp 4607182418800017408 4607182418800017408 == some Ordering.eq) = true := by decide +kernel
    k_steps
    · exact absurd q7 (by assumption)
    unfold Hold
    rename Fr _ _ _ _ => F'
    rename News _ _ _ _ => N'
    refine slice_tupK (items := #[.float hu tr2, .float 4607182418800017408 tg2, .float 4607182418800017408 tb2]) (rest := [.float 4607182418800017408 tg2, .float 4607182418800017408 tb2]) (a := 1) F' N' (News.isTup N' (by k_mem)) (Nat.le_refl _) (Nat.succ_le_succ (Nat.zero_le 2)) rfl ?_
    intro D' h' F3' N3' l3'
    replace l3' := offs (allNe_of l3')
    simp only [AllOff] at l3'
    (repeat (obtain ⟨_, l3'⟩ := l3'))
    replace l3' := AllOff.ne l3'
    dsimp only
    clear F' N'
    k_steps
    unfold Hold
    rename Fr _ _ _ _ => F'
    rename News _ _ _ _ => N'
    refine ne_tup2 (K := frag w.params) (p1 := one) (p2 := one) (q1 := one) (q2 := one) (Frag.In.keeps (by assumption) F'.keep) (by with_unfolding_all rfl) (News.isTup N' (by k_mem)) (News.isTup N' (by k_mem)) (by show un + 3 < 9900; omega) tg0 tb0 (Nat.succ_ne_zero _) (Nat.succ_ne_zero _) cmp1 cmp1 ?_
    k_steps
    unfold Hold
    rename IsRange _ _ _ _ _ _ _ _ => R'
    rename Fr _ _ _ _ => F'
    rename News _ _ _ _ => N'
    obtain ⟨lh, hs, nh, e1, e2, e3⟩ := nameJ N'
    subst e1
    rw [← e2, ← e3] at N'
    have N2 := reorderJ N'
    refine' iterRange (Q := _) (n := 3) (InvJ A (L' + 1 + 1) (L' + 1) lh I oI hs nh first (k.fmod 12) (rawArcs first (hues.take i)) (hList k) (6 * i)) rfl R' (by decide) (by decide) F' N2 ?h0 ?turn ?fin
    case h0 => exact ⟨arr, n, _, _, _, T₀, rfl, hoj, by assumption, by simpa [arcsUpTo] using hArc, by simpa using hLen, hA, hj, hh, last6 (by assumption), hIT, hma, ⟨tf, hmf⟩, ⟨_, by rw [← show _ = k.fmod 12 by assumption]; exact rfl⟩⟩
    case turn =>
      have hHb := H_bounds hHL a0 a2 b0 b2 c0 c2
      have hAt := fun {j : Nat} (h : j < 3) => hs_at e2 hHL h
      walk_at "junk"
      clear R' F' N2 N' e2 e3 hHL a0 a2 b0 b2 c0 c2 q7 cmp1
      intro I2 j t m2 news2 h2 tk2 oI2 hj2 hInv2 hoff2 F N
      obtain ⟨arr2, n2, oj2, oh2, dj2, T2, rfl, hoj2, hoh2, hArc2, hLen2, hA2, hcj2, hch2, hlh2, hI2, hma2, ⟨tf2, hmf2⟩, ⟨tw2, hmt2⟩⟩ := hInv2
      replace hoff2 := offs (allNe_of hoff2)
      simp only [AllOff] at hoff2
      obtain ⟨r1, r2, r3, r4, r5, r6⟩ := hoff2
      obtain ⟨tx, hx⟩ := hAt hj2
      have F9 := know3 F hma2 hmf2 hmt2 (by decide) (by decide) (by decide)
      clear F
      obtain ⟨hx0, hx2⟩ := hHb j
      have hZ : (List.toArray arr2).size ≤ sizeLine := by
        have h12 : vs.toArray.size ≤ 12 := by rw [List.size_toArray, IntsAre.length hi, hlen]; exact Nat.le_refl _
        rw [List.size_toArray]; exact Nat.le_trans (show arr2.length ≤ 84 by omega) (by decide)
      have j0 : (0 : Int) ≤ 0 + (j : Int) := by omega
      have j3 : (0 : Int) + (j : Int) < 2 ^ 63 := by omega
      k_steps
      · unfold Hold
        rename Fr _ _ _ _ => F'
        rename News _ _ _ _ => N'
        refine assignComp (by with_unfolding_all rfl) (by decide) rfl (by decide) (by with_unfolding_all rfl) (by rfl) (by rfl) ?_
        k_steps
        rename IsRange _ _ _ _ _ _ _ _ => R'
        rename Fr _ _ _ _ => F'
        rename News _ _ _ _ => N'
        refine ⟨rfl, RelT (hList k) j, g, _, _, F', N', Or.inr ⟨_, 0, 3, _, _, _, 3, rfl, R', by decide, by decide, by decide, fun _ _ => rfl, ?_, ?_⟩⟩
        · refine Turns.name rfl rfl ?_
          rintro C i2 v2 h4 tk4 m4 hC hi2 ⟨t2, rfl⟩ hn4 hm4 hk4
          obtain ⟨F4, N4⟩ := compFrame F' N' hC hk4 hn4
          obtain ⟨ty, hy⟩ := hAt hi2
          clear F' N'
          have i0 : (0 : Int) ≤ 0 + (i2 : Int) := by omega
          have i3 : (0 : Int) + (i2 : Int) < 2 ^ 63 := by omega
          have i4 : (0 : Int) + (i2 : Int) ≤ 2 := by omega
          refine wpAny_tests_one ?_
          k_steps
          · exact ⟨⟨by have : i2 ≠ j := by omega
                       simp_all, _, by rw [show (0 + (i2 : Int)).toNat = i2 by omega]⟩, h4, _, m4, rfl, hn4, fun b o _ e => e⟩
          · exact ⟨by show (_ && _) = false; rw [decide_eq_false (p := _ > _) (by omega), Bool.and_false], h4, _, m4, rfl, hn4, fun b o _ e => e⟩
          · exact ⟨by show (_ && _) = false; rw [decide_eq_false (p := _ ≠ _) (by omega), Bool.false_and], h4, _, m4, rfl, hn4, fun b o _ e => e⟩
        · intro D3 rs e4 h4 tk4 F4 N4 off4 hlen4 hR4
          clear F' N'
          have F' : Fr g L' h4 _ := F4
          have N' : News g L' h4 _ := N4
          clear F4 N4
          (try dsimp only)
          have hOut := outs_filter (P := fun i => decide (i ≠ j) && decide ((hList k).getD i 0 > 0)) (f := fun i => (2 : Int) ^ i) hlen4 hR4
          generalize outs rs = ws at *
          replace off4 := offs (allNe_of off4)
          simp only [AllOff] at off4
          (repeat (obtain ⟨_, off4⟩ := off4))
          replace off4 := AllOff.ne off4
          k_steps
          rename Fr _ _ _ _ => F5
          rename News _ _ _ _ => N5
          refine kmk_add_ints (vs := ws) (ws := [.int 0 _]) F5 N5 (by is_list) (by is_list) hOut (.cons _ _ .nil) ?_ (tails_len _ _)
          intro D5 us h5 F6 N6 l5 hU
          obtain ⟨tt, hUt⟩ := ints_first hU
          have hz : (List.toArray arr2).size ≤ sizeLine := hZ
          clear F5 N5
          k_lt l5
          (try dsimp only)
          k_steps
          rename Fr _ _ _ _ => F7
          rename News _ _ _ _ => N7
          have hx2' : (hList k).getD j 0 = 2 := by assumption
          exact arcs_turn F7 N7 (by assumption) rfl (by rw [show (0 + (j : Int)).toNat = j by omega]) hx2' hArc2 hLen2 (by assumption) hoh2 hA2 hcj2 hch2 hlh2 hI2 r1 r2 r3 r4 r5 r6 (by with_unfolding_all rfl) ⟨_, by with_unfolding_all rfl⟩ ⟨_, by with_unfolding_all rfl⟩
      · exact TurnEnd.intro (news' := (A, listOf arr2.toArray n2) :: (L' + 1 + 1, _) :: (L' + 1, oh2) :: (lh, listOf hs nh) :: (I, oI) :: T2) (by assumption) (by assumption) (fun p hp => hp) (off5 r1 r2 r3 r4 r5 (AllOff.ne r6)) trivial
          ⟨arr2, n2, _, oh2, _, T2, rfl, by assumption, hoh2, by rw [arcsUpTo_succ, arcJ, if_neg (by assumption), List.append_nil]; exact hArc2, by omega, hA2, hcj2, hch2, hlh2, hI2, by with_unfolding_all rfl, ⟨tf2, by with_unfolding_all rfl⟩, ⟨tw2, by with_unfolding_all rfl⟩⟩
    case fin =>
      rintro m3 news3 h3 tk3 ⟨arr2, n2, oj2, oh2, dj2, T2, rfl, hoj2, hoh2, hArc2, hLen2, hA2, hcj2, hch2, hlh2, hI2, hma2, ⟨tf2, hmf2⟩, ⟨tw2, hmt2⟩⟩ F N
      dsimp only
      clear R' F' N2 N'
      refine wpAny_execs_nil ?_
      exact TurnEnd.intro (news' := (A, listOf arr2.toArray n2) :: (L' + 1 + 1, oj2) :: (L' + 1, oh2) :: T2) F N sub5 (off3 hIA hIj hIh hI2) (Or.inl hl)
        ⟨arr2, n2, oj2, oh2, _, _, T2, rfl, hoj2, hoh2, by rw [rawArcs_succ hk]; exact hArc2, by omega, hA2, hcj2, hch2, hma2, ⟨tf2, hmf2⟩⟩
  · rintro m3 news3 h3 tk3 ⟨arr, n, oj, oh, dj, dh, T₀, rfl, hoj, hoh, hArc, hLen, hA, hj, hh, hma, ⟨tf, hmf⟩⟩ F N
    dsimp only
    have F9 := know F hma
    clear F
    rw [List.take_of_length_le (by rw [List.size_toArray, IntsAre.length hi]; exact Nat.le_refl _)] at hArc
    have hlen1 := arcs_len hArc
    have hlen2 := rawArcs_len first hues
    k_steps
    unfold Hold
    rename Fr _ _ _ _ => F'
    rename News _ _ _ _ => N'
    refine sorted_arcs F' N' (by is_list) hArc (fun p hp => by simp [hp]) (by omega) (by omega) ?_
    intro D h' vs' xs' c F2 N2 hA2 hP lt
    dsimp only
    clear F' N'
    subst eg
    exact hret D vs' xs' T₀ c h' _ F2.keep (N2.fresh (.head _)) (N2.get (.head _)) (fun p hp => ⟨(N2 p (by simp [hp])).2.2, (N2 p (by simp [hp])).1, Nat.ne_of_lt (lt p (by simp [hp]))⟩) hA2 hP
end Mine
end

namespace Mine
theorem freshSt : True ∧ True := by
  k_with_none
  w_top off
  first | (walk1; all_goals exact trivial) | exact ⟨trivial, trivial⟩
end Mine
section
open PySem PySem.W PyProof.Rows
set_option Elab.async false
set_option maxRecDepth 100000
namespace Mine
open PySem.Calls PySem.Spec

noncomputable abbrev setO (es : Array (Int × Value)) (ep : Nat) (t : SetTable) : Obj := { cls := .type "set", data := .set es ep t }
theorem noBool_set : typeLookup (.type "set") "__bool__" = pure none := by rw [typeLookup_type, builtinLookup_eq_fast]; kernel_rfl

section
variable {prog : Program} {w : World} {A : Around} {E : Value → Shared → Prop} {s : Shared} {a : Addr} {es : Array (Int × Value)} {ep : Nat} {t : SetTable}
theorem truthy_set {Q : Bool → Shared → Prop} (ho : s.heap.get? a = some (setO es ep t)) (hf : t.fits es.size = true) (hfit : (es.size : Int) < 2 ^ 63)
    (h : Q ((es.size : Int) != 0) { s with toks := s.toks + 1 + 1 }) : wpAny (model prog w) A (truthy (.ref a)) Q E s := by
  have hT : s.TypeIs (.ref a) "set" := ⟨_, ho, rfl⟩
  have key : wpAny (model prog w) A (runValue (.builtin "len" ⟨[.ref a], []⟩)) (fun r s' => r = .int es.size (s.toks + 1) ∧ Q ((es.size : Int) != 0) s') E s := by
    refine wpAny_runValue (codeAny_builtin entry_len ?_)
    rw [Around.under_plainId plain_len _]
    exact wpAny_mono (wpAny_len_body_set (Q := fun r s' => r = .int es.size (s.toks + 1) ∧ Q ((es.size : Int) != 0) s') ho ⟨rfl, rfl, rfl⟩ rfl hf hfit ⟨rfl, h⟩)
      (fun fin s' h' => by obtain ⟨r, rfl, hq⟩ := h'; exact hq) fun _ _ e => e
  unfold truthy
  first
    | refine wpAny_bind (wpAny_callSpecial?_none (name := Str.ofString "__bool__") hT noBool_set ?_)
    | refine wpAny_bind (wpAny_pure (wpAny_bind (wpAny_callSpecial?_none (name := Str.ofString "__bool__") hT noBool_set ?_)))
  first
    | refine wpAny_bind (wpAny_specialOf (name := Str.ofString "__len__") hT F.slot_set_len.lookup ?_)
    | refine wpAny_bind (wpAny_pure (wpAny_bind (wpAny_specialOf (name := Str.ofString "__len__") hT F.slot_set_len.lookup ?_)))
  first
    | exact wpAny_bind (wpAny_mono key (fun r s' h' => by obtain ⟨rfl, hq⟩ := h'; exact wpAny_pure hq) fun _ _ e => e)
    | exact wpAny_bind (wpAny_pure (wpAny_bind (wpAny_mono key (fun r s' h' => by obtain ⟨rfl, hq⟩ := h'; exact wpAny_pure hq) fun _ _ e => e)))

theorem getMethod_pop {pl : Sem Bool} {Q : Value × List Value → Shared → Prop} (ho : s.heap.get? a = some (setO es ep t)) (h : Q (.builtin "set.pop", [.ref a]) s) :
    wpAny (model prog w) A (getMethod (.ref a) "pop" pl) Q E s :=
  getMethod_builtin (s := s) ⟨_, ho, rfl⟩ F.plainAttrs_set F.slot_set_pop F.type_set_pop (fun b e => by injection e with e; subst e; exact ⟨_, ho, rfl⟩) h

theorem wpAny_chooseN {M : Model} {n : Nat} {Q : Nat → Shared → Prop} (hn : n ≠ 0) (h : ∀ i d, i < n → Q i { s with drawn := d }) : wpAny M A (choose .order n) Q E s := fun Γ p _ => by
  unfold choose
  rw [Sem.wp_choose]
  exact ⟨hn, h _ _ (Nat.mod_lt _ (Nat.pos_of_ne_zero hn))⟩

noncomputable abbrev byText (w : World) : Bool := w.params.followText "set-order"

/-- pop: some element goes, and the state of the draws may go on -/
theorem setPop_any {Q : Option Value → Shared → Prop} (ho : s.heap.get? a = some (setO es ep t)) (hf : t.fits es.size = true) (hn : 0 < es.size) (hz : es.size ≤ sizeLine) (hled : es.size ≤ 1 ∨ t.led = true ∨ byText w = true)
    (h : ∀ i d x, es[i]? = some x → Q (some x.2) { s with drawn := d, heap := s.heap.update a (Obj.putSet (SetTable.eraseAt es i) (t.popped i)) }) : wpAny (model prog w) A (setPop a) Q E s := by
  have hsz : t.place.size = es.size := by simp only [SetTable.fits, Bool.and_eq_true, beq_iff_eq] at hf; exact hf.1
  obtain ⟨bf, hbf, hlt⟩ : ∃ i, t.popPlace = some i ∧ i < es.size := by
    unfold SetTable.popPlace
    have hne : ¬ (t.place.isEmpty = true) := by rw [Array.isEmpty_iff_size_eq_zero]; omega
    rw [if_neg hne]
    refine ⟨_, rfl, ?_⟩
    split <;> omega
  unfold setPop
  refine wpAny_bind (wpAny_setState_of ho rfl hf ?_)
  dsimp only
  rw [hbf]
  dsimp only
  have go : ∀ i d, i < es.size → wpAny (model prog w) A (do
      let some (_, x) := es[i]? | unsupported "internal:set.pop"
      storeSet a (SetTable.eraseAt es i) (t.popped i)
      return some x) Q E { s with drawn := d } := fun i d hi => by
    rw [Array.getElem?_eq_getElem hi]
    dsimp only
    refine wpAny_bind (wpAny_storeSet_of (s := { s with drawn := d }) ho rfl ?_ ?_)
    · exact wpAny_pure (h i d es[i] (Array.getElem?_eq_getElem hi))
    · refine Nat.le_trans ?_ hz
      unfold SetTable.eraseAt
      simp only [Array.size_append, Array.size_extract]
      omega
  have fin : ∀ i, i < es.size → wpAny (model prog w) A (do
      let some (_, x) := es[i]? | unsupported "internal:set.pop"
      storeSet a (SetTable.eraseAt es i) (t.popped i)
      return some x) Q E s := fun i hi => go i s.drawn hi
  refine wpAny_bind ?_
  refine wpAny_bind (wpAny_askSetting (wpAny_pure ?_))
  dsimp only
  split
  · exact wpAny_bind (wpAny_chooseN (by omega) fun i d hi => go i d hi)
  · rename_i hb
    refine wpAny_bind (?_ : wpAny (model prog w) A (if (!t.led && decide (es.size > 1)) = true then unsupported "set:maker-not-led" else pure PUnit.unit) _ _ _)
    rw [if_neg ?_]
    · exact wpAny_pure (wpAny_bind (wpAny_pure (fin bf hlt)))
    · intro hh
      simp only [Bool.and_eq_true, Bool.not_eq_true', decide_eq_true_eq] at hh
      rcases hled with h1 | h1 | h1
      · omega
      · rw [h1] at hh; exact absurd hh.1 (by decide)
      · exact hb (by show (byText w || _) = true; rw [h1]; rfl)
end
end Mine
end

namespace Mine
theorem freshSt2 : True ∧ True := by
  k_with_none
  w_top off
  first | (walk1; all_goals exact trivial) | exact ⟨trivial, trivial⟩
end Mine
section
open PySem PySem.W PyProof.Rows
set_option Elab.async false
set_option maxRecDepth 100000
set_option maxHeartbeats 2000000
namespace Mine
open PySem.Calls PySem.Spec

section
variable {prog : Program} {w : World} {A : Around} {E : Value → Shared → Prop} {s : Shared} {a : Addr} {es : Array (Int × Value)} {ep : Nat} {t : SetTable}

noncomputable abbrev newS (w : World) : Obj := setO #[] 0 (.fresh 0 0 (!byText w))
theorem newSet_led {Q : Value → Shared → Prop} (h : Q (.ref s.heap.objs.size) { s with heap := s.heap.push (newS w) }) : wpAny (model prog w) A (newSet (.type "set")) Q E s := by
  unfold newSet setsByText
  refine wpAny_bind (wpAny_bind (wpAny_askSetting (wpAny_pure ?_)))
  dsimp only [newObj]
  exact wpAny_bind (wpAny_alloc (wpAny_pure h))

theorem putSet_eq {es' : Array (Int × Value)} {t' : SetTable} : Obj.putSet es' t' (setO es ep t) = setO es' (ep + 1) t' := putSet_of es' t' rfl
theorem get_put {h : Heap} {es' : Array (Int × Value)} {t' : SetTable} (ho : h.get? a = some (setO es ep t)) : (h.update a (Obj.putSet es' t')).get? a = some (setO es' (ep + 1) t') := by
  have := Heap.get?_update_self (Obj.putSet es' t') ho (by rw [putSet_eq]; rfl)
  rw [putSet_eq] at this; exact this

theorem setAdd_conc {Q : Bool → Shared → Prop} {k : Int} {tk : Tok} {es1 : Array (Int × Value)} {t1 : SetTable} {wd : Bool} (ho : s.heap.get? a = some (setO es ep t)) (hf : t.fits es.size = true)
    (hel : ElemsOf (intKind prog w) es.toList) (hb : es.size < scanBound) (hnew : es.toList.findIdx? (fun e => e.2.isInt k) = none)
    (hL : layNew t es (hashInt k) (.int k tk) = (es1, t1, wd, false)) (htf : (!wd && t1.tooFull) = false) (hz : es1.size ≤ sizeLine)
    (h : Q true { s with heap := s.heap.update a (Obj.putSet es1 t1), toks := s.toks + 1 }) : wpAny (model prog w) A (setAdd a (.int k tk)) Q E s := by
  unfold setAdd
  refine wpAny_holding (wpAny_bind (wpAny_pyHash_int ?_))
  unfold setAddHashed setAddHashedIn
  refine wpAny_holding (wpAny_bind (wpAny_setState_of ho rfl hf ?_))
  dsimp only
  rw [byScan_of (knd := intKind prog w) (x := .int k tk) rfl hb hel, if_pos rfl]
  unfold setAddByScan
  refine wpAny_bind (wpAny_bind (wpAny_rule ?_))
  refine wpAny_bind (wpAny_setScan_of (knd := intKind prog w) (k := k) (s := { s with toks := s.toks + 1 }) (intKind_is _ _ _ _) ho rfl hf hel ?_)
  rw [show es.toList.findIdx? (fun e => (intKind prog w).is k e.2) = none from hnew]
  dsimp only
  rw [hL]
  dsimp only
  refine wpAny_bind (wpAny_pure ?_)
  have fin : ∀ (c : Sem (Option Bool)) (R : Option Bool → Shared → Prop), R (some true) { s with heap := s.heap.update a (Obj.putSet es1 t1), toks := s.toks + 1 } →
      wpAny (model prog w) A (storeSet a es1 t1 >>= fun _ => if (!wd && t1.tooFull) = true then c else pure (some true)) R E { s with toks := s.toks + 1 } := fun c R hR => by
    refine wpAny_bind (wpAny_storeSet_of (s := { s with toks := s.toks + 1 }) ho rfl ?_ hz)
    rw [htf]
    exact wpAny_pure hR
  have e1 : plainKind (Value.int k tk) = true := rfl
  split
  · refine wpAny_bind (wpAny_of_eq (hashByValue_scannable 8 rfl) ?_)
    simp only [e1, if_true]
    exact fin _ _ (wpAny_pure h)
  · refine wpAny_bind (wpAny_pure ?_)
    simp only [if_true]
    exact fin _ _ (wpAny_pure h)

theorem add_conc {Q : Value → Shared → Prop} {k : Int} {tk : Tok} {es1 : Array (Int × Value)} {t1 : SetTable} {wd : Bool} (ho : s.heap.get? a = some (setO es ep t)) (hf : t.fits es.size = true)
    (hel : ElemsOf (intKind prog w) es.toList) (hb : es.size < scanBound) (hnew : es.toList.findIdx? (fun e => e.2.isInt k) = none)
    (hL : layNew t es (hashInt k) (.int k tk) = (es1, t1, wd, false)) (htf : (!wd && t1.tooFull) = false) (hz : es1.size ≤ sizeLine)
    (h : Q .none { s with heap := s.heap.update a (Obj.putSet es1 t1), toks := s.toks + 1 }) : wpAny (model prog w) A (call (.builtin "set.add") [.ref a, .int k tk]) Q E s := by
  refine wpAny_call_entry F.slot_set_add ⟨_, ho, rfl⟩ F.entry_set_add ?_ (F.args_set_add_2 _ _)
  unfold Builtin.«set.add» Builtin.Frozenset.oneOther
  simp only [List.isEmpty_nil, bind_assoc]
  unfold Builtin.Frozenset.addrOf
  refine wpAny_bind (wpAny_pure ?_)
  try dsimp only
  refine wpAny_bind (wpAny_pure ?_)
  try dsimp only
  refine wpAny_bind (setAdd_conc ho hf hel hb hnew hL htf hz ?_)
  exact wpAny_pure ⟨_, rfl, h⟩

theorem pop_any {Q : Value → Shared → Prop} (ho : s.heap.get? a = some (setO es ep t)) (hf : t.fits es.size = true) (hn : 0 < es.size) (hz : es.size ≤ sizeLine) (hled : es.size ≤ 1 ∨ t.led = true ∨ byText w = true)
    (h : ∀ i d x, es[i]? = some x → Q x.2 { s with drawn := d, heap := s.heap.update a (Obj.putSet (SetTable.eraseAt es i) (t.popped i)) }) : wpAny (model prog w) A (call (.builtin "set.pop") [.ref a]) Q E s := by
  refine wpAny_call_entry F.slot_set_pop ⟨_, ho, rfl⟩ F.entry_set_pop ?_ (F.args_set_pop_1 _)
  unfold Builtin.«set.pop» Builtin.Frozenset.noArgs
  simp only [List.isEmpty_nil, bind_assoc]
  unfold Builtin.Frozenset.addrOf
  refine wpAny_bind (wpAny_pure ?_)
  try dsimp only
  refine wpAny_bind (setPop_any ho hf hn hz hled fun i d x hx => ?_)
  exact wpAny_pure ⟨_, rfl, h i d x hx⟩

theorem code_set_newL {Q₁ : Value → Shared → Prop} (h : Q₁ (.ref s.heap.objs.size) { s with heap := s.heap.push (newS w) }) :
    codeAny (model prog w) A (.call (.builtin "set.__new__") ⟨[.type "set"], []⟩) (wants Q₁ E) s := by
  refine codeAny_of_tree ?_
  show wpAny _ A.in1 (do checkBuiltinCall "set.__new__" ⟨[.type "set"], []⟩; again (.builtin "set.__new__" ⟨[.type "set"], []⟩)) _ _ s
  refine wpAny_bind (wpAny_of_eq F.newCall_set_0 (wpAny_pure ⟨plainId_quiet F.plain_set_new _, codeAny_builtin F.entry_set_new ?_⟩))
  rw [Around.under_plainId F.plain_set_new _]
  unfold Builtin.«set.__new__» Builtin.Frozenset.newClass
  have hsub := sub_set_self
  obtain ⟨hp, g, d, tk, os⟩ := s
  dsimp only
  wp_walk
  refine wpAny_askSetting (wpAny_pure ?_)
  dsimp only [newObj]
  exact wpAny_bind (wpAny_alloc (wpAny_pure (wpAny_pure h)))
theorem call_setL {Q : Value → Shared → Prop} (h : Q (.ref s.heap.objs.size) { s with heap := s.heap.push (newS w) }) : wpAny (model prog w) A (call (.type "set") []) Q E s := by
  obtain ⟨c, tl, hmro⟩ := F.called_set.mro
  have hmade := F.called_set.made
  have hsub := F.called_set.sub
  have h1 := F.called_set.notType
  have h2 := F.called_set.canCreate
  have hct := F.typeCall_set_0
  have hS : (s.heap.push (newS w)).get? s.heap.objs.size = some (newS w) := Heap.get?_push_size _ rfl
  have hT : Shared.TypeIs { s with heap := s.heap.push (newS w) } (.ref s.heap.objs.size) "set" := ⟨_, hS, rfl⟩
  have hli := F.called_set.init.lookup
  have hbi := F.called_set.init.bind (.ref s.heap.objs.size)
  refine wpAny_call (codeAny_of_tree (?_ : wpAny _ _ (callAny (.type "set") _) _ _ _))
  refine wpAny_pure ⟨Code.quiet_builtin _ (by decide +kernel), codeAny_builtin F.entry_type_call ?_⟩
  rw [Around.under_plain (weight_type_call_type "set" [] []) rfl]
  repeat (any_goals (first | assumption | wp_step))
  refine codeAny_mono (code_set_newL (E := E) (Q₁ := fun obj s₁ => obj = .ref s.heap.objs.size ∧ s₁ = { s with heap := s.heap.push (newS w) }) ⟨rfl, rfl⟩) fun r s₁ hr => ?_
  match r, hr with
  | .error e, hr => exact hr
  | .ok (.ret obj), hr =>
    obtain ⟨rfl, rfl⟩ := hr
    repeat (any_goals (first | assumption | wp_step))
    refine codeAny_mono (codeAny_call_builtin (R := wants (fun r s₂ => r = .none ∧ Q (.ref s.heap.objs.size) s₂) E) F.called_set.init.plain F.entry_set_init (check_set_init hT ?_)) fun r₂ s₂ hr₂ => ?_
    · unfold Builtin.«set.__init__» noKeywords
      wp_walk
      exact ⟨rfl, h⟩
    · match r₂, hr₂ with
      | .error e, hr₂ => exact hr₂
      | .ok (.ret r), hr₂ =>
        obtain ⟨rfl, hq⟩ := hr₂
        repeat (any_goals (first | assumption | wp_step))

theorem display1 {K : Frag} {e : PySem.Expr} {pos : Pos} {env : Env} {Q : Value → Shared → Prop} (X : K.In s.heap) (hc : kdsCode K env.code = true) (hp : kdsPlain e = true)
    (h : wpAny (model prog w) A (eval e env) (fun v s' => wpAny (model prog w) A (setAdd s.heap.objs.size v) (fun _ s'' => Q (.ref s.heap.objs.size) s'') E s') E { s with heap := s.heap.push (newS w) }) :
    wpAny (model prog w) A (eval (.Set [e] 0 pos) env) Q E s := by
  rw [arm_eval_Set]
  refine wpAny_bind (wpAny_standAt ?_)
  refine wpAny_bind (kds_main X hc fun b => ?_)
  rw [kds_star [e] (by simp [hp])]
  have hr : displayRoad 0 [e] = .oneByOne := rfl
  rw [hr]
  unfold setDisplay
  try dsimp only
  rw [if_neg (by decide)]
  refine wpAny_bind (newSet_led ?_)
  dsimp only
  rw [arm_evalEach_cons, show evalEach [] env = [] from rfl]
  simp only [List.map_cons, List.map_nil, List.length_cons, List.length_nil, List.findIdx?_cons, List.findIdx?_nil, Option.map_none, Bool.false_eq_true, if_false, Option.getD_none, Nat.not_lt_zero, show ¬ ((0 : Nat) + 1 > 30) by decide, List.take, List.drop,
    List.forIn_nil, show (DisplayRoad.oneByOne == DisplayRoad.unsure) = false from rfl]
  refine wpAny_bind (wpAny_holding (wpAny_bind ?_))
  have ev : ∀ (c : Sem Value) (R : List Value → Shared → Prop) (s' : Shared), wpAny (model prog w) A c (fun v => R [v]) E s' → wpAny (model prog w) A (evalAll [c]) R E s' := fun c R s' hh => by
    show wpAny (model prog w) A (c >>= fun v => holding [v] (evalAll []) >>= fun r => pure (v :: r)) R E s'
    refine wpAny_bind (wpAny_mono hh (fun v s'' h'' => ?_) fun _ _ x => x)
    exact wpAny_bind (wpAny_holding (wpAny_pure (wpAny_pure h'')))
  refine ev _ _ _ (wpAny_bind (wpAny_mono h (fun v s' h' => ?_) fun _ _ x => x))
  refine wpAny_bind (wpAny_standAt (wpAny_pure ?_))
  refine wpAny_bind (wpAny_holding ?_)
  rw [List.forIn_cons]
  refine wpAny_bind (wpAny_bind (wpAny_bind (wpAny_mono h' (fun _ s'' h'' => ?_) fun _ _ x => x)))
  refine wpAny_pure ?_
  dsimp only
  rw [List.forIn_nil]
  exact wpAny_pure (wpAny_pure (wpAny_bind (wpAny_pure (wpAny_pure (wpAny_pure h'')))))
end
end Mine
end

namespace Mine
theorem freshSt3 : True ∧ True := by
  k_with_none
  w_top off
  first | (walk1; all_goals exact trivial) | exact ⟨trivial, trivial⟩
end Mine
section
open PySem PySem.W PyProof.Rows
set_option Elab.async false
set_option maxRecDepth 100000
set_option maxHeartbeats 2000000
namespace Mine
open PySem.Calls PySem.Spec

theorem slot_set_iterator_next : Slot "set_iterator" "__next__" "set_iterator.__next__" :=
  .of (owner := "set_iterator") (n := "__next__") (by rw [typeLookup_type, builtinLookup_eq_fast]; kernel_rfl) (by decide +kernel) (by decide +kernel) (by decide +kernel)
    (by first | exact .inl (by decide +kernel) | exact .inr (by decide +kernel)) (by rw [isSubtype_type]; kernel_rfl)
theorem entry_set_iterator_next : entryFor table "set_iterator.__next__" = some Builtin.«set_iterator.__next__» := entryFor_of_tree (by kernel_rfl)
theorem owner_set_iterator : Manifest.owners.lookup (String.ofList ['r', 'o', 't', 'a', 'r', 'e', 't', 'i', '_', 't', 'e', 's'].reverse) = some Manifest.sig_set_iterator := by kernel_rfl
theorem args_set_iterator_next (a : Value) : argsOk "set_iterator.__next__" ⟨[a], []⟩ := by
  unfold argsOk; rw [signature?_of (id := "set_iterator.__next__") (n := ['_', '_', 't', 'x', 'e', 'n', '_', '_']) (o := ['r', 'o', 't', 'a', 'r', 'e', 't', 'i', '_', 't', 'e', 's']) (by kernel_rfl) owner_set_iterator]; kernel_rfl
theorem entry_set_iter : entryFor table "set.__iter__" = some Builtin.«frozenset.__iter__» := entryFor_alias (id' := "frozenset.__iter__") (by kernel_rfl) rfl (by decide +kernel) (by kernel_rfl)
theorem slot_set_iterator_iter : Slot "set_iterator" "__iter__" "set_iterator.__iter__" :=
  .of (owner := "set_iterator") (n := "__iter__") (by rw [typeLookup_type, builtinLookup_eq_fast]; kernel_rfl) (by decide +kernel) (by decide +kernel) (by decide +kernel)
    (by first | exact .inl (by decide +kernel) | exact .inr (by decide +kernel)) (by rw [isSubtype_type]; kernel_rfl)
theorem args_set_iterator_iter (a : Value) : argsOk "set_iterator.__iter__" ⟨[a], []⟩ := by
  unfold argsOk; rw [signature?_of (id := "set_iterator.__iter__") (n := ['_', '_', 'r', 'e', 't', 'i', '_', '_']) (o := ['r', 'o', 't', 'a', 'r', 'e', 't', 'i', '_', 't', 'e', 's']) (by kernel_rfl) owner_set_iterator]; kernel_rfl
theorem entry_set_iterator_iter : entryFor table "set_iterator.__iter__" = some Builtin.«dict_keyiterator.__iter__» :=
  entryFor_alias (id' := "dict_keyiterator.__iter__") (by kernel_rfl) rfl (by decide +kernel) (by kernel_rfl)

theorem cons_erase {α : Type} : ∀ (l : List α) (i : Nat) (h : i < l.length), (l[i] :: l.eraseIdx i).Perm l
  | _ :: _, 0, _ => .refl _
  | x :: r, i + 1, h => (List.Perm.swap x (r[i]'(Nat.lt_of_succ_lt_succ h)) (r.eraseIdx i)).trans ((cons_erase r i (Nat.lt_of_succ_lt_succ h)).cons x)
theorem pickOrder_go {α : Type} (next : Nat → Nat) : ∀ (fuel k : Nat) (left : List α) (out : Array α), left.length ≤ fuel → (pickOrder.go next fuel k left out).toList.Perm (out.toList ++ left)
  | 0, k, left, out, h => by
    cases left with
    | nil => simp [pickOrder.go]
    | cons x r => simp at h
  | fuel + 1, k, left, out, h => by
    unfold pickOrder.go
    split
    · rename_i x hx
      refine (pickOrder_go next fuel (k + 1) _ _ ?_).trans ?_
      · obtain ⟨hlt, _⟩ := List.getElem?_eq_some_iff.mp hx
        rw [List.length_eraseIdx_of_lt hlt]; omega
      · rw [Array.toList_push, List.append_assoc]
        refine List.Perm.append_left _ ?_
        obtain ⟨hlt, e⟩ := List.getElem?_eq_some_iff.mp hx
        rw [← e]
        exact cons_erase left _ hlt
    · rename_i hx
      cases left with
      | nil => simp
      | cons x r =>
        have := List.getElem?_eq_none_iff.mp hx
        have h2 := Nat.mod_lt (next k) (show 0 < (x :: r).length by simp)
        omega
theorem pickOrder_perm {α : Type} (next : Nat → Nat) (xs : Array α) : (pickOrder next xs).toList.Perm xs.toList := by
  have := pickOrder_go next xs.size 0 xs.toList #[] (by simp)
  simpa [pickOrder] using this

section
variable {prog : Program} {w : World} {A : Around} {E : Value → Shared → Prop} {s : Shared} {a : Addr} {es : Array (Int × Value)} {ep : Nat} {t : SetTable}

/-- what a walk over the set gives, in its order -/
noncomputable def setOut (w : World) (a : Addr) (ep : Nat) (es : Array (Int × Value)) : Array (Int × Value) := if byText w = true then pickOrder (w.params.setOrder a ep) es else es
theorem setOut_perm : (setOut w a ep es).toList.Perm es.toList := by
  unfold setOut; split
  · exact pickOrder_perm _ _
  · exact .refl _
theorem setOut_size : (setOut w a ep es).size = es.size := by rw [← Array.length_toList, setOut_perm.length_eq, Array.length_toList]

noncomputable def slotAt (w : World) (sl : Nat → Nat) (i : Nat) : Nat := if byText w = true then 0 else sl i
noncomputable abbrev iterO (a : Addr) (slot i n ep : Nat) : Obj := { cls := .type "set_iterator", data := .fields #[.int slot 0, .int i 0, .ref a, .int n 0, .int ep 0] }

/-- the slots of a table, in their order -/
noncomputable def Slots (t : SetTable) (n : Nat) (sl : Nat → Nat) : Prop := sl 0 = 0 ∧ (∀ i, i ≤ n → SetTable.below t.place (sl i) = i) ∧ ∀ i, i < n → ∃ j, t.place[i]? = some j ∧ sl (i + 1) = j + 1

theorem setNext_item {sl : Nat → Nat} {i : Nat} {x : Int × Value} {Q : Option (Value × Nat) → Shared → Prop} (ho : s.heap.get? a = some (setO es ep t)) (hf : t.fits es.size = true) (hp : t.plain = true) (hled : t.led = true ∨ byText w = true)
    (hsl : Slots t es.size sl) (hx : (setOut w a ep es)[i]? = some x) (h : Q (some (x.2, slotAt w sl (i + 1))) s) : wpAny (model prog w) A (setNext a (slotAt w sl i) i ep) Q E s := by
  have hi : i < es.size := by rw [← setOut_size (w := w) (a := a) (ep := ep)]; exact (Array.getElem?_eq_some_iff.mp hx).1
  unfold setNext
  refine wpAny_bind (wpAny_setState_of ho rfl hf ?_)
  dsimp only
  unfold setsByText
  refine wpAny_bind (wpAny_bind (wpAny_askSetting (wpAny_pure ?_)))
  dsimp only
  unfold slotAt at h ⊢
  unfold setOut at hx
  have hd : (!t.plain && decide (es.size > 1)) = false := by rw [hp]; rfl
  by_cases hb : byText w = true
  · rw [if_pos hb] at h hx ⊢
    rw [show (model prog w).w.params.followText "set-order" = true from hb, if_pos rfl, if_neg (by simp)]
    unfold setWalk
    refine wpAny_bind (wpAny_bind (wpAny_setState_of ho rfl hf ?_))
    dsimp only
    unfold setsByText
    refine wpAny_bind (wpAny_bind (wpAny_askSetting (wpAny_pure ?_)))
    dsimp only
    rw [show (model prog w).w.params.followText "set-order" = true from hb, if_pos rfl]
    refine wpAny_bind (wpAny_askSetting (wpAny_pure ?_))
    refine wpAny_pure ?_
    show Q (((pickOrder (w.params.setOrder a ep) es)[i]?).map _) s
    rw [hx]
    exact h
  · rw [if_neg hb] at h hx ⊢
    rw [show (model prog w).w.params.followText "set-order" = false from Bool.not_eq_true _ ▸ hb]
    have hl : (!t.led && !es.isEmpty) = false := by rcases hled with q | q <;> simp_all
    obtain ⟨j, hj, hs1⟩ := hsl.2.2 i hi
    rw [if_neg Bool.false_ne_true]
    refine (?_ : wpAny (model prog w) A (if (!t.plain && decide (es.size > 1)) = true then unsupported "set_iterator.__next__:the-table-is-plain-no-more" >>= (fun (_ : PUnit) => (if (!t.led && !es.isEmpty) = true then unsupported "set:maker-not-led" else pure PUnit.unit) >>= fun _ => _) else (if (!t.led && !es.isEmpty) = true then unsupported "set:maker-not-led" else pure PUnit.unit) >>= fun _ => _) _ _ _)
    rw [hd, hl]
    refine wpAny_bind (wpAny_pure ?_)
    rw [hsl.2.1 i (Nat.le_of_lt hi), hx, hj]
    rw [hs1] at h
    exact wpAny_pure h

theorem setNext_end {sl : Nat → Nat} {Q : Option (Value × Nat) → Shared → Prop} (ho : s.heap.get? a = some (setO es ep t)) (hf : t.fits es.size = true) (hp : t.plain = true) (hled : t.led = true ∨ byText w = true)
    (hsl : Slots t es.size sl) (h : Q none s) : wpAny (model prog w) A (setNext a (slotAt w sl es.size) es.size ep) Q E s := by
  unfold setNext
  refine wpAny_bind (wpAny_setState_of ho rfl hf ?_)
  dsimp only
  unfold setsByText
  refine wpAny_bind (wpAny_bind (wpAny_askSetting (wpAny_pure ?_)))
  dsimp only
  unfold slotAt
  have hd : (!t.plain && decide (es.size > 1)) = false := by rw [hp]; rfl
  by_cases hb : byText w = true
  · rw [if_pos hb]
    rw [show (model prog w).w.params.followText "set-order" = true from hb, if_pos rfl, if_neg (by simp)]
    unfold setWalk
    refine wpAny_bind (wpAny_bind (wpAny_setState_of ho rfl hf ?_))
    dsimp only
    unfold setsByText
    refine wpAny_bind (wpAny_bind (wpAny_askSetting (wpAny_pure ?_)))
    dsimp only
    rw [show (model prog w).w.params.followText "set-order" = true from hb, if_pos rfl]
    refine wpAny_bind (wpAny_askSetting (wpAny_pure ?_))
    refine wpAny_pure ?_
    show Q (((pickOrder (w.params.setOrder a ep) es)[es.size]?).map _) s
    have hz : (pickOrder (w.params.setOrder a ep) es).size = es.size := by rw [← Array.length_toList, (pickOrder_perm _ _).length_eq, Array.length_toList]
    rw [Array.getElem?_eq_none (by omega)]
    exact h
  · rw [if_neg hb]
    rw [show (model prog w).w.params.followText "set-order" = false from Bool.not_eq_true _ ▸ hb]
    have hl : (!t.led && !es.isEmpty) = false := by rcases hled with q | q <;> simp_all
    rw [if_neg Bool.false_ne_true]
    refine (?_ : wpAny (model prog w) A (if (!t.plain && decide (es.size > 1)) = true then unsupported "set_iterator.__next__:the-table-is-plain-no-more" >>= (fun (_ : PUnit) => (if (!t.led && !es.isEmpty) = true then unsupported "set:maker-not-led" else pure PUnit.unit) >>= fun _ => _) else (if (!t.led && !es.isEmpty) = true then unsupported "set:maker-not-led" else pure PUnit.unit) >>= fun _ => _) _ _ _)
    rw [hd, hl]
    refine wpAny_bind (wpAny_pure ?_)
    rw [hsl.2.1 es.size (Nat.le_refl _), Array.getElem?_eq_none (Nat.le_refl _)]
    exact wpAny_pure h

theorem next_item {it : Addr} {sl : Nat → Nat} {i : Nat} {x : Int × Value} {Q : Option Value → Shared → Prop} (hit : s.heap.get? it = some (iterO a (slotAt w sl i) i es.size ep)) (ho : s.heap.get? a = some (setO es ep t)) (hf : t.fits es.size = true)
    (hp : t.plain = true) (hled : t.led = true ∨ byText w = true) (hsl : Slots t es.size sl) (hx : (setOut w a ep es)[i]? = some x)
    (hQ : ∀ h', h'.get? it = some (iterO a (slotAt w sl (i + 1)) (i + 1) es.size ep) → Heap.SameBut it s.heap h' → Q (some x.2) { s with heap := h' }) : wpAny (model prog w) A (pyNext (.ref it)) Q E s := by
  have hT : s.TypeIs (.ref it) "set_iterator" := ⟨_, hit, rfl⟩
  unfold pyNext
  refine wpAny_bind (wpAny_attempt (wpAny_callSpecial?_slot (name := Str.ofString "__next__") hT slot_set_iterator_next
    (wpAny_call_entry slot_set_iterator_next hT entry_set_iterator_next ?_ (args_set_iterator_next _))))
  unfold Builtin.«set_iterator.__next__» slotArgs
  simp only [List.isEmpty_nil, Bool.not_true, Bool.false_eq_true, if_false, List.length_nil, bne_self_eq_false]
  refine wpAny_bind (wpAny_pure ?_)
  dsimp only
  refine wpAny_bind (wpAny_fieldsOf hit rfl ?_)
  dsimp only
  refine wpAny_bind (wpAny_setEntries_of ho rfl hf ?_)
  rw [if_neg (by simp)]
  simp only [Int.toNat_natCast]
  refine wpAny_bind (setNext_item ho hf hp hled hsl hx ?_)
  dsimp only
  refine wpAny_bind (wpAny_setField hit rfl (by simp) ?_)
  have h1 := Heap.get?_update_self (Obj.mapFields (·.setIfInBounds 0 (rawInt (slotAt w sl (i + 1))))) hit rfl
  refine wpAny_bind (wpAny_setField (s := { s with heap := s.heap.update it (Obj.mapFields (·.setIfInBounds 0 (rawInt (slotAt w sl (i + 1))))) }) h1 rfl (by simp) ?_)
  have h2 := Heap.get?_update_self (Obj.mapFields (·.setIfInBounds 1 (rawInt ((i : Int) + 1)))) h1 rfl
  refine wpAny_pure ⟨_, rfl, wpAny_pure (hQ _ ?_ ?_)⟩
  · exact h2
  · exact (Heap.SameBut.update ..).trans (Heap.SameBut.update ..)

theorem next_end {it : Addr} {sl : Nat → Nat} {Q : Option Value → Shared → Prop} (hh : A.handled = none) (hit : s.heap.get? it = some (iterO a (slotAt w sl es.size) es.size es.size ep)) (ho : s.heap.get? a = some (setO es ep t)) (hf : t.fits es.size = true)
    (hp : t.plain = true) (hled : t.led = true ∨ byText w = true) (hsl : Slots t es.size sl)
    (hQ : ∀ h', Heap.ExtBut it s.heap h' → Q none { s with heap := h' }) : wpAny (model prog w) A (pyNext (.ref it)) Q E s := by
  have hT : s.TypeIs (.ref it) "set_iterator" := ⟨_, hit, rfl⟩
  unfold pyNext
  refine wpAny_bind (wpAny_attempt (wpAny_callSpecial?_slot (name := Str.ofString "__next__") hT slot_set_iterator_next
    (wpAny_call_entry slot_set_iterator_next hT entry_set_iterator_next ?_ (args_set_iterator_next _))))
  unfold Builtin.«set_iterator.__next__» slotArgs
  simp only [List.isEmpty_nil, Bool.not_true, Bool.false_eq_true, if_false, List.length_nil, bne_self_eq_false]
  refine wpAny_bind (wpAny_pure ?_)
  dsimp only
  refine wpAny_bind (wpAny_fieldsOf hit rfl ?_)
  dsimp only
  refine wpAny_bind (wpAny_setEntries_of ho rfl hf ?_)
  rw [if_neg (by simp)]
  simp only [Int.toNat_natCast]
  refine wpAny_bind (setNext_end ho hf hp hled hsl ?_)
  dsimp only
  refine wpAny_bind (wpAny_setField hit rfl (by simp) ?_)
  show wpAny _ _ (newExc (.type "StopIteration") [] >>= _) _ _ _
  refine wpAny_bind ?_
  simp only [newExc, newTuple]
  refine wpAny_bind (wpAny_newObj_type ?_ (by size_fits))
  refine wpAny_bind (m := firstArgMember _ _) (wpAny_of_eq (a := Value.none) (by first | rfl | (simp only [firstArgMember]; rfl)) ?_)
  refine wpAny_newObj_type ?_ (by size_fits)
  simp only [raiseNew]
  refine wpAny_bind (wpAny_handled ?_)
  rw [show A.in1.handled = none from hh]
  refine wpAny_bind (wpAny_pure (wpAny_throw ?_))
  refine wpAny_bind (wpAny_isInstance (T := "StopIteration") (b := true) ⟨_, Heap.get?_push_size _ rfl, rfl⟩ isSubtype_stop ?_)
  exact wpAny_pure (hQ _ (((Heap.SameBut.update ..).extBut.push _).push _))

theorem iter_set {sl : Nat → Nat} {Q : Value → Shared → Prop} (ho : s.heap.get? a = some (setO es ep t)) (hf : t.fits es.size = true) (hp : t.plain = true) (h0 : sl 0 = 0)
    (h : Q (.ref s.heap.objs.size) { s with heap := s.heap.push (iterO a (slotAt w sl 0) 0 es.size ep) }) : wpAny (model prog w) A (pyIter (.ref a)) Q E s := by
  have hT : s.TypeIs (.ref a) "set" := ⟨_, ho, rfl⟩
  have hs0 : slotAt w sl 0 = 0 := by unfold slotAt; rw [h0]; split <;> rfl
  refine wpAny_pyIter_slot hT F.slot_set_iter (wpAny_call_entry F.slot_set_iter hT entry_set_iter ?_ (F.args_set_iter_1 _))
  unfold Builtin.«frozenset.__iter__» Builtin.Frozenset.slot0 slotArgs
  simp only [List.isEmpty_nil, Bool.not_true, Bool.false_eq_true, if_false, List.length_nil, bne_self_eq_false]
  refine wpAny_bind (wpAny_bind (wpAny_pure ?_))
  unfold Builtin.Frozenset.addrOf Builtin.Frozenset.sizeOf
  dsimp only
  refine wpAny_pure ?_
  refine wpAny_bind (wpAny_bind (wpAny_setEntries_of ho rfl hf (wpAny_pure ?_)))
  refine wpAny_bind ?_
  unfold setDrawn
  refine wpAny_bind (wpAny_setState_of ho rfl hf ?_)
  dsimp only
  unfold setsByText
  refine wpAny_bind (wpAny_bind (wpAny_askSetting (wpAny_pure ?_)))
  dsimp only
  refine wpAny_pure ?_
  refine wpAny_ite_split (fun hq => absurd (show (!(model prog w).w.params.followText "set-order" && (!t.plain && decide (es.size > 1))) = true from hq) (by rw [hp]; simp)) fun _ => ?_
  refine wpAny_bind (wpAny_pure ?_)
  unfold setEpoch
  refine wpAny_bind (wpAny_bind (wpAny_setState_of ho rfl hf (wpAny_pure ?_)))
  rw [hs0] at h
  refine wpAny_bind ?_
  unfold newFields
  refine wpAny_newObj_type (wpAny_pure ⟨_, rfl, "set_iterator", _, ⟨_, Heap.get?_push_size _ rfl, rfl⟩, slot_set_iterator_next.lookup, ?_⟩)
  exact h

theorem Walks_set (hh : A.handled = none) (I : Addr) (hne : a ≠ I) {sl : Nat → Nat} (hf : t.fits es.size = true) (hp : t.plain = true) (hled : t.led = true ∨ byText w = true) (hsl : Slots t es.size sl) :
    Walks prog w A I [I, a] [I] es.size (fun i v => ∃ x, (setOut w a ep es)[i]? = some x ∧ v = x.2) (fun i h => h.get? I = some (iterO a (slotAt w sl i) i es.size ep) ∧ h.get? a = some (setO es ep t)) where
  sub := fun b hb => by simp at hb; simp [hb]
  frame := fun _ _ _ st hk => ⟨hk I (by simp) _ st.1, hk a (by simp) _ st.2⟩
  item := fun i s Q E hi st hQ => by
    obtain ⟨x, hx⟩ : ∃ x, (setOut w a ep es)[i]? = some x := ⟨_, Array.getElem?_eq_getElem (by rw [setOut_size]; exact hi)⟩
    exact next_item st.1 st.2 hf hp hled hsl hx fun h' hit' hs' => hQ _ h' s.toks ⟨x, hx, rfl⟩ ⟨hit', hs'.extBut a _ hne st.2⟩ fun b o hb e => hs'.extBut b o (fun h => hb (by simp [h])) e
  done := fun s Q E st hQ => next_end hh st.1 st.2 hf hp hled hsl fun h' he' => hQ h' s.toks fun b o hb e => he' b o (fun h => hb (by simp [h])) e
  self := fun _ s _ _ st hQ => by
    have hT : s.TypeIs (.ref I) "set_iterator" := ⟨_, st.1, rfl⟩
    refine wpAny_pyIter_slot hT slot_set_iterator_iter (wpAny_call_entry slot_set_iterator_iter hT entry_set_iterator_iter ?_ (args_set_iterator_iter _))
    show wpAny _ _ (ret (.ref I)) _ _ s
    exact wpAny_pure ⟨_, rfl, "set_iterator", _, hT, slot_set_iterator_next.lookup, hQ⟩

theorem hint_set {r : Addr} {Q : Bool → Shared → Prop} (hT : s.TypeIs (.ref r) "set") (h : Q false s) : wpAny (model prog w) A (Builtin.List.listLengthHint (.ref r)) Q E s := by
  unfold Builtin.List.listLengthHint
  refine wpAny_bind (wpAny_specialOf hT F.slot_set_len.lookup ?_)
  generalize hid : ("set.__len__" : String) = id0
  wp_delta
  rw [show splitId id0 = some ("set", "__len__") from by subst hid; decide +kernel]
  subst hid
  refine wpAny_bind (wpAny_isInstance (T := "set") (b := true) hT (by rw [isSubtype_type]; kernel_rfl) ?_)
  refine wpAny_ite_split (fun hab => absurd hab (by decide)) (fun _ => ?_)
  refine wpAny_ite_split (fun _ => ?_) (fun hab => absurd (by decide +kernel) hab)
  refine wpAny_bind (wpAny_typeOf hT ?_)
  exact wpAny_pure h

theorem kdl_set {sl : Nat → Nat} (hf : t.fits es.size = true) (hp : t.plain = true) (hled : t.led = true ∨ byText w = true) (hsl : Slots t es.size sl) :
    KdlSrc prog w "set" a a es.size (fun i v => ∃ x, (setOut w a ep es)[i]? = some x ∧ v = x.2) (fun h => h.get? a = some (setO es ep t)) where
  type := fun _ ho => ⟨_, ho, rfl⟩
  there := fun _ ho => ⟨Heap.lt_size ho, Heap.lt_size ho⟩
  keep := fun _ _ ho hk => hk a (.inl rfl) _ ho
  notList := by decide
  notTuple := by decide
  hint := fun _ _ _ _ ho hq => hint_set ⟨_, ho, rfl⟩ hq
  iter := fun _ s hh ho => ⟨_, _, (fun _ _ hq => iter_set ho hf hp hsl.1 hq), Walks_set hh _ (Nat.ne_of_lt (Heap.lt_size ho)) hf hp hled hsl, ⟨Heap.get?_push_size _ rfl, Heap.get?_push_of_some _ ho⟩⟩
end
end Mine
end

namespace Mine
theorem freshSt4 : True ∧ True := by
  k_with_none
  w_top off
  first | (walk1; all_goals exact trivial) | exact ⟨trivial, trivial⟩
end Mine
section
open PySem PySem.W PyProof.Rows
set_option Elab.async false
set_option maxRecDepth 100000
set_option maxHeartbeats 2000000
namespace Mine
open PySem.Calls PySem.Spec

noncomputable abbrev tb (place dummies : Array Nat) (finger mask : Nat) (l : Bool) : SetTable := { mask := mask, place := place, dummies := dummies, finger := finger, led := l, moves := 0, plain := true }
noncomputable abbrev en (k : Int) (t : Tok) : Int × Value := (k, .int k t)

inductive Ens : List (Int × Value) → Prop
  | nil : Ens []
  | cons (k : Int) (t : Tok) {r} : hashInt k = k → Ens r → Ens (en k t :: r)
theorem Ens.elems {prog : Program} {w : World} : ∀ {l}, Ens l → ElemsOf (intKind prog w) l
  | _, .nil => fun _ h => nomatch h
  | _, .cons k t hk r => fun e he => by
    rcases List.mem_cons.mp he with rfl | he
    · exact ⟨⟨k, intKind_is _ _ _ _, hk.symm⟩, rfl⟩
    · exact r.elems e he

structure StepOk (t : SetTable) (es : Array (Int × Value)) (k : Int) (tk : Tok) (es1 : Array (Int × Value)) (t1 : SetTable) : Prop where
  fits : t.fits es.size = true
  ens : Ens es.toList
  new : es.toList.findIdx? (fun e => e.2.isInt k) = none
  lay : ∃ wd, layNew t es (hashInt k) (.int k tk) = (es1, t1, wd, false) ∧ (!wd && t1.tooFull) = false
  small : es.size < 9 ∧ es1.size < 9

section
variable {l : Bool} {t0 t1 t2 t4 t8 t9 : Tok}
theorem stA8 : StepOk (tb #[] #[] 0 7 l) #[] 8 t8 #[en 8 t8] (tb #[0] #[] 0 7 l) := ⟨by kernel_rfl, by repeat (first | exact .nil | refine .cons _ _ (by kernel_rfl) ?_), by kernel_rfl, ⟨false, by kernel_rfl, by kernel_rfl⟩, Nat.le_of_ble_eq_true rfl, Nat.le_of_ble_eq_true rfl⟩
theorem stW4 : StepOk (tb #[] #[0] 1 7 l) #[] 4 t4 #[en 4 t4] (tb #[4] #[0] 1 7 l) := ⟨by kernel_rfl, by repeat (first | exact .nil | refine .cons _ _ (by kernel_rfl) ?_), by kernel_rfl, ⟨false, by kernel_rfl, by kernel_rfl⟩, Nat.le_of_ble_eq_true rfl, Nat.le_of_ble_eq_true rfl⟩
theorem stW2 : StepOk (tb #[] #[0, 4] 5 7 l) #[] 2 t2 #[en 2 t2] (tb #[2] #[0, 4] 5 7 l) := ⟨by kernel_rfl, by repeat (first | exact .nil | refine .cons _ _ (by kernel_rfl) ?_), by kernel_rfl, ⟨false, by kernel_rfl, by kernel_rfl⟩, Nat.le_of_ble_eq_true rfl, Nat.le_of_ble_eq_true rfl⟩
theorem stW1 : StepOk (tb #[] #[0, 2, 4] 3 7 l) #[] 1 t1 #[en 1 t1] (tb #[1] #[0, 2, 4] 3 7 l) := ⟨by kernel_rfl, by repeat (first | exact .nil | refine .cons _ _ (by kernel_rfl) ?_), by kernel_rfl, ⟨false, by kernel_rfl, by kernel_rfl⟩, Nat.le_of_ble_eq_true rfl, Nat.le_of_ble_eq_true rfl⟩
theorem stW0 : StepOk (tb #[] #[0, 1, 2, 4] 2 7 l) #[] 0 t0 #[en 0 t0] (tb #[1] #[0, 2, 4] 2 7 l) := ⟨by kernel_rfl, by repeat (first | exact .nil | refine .cons _ _ (by kernel_rfl) ?_), by kernel_rfl, ⟨true, by kernel_rfl, by kernel_rfl⟩, Nat.le_of_ble_eq_true rfl, Nat.le_of_ble_eq_true rfl⟩
theorem stS4 : StepOk (tb #[0] #[] 0 7 l) #[en 8 t8] 4 t4 #[en 8 t8, en 4 t4] (tb #[0, 4] #[] 0 7 l) := ⟨by kernel_rfl, by repeat (first | exact .nil | refine .cons _ _ (by kernel_rfl) ?_), by kernel_rfl, ⟨false, by kernel_rfl, by kernel_rfl⟩, Nat.le_of_ble_eq_true rfl, Nat.le_of_ble_eq_true rfl⟩
theorem stS2 : StepOk (tb #[0, 4] #[] 0 7 l) #[en 8 t8, en 4 t4] 2 t2 #[en 8 t8, en 2 t2, en 4 t4] (tb #[0, 2, 4] #[] 0 7 l) := ⟨by kernel_rfl, by repeat (first | exact .nil | refine .cons _ _ (by kernel_rfl) ?_), by kernel_rfl, ⟨false, by kernel_rfl, by kernel_rfl⟩, Nat.le_of_ble_eq_true rfl, Nat.le_of_ble_eq_true rfl⟩
theorem stS1 : StepOk (tb #[0, 2, 4] #[] 0 7 l) #[en 8 t8, en 2 t2, en 4 t4] 1 t1 #[en 8 t8, en 1 t1, en 2 t2, en 4 t4] (tb #[0, 1, 2, 4] #[] 0 7 l) := ⟨by kernel_rfl, by repeat (first | exact .nil | refine .cons _ _ (by kernel_rfl) ?_), by kernel_rfl, ⟨false, by kernel_rfl, by kernel_rfl⟩, Nat.le_of_ble_eq_true rfl, Nat.le_of_ble_eq_true rfl⟩
theorem stN4 : StepOk (tb #[] #[] 0 7 l) #[] 4 t4 #[en 4 t4] (tb #[4] #[] 0 7 l) := ⟨by kernel_rfl, by repeat (first | exact .nil | refine .cons _ _ (by kernel_rfl) ?_), by kernel_rfl, ⟨false, by kernel_rfl, by kernel_rfl⟩, Nat.le_of_ble_eq_true rfl, Nat.le_of_ble_eq_true rfl⟩
theorem stN2 : StepOk (tb #[4] #[] 0 7 l) #[en 4 t4] 2 t2 #[en 2 t2, en 4 t4] (tb #[2, 4] #[] 0 7 l) := ⟨by kernel_rfl, by repeat (first | exact .nil | refine .cons _ _ (by kernel_rfl) ?_), by kernel_rfl, ⟨false, by kernel_rfl, by kernel_rfl⟩, Nat.le_of_ble_eq_true rfl, Nat.le_of_ble_eq_true rfl⟩
theorem stN1 : StepOk (tb #[2, 4] #[] 0 7 l) #[en 2 t2, en 4 t4] 1 t1 #[en 1 t1, en 2 t2, en 4 t4] (tb #[1, 2, 4] #[] 0 7 l) := ⟨by kernel_rfl, by repeat (first | exact .nil | refine .cons _ _ (by kernel_rfl) ?_), by kernel_rfl, ⟨false, by kernel_rfl, by kernel_rfl⟩, Nat.le_of_ble_eq_true rfl, Nat.le_of_ble_eq_true rfl⟩
theorem stN0 : StepOk (tb #[1, 2, 4] #[] 0 7 l) #[en 1 t1, en 2 t2, en 4 t4] 0 t0 #[en 0 t0, en 1 t1, en 2 t2, en 4 t4] (tb #[0, 1, 2, 4] #[] 0 7 l) := ⟨by kernel_rfl, by repeat (first | exact .nil | refine .cons _ _ (by kernel_rfl) ?_), by kernel_rfl, ⟨false, by kernel_rfl, by kernel_rfl⟩, Nat.le_of_ble_eq_true rfl, Nat.le_of_ble_eq_true rfl⟩
theorem ppW8 : (tb #[0] #[] 0 7 l).popped 0 = (tb #[] #[0] 1 7 l) := by kernel_rfl
theorem ppW4 : (tb #[4] #[0] 1 7 l).popped 0 = (tb #[] #[0, 4] 5 7 l) := by kernel_rfl
theorem ppW2 : (tb #[2] #[0, 4] 5 7 l).popped 0 = (tb #[] #[0, 2, 4] 3 7 l) := by kernel_rfl
theorem ppW1 : (tb #[1] #[0, 2, 4] 3 7 l).popped 0 = (tb #[] #[0, 1, 2, 4] 2 7 l) := by kernel_rfl

noncomputable abbrev tp (place dummies : Array Nat) (finger : Nat) (l : Bool) : SetTable := { mask := 15, place := place, dummies := dummies, finger := finger, led := l, moves := 1, plain := true }
theorem layP : layNew (tb #[1] #[0, 2, 4] 2 7 l) #[en 0 t0] (hashInt 1) (.int 1 t1) = (#[en 0 t0, en 1 t1], tb #[1, 6] #[0, 2, 4] 2 7 l, false, false) := by kernel_rfl
theorem relP : relayAll (tb #[1, 6] #[0, 2, 4] 2 7 l) #[en 0 t0, en 1 t1] (SetTable.grown 2) = (#[en 0 t0, en 1 t1], tp #[0, 1] #[] 2 l, false) := by kernel_rfl
theorem ppP0 : (tp #[0, 1] #[] 2 l).popped 0 = tp #[1] #[0] 1 l := by kernel_rfl
theorem ppP1 : (tp #[0, 1] #[] 2 l).popped 1 = tp #[0] #[1] 2 l := by kernel_rfl
theorem ppQ0 : (tp #[1] #[0] 1 l).popped 0 = tp #[] #[0, 1] 2 l := by kernel_rfl
theorem ppQ1 : (tp #[0] #[1] 2 l).popped 0 = tp #[] #[0, 1] 1 l := by kernel_rfl
theorem slotsN : Slots (tb #[0, 1, 2, 4] #[] 0 7 l) 4 (fun i => match i with | 0 => 0 | 1 => 1 | 2 => 2 | 3 => 3 | _ => 5) := by
  refine ⟨rfl, fun i hi => ?_, fun i hi => ?_⟩
  · match i, hi with
    | 0, _ => kernel_rfl
    | 1, _ => kernel_rfl
    | 2, _ => kernel_rfl
    | 3, _ => kernel_rfl
    | 4, _ => kernel_rfl
  · match i, hi with
    | 0, _ => exact ⟨0, rfl, rfl⟩
    | 1, _ => exact ⟨1, rfl, rfl⟩
    | 2, _ => exact ⟨2, rfl, rfl⟩
    | 3, _ => exact ⟨4, rfl, rfl⟩
end
section
variable {prog : Program} {w : World} {A : Around} {E : Value → Shared → Prop} {s : Shared} {h₀ : Heap} {L sa : Addr} {m : Str → Option Value} {news : List (Addr × Obj)} {g : Obj → List (Addr × Obj)}
  {es es1 : Array (Int × Value)} {ep : Nat} {t t1 : SetTable} {k : Int} {tk : Tok}

theorem upd_ledger {h : Heap} {a : Addr} (F : Fr h₀ L h m) (N : News h₀ L h news) (U : UpdF a (setO es ep t) news g) : h.get? a = some (setO es ep t) ∧
    ∀ es1 t1, Fr h₀ L (h.update a (Obj.putSet es1 t1)) m ∧ News h₀ L (h.update a (Obj.putSet es1 t1)) (g (setO es1 (ep + 1) t1)) := by
  obtain ⟨pre, post, rfl, hg, a1, b1⟩ := U.split
  have hm := N _ (List.mem_append_right _ (.head _))
  refine ⟨hm.1, fun es1 t1 => ?_⟩
  have hsb := Heap.SameBut.update h a (Obj.putSet es1 t1)
  exact ⟨F.change hsb hm.2.1 hm.2.2, hg _ ▸ N.setIn a1 b1 hsb (get_put hm.1)⟩

theorem newK {Q : Value → Shared → Prop} (F : Fr h₀ L s.heap m) (N : News h₀ L s.heap news)
    (h : ∀ D h', Fr h₀ L h' m → News h₀ L h' ((D, setO #[] 0 (tb #[] #[] 0 7 (!byText w))) :: news) → (∀ p ∈ news, p.1 < D) → Q (.ref D) { s with heap := h' }) :
    wpAny (model prog w) A (call (.type "set") []) Q E s :=
  call_setL (h _ _ (F.push _) (News.push F N _ rfl) fun p hp => Heap.lt_size (N p hp).1)

theorem dispK {K : Frag} {e : PySem.Expr} {pos : Pos} {env : Env} {Q : Value → Shared → Prop} (F : Fr h₀ L s.heap m) (N : News h₀ L s.heap news) (X : K.In h₀) (hc : kdsCode K env.code = true) (hp : kdsPlain e = true)
    (h : ∀ D h', Fr h₀ L h' m → News h₀ L h' ((D, setO #[] 0 (tb #[] #[] 0 7 (!byText w))) :: news) → (∀ p ∈ news, p.1 < D) →
      wpAny (model prog w) A (eval e env) (fun v s' => wpAny (model prog w) A (setAdd D v) (fun _ s'' => Q (.ref D) s'') E s') E { s with heap := h' }) :
    wpAny (model prog w) A (eval (.Set [e] 0 pos) env) Q E s :=
  display1 (X.keeps F.keep) hc hp (h _ _ (F.push _) (News.push F N _ rfl) fun p hp => Heap.lt_size (N p hp).1)

theorem sz9 {n : Nat} (h : n < 9) : n ≤ sizeLine := Nat.le_trans (Nat.le_of_lt h) (by decide)
theorem setAddK {Q : Bool → Shared → Prop} (F : Fr h₀ L s.heap m) (N : News h₀ L s.heap news) (U : UpdF sa (setO es ep t) news g) (z : StepOk t es k tk es1 t1)
    (h : ∀ h', Fr h₀ L h' m → News h₀ L h' (g (setO es1 (ep + 1) t1)) → Q true { s with heap := h', toks := s.toks + 1 }) : wpAny (model prog w) A (setAdd sa (.int k tk)) Q E s := by
  obtain ⟨ho, up⟩ := upd_ledger F N U
  obtain ⟨wd, hL, ht⟩ := z.lay
  exact setAdd_conc ho z.fits z.ens.elems (Nat.lt_trans z.small.1 (by decide)) z.new hL ht (sz9 z.small.2) (h _ (up _ _).1 (up _ _).2)
theorem addK {Q : Value → Shared → Prop} (F : Fr h₀ L s.heap m) (N : News h₀ L s.heap news) (U : UpdF sa (setO es ep t) news g) (z : StepOk t es k tk es1 t1)
    (h : ∀ h', Fr h₀ L h' m → News h₀ L h' (g (setO es1 (ep + 1) t1)) → Q .none { s with heap := h', toks := s.toks + 1 }) : wpAny (model prog w) A (call (.builtin "set.add") [.ref sa, .int k tk]) Q E s := by
  obtain ⟨ho, up⟩ := upd_ledger F N U
  obtain ⟨wd, hL, ht⟩ := z.lay
  exact add_conc ho z.fits z.ens.elems (Nat.lt_trans z.small.1 (by decide)) z.new hL ht (sz9 z.small.2) (h _ (up _ _).1 (up _ _).2)

theorem setAdd_full {a : Addr} {Q : Bool → Shared → Prop} {es2 : Array (Int × Value)} {t2 : SetTable} {wd : Bool} (ho : s.heap.get? a = some (setO es ep t)) (hf : t.fits es.size = true)
    (hel : ElemsOf (intKind prog w) es.toList) (hb : es.size < scanBound) (hnew : es.toList.findIdx? (fun e => e.2.isInt k) = none)
    (hL : layNew t es (hashInt k) (.int k tk) = (es1, t1, wd, false)) (htf : (!wd && t1.tooFull) = true) (hR : relayAll t1 es1 (SetTable.grown es1.size) = (es2, t2, false)) (hz : es1.size ≤ sizeLine) (hz2 : es2.size ≤ sizeLine)
    (h : Q true { s with heap := (s.heap.update a (Obj.putSet es1 t1)).update a (Obj.putSet es2 t2), toks := s.toks + 1 }) : wpAny (model prog w) A (setAdd a (.int k tk)) Q E s := by
  unfold setAdd
  refine wpAny_holding (wpAny_bind (wpAny_pyHash_int ?_))
  unfold setAddHashed setAddHashedIn
  refine wpAny_holding (wpAny_bind (wpAny_setState_of ho rfl hf ?_))
  dsimp only
  rw [byScan_of (knd := intKind prog w) (x := .int k tk) rfl hb hel, if_pos rfl]
  unfold setAddByScan
  refine wpAny_bind (wpAny_bind (wpAny_rule ?_))
  refine wpAny_bind (wpAny_setScan_of (knd := intKind prog w) (k := k) (s := { s with toks := s.toks + 1 }) (intKind_is _ _ _ _) ho rfl hf hel ?_)
  rw [show es.toList.findIdx? (fun e => (intKind prog w).is k e.2) = none from hnew]
  dsimp only
  rw [hL]
  dsimp only
  refine wpAny_bind (wpAny_pure ?_)
  have e1 : plainKind (Value.int k tk) = true := rfl
  have fin : ∀ (c : Sem (Option Bool)) (R : Option Bool → Shared → Prop), wpAny (model prog w) A c R E { s with heap := s.heap.update a (Obj.putSet es1 t1), toks := s.toks + 1 } →
      wpAny (model prog w) A (storeSet a es1 t1 >>= fun _ => if (!wd && t1.tooFull) = true then c else pure (some true)) R E { s with toks := s.toks + 1 } := fun c R hR => by
    refine wpAny_bind (wpAny_storeSet_of (s := { s with toks := s.toks + 1 }) ho rfl ?_ hz)
    rw [htf]
    exact hR
  split
  · refine wpAny_bind (wpAny_of_eq (hashByValue_scannable 8 rfl) ?_)
    simp only [e1, if_true]
    refine fin _ _ ?_
    rw [hR]
    refine wpAny_bind (wpAny_pure ?_)
    exact wpAny_bind (wpAny_storeSet_of (s := { s with heap := s.heap.update a (Obj.putSet es1 t1), toks := s.toks + 1 }) (get_put ho) rfl (wpAny_pure (wpAny_pure h)) hz2)
  · refine wpAny_bind (wpAny_pure ?_)
    simp only [if_true]
    refine fin _ _ ?_
    rw [hR]
    refine wpAny_bind (wpAny_pure ?_)
    exact wpAny_bind (wpAny_storeSet_of (s := { s with heap := s.heap.update a (Obj.putSet es1 t1), toks := s.toks + 1 }) (get_put ho) rfl (wpAny_pure (wpAny_pure h)) hz2)

theorem addPairK {l : Bool} {t0 t1 : Tok} {Q : Value → Shared → Prop} (F : Fr h₀ L s.heap m) (N : News h₀ L s.heap news) (U : UpdF sa (setO #[en 0 t0] ep (tb #[1] #[0, 2, 4] 2 7 l)) news g)
    (h : ∀ h', Fr h₀ L h' m → News h₀ L h' (g (setO #[en 0 t0, en 1 t1] (ep + 1 + 1) (tp #[0, 1] #[] 2 l))) → Q .none { s with heap := h', toks := s.toks + 1 }) : wpAny (model prog w) A (call (.builtin "set.add") [.ref sa, .int 1 t1]) Q E s := by
  obtain ⟨pre, post, rfl, hg, a1, b1⟩ := U.split
  have hm := N _ (List.mem_append_right _ (.head _))
  refine wpAny_call_entry PySem.F.slot_set_add ⟨_, hm.1, rfl⟩ PySem.F.entry_set_add ?_ (PySem.F.args_set_add_2 _ _)
  unfold Builtin.«set.add» Builtin.Frozenset.oneOther
  simp only [List.isEmpty_nil]
  unfold Builtin.Frozenset.addrOf
  refine wpAny_bind (wpAny_bind (wpAny_pure (wpAny_pure ?_)))
  try dsimp only
  refine wpAny_bind (setAdd_full hm.1 (by kernel_rfl) (Ens.elems (.cons 0 t0 (by kernel_rfl) .nil)) (Nat.lt_trans (show 1 < 9 by decide) (by decide)) (by kernel_rfl) layP (by kernel_rfl) relP (sz9 (Nat.le_of_ble_eq_true rfl)) (sz9 (Nat.le_of_ble_eq_true rfl)) ?_)
  refine wpAny_pure ⟨_, rfl, ?_⟩
  have hsb := (Heap.SameBut.update s.heap sa (Obj.putSet #[en 0 t0, en 1 t1] (tb #[1, 6] #[0, 2, 4] 2 7 l))).trans (Heap.SameBut.update _ sa (Obj.putSet #[en 0 t0, en 1 t1] (tp #[0, 1] #[] 2 l)))
  exact h _ (F.change hsb hm.2.1 hm.2.2) (hg _ ▸ N.setIn a1 b1 hsb (get_put (get_put hm.1)))

theorem popK1 {e : Int × Value} {Q : Value → Shared → Prop} (F : Fr h₀ L s.heap m) (N : News h₀ L s.heap news) (U : UpdF sa (setO #[e] ep t) news g) (hf : t.fits 1 = true) (ht : t.popped 0 = t1)
    (h : ∀ d h', Fr h₀ L h' m → News h₀ L h' (g (setO #[] (ep + 1) t1)) → Q e.2 { s with drawn := d, heap := h' }) : wpAny (model prog w) A (call (.builtin "set.pop") [.ref sa]) Q E s := by
  obtain ⟨ho, up⟩ := upd_ledger F N U
  refine pop_any ho hf (Nat.zero_lt_one) (sz9 (Nat.le_of_ble_eq_true rfl)) (.inl (Nat.le_refl _)) fun i d x hx => ?_
  have hi : i = 0 := by
    have := (Array.getElem?_eq_some_iff.mp hx).1
    simp at this; exact this
  subst hi
  obtain rfl : e = x := by simpa using hx
  rw [ht]
  exact h d _ (up _ _).1 (up _ _).2
theorem popK2 {e1 e2 : Int × Value} {ta tb' : SetTable} {Q : Value → Shared → Prop} (F : Fr h₀ L s.heap m) (N : News h₀ L s.heap news) (U : UpdF sa (setO #[e1, e2] ep t) news g) (hf : t.fits 2 = true) (hl : t.led = true ∨ byText w = true) (ha : t.popped 0 = ta) (hb : t.popped 1 = tb')
    (h1 : ∀ d h', Fr h₀ L h' m → News h₀ L h' (g (setO #[e2] (ep + 1) ta)) → Q e1.2 { s with drawn := d, heap := h' })
    (h2 : ∀ d h', Fr h₀ L h' m → News h₀ L h' (g (setO #[e1] (ep + 1) tb')) → Q e2.2 { s with drawn := d, heap := h' }) : wpAny (model prog w) A (call (.builtin "set.pop") [.ref sa]) Q E s := by
  obtain ⟨ho, up⟩ := upd_ledger F N U
  refine pop_any ho hf (Nat.zero_lt_succ _) (sz9 (Nat.le_of_ble_eq_true rfl)) (.inr hl) fun i d x hx => ?_
  have hi : i = 0 ∨ i = 1 := by
    have := (Array.getElem?_eq_some_iff.mp hx).1
    simp at this; omega
  rcases hi with rfl | rfl
  · obtain rfl : e1 = x := by simpa using hx
    rw [ha]
    exact h1 d _ (up _ _).1 (up _ _).2
  · obtain rfl : e2 = x := by simpa using hx
    rw [hb]
    exact h2 d _ (up _ _).1 (up _ _).2
theorem truthyK {Q : Bool → Shared → Prop} (N : News h₀ L s.heap news) (hm : (sa, setO es ep t) ∈ news) (hf : t.fits es.size = true) (hs : es.size < 9) (h : Q ((es.size : Int) != 0) { s with toks := s.toks + 1 + 1 }) : wpAny (model prog w) A (truthy (.ref sa)) Q E s :=
  truthy_set (N _ hm).1 hf (by omega) h
theorem inK {Q : Value → Shared → Prop} (N : News h₀ L s.heap news) (hm : (sa, setO es ep t) ∈ news) (hf : t.fits es.size = true) (hs : es.size < 9) (he : Ens es.toList) (h : Q (.bool (es.toList.any fun e => e.2.isInt k)) { s with toks := s.toks + 1 }) :
    wpAny (model prog w) A (compareOp .In (.int k tk) (.ref sa)) Q E s :=
  wpAny_inSet_of (knd := intKind prog w) (k := k) (S := fun k => es.toList.any fun e => e.2.isInt k) (intKind_is _ _ _ _) rfl ⟨_, es, ep, t, (N _ hm).1, ⟨rfl, rfl, rfl⟩, rfl, he.elems, fun k => List.any_eq_true, Nat.lt_trans hs (by decide), hf, rfl⟩ h

theorem sort_head {D : Addr} {vs : List Value} {ns : List Int} {n : Nat} {Q : Value → Shared → Prop} (F : Fr h₀ L s.heap m) (N : News h₀ L s.heap ((D, listOf vs.toArray n) :: news)) (l1 : ∀ q ∈ news, q.1 < D) (hi : IntsAre vs ns) (h64 : vs.length < 64)
    (h : ∀ h' (out : Array Value) ns' n', Fr h₀ L h' m → News h₀ L h' ((D, listOf out n') :: news) → IntsAre out.toList ns' → ns'.Perm ns → ns'.Pairwise (· ≤ ·) → Q .none { s with heap := h' }) :
    wpAny (model prog w) A (call (.builtin "list.sort") [.ref D]) Q E s := by
  have z := N _ (.head _)
  refine wpAny_call_entry PyProof.Rows.slot_list_sort ⟨_, z.1, rfl⟩ PyProof.Rows.entry_list_sort (list_sort_tree (n := n) (vs := vs) z.1 hi h64 fun out ns' hI hp hP => ⟨.none, rfl, ?_⟩) (PyProof.Rows.args_list_sort _)
  obtain ⟨e, he⟩ := sortedHeap_at (out := out) z.1
  have old : ∀ b o, b ≠ D → s.heap.get? b = some o → (sortedHeap s.heap D vs out).get? b = some o := fun b o hb ho => (sortedHeap_old hb (Heap.lt_size ho)).trans ho
  obtain ⟨oL, x1, x2, hoL, x3⟩ := F.ns
  refine h _ out ns' e ⟨⟨oL, x1, x2, old L oL (Ne.symm z.2.1) hoL, x3⟩, fun b o ho => old b o (fun q => ?_) (F.keep b o ho), F.above⟩ (fun p hp => ?_) hI hp hP
  · rw [q] at ho
    exact absurd (ho.symm.trans z.2.2) (by simp)
  · rcases List.mem_cons.mp hp with rfl | hp
    · exact ⟨he, z.2⟩
    · have y := N p (.tail _ hp)
      exact ⟨old _ _ (Nat.ne_of_lt (l1 p hp)) y.1, y.2⟩

theorem sorted_need {l : Bool} {t0 t1 t2 t4 : Tok} {Q : Value → Shared → Prop} (hh : A.handled = none) (F : Fr h₀ L s.heap m) (N : News h₀ L s.heap news) (hm : (sa, setO #[en 0 t0, en 1 t1, en 2 t2, en 4 t4] ep (tb #[0, 1, 2, 4] #[] 0 7 l)) ∈ news) (hl : l = true ∨ byText w = true)
    (h : ∀ D h' tk n' a b c d, Fr h₀ L h' m → News h₀ L h' ((D, listOf #[.int 0 a, .int 1 b, .int 2 c, .int 4 d] n') :: news) → (∀ q ∈ news, q.1 < D) → Q (.ref D) { s with heap := h', toks := tk }) :
    wpAny (model prog w) A (call (.builtin "sorted") [.ref sa]) Q E s := by
  refine kdu_sorted (kdl_set (t := tb #[0, 1, 2, 4] #[] 0 7 l) (es := #[en 0 t0, en 1 t1, en 2 t2, en 4 t4]) (ep := ep) (by kernel_rfl) rfl hl slotsN) hh F N (N _ hm).1 (sz9 (Nat.le_of_ble_eq_true rfl)) fun D h' tk vs F' N' l1 hl2 hv => ?_
  have hvs : vs = (setOut w sa ep #[en 0 t0, en 1 t1, en 2 t2, en 4 t4]).toList.map (·.2) := by
    refine List.ext_getElem? fun j => ?_
    by_cases hj : j < vs.length
    · obtain ⟨x, hx, e⟩ := hv j vs[j] (List.getElem?_eq_getElem hj)
      have hx' : (setOut w sa ep #[en 0 t0, en 1 t1, en 2 t2, en 4 t4]).toList[j]? = some x := Array.getElem?_toList.trans hx
      rw [List.getElem?_map, hx', List.getElem?_eq_getElem hj, e]; rfl
    · rw [List.getElem?_eq_none (by omega), List.getElem?_eq_none]
      rw [List.length_map, Array.length_toList, setOut_size]
      show 4 ≤ j
      have : vs.length = 4 := hl2
      omega
  have hp : vs.Perm [.int 0 t0, .int 1 t1, .int 2 t2, .int 4 t4] := hvs ▸ (setOut_perm (w := w) (a := sa) (ep := ep)).map (·.2)
  have gen : ∀ {us ws : List Value}, us.Perm ws → ∀ {ns}, IntsAre ws ns → ∃ ms, IntsAre us ms ∧ ms.Perm ns := by
    intro us ws hp
    induction hp with
    | nil => exact fun h => ⟨_, h, .refl _⟩
    | cons x _ ih =>
      intro ns h
      cases h with
      | cons n t r => obtain ⟨ms, h1, h2⟩ := ih r; exact ⟨_, .cons n t h1, h2.cons n⟩
    | swap x y r =>
      intro ns h
      cases h with
      | cons n t r => cases r with
        | cons n' t' r => exact ⟨_, .cons _ _ (.cons _ _ r), .swap _ _ _⟩
    | trans _ _ i1 i2 =>
      intro ns h
      obtain ⟨ms, h1, h2⟩ := i2 h
      obtain ⟨ms', h3, h4⟩ := i1 h1
      exact ⟨ms', h3, h4.trans h2⟩
  obtain ⟨ms, hI, hpm⟩ := gen hp (.cons 0 t0 (.cons 1 t1 (.cons 2 t2 (.cons 4 t4 .nil))))
  refine sort_head F' N' l1 hI (by rw [hp.length_eq]; exact Nat.le_of_ble_eq_true rfl) fun h2 out ns' n' F2 N2 hI2 hp2 hs2 => ?_
  have e : ns' = [0, 1, 2, 4] := lks_uniq (hp2.trans hpm) hs2 (by decide)
  subst e
  obtain ⟨o⟩ := out
  simp only at hI2
  cases hI2 with
  | cons _ a r => cases r with
    | cons _ b r => cases r with
      | cons _ c r => cases r with
        | cons _ d r => cases r with
          | nil => exact h D h2 tk n' a b c d F2 N2 l1
end
end Mine
end

namespace Mine
theorem freshIt : True ∧ True := by
  k_with_none
  w_top off
  first | (walk1; all_goals exact trivial) | exact ⟨trivial, trivial⟩
end Mine
section
open PySem PySem.W PyProof.Rows
set_option Elab.async false
set_option maxRecDepth 100000
namespace Mine
open PySem.Calls PySem.Spec

noncomputable abbrev liO (l : Addr) (i : Nat) : Obj := { cls := .type "list_iterator", data := .fields #[.ref l, .int i 0] }
section
variable {prog : Program} {w : World} {A : Around} {E : Value → Shared → Prop} {s : Shared} {h₀ : Heap} {L l it : Addr} {m : Str → Option Value} {news : List (Addr × Obj)} {g : Obj → List (Addr × Obj)} {its : Array Value} {n i : Nat}

theorem iterK {Q : Value → Shared → Prop} (F : Fr h₀ L s.heap m) (N : News h₀ L s.heap news) (hp : (l, listOf its n) ∈ news)
    (h : ∀ I h', Fr h₀ L h' m → News h₀ L h' ((I, liO l 0) :: news) → (∀ p ∈ news, p.1 < I) → Q (.ref I) { s with heap := h' }) : wpAny (model prog w) A (call (.builtin "iter") [.ref l]) Q E s := by
  refine call_function_entry (by decide +kernel) (by decide +kernel) kdk_entry_iter (kdk_args_iter _) ?_
  unfold Builtin.«iter»
  refine wpAny_bind (m := someArgs "iter" 1 2 _) (wpAny_of_eq (a := [Value.ref l]) (by first | rfl | kernel_rfl!) ?_)
  show wpAny _ _ (pyIter (.ref l) >>= _) _ _ _
  refine wpAny_bind (wpAny_pyIter_list (News.isList N hp) ?_)
  exact wpAny_pure ⟨_, rfl, h _ _ (F.push _) (News.push F N _ rfl) fun q hq => Heap.lt_size (N q hq).1⟩

theorem nextK {x : Value} {Q : Value → Shared → Prop} (F : Fr h₀ L s.heap m) (N : News h₀ L s.heap news) (U : UpdF it (liO l i) news g) (hp : (l, listOf its n) ∈ news) (hx : its[i]? = some x)
    (h : ∀ h', Fr h₀ L h' m → News h₀ L h' (g (liO l (i + 1))) → Q x { s with heap := h' }) : wpAny (model prog w) A (call (.builtin "next") [.ref it]) Q E s := by
  obtain ⟨pre, post, rfl, hg, a, b⟩ := U.split
  have hm := N (it, liO l i) (List.mem_append_right _ (.head _))
  have hit : s.heap.IsListIter it l i := ⟨_, hm.1, rfl, rfl⟩
  obtain ⟨ol, hol, hcl, nl, hdl⟩ := News.isList N hp
  refine call_function_entry (by decide +kernel) (by decide +kernel) kdk_entry_next (kdk_args_next _) ?_
  unfold Builtin.«next»
  refine wpAny_bind (m := someArgs "next" 1 2 _) (wpAny_of_eq (a := [Value.ref it]) (by first | rfl | kernel_rfl!) ?_)
  dsimp only
  refine wpAny_bind (wpAny_specialOf (name := Str.ofString "__next__") hit.typeIs slot_listiter_next.lookup ?_)
  refine wpAny_ite_split (fun hab => absurd hab (by decide)) (fun _ => ?_)
  refine wpAny_bind (wpAny_callSpecial?_slot (name := Str.ofString "__next__") hit.typeIs slot_listiter_next
    (wpAny_call_entry slot_listiter_next hit.typeIs entry_listiter_next ?_ (args_listiter_next _)))
  show wpAny _ _ (field (.ref it) 0 >>= _) _ _ s
  refine wpAny_bind (wpAny_field hm.1 rfl (x := .ref l) rfl ?_)
  show wpAny _ _ (if (Value.ref l == Value.none) = true then _ else _) _ _ s
  rw [if_neg (show ¬ ((Value.ref l == Value.none) = true) from Bool.false_ne_true)]
  show wpAny _ _ (field (.ref it) 1 >>= _) _ _ s
  refine wpAny_bind (wpAny_field hm.1 rfl (x := .int i 0) rfl ?_)
  show wpAny _ _ (seqItems? (.ref l) >>= _) _ _ s
  refine wpAny_bind (wpAny_seqItems hol hdl ?_)
  simp only [Int.toNat_natCast, hx]
  have h1 := Heap.get?_update_self (Obj.mapFields (·.setIfInBounds 1 (rawInt ((i : Int) + 1)))) hm.1 rfl
  have hs := Heap.SameBut.update s.heap it (Obj.mapFields (·.setIfInBounds 1 (rawInt ((i : Int) + 1))))
  refine wpAny_bind (wpAny_setField hm.1 rfl (by simp) (wpAny_pure ⟨x, rfl, wpAny_pure ⟨x, rfl, h _ (F.change hs hm.2.1 hm.2.2) (hg _ ▸ N.setIn a b hs ?_)⟩⟩))
  exact h1

/-- a for over a list iterator that has given k items -/
theorem iterIt {target : Expr} {body : List Stmt} {env : Env} {Q : Flow → Shared → Prop} {m₀ : Str → Option Value} {news₀ : List (Addr × Obj)} {k nl : Nat} (Inv : Nat → (Str → Option Value) → List (Addr × Obj) → Prop)
    (hh : A.handled = none) (hS : (l, listOf its nl) ∈ news₀) (F : Fr h₀ L s.heap m₀) (N : News h₀ L s.heap ((it, liO l k) :: news₀)) (off : ∀ p ∈ news₀, p.1 ≠ it) (hk : k ≤ its.size) (h0 : Inv 0 m₀ news₀)
    (turn : ∀ i v m news h tk oI, k + i < its.size → its[k + i]? = some v → Inv i m news → (l, listOf its nl) ∈ news → (∀ p ∈ news, p.1 ≠ it) → Fr h₀ L h m → News h₀ L h ((it, oI) :: news) →
      wpAny (model prog w) A (assign target env v) (fun _ s₂ => wpAny (model prog w) A (execs body env) (TurnPost h₀ L [(it, oI)] (fun nw => (l, listOf its nl) ∈ nw) (Inv (i + 1)) s Q) (fun _ _ => False) s₂) (fun _ _ => False) { s with heap := h, toks := tk })
    (fin : ∀ m news h tk, Inv (its.size - k) m news → Fr h₀ L h m → News h₀ L h news → Q .next { s with heap := h, toks := tk })
    (ht : ∀ it v, letOwnedTupleGo target it v = pure ()) :
    wpAny (model prog w) A (pyIter (.ref it)) (fun it s₂ => codeAny (model prog w) A (.forLoop target it body [] env) (fun r s' => match r with | .ok f => Q f s' | .error e => cameBackBy (model prog w) A env E e s') s₂) E s := by
  have hI := N _ (.head _)
  have N₀ : News h₀ L s.heap news₀ := fun p hp => N p (.tail _ hp)
  have hne : l ≠ it := off _ hS
  have W0 := Walks.list (prog := prog) (w := w) (A := A) hh it l hne its
  refine wpAny_pyIter_listiter (l := l) (i := k) ⟨_, hI.1, rfl, rfl⟩ ?_
  refine for_W (I := it) (fp := [it, l]) (n := its.size - k) (P := fun i v => its[k + i]? = some v) (St := fun i h => h.IsListIter it l (k + i) ∧ h.IsList l its) (S := fun nw => (l, listOf its nl) ∈ nw)
    ⟨W0.sub, fun i h h' st hk' => W0.frame (k + i) h h' st hk', fun i s' Q' E' hi st hQ => W0.item (k + i) s' Q' E' (by omega) st hQ, fun s' Q' E' st hQ => W0.done s' Q' E' (by rw [show k + (its.size - k) = its.size by omega] at st; exact st) hQ, fun i s' Q' E' st hQ => W0.self (k + i) s' Q' E' st hQ⟩
    (fun i h st => by obtain ⟨o, e, _⟩ := st.1; exact ⟨o, e⟩) ?_ ⟨⟨_, hI.1, rfl, rfl⟩, News.isList N₀ hS⟩ F N₀ (Ne.symm hI.2.1) hI.2.2 off hS Inv h0 ?_ fin (fun _ _ _ _ _ _ _ hQ => wpAny_of_eq (ht _ _) hQ)
  · intro i h h' o nw st e e' _ N' hS'
    obtain ⟨⟨o1, e1, r⟩, _⟩ := st
    rw [e] at e1; cases e1
    exact ⟨⟨o, e', r⟩, News.isList N' hS'⟩
  · intro i v m news h tk oI hi hP hJ hS' off' F' N'
    exact turn i v m news h tk oI (by omega) hP hJ hS' off' F' N'
end
end Mine
end

namespace Mine
theorem freshP1 : True ∧ True := by
  k_with_none
  w_top off
  first | (walk1; all_goals exact trivial) | exact ⟨trivial, trivial⟩
end Mine
section
open PySem PySem.W PyProof.Rows
set_option Elab.async false
set_option maxRecDepth 100000
set_option maxHeartbeats 4000000
namespace Mine
open PySem.Calls PySem.Spec PySem.Flt
theorem led_ok {w : World} : (!byText w) = true ∨ byText w = true := by cases byText w <;> simp
section
variable {prog : Program} {w : World} {A : Around} {E : Value → Shared → Prop} {s : Shared} {h₀ : Heap} {L sa : Addr} {news : List (Addr × Obj)} {es : Array (Int × Value)} {ep : Nat} {t : SetTable}
theorem truthyK0 {Q : Bool → Shared → Prop} (N : News h₀ L s.heap news) (hm : (sa, setO #[] ep t) ∈ news) (hf : t.fits 0 = true) (h : Q false { s with toks := s.toks + 1 + 1 }) : wpAny (model prog w) A (truthy (.ref sa)) Q E s :=
  truthyK (es := #[]) N hm hf (Nat.le_of_ble_eq_true rfl) h
theorem truthyK1 {Q : Bool → Shared → Prop} (N : News h₀ L s.heap news) (hm : (sa, setO es ep t) ∈ news) (hf : t.fits es.size = true) (hs : es.size < 9) (hb : ((es.size : Int) != 0) = true) (h : Q true { s with toks := s.toks + 1 + 1 }) : wpAny (model prog w) A (truthy (.ref sa)) Q E s :=
  truthyK N hm hf hs (hb ▸ h)
theorem inKt {k : Int} {tk : Tok} {Q : Value → Shared → Prop} (N : News h₀ L s.heap news) (hm : (sa, setO es ep t) ∈ news) (hf : t.fits es.size = true) (hs : es.size < 9) (he : Ens es.toList) (hb : (es.toList.any fun e => e.2.isInt k) = true) (h : Q (.bool true) { s with toks := s.toks + 1 }) :
    wpAny (model prog w) A (compareOp .In (.int k tk) (.ref sa)) Q E s := inK N hm hf hs he (hb ▸ h)
theorem inKf {k : Int} {tk : Tok} {Q : Value → Shared → Prop} (N : News h₀ L s.heap news) (hm : (sa, setO es ep t) ∈ news) (hf : t.fits es.size = true) (hs : es.size < 9) (he : Ens es.toList) (hb : (es.toList.any fun e => e.2.isInt k) = false) (h : Q (.bool false) { s with toks := s.toks + 1 }) :
    wpAny (model prog w) A (compareOp .In (.int k tk) (.ref sa)) Q E s := inK N hm hf hs he (hb ▸ h)
theorem methAddK {pl : Sem Bool} {Q : Value × List Value → Shared → Prop} (N : News h₀ L s.heap news) (hm : (sa, setO es ep t) ∈ news) (h : Q (.builtin "set.add", [.ref sa]) s) : wpAny (model prog w) A (getMethod (.ref sa) "add" pl) Q E s :=
  getMethod_builtin (s := s) ⟨_, (N _ hm).1, rfl⟩ F.plainAttrs_set F.slot_set_add F.type_set_add (fun b e => by injection e with e; subst e; exact ⟨_, (N _ hm).1, rfl⟩) h
theorem methPopK {pl : Sem Bool} {Q : Value × List Value → Shared → Prop} (N : News h₀ L s.heap news) (hm : (sa, setO es ep t) ∈ news) (h : Q (.builtin "set.pop", [.ref sa]) s) : wpAny (model prog w) A (getMethod (.ref sa) "pop" pl) Q E s :=
  getMethod_pop (N _ hm).1 h
end
theorem nx0 {a b c d : Value} : (#[a, b, c, d] : Array Value)[0]? = some a := rfl
structure Shr (a n r : Int) : Prop where
  ok : 0 ≤ n
  eq : a.fdiv (2 ^ n.toNat) = r
structure Mul (a b r : Int) : Prop where
  ok : IntMulOk a b
  eq : a * b = r
theorem sh8 : Shr 8 1 4 := ⟨by decide, by decide⟩
theorem sh4 : Shr 4 1 2 := ⟨by decide, by decide⟩
theorem sh2 : Shr 2 1 1 := ⟨by decide, by decide⟩
theorem sh1 : Shr 1 1 0 := ⟨by decide, by decide⟩
theorem ad0 : (0 : Int) + 1 = 1 := by decide
theorem su1 : (1 : Int) - 1 = 0 := by decide
theorem su2 : (2 : Int) - 1 = 1 := by decide
theorem su4 : (4 : Int) - 1 = 3 := by decide
theorem su42 : (4 : Int) - 2 = 2 := by decide
theorem su21 : (2 : Int) - 1 = 1 := by decide
theorem po0 : (64 : Int) ^ (0 : Int).toNat = 1 := by decide
theorem mu1 : Mul 1 64 64 := ⟨by mul_fits, by decide⟩
theorem mu2 : Mul 64 64 4096 := ⟨by mul_fits, by decide⟩
theorem mu3 : Mul 4096 4096 16777216 := ⟨by mul_fits, by decide⟩
section
variable {prog : Program} {w : World} {A : Around} {E : Value → Shared → Prop} {s : Shared} {a b r : Int} {t u : Tok} {Q : Value → Shared → Prop}
theorem shr_lit (e : Shr a b r) (h : Q (.int r s.toks) { s with toks := s.toks + 1 }) : wpAny (model prog w) A (binaryOp .RShift (.int a t) (.int b u)) Q E s := rshift_int e.ok (by rw [e.eq]; exact h)
theorem add_lit (e : a + b = r) (h : Q (.int r s.toks) { s with toks := s.toks + 1 }) : wpAny (model prog w) A (binaryOp .Add (.int a t) (.int b u)) Q E s := add_int (by rw [e]; exact h)
theorem sub_lit (e : a - b = r) (h : Q (.int r s.toks) { s with toks := s.toks + 1 }) : wpAny (model prog w) A (binaryOp .Sub (.int a t) (.int b u)) Q E s := sub_int (by rw [e]; exact h)
theorem pow_lit (e : (64 : Int) ^ (0 : Int).toNat = r) (h : Q (.int r s.toks) { s with toks := s.toks + 1 }) : wpAny (model prog w) A (binaryOp .Pow (.int 64 t) (.int 0 u)) Q E s := pow_int_small (by decide) (by decide) (by decide) (by rw [e]; exact h)
theorem mul_lit (e : Mul a b r) (h : Q (.int r s.toks) { s with toks := s.toks + 1 }) : wpAny (model prog w) A (binaryOp .Mult (.int a t) (.int b u)) Q E s := mul_int (by rw [e.eq]; exact h) e.ok
end
theorem wordsP10 : True := by
  k_with_none
  (k_with "m call type:set nil nil" => (k_here; k_dflt (refine newK (by k_asm) (by k_asm) ?_); intro d' h' F' N' l1; (try k_lt l1)))
  (k_with "m eval Set" => (k_here; k_dflt (refine' dispK ?zkF ?zkN ?zkX ?zkc ?zkp ?_; (case zkF => k_asm); (case zkN => k_asm); (case zkX => k_asm); (case zkc => first | k_is | kernel_rfl!); (case zkp => rfl)); intro d' h' F' N' l1; (try k_lt l1)))
  (k_with "m setAdd int" => (k_here; k_dflt (refine' setAddK ?zkF ?zkN ?zkU ?zkz ?_; (case zkF => k_asm); (case zkN => k_asm); (case zkU => k_updF); (case zkz => with_reducible exact stA8)); intro h' F' N'; (try dsimp only at N')))
  (k_with "m truthy ref" => (k_here; k_dflt (first | (refine' truthyK0 ?zkN ?zkm ?zkf ?_; (case zkN => k_asm); (case zkm => k_mem); (case zkf => kernel_rfl)) | (refine' truthyK1 ?zkN ?zkm ?zkf ?zkz ?zkb ?_; (case zkN => k_asm); (case zkm => k_mem); (case zkf => kernel_rfl); (case zkz => exact Nat.le_of_ble_eq_true rfl); (case zkb => kernel_rfl)))))
  (k_with "m compareOp In int ref" => (k_here; k_dflt (first | (refine' inKt ?zkN ?zkm ?zkf ?zkz ?zke ?zkb ?_; (case zkN => k_asm); (case zkm => k_mem); (case zkf => kernel_rfl); (case zkz => exact Nat.le_of_ble_eq_true rfl); (case zke => repeat (first | exact Ens.nil | refine Ens.cons _ _ (by kernel_rfl) ?_)); (case zkb => exact Eq.trans (b := true) (by with_unfolding_all rfl) rfl)) | (refine' inKf ?zkN ?zkm ?zkf ?zkz ?zke ?zkb ?_; (case zkN => k_asm); (case zkm => k_mem); (case zkf => kernel_rfl); (case zkz => exact Nat.le_of_ble_eq_true rfl); (case zke => repeat (first | exact Ens.nil | refine Ens.cons _ _ (by kernel_rfl) ?_)); (case zkb => kernel_rfl)))))
  (k_with "m getMethod ref" => (k_here; first | (with_reducible show wpAny _ _ (getMethod (Value.ref _) (PySem.Str.ofString "add") _) _ _ _; k_dflt (refine' methAddK ?zkN ?zkm ?_; (case zkN => k_asm); (case zkm => k_mem))) | (with_reducible show wpAny _ _ (getMethod (Value.ref _) (PySem.Str.ofString "pop") _) _ _ _; k_dflt (refine' methPopK ?zkN ?zkm ?_; (case zkN => k_asm); (case zkm => k_mem)))))
  (k_with "m call builtin:set.add" => (k_here; first | (k_dflt (refine' addK ?zkF ?zkN ?zkU ?zkz ?_; (case zkF => k_asm); (case zkN => k_asm); (case zkU => k_updF); (case zkz => with_reducible first | exact stA8 | exact stW4 | exact stW2 | exact stW1 | exact stW0 | exact stS4 | exact stS2 | exact stS1 | exact stN4 | exact stN2 | exact stN1 | exact stN0)); intro h' F' N') | (k_dflt (refine' addPairK ?zkF ?zkN ?zkU ?_; (case zkF => k_asm); (case zkN => k_asm); (case zkU => k_updF)); intro h' F' N'); (try dsimp only at N')))
  (k_with "m call builtin:set.pop" => (k_here; first | (k_dflt (refine' popK1 ?zkF ?zkN ?zkU ?zkf ?zkt ?_; (case zkF => k_asm); (case zkN => k_asm); (case zkU => k_updF); (case zkf => kernel_rfl); (case zkt => with_reducible first | exact ppW8 | exact ppW4 | exact ppW2 | exact ppW1 | exact ppQ0 | exact ppQ1)); intro dr' h' F' N') | (k_dflt (refine' popK2 ?zkF ?zkN ?zkU ?zkf ?zkl ?zkta ?zktb ?_ ?_; (case zkF => k_asm); (case zkN => k_asm); (case zkU => k_updF); (case zkf => kernel_rfl); (case zkl => exact led_ok); (case zkta => exact ppP0); (case zktb => exact ppP1)) <;> intro dr' h' F' N'); (try dsimp only at N')))
  (k_with "m call builtin:sorted" => (k_here; k_dflt (refine' sorted_need ?zkhh ?zkF ?zkN ?zkm ?zkl ?_; (case zkhh => rfl); (case zkF => k_asm); (case zkN => k_asm); (case zkm => k_mem); (case zkl => exact led_ok)); intro d' h' tk' n' a' b' c' e' F' N' l1; (try k_lt l1)))
  (k_with "m binaryOp RShift int int" => (k_here; with_reducible refine shr_lit (by first | exact sh8 | exact sh4 | exact sh2 | exact sh1) ?_))
  (k_with "m binaryOp Add int int" => (k_here; with_reducible refine add_lit (by first | exact ad0) ?_))
  (k_with "m binaryOp Sub int int" => (k_here; with_reducible refine sub_lit (by first | exact su1 | exact su2 | exact su4 | exact su42 | exact su21) ?_))
  (k_with "m binaryOp Pow int int" => (k_here; with_reducible refine pow_lit (by first | exact po0) ?_))
  (k_with "m binaryOp Mult int int" => (k_here; with_reducible refine mul_lit (by first | exact mu1 | exact mu2 | exact mu3) ?_))
  (k_with "m exec While" => refine Hold.mk' ?_)
  (k_with "m exec For Name Name cons nil" => refine Hold.mk' ?_)
  (k_with "m pyIter ref" => refine Hold.mk' ?_)
  (k_with "m call builtin:iter" => (k_here; k_dflt (refine' iterK ?zkF ?zkN ?zkm ?_; (case zkF => k_asm); (case zkN => k_asm); (case zkm => k_mem)); intro d' h' F' N' l1; (try k_lt l1)))
  (k_with "m call builtin:next" => (k_here; k_dflt (refine' nextK ?zkF ?zkN ?zkU ?zkm ?zkx ?_; (case zkF => k_asm); (case zkN => k_asm); (case zkU => k_updF); (case zkm => k_mem); (case zkx => exact nx0)); intro h' F' N'; (try dsimp only at N')))
  trivial
noncomputable def PowPost (g : Heap) (L' : Addr) (t1 : Tok) (l : Bool) (s : Shared) (fl : Flow) (s' : Shared) : Prop :=
  fl = .next ∧ ∃ h' tk d' m' nd ep a0 a1 a2 a4, s' = { s with heap := h', toks := tk, drawn := d' } ∧ Fr g L' h' m' ∧ News g L' h' [(nd, setO #[en 0 a0, en 1 a1, en 2 a2, en 4 a4] ep (tb #[0, 1, 2, 4] #[] 0 7 l))] ∧
    m' "base" = some (.int 64 t1) ∧ m' "show" = some (.bool false) ∧ m' "need" = some (.ref nd)
theorem PowPost.intro {g h' : Heap} {L' w1 nd sn : Addr} {o1 o3 : Obj} {t1 : Tok} {l : Bool} {s : Shared} {tk : Nat} {d' : Drawn} {m' : Str → Option Value} {ep : Nat} {a0 a1 a2 a4 : Tok} (F : Fr g L' h' m')
   (N : News g L' h' [(w1, o1), (nd, setO #[en 0 a0, en 1 a1, en 2 a2, en 4 a4] ep (tb #[0, 1, 2, 4] #[] 0 7 l)), (sn, o3)]) (h1 : m' "base" = some (.int 64 t1)) (h2 : m' "show" = some (.bool false)) (h3 : m' "need" = some (.ref nd)) :
   PowPost g L' t1 l s .next { s with heap := h', toks := tk, drawn := d' } :=
  ⟨rfl, h', tk, d', m', nd, ep, a0, a1, a2, a4, rfl, F, fun p hp => N p (by rw [List.mem_singleton.mp hp]; exact .tail _ (.head _)), h1, h2, h3⟩
noncomputable def tabI (i : Nat) : List (PyData × PyData) := [(.int 0, .int 1), (.int 1, .int 64), (.int 2, .int 4096), (.int 4, .int 16777216)].take (i + 1)
noncomputable def PowInv (prog : Program) (w : World) (l it : Addr) (its : Array Value) (nl : Nat) (t1 : Tok) (i : Nat) (m : Str → Option Value) (news : List (Addr × Obj)) : Prop :=
  ∃ D o kvs, news = [(D, o), (l, listOf its nl)] ∧ (D == sysModules) = false ∧ o.IsDictOf (intKind prog w) kvs ∧ PyProof.V.FlatPairs PyData.int kvs (tabI i) ∧ @Ne Nat D l ∧ @Ne Nat D it ∧ @Ne Nat l it ∧ m "base" = some (.int 64 t1) ∧ m "show" = some (.bool false) ∧ m "d" = some (.ref D)

theorem pickP {g h : Heap} {L it l D nd : Addr} {k n : Nat} {its : Array Value} {o o2 : Obj} (N : News g L h [(it, liO l k), (l, listOf its n), (D, o), (nd, o2)]) : News g L h [(it, liO l k), (D, o), (l, listOf its n)] := fun p hp => N p (by
  simp only [List.mem_cons, List.not_mem_nil, or_false] at hp ⊢
  rcases hp with h | h | h <;> simp [h])
theorem offP {g h : Heap} {L it l D nd : Addr} {k n : Nat} {its : Array Value} {o o2 : Obj} (_N : News g L h [(it, liO l k), (l, listOf its n), (D, o), (nd, o2)]) (h1 : l < it ∧ D < it ∧ nd < it) (h2 : D < l ∧ nd < l) : @Ne Nat D l ∧ @Ne Nat D it ∧ @Ne Nat l it :=
  ⟨Nat.ne_of_lt h2.1, Nat.ne_of_lt h1.2.1, Nat.ne_of_lt h1.1⟩
theorem offP2 {it l D : Addr} {o o2 : Obj} (h : @Ne Nat D l ∧ @Ne Nat D it ∧ @Ne Nat l it) : ∀ p ∈ [(D, o), (l, o2)], p.1 ≠ it := fun p hp => by
  simp only [List.mem_cons, List.not_mem_nil, or_false] at hp
  rcases hp with rfl | rfl
  · exact h.2.1
  · exact h.2.2
theorem nx1 {a b c d : Value} : (#[a, b, c, d] : Array Value)[1 + 0]? = some b := rfl
theorem nx2 {a b c d : Value} : (#[a, b, c, d] : Array Value)[1 + 1]? = some c := rfl
theorem nx3 {a b c d : Value} : (#[a, b, c, d] : Array Value)[1 + 2]? = some d := rfl
theorem turnP {prog : Program} {w : World} {s₁ : Shared} {g h' : Heap} {L D l it : Addr} {m' : Str → Option Value} {o oI : Obj} {kvs : List (Int × Value)} {its : Array Value} {nl i tk : Nat} {t1 : Tok}
   (F : Fr g L h' m') (N : News g L h' [(it, oI), (D, o), (l, listOf its nl)]) (lo : (D == sysModules) = false) (hdo : o.IsDictOf (intKind prog w) kvs) {Dd : List (PyData × PyData)} (hf : PyProof.V.FlatPairs PyData.int kvs Dd) (eD : Dd = tabI (i + 1)) (n1 : @Ne Nat D l) (n2 : @Ne Nat D it) (n3 : @Ne Nat l it)
   (h1 : m' "base" = some (.int 64 t1)) (h2 : m' "show" = some (.bool false)) (h3 : m' "d" = some (.ref D)) :
   TurnEnd g L [(it, oI)] (fun nw => (l, listOf its nl) ∈ nw) (PowInv prog w l it its nl t1 (i + 1)) s₁ { s₁ with heap := h', toks := tk } :=
  TurnEnd.intro (news' := [(D, o), (l, listOf its nl)]) F N (fun _ h => h) (fun p hp q hq => by rw [List.mem_singleton.mp hq]; exact offP2 ⟨n1, n2, n3⟩ p hp) (.tail _ (.head _)) ⟨D, o, kvs, rfl, lo, hdo, eD ▸ hf, n1, n2, n3, h1, h2, h3⟩
theorem powFor {prog : Program} {w : World} {A : Around} {E : Value → Shared → Prop} {s : Shared} {h₀ : Heap} {L l it D : Addr} {m₀ : Str → Option Value} {o : Obj} {kvs : List (Int × Value)} {target : Expr} {body : List Stmt} {env : Env} {Q : Flow → Shared → Prop} {nl : Nat} {a b c e t1 : Tok}
    (F : Fr h₀ L s.heap m₀) (N : News h₀ L s.heap [(it, liO l (0 + 1)), (D, o), (l, listOf #[.int 0 a, .int 1 b, .int 2 c, .int 4 e] nl)]) (hd : @Ne Nat D l ∧ @Ne Nat D it ∧ @Ne Nat l it)
    (lo : (D == sysModules) = false) (hdo : o.IsDictOf (intKind prog w) kvs) (hf : PyProof.V.FlatPairs PyData.int kvs (tabI 0)) (h1 : m₀ "base" = some (.int 64 t1)) (h2 : m₀ "show" = some (.bool false)) (h3 : m₀ "d" = some (.ref D)) (hh : A.handled = none)
    (turn : ∀ i v m news h tk oI, i < 3 → (#[.int 0 a, .int 1 b, .int 2 c, .int 4 e] : Array Value)[1 + i]? = some v → PowInv prog w l it #[.int 0 a, .int 1 b, .int 2 c, .int 4 e] nl t1 i m news → Fr h₀ L h m → News h₀ L h ((it, oI) :: news) →
      wpAny (model prog w) A (assign target env v) (fun _ s₂ => wpAny (model prog w) A (execs body env) (TurnPost h₀ L [(it, oI)] (fun nw => (l, listOf #[.int 0 a, .int 1 b, .int 2 c, .int 4 e] nl) ∈ nw) (PowInv prog w l it #[.int 0 a, .int 1 b, .int 2 c, .int 4 e] nl t1 (i + 1)) s Q) (fun _ _ => False) s₂) (fun _ _ => False) { s with heap := h, toks := tk })
    (fin : ∀ m news h tk, PowInv prog w l it #[.int 0 a, .int 1 b, .int 2 c, .int 4 e] nl t1 3 m news → Fr h₀ L h m → News h₀ L h news → Q .next { s with heap := h, toks := tk })
    (ht : ∀ it v, letOwnedTupleGo target it v = pure ()) :
    wpAny (model prog w) A (pyIter (.ref it)) (fun it s₂ => codeAny (model prog w) A (.forLoop target it body [] env) (fun r s' => match r with | .ok f => Q f s' | .error e => cameBackBy (model prog w) A env E e s') s₂) E s :=
  iterIt (PowInv prog w l it #[.int 0 a, .int 1 b, .int 2 c, .int 4 e] nl t1) hh (.tail _ (.head _)) F N (offP2 hd) (Nat.le_of_ble_eq_true rfl) ⟨D, o, kvs, rfl, lo, hdo, hf, hd.1, hd.2.1, hd.2.2, h1, h2, h3⟩
    (fun i v m news h tk oI hi hv hI _ _ F N => turn i v m news h tk oI (by have : 1 + i < 4 := hi; omega) hv hI F N) fin ht
theorem powers_spec {w : World} {dp un : Nat} {gd : Option (List Code)} {s : Shared} {base : Heap} {outer : List Env} {p : Program} {loose : List Str} {mean : ExcName → Option Value} {mg mb : Str → Option Value} {Q E : Value → Shared → Prop}
   (t t1 t2 : Tok)
   (B : Below (At dp un gd outer) base outer s.heap) (X : (frag w.params).In s.heap) (T : Top p loose mean mg mb s.heap) (hdp : dp ≤ 880) (hun : un < 9000)
   (hret : ∀ (D : Addr) o kvs h' tk' d', Ext s.heap h' → s.heap.get? D = none → h'.get? D = some o → (D == sysModules) = false → o.IsDictOf (intKind Challenge.rw_tl0025_01.row.prog w) kvs → PyProof.V.FlatPairs PyData.int kvs (tabI 3) → Q (.ref D) {s with heap := h', toks := tk', drawn := d'}) :
   wpAny (model Challenge.rw_tl0025_01.row.prog w) (At dp un gd outer) (call (.ref 39) [.int 8 t, .int 64 t1, .int 0 t2]) Q E s := by
  revert X; k_fill; intro X
  (refine' enter (binds := [(Str.ofString "w", .int 8 t), (Str.ofString "base", .int 64 t1), (Str.ofString "more_than", .int 0 t2), (Str.ofString "show", .bool false)]) ?k1 ?k2 ?k3 ?k6 ?k7 ?k8 ?k9 ?kB ?_ ?c2 ?c3 ?c4 ?c5; (case k1 => k_asm); (case k2 => k_asm); (case k3 => k_asm); (case k6 => k_is); (case k7 => k_is); (case k8 => (simp only [recursionLimit]; first | exact room (by assumption) rfl | omega)); (case k9 => exact binds_K (by k_asm) rfl (by k_is) rfl rfl rfl); (case c5 => decide); (case kB => exact locs rfl); (case c2 => exact rfl); (case c3 => exact rfl); (case c4 => exact rfl); k_whole)
  intro g L' h₁ eg F N B X T
  (try dsimp only)
  k_fold
  k_steps
  unfold Hold
  rename Fr _ _ _ _ => F'
  rename News _ _ _ _ => N'
  refine wpAny_mono (Q := PowPost g L' t1 (!byText w) s) ?_ (fun fl s' hl => ?_) fun _ _ x => x
  · refine whl_start 100 ?_
    k_steps
    all_goals exact PowPost.intro (by assumption) (by assumption) (by with_unfolding_all rfl) (by with_unfolding_all rfl) (by with_unfolding_all rfl)
  · obtain ⟨rfl, h', tk, d', m', nd, ep, a0, a1, a2, a4, rfl, F2, N2, hb, hs, hn⟩ := hl
    have F3 := know3 F2 hb hs hn (by decide) (by decide) (by decide)
    clear F' N' F2
    k_steps
    unfold Hold
    refine wpAny_For ?_
    k_steps
    unfold Hold
    rename Fr _ _ _ _ => F'
    rename News _ _ _ _ => N'
    have hd' : @Ne Nat _ _ ∧ @Ne Nat _ _ ∧ @Ne Nat _ _ := offP N' (by assumption) (by assumption)
    refine' powFor (t1 := t1) F' (pickP N') hd' ?lo ?dd ?fo ?b ?s ?d rfl ?turn ?fin ?ht
    case lo => assumption
    case dd => assumption
    case ht => exact fun _ _ => rfl
    case fo => assumption
    case b => with_unfolding_all rfl
    case s => with_unfolding_all rfl
    case d => with_unfolding_all rfl
    case turn =>
      clear F' N' hd'
      (repeat (rename PyProof.V.FlatPairs _ _ _ => z; clear z))
      (repeat (rename Obj.IsDictOf _ _ _ => z; clear z))
      intro i v m news h tk oI hi hv hInv F N
      obtain ⟨D, o, kvs, rfl, hlo, hdo, hfo, n1, n2, n3, hb', hs', hd3⟩ := hInv
      have F3 := know3 F hb' hs' hd3 (by decide) (by decide) (by decide)
      clear F
      match i, hi with
      | 0, _ =>
        obtain rfl := Option.some.inj (nx1.symm.trans hv)
        replace hfo : PyProof.V.FlatPairs PyData.int kvs [(.int 0, .int 1)] := hfo
        clear hv
        k_steps
        show TurnEnd _ _ _ _ _ _ _
        exact turnP (by assumption) (by assumption) hlo (by assumption) (by assumption) (by kernel_rfl) n1 n2 n3 (by with_unfolding_all rfl) (by with_unfolding_all rfl) (by with_unfolding_all rfl)
      | 1, _ =>
        obtain rfl := Option.some.inj (nx2.symm.trans hv)
        replace hfo : PyProof.V.FlatPairs PyData.int kvs [(.int 0, .int 1), (.int 1, .int 64)] := hfo
        clear hv
        k_steps
        show TurnEnd _ _ _ _ _ _ _
        exact turnP (by assumption) (by assumption) hlo (by assumption) (by assumption) (by kernel_rfl) n1 n2 n3 (by with_unfolding_all rfl) (by with_unfolding_all rfl) (by with_unfolding_all rfl)
      | 2, _ =>
        obtain rfl := Option.some.inj (nx3.symm.trans hv)
        replace hfo : PyProof.V.FlatPairs PyData.int kvs [(.int 0, .int 1), (.int 1, .int 64), (.int 2, .int 4096)] := hfo
        clear hv
        k_steps
        show TurnEnd _ _ _ _ _ _ _
        exact turnP (by assumption) (by assumption) hlo (by assumption) (by assumption) (by kernel_rfl) n1 n2 n3 (by with_unfolding_all rfl) (by with_unfolding_all rfl) (by with_unfolding_all rfl)
    case fin =>
      clear F' N' hd'
      (repeat (rename PyProof.V.FlatPairs _ _ _ => z; clear z))
      (repeat (rename Obj.IsDictOf _ _ _ => z; clear z))
      intro m news h tk hInv F N
      obtain ⟨D, o, kvs, rfl, hlo, hdo, hfo, n1, n2, n3, hb', hs', hd3⟩ := hInv
      have F3 := know F hd3
      dsimp only
      k_steps
      subst eg
      dsimp only
      exact hret D o kvs h _ _ F.keep (N.fresh (.head _)) (N.get (.head _)) hlo hdo hfo
end Mine
end

namespace Mine
theorem freshF6 : True ∧ True := by
  k_with_none
  w_top off
  first | (walk1; all_goals exact trivial) | exact ⟨trivial, trivial⟩
end Mine
section
open PySem PySem.W PyProof.Rows
set_option Elab.async false
set_option maxRecDepth 100000
set_option maxHeartbeats 2000000
namespace Mine
open PySem.Calls PySem.Spec PySem.Flt

noncomputable abbrev PowAt (prog : Program) (w : World) (h : Heap) (d : Addr) : Prop := TabAt (intKind prog w) PyData.int h d (tabI 3)
noncomputable def pw (k : Int) : Int := 64 ^ k.toNat
noncomputable def Place (k : Int) : Prop := k = 0 ∨ k = 1 ∨ k = 2 ∨ k = 4
section
variable {prog : Program} {w : World} {A : Around} {E : Value → Shared → Prop} {s : Shared} {h₀ : Heap} {d : Addr}
theorem pow_item {value slice : Expr} {k : Int} {t : Tok} {Q : Value → Shared → Prop} (T : PowAt prog w h₀ d) (keep : ∀ b o, h₀.get? b = some o → s.heap.get? b = some o) (hk : Place k) (h : ∀ u, Q (.int (pw k) u) { s with toks := s.toks + 1 })
   (hs : subscripted slice false (.ref d) (.int k t) = operate [.ref d, .int k t] (getItem (.ref d) (.int k t)) := by with_unfolding_all rfl) (hg : ∀ r, letTemporaryGo value (.ref d) r = pure () := by intro _; with_unfolding_all rfl) :
   wpAny (model prog w) A (subscriptTail value slice (.ref d) (.int k t)) Q E s := by
  have hl : (PySem.Spec.lookup (.int k) (tabI 3)).isSome = true := by rcases hk with rfl | rfl | rfl | rfl <;> decide +kernel
  refine item_intTab_isSome (T.keep keep) hl (fun v hv => ?_) hs hg
  have e : (PySem.Spec.lookup (.int k) (tabI 3)).getD .none = .int (pw k) := by rcases hk with rfl | rfl | rfl | rfl <;> kernel_rfl
  rw [e] at hv
  obtain ⟨u, rfl⟩ := PyProof.V.Flat.int_inv hv
  exact h u
end
noncomputable def numUp (tail head : Int) (i : Nat) : Int := (([1, 2, 4] : List Int).take i).foldl (fun n o => if o ≠ head ∧ o ≠ tail then n * (1 + pw o) else n) (pw head)
noncomputable def lawNumber (tail head : Int) : Int := numUp tail head 3
theorem numUp_succ (tail head : Int) {i : Nat} {o : Int} (h : ([1, 2, 4] : List Int)[i]? = some o) : numUp tail head (i + 1) = if o ≠ head ∧ o ≠ tail then numUp tail head i * (1 + pw o) else numUp tail head i := by
  unfold numUp
  rw [List.take_add_one, h]
  simp
theorem mulOk {a o : Int} (h : Place o) : IntMulOk a (1 + pw o) := by
  refine IntMulOk.of_right ?_
  rcases h with rfl | rfl | rfl | rfl <;> decide +kernel
theorem place_of {i : Nat} {o : Int} (h : ([1, 2, 4] : List Int)[i]? = some o) : Place o := by
  match i with
  | 0 => cases h; exact .inr (.inl rfl)
  | 1 => cases h; exact .inr (.inr (.inl rfl))
  | 2 => cases h; exact .inr (.inr (.inr rfl))
  | _ + 3 => simp at h
theorem item3 {i : Nat} {v : Value} {t1 t2 t3 : Tok} (h : (#[.int 1 t1, .int 2 t2, .int 4 t3] : Array Value)[i]? = some v) : ∃ o t, v = .int o t ∧ ([1, 2, 4] : List Int)[i]? = some o := by
  match i with
  | 0 => cases h; exact ⟨_, _, rfl, rfl⟩
  | 1 => cases h; exact ⟨_, _, rfl, rfl⟩
  | 2 => cases h; exact ⟨_, _, rfl, rfl⟩
  | _ + 3 => simp at h
noncomputable def NumInv (d : Addr) (tail head : Int) (i : Nat) (m : Str → Option Value) (_ : List (Addr × Obj)) : Prop :=
  m "powers" = some (.ref d) ∧ (∃ t, m "tail" = some (.int tail t)) ∧ (∃ t, m "head" = some (.int head t)) ∧ ∃ t, m "number" = some (.int (numUp tail head i) t)
theorem know4 {g h : Heap} {L : Addr} {m : Str → Option Value} {x y z w : Str} {u v t r : Value} (F : Fr g L h m) (hx : m x = some u) (hy : m y = some v) (hz : m z = some t) (hw : m w = some r) (n1 : y ≠ x) (n2 : z ≠ x) (n3 : z ≠ y) (n4 : w ≠ x) (n5 : w ≠ y) (n6 : w ≠ z) :
    Fr g L h (fun q => if q = w then some r else if q = z then some t else if q = y then some v else if q = x then some u else m q) :=
  know (know3 F hx hy hz n1 n2 n3) ((if_neg n6).trans ((if_neg n5).trans ((if_neg n4).trans hw)))

theorem numI {m : Str → Option Value} {x y : Int} {t : Tok} (h : m "number" = some (.int x t)) (e : x = y) : ∃ t, m "number" = some (.int y t) := ⟨t, e ▸ h⟩
theorem wordsF60 : True := by
  k_with_none
  (k_with "m exec For Name List cons nil" => refine Hold.mk' ?_)
  (k_with "m exec For" => refine Hold.mk' ?_)
  (k_with "m pyIter ref" => refine Hold.mk' ?_)
  (k_with "m subscriptTail Name Name ref int" => ((with_reducible show wpAny _ _ (subscriptTail _ _ (Value.ref _) (Value.int _ _)) _ _ _); (with_reducible rename Fr _ _ _ _ => kF); (refine pow_item (by with_reducible assumption) kF.keep (by with_reducible assumption) ?_); intro _))
  (k_with "m binaryOp Mult int int" => (k_here; refine mul_int ?_ (mulOk (by with_reducible assumption))))
  trivial

theorem number_spec {w : World} {dp un : Nat} {gd : Option (List Code)} {s : Shared} {base : Heap} {outer : List Env} {p : Program} {loose : List Str} {mean : ExcName → Option Value} {mg mb : Str → Option Value} {Q E : Value → Shared → Prop}
   (d : Addr) (tail head : Int) (t1 t2 : Tok) (hP : PowAt Challenge.rw_tl0025_01.row.prog w s.heap d) (ht : Place tail) (hh : Place head)
   (B : Below (At dp un gd outer) base outer s.heap) (X : (frag w.params).In s.heap) (T : Top p loose mean mg mb s.heap) (hdp : dp ≤ 880)
   (hret : ∀ h' tk' t', Ext s.heap h' → Q (.int (lawNumber tail head) t') {s with heap := h', toks := tk'}) :
   wpAny (model Challenge.rw_tl0025_01.row.prog w) (At dp un gd outer) (call (.ref 104) [.ref d, .int tail t1, .int head t2]) Q E s := by
  revert X; k_fill; intro X
  (refine' enter (binds := [(Str.ofString "powers", .ref d), (Str.ofString "tail", .int tail t1), (Str.ofString "head", .int head t2)]) ?k1 ?k2 ?k3 ?k6 ?k7 ?k8 ?k9 ?kB ?_ ?c2 ?c3 ?c4 ?c5; (case k1 => k_asm); (case k2 => k_asm); (case k3 => k_asm); (case k6 => k_is); (case k7 => k_is); (case k8 => (simp only [recursionLimit]; first | exact room (by assumption) rfl | omega)); (case k9 => exact BindsTo.of_eq rfl); (case c5 => decide); (case kB => exact locs rfl); (case c2 => exact rfl); (case c3 => exact rfl); (case c4 => exact rfl); k_whole)
  intro g L' h₁ eg F N B X T
  (try dsimp only)
  k_fold
  rw [← eg] at hP
  k_steps
  unfold Hold
  refine wpAny_For ?_
  k_steps
  unfold Hold
  rename Fr _ _ _ _ => F'
  rename News _ _ _ _ => N'
  refine' iterList (Q := _) (NumInv d tail head) rfl ?hS F' N' ?h0 ?turn ?fin ?ht
  case hS => exact .inr ⟨_, .head _, rfl, _, rfl⟩
  case h0 => exact ⟨by with_unfolding_all rfl, ⟨_, by with_unfolding_all rfl⟩, ⟨_, by with_unfolding_all rfl⟩, ⟨_, by with_unfolding_all rfl⟩⟩
  case ht => exact .inl fun _ _ => rfl
  case turn =>
    clear F' N'
    intro I i v m news h tk oI hi hv hInv hS hoff F N
    obtain ⟨o, to, rfl, ho⟩ := item3 hv
    obtain ⟨m1, ⟨u1, m2⟩, ⟨u2, m3⟩, ⟨u3, m4⟩⟩ := hInv
    have hpo := place_of ho
    have e1 := numUp_succ tail head ho
    have F3 := know4 F m1 m2 m3 m4 (by decide) (by decide) (by decide) (by decide) (by decide) (by decide)
    clear F
    k_steps
    all_goals (show TurnEnd _ _ _ _ _ _ _)
    · exact TurnEnd.intro (by assumption) (by assumption) (fun _ h => h) (fun p hp q hq => by rw [List.mem_singleton.mp hq]; exact hoff p hp) hS ⟨by with_unfolding_all rfl, ⟨_, by with_unfolding_all rfl⟩, ⟨_, by with_unfolding_all rfl⟩, numI (by with_unfolding_all rfl) (by rw [e1, if_pos ⟨by assumption, by assumption⟩])⟩
    · exact TurnEnd.intro (by assumption) (by assumption) (fun _ h => h) (fun p hp q hq => by rw [List.mem_singleton.mp hq]; exact hoff p hp) hS ⟨by with_unfolding_all rfl, ⟨_, by with_unfolding_all rfl⟩, ⟨_, by with_unfolding_all rfl⟩, numI (by with_unfolding_all rfl) (by rw [e1, if_neg (fun z => by simp_all)])⟩
    · exact TurnEnd.intro (by assumption) (by assumption) (fun _ h => h) (fun p hp q hq => by rw [List.mem_singleton.mp hq]; exact hoff p hp) hS ⟨by with_unfolding_all rfl, ⟨_, by with_unfolding_all rfl⟩, ⟨_, by with_unfolding_all rfl⟩, numI (by with_unfolding_all rfl) (by rw [e1, if_neg (fun z => by simp_all)])⟩
  case fin =>
    clear F' N'
    intro m news h tk hInv F N
    obtain ⟨m1, ⟨u1, m2⟩, ⟨u2, m3⟩, ⟨u3, m4⟩⟩ := hInv
    have F3 := know F m4
    dsimp only
    k_steps
    subst eg
    exact hret h _ _ F.keep
end Mine
end

namespace Mine
theorem freshPd : True ∧ True := by
  k_with_none
  w_top off
  first | (walk1; all_goals exact trivial) | exact ⟨trivial, trivial⟩
end Mine
section
open PySem PySem.W PyProof.Rows
set_option Elab.async false
namespace Mine

theorem nat_and_top (x n : Nat) : x &&& (x / 2 ^ n * 2 ^ n) = x / 2 ^ n * 2 ^ n := by
  apply Nat.eq_of_testBit_eq
  intro i
  rw [Nat.testBit_and, Nat.testBit_mul_two_pow, Nat.testBit_div_two_pow]
  by_cases h : n ≤ i
  · simp [h, Nat.sub_add_cancel h]
  · simp [h]
theorem bitAnd_nat (x y : Nat) : Builtin.bitAnd (x : Int) (y : Int) = ((x &&& y : Nat) : Int) := by
  unfold Builtin.bitAnd
  simp
theorem xor_top {x : Int} {n : Nat} (h : 0 ≤ x) : Builtin.bitXor x (x.fdiv (2 ^ n) * 2 ^ n) = x % 2 ^ n := by
  obtain ⟨k, rfl⟩ := Int.eq_ofNat_of_zero_le h
  have e : Int.fdiv (k : Int) (2 ^ n) * 2 ^ n = ((k / 2 ^ n * 2 ^ n : Nat) : Int) := by
    rw [Int.fdiv_eq_ediv_of_nonneg _ (by exact Int.le_of_lt (Int.pow_pos (by decide)))]
    push_cast
    rfl
  rw [bitXor_and, e, bitAnd_nat, nat_and_top]
  have h1 := Nat.div_add_mod k (2 ^ n)
  have h2 : ((k : Int) % 2 ^ n) = ((k % 2 ^ n : Nat) : Int) := by push_cast; rfl
  rw [Nat.mul_comm] at h1
  rw [h2]
  generalize k / 2 ^ n * 2 ^ n = u at *
  generalize k % 2 ^ n = v at *
  omega

/-- the figures of x in base 64, k of them, the low one first -/
noncomputable def digs (x : Int) : Nat → List Int
  | 0 => []
  | k + 1 => x % 64 :: digs (x / 64) k
theorem digs_len (x : Int) (k : Nat) : (digs x k).length = k := by
  induction k generalizing x with
  | zero => rfl
  | succ k ih => simp [digs, ih]
theorem digs_add (x : Int) (a b : Nat) : digs x (a + b) = digs (x % 64 ^ a) a ++ digs (x / 64 ^ a) b := by
  induction a generalizing x with
  | zero => simp [digs]
  | succ a ih =>
    rw [show a + 1 + b = (a + b) + 1 by omega]
    simp only [digs, List.cons_append]
    have e1 : x % 64 ^ (a + 1) % 64 = x % 64 := Int.emod_emod_of_dvd _ (by rw [Int.pow_succ]; exact Int.dvd_mul_left _ _)
    have e2 : x % 64 ^ (a + 1) / 64 = x / 64 % 64 ^ a := by
      rw [show (64 : Int) ^ (a + 1) = 64 * 64 ^ a by rw [Int.pow_succ, Int.mul_comm]]
      have h64 : (0 : Int) < 64 ^ a := Int.pow_pos (by decide)
      generalize (64 : Int) ^ a = p at *
      have h1 := Int.emod_add_mul_ediv x (64 * p)
      have h2 : x / (64 * p) = x / 64 / p := (Int.ediv_ediv_of_nonneg (by decide)).symm
      have h3 := Int.emod_add_mul_ediv (x / 64) p
      have h4 := Int.emod_nonneg x (show 64 * p ≠ 0 by omega)
      rw [h2] at h1
      generalize x / 64 / p = q at *
      generalize hr : x % (64 * p) = r at *
      generalize x / 64 % p = u at *
      have h5 := Int.emod_add_mul_ediv x 64
      have h6 := Int.emod_nonneg x (show (64 : Int) ≠ 0 by decide)
      have h7 := Int.emod_lt_of_pos x (show (0 : Int) < 64 by decide)
      have h8 : 64 * p * q = 64 * (p * q) := Int.mul_assoc ..
      rw [h8] at h1
      generalize p * q = z at *
      omega
    have e3 : x / 64 ^ (a + 1) = x / 64 / 64 ^ a := by
      rw [show (64 : Int) ^ (a + 1) = 64 * 64 ^ a by rw [Int.pow_succ, Int.mul_comm]]
      exact (Int.ediv_ediv_of_nonneg (by decide)).symm
    rw [e1, e2, e3, ih]

noncomputable def setSeg (ns : List Int) (lo k : Nat) (x : Int) : List Int := ns.take lo ++ (digs x k ++ ns.drop (lo + k))
theorem setSeg_len {ns : List Int} {lo k : Nat} {x : Int} (h : lo + k ≤ ns.length) : (setSeg ns lo k x).length = ns.length := by
  simp [setSeg, digs_len]; omega
theorem setSeg_one {ns : List Int} {lo : Nat} {x : Int} (h : lo < ns.length) (h0 : 0 ≤ x) (h1 : x < 64) : setSeg ns lo 1 x = ns.set lo x := by
  rw [List.set_eq_take_append_cons_drop, if_pos h]
  simp [setSeg, digs, Int.emod_eq_of_lt h0 h1]
theorem setSeg_two {ns : List Int} {lo a b : Nat} {x : Int} (h : lo + a + b ≤ ns.length) : setSeg (setSeg ns lo a (x % 64 ^ a)) (lo + a) b (x / 64 ^ a) = setSeg ns lo (a + b) x := by
  unfold setSeg
  rw [digs_add]
  have l1 : (ns.take lo ++ digs (x % 64 ^ a) a).length = lo + a := by simp [digs_len]; omega
  rw [← List.append_assoc (ns.take lo), List.take_left' l1, List.drop_append, l1, List.drop_eq_nil_of_le (show (ns.take lo ++ digs (x % 64 ^ a) a).length ≤ lo + a + b by rw [l1]; omega), List.nil_append, List.drop_drop, List.append_assoc, List.append_assoc]
  rw [show lo + a + (lo + a + b - (lo + a)) = lo + (a + b) by omega]
end Mine
end

namespace Mine
theorem freshD1 : True ∧ True := by
  k_with_none
  w_top off
  first | (walk1; all_goals exact trivial) | exact ⟨trivial, trivial⟩
end Mine
section
open PySem PySem.W PyProof.Rows
set_option Elab.async false
set_option maxRecDepth 100000
set_option maxHeartbeats 4000000
namespace Mine
open PySem.Calls PySem.Spec PySem.Flt
section
variable {prog : Program} {w : World} {dp un : Nat} {gd : Option (List Code)} {s : Shared} {base : Heap} {outer : List Env} {K : Frag}
  {name qual : Str} {params : Arguments} {body : List Stmt} {scope : Scope} {dV kV doc pm cdv ct oc : Value} {an od : Option Addr} {osl : Array (Option Value)} {f : Addr} {vals : List Value} {binds : List (Str × Value)}
  {p : Program} {loose : List Str} {mean : ExcName → Option Value} {mg mb : Str → Option Value} {Q E : Value → Shared → Prop} {g₀ : Heap} {P : Addr} {oP : Obj}
/-- entering with one object laid aside -/
theorem enterCG (hg : ∀ b o, g₀.get? b = some o → s.heap.get? b = some o) (hsz : g₀.objs.size ≤ s.heap.objs.size) (hP : s.heap.get? P = some oP) (nP : g₀.get? P = none)
    (B : Below (At dp un gd outer) base outer g₀) (X : K.In g₀) (T : Top p loose mean mg mb g₀)
    (ho : K.lookup f = some ⟨oc, od, .func (fnOf name qual params body scope dV kV doc pm an cdv ct), osl⟩) (hcd : codeIn K cdv qual = true) (hroom : dp < recursionLimit)
    (hbind : BindsTo s (fnOf name qual params body scope dV kV doc pm an cdv ct) ⟨vals, []⟩ binds)
    (hkind : (binds.all fun y => scope.names.lookup y.1 == some .local || scope.names.lookup y.1 == some .cell) = true)
    (hnd : ((cellsFrom 0 scope.names []).map (·.1)).Nodup)
    (h : ∀ L' h₁ tk cells, Fr g₀ L' h₁ (bindL (envOfC qual scope L' f cdv).kindOf binds fun _ => none) → News g₀ L' h₁ (cells ++ [(P, oP)]) →
      CellsAre (bindC (envOfC qual scope L' f cdv).kindOf binds fun _ => none) (cellsFrom (L' + 1) scope.names []) cells → @LT.lt Nat instLTNat P L' → Below (At dp un gd outer) base outer g₀ → K.In g₀ → Top p loose mean mg mb g₀ →
      wpAny (model prog w) ((At dp un gd outer).deeper (envOfC qual scope L' f cdv)) (execs body (envOfC qual scope L' f cdv))
        (fun fl s' => Q (match fl with | .ret v => v | _ => .none) s') (fun _ _ => False)
        { s with heap := h₁, toks := tk })
    (hco : scope.isCoroutine = false) (hgen : scope.isGenerator = false) (hk : scope.kind = .function) : wpAny (model prog w) (At dp un gd outer) (call (.ref f) vals) Q E s := by
  have X' : K.In s.heap := fun a o e => hg _ _ (X a o e)
  have T' := T.nolimit
  refine wpAny_call (codeAny_call_function hroom (X' _ _ ho) rfl hco hgen rfl (codeRec_of X' hcd) (hbind _ _ _ _ ?_))
  refine wpAny_newFunctionEnv_cells hk (kindsX hkind _) fun env' he' s' x => ?_
  subst he'
  refine ⟨(T'.keeps hg).keeps x.toInCall.keep, codeAny_func ?_⟩
  obtain ⟨h₁, tk, rfl, _⟩ := x.done
  have hk₁ := x.toInCall.keep
  obtain ⟨cells, NC, Y⟩ := Cl.news (h₀ := g₀) hsz fun n c hm => ⟨x.cell n c (lookup_of_mem_nodup (cellsFrom_names scope.names 0 (s.heap.objs.size + 1) [] [] rfl ▸ hnd) hm), x.above n c hm⟩
  have hlt := Heap.lt_size hP
  have ns := x.toInCall.ns
  refine wpAny_mono (h s.heap.objs.size h₁ tk cells ⟨ns, fun b o e => hk₁ _ _ (hg _ _ e), hsz⟩ (fun p hp => ?_) Y hlt B X T) (fun fl s' hl => hl) fun _ _ y => y.elim
  rcases List.mem_append.mp hp with hp | hp
  · exact NC p hp
  · rw [List.mem_singleton.mp hp]
    exact ⟨hk₁ _ _ hP, Nat.ne_of_lt hlt, nP⟩
end
theorem fdiv_lit {prog : Program} {w : World} {A : Around} {E : Value → Shared → Prop} {s : Shared} {a b r : Int} {t u : Tok} {Q : Value → Shared → Prop} (e : b ≠ 0 ∧ a.fdiv b = r) (hp : Builtin.divisionGoesByPylong a b = false ∨ PySem.PylongRoom (model prog w) A s) (h : Q (.int r s.toks) { s with toks := s.toks + 1 }) : wpAny (model prog w) A (binaryOp .FloorDiv (.int a t) (.int b u)) Q E s :=
  floordiv_int e.1 (by rw [e.2]; exact h) hp
theorem ints_set {vs : List Value} {ns : List Int} (h : IntsAre vs ns) (x : Int) (t : Tok) : ∀ k : Nat, IntsAre (vs.set k (.int x t)) (ns.set k x) := by
  induction h with
  | nil => exact fun _ => .nil
  | cons n u r ih => exact fun k => match k with
    | 0 => .cons x t r
    | k + 1 => .cons n u (ih k)
section
variable {prog : Program} {w : World} {A : Around} {E : Value → Shared → Prop} {s : Shared} {h₀ h : Heap} {L D : Addr} {m : Str → Option Value} {news news' : List (Addr × Obj)} {vs : List Value} {ns : List Int} {n : Nat} {k x a b r : Int} {t u : Tok}
theorem setIntK {Q : Unit → Shared → Prop} (F : Fr h₀ L s.heap m) (N : News h₀ L s.heap news) (U : Upd D (listOf vs.toArray n) (listOf (vs.set k.toNat (.int x u)).toArray n) news news') (hb : IntsAre vs ns) (h0 : 0 ≤ k) (h1 : k < ns.length) (hfit : k < 2 ^ 63)
    (h : ∀ h', Fr h₀ L h' m → News h₀ L h' news' → IntsAre (vs.set k.toNat (.int x u)) (ns.set k.toNat x) → Q () { s with heap := h' }) :
    wpAny (model prog w) A (setItem (.ref D) (.int k t) (.int x u)) Q E s := by
  obtain ⟨pre, post, rfl, rfl, a, b'⟩ := U.split
  have z := N (D, listOf vs.toArray n) (List.mem_append.mpr (.inr (.head _)))
  have hl : vs.length = ns.length := hb.length
  have hs : vs.toArray.size = ns.length := by rw [List.size_toArray]; exact hl
  refine ki_setAt z.1 h0 hfit (by omega) (h _ (F.change (Heap.SameBut.update ..) z.2.1 z.2.2) (ki_turn _ N a b' ?_ ?_) (ints_set hb _ _ _))
  · show vs.toArray.setIfInBounds k.toNat (.int x u) = (vs.set k.toNat (.int x u)).toArray
    simp
  · simp
structure Shl (a n r : Int) : Prop where
  ok : 0 ≤ n
  sz : (Builtin.Int.intBits a : Int) + n ≤ 2 ^ 27
  eq : a * 2 ^ n.toNat = r
theorem shl_lit {Q : Value → Shared → Prop} (e : Shl a b r) (h : Q (.int r s.toks) { s with toks := s.toks + 1 }) : wpAny (model prog w) A (binaryOp .LShift (.int a t) (.int b u)) Q E s := lshift_int e.ok e.sz (by rw [e.eq]; exact h)
theorem xor_lit {Q : Value → Shared → Prop} (e : Builtin.bitXor a b = r) (h : Q (.int r s.toks) { s with toks := s.toks + 1 }) : wpAny (model prog w) A (binaryOp .BitXor (.int a t) (.int b u)) Q E s := xor_int (by rw [e]; exact h)
end
theorem subI {g h : Heap} {L f c D l cI cA cN P : Addr} {fo co dO lo oI oA oN tO : Obj} (N : News g L h [(f, fo), (c, co), (D, dO), (l, lo), (cI, oI), (cA, oA), (cN, oN), (P, tO)]) :
  News g L h [(f, fo), (c, co), (D, dO), (cI, oI), (cA, oA), (cN, oN), (P, tO)] := fun p hp => N p (by
  simp only [List.mem_cons, List.not_mem_nil, or_false] at hp ⊢
  rcases hp with h | h | h | h | h | h | h <;> simp [h])
theorem nameI {g h : Heap} {L f c D l cI cA cN P : Addr} {fo co dO lo oI oA oN tO : Obj} (_N : News g L h [(f, fo), (c, co), (D, dO), (l, lo), (cI, oI), (cA, oA), (cN, oN), (P, tO)]) :
  ∃ D' oI' oA' oN' tO' fo', D' = D ∧ oI' = oI ∧ oA' = oA ∧ oN' = oN ∧ tO' = tO ∧ fo' = fo := ⟨_, _, _, _, _, _, rfl, rfl, rfl, rfl, rfl, rfl⟩
theorem pow6 (k : Nat) : (2 : Int) ^ (6 * k) = 64 ^ k := by rw [Int.pow_mul]; rfl
theorem shr6 {x : Int} {k : Nat} : Shr x ((6 * k : Nat) : Int) (x / 64 ^ k) :=
  ⟨Int.natCast_nonneg _, by rw [Int.toNat_natCast, pow6, Int.fdiv_eq_ediv_of_nonneg _ (Int.le_of_lt (Int.pow_pos (by decide)))]⟩
theorem shl6 {x : Int} {k : Nat} (h0 : 0 ≤ x) (hx : x < 64 ^ 8) (hk : k ≤ 8) : Shl (x / 64 ^ k) ((6 * k : Nat) : Int) (x / 64 ^ k * 64 ^ k) := by
  refine ⟨Int.natCast_nonneg _, ?_, by rw [Int.toNat_natCast, pow6]⟩
  have hp : (0 : Int) < 64 ^ k := Int.pow_pos (by decide)
  have h1 : x / 64 ^ k ≤ x := Int.ediv_le_self _ h0
  have h2 : 0 ≤ x / 64 ^ k := Int.ediv_nonneg h0 (Int.le_of_lt hp)
  have := (@intBits_le_iff 48 (x / 64 ^ k)).mpr (by omega)
  have e : (2 : Int) ^ 27 = 134217728 := by decide
  rw [e]
  omega
theorem xor6 {x : Int} {k : Nat} (h0 : 0 ≤ x) : Builtin.bitXor x (x / 64 ^ k * 64 ^ k) = x % 64 ^ k := by
  have := xor_top (n := 6 * k) h0
  rw [pow6, Int.fdiv_eq_ediv_of_nonneg _ (Int.le_of_lt (Int.pow_pos (by decide)))] at this
  exact this
theorem hf0 {k : Nat} (h : 2 ≤ k) : 0 < k := Nat.lt_of_lt_of_le (by decide) h
theorem hf1 {k : Nat} (h : 2 ≤ k) : k / 2 < k := Nat.div_lt_self (hf0 h) (by decide)
theorem hf2 {k : Nat} (h : 2 ≤ k) : 0 < k / 2 := Nat.div_pos h (by decide)
theorem hf3 {k : Nat} (h : 2 ≤ k) : k - k / 2 < k := Nat.sub_lt (hf0 h) (hf2 h)
theorem hf4 {k : Nat} (h : 2 ≤ k) : 0 < k - k / 2 := Nat.sub_pos_of_lt (hf1 h)
theorem hf5 {k : Nat} : k / 2 + (k - k / 2) = k := Nat.add_sub_cancel' (Nat.div_le_self k 2)
theorem hf6 {dp m k n : Nat} (h : dp + k ≤ n) (hm : m < k) : dp + 1 + m ≤ n := by rw [Nat.add_assoc, Nat.add_comm 1]; exact Nat.le_trans (Nat.add_le_add_left hm dp) h
theorem hf7 {lo hi k n : Nat} (e : hi = lo + k) (h : hi ≤ n) : lo + k / 2 ≤ n := Nat.le_trans (Nat.add_le_add_left (Nat.div_le_self k 2) lo) (e ▸ h)
theorem hf8 {lo hi k : Nat} (e : hi = lo + k) : hi = lo + k / 2 + (k - k / 2) := by rw [Nat.add_assoc, hf5]; exact e
theorem hf10 {lo hi k : Nat} (e : hi = lo + k) : k ≤ hi := e ▸ Nat.le_add_left k lo
theorem hf11 {lo hi k : Nat} (e : hi = lo + k) (h0 : 0 < k) (h : (lo : Int) + 1 ≠ (hi : Int)) : 2 ≤ k := Nat.lt_of_le_of_ne h0 fun q => h (by subst q e; rfl)
theorem hf12 {lo hi k : Nat} (e : hi = lo + k) (h : (lo : Int) + 1 = (hi : Int)) : k = 1 := by
  have h : lo + 1 = hi := Int.ofNat_inj.mp h
  exact Nat.add_left_cancel (e.symm.trans h.symm)
theorem hf13 {lo hi : Nat} (h : (lo : Int) + 1 = (hi : Int)) (h8 : hi ≤ 8) : lo < 8 := by
  have h : lo + 1 = hi := Int.ofNat_inj.mp h
  show lo + 1 ≤ 8
  rw [h]; exact h8
theorem hf14 {lo hi : Nat} (h : (lo : Int) + 1 = (hi : Int)) (h8 : hi ≤ 8) : (lo : Int) < 2 ^ 63 := Int.lt_trans (Int.ofNat_lt.mpr (hf13 h h8)) (by decide)
theorem hf15 {lo hi n : Nat} (h : (lo : Int) + 1 = (hi : Int)) (h8 : hi ≤ 8) (hn : n = 8) : (lo : Int) < (n : Int) := Int.ofNat_lt.mpr (hn ▸ hf13 h h8)
theorem half {lo hi k : Nat} (h : hi = lo + k) : Shr ((lo : Int) + (hi : Int)) 1 ((lo + k / 2 : Nat) : Int) :=
  ⟨by decide, by subst h; rw [Int.fdiv_eq_ediv_of_nonneg _ (by decide)]; show ((lo : Int) + ((lo + k : Nat) : Int)) / 2 = _; omega⟩
theorem pow64_le {k n : Nat} (h : k ≤ n) : (64 : Int) ^ k ≤ 64 ^ n := by exact_mod_cast Nat.pow_le_pow_right (show 0 < 64 by decide) h
theorem pow64 {a b : Nat} {x : Int} (h : x < 64 ^ (a + b)) : x / 64 ^ a < 64 ^ b := by
  rw [Int.pow_add, Int.mul_comm] at h
  exact Int.ediv_lt_of_lt_mul (Int.pow_pos (by decide)) h
theorem wordsD10 : True := by
  k_with_none
  (k_with "m binaryOp RShift int int" => (k_here; with_reducible refine shr_lit (by assumption) ?_))
  (k_with "m binaryOp Sub int int" => (k_here; with_reducible refine sub_lit (by assumption) ?_))
  (k_with "m binaryOp Mult int int" => (k_here; with_reducible refine mul_lit (by assumption) ?_))
  (k_with "m binaryOp LShift int int" => (k_here; with_reducible refine shl_lit (by assumption) ?_))
  (k_with "m binaryOp BitXor int int" => (k_here; with_reducible refine xor_lit (by assumption) ?_))
  (k_with "m call ref" => refine Hold.mk' ?_)
  (k_with "m binaryOp FloorDiv int int" => (k_here; with_reducible refine fdiv_lit (by with_reducible assumption) (Or.inl (PyProof.noPylong_small (by omega))) ?_))
  trivial
theorem bits8 {a : Int} (hlo : (64 : Int) ^ 7 ≤ a) (hhi : a < 64 ^ 8) : (6 : Int) ≠ 0 ∧ ((Builtin.Int.intBits a : Int) + 6 - 1).fdiv 6 = 8 := by
  refine ⟨by decide, ?_⟩
  have : 43 ≤ Builtin.Int.intBits a ∧ Builtin.Int.intBits a ≤ 48 := by
    have h1 := @intBits_le_iff 42 a
    have h2 := @intBits_le_iff 48 a
    refine ⟨Nat.lt_of_not_le fun h => ?_, h2.mpr (by omega)⟩
    have := h1.mp h
    omega
  rw [Int.fdiv_eq_ediv_of_nonneg _ (by decide)]
  omega
theorem wordsD11 : True := by
  (k_with "m exec FunctionDef" => refine Hold.mk' ?_)
  trivial
theorem digits_spec {w : World} {dp un : Nat} {gd : Option (List Code)} {s : Shared} {base g : Heap} {outer : List Env} {p : Program} {loose : List Str} {mean : ExcName → Option Value} {mg mb : Str → Option Value} {Q E : Value → Shared → Prop}
   (a : Int) (t1 t2 : Tok) (ha : 0 < a) (hlo : (64 : Int) ^ 7 ≤ a) (hhi : a < 64 ^ 8)
   (hg : ∀ b o, g.get? b = some o → s.heap.get? b = some o) (hsz : g.objs.size ≤ s.heap.objs.size) (hg2 : ∀ b o, b ≠ 41 → s.heap.get? b = some o → g.get? b = some o) (hP : s.heap.get? 41 = some (tabObj #[])) (nP : g.get? 41 = none) (C : CodeHd g 45 41)
   (B : Below (At dp un gd outer) base outer g) (X : (frag w.params).In g) (T : Top p loose mean mg mb g) (hdp : dp ≤ 880)
   (hret : ∀ D (ws : List Value) n h' tk' ps, (∀ b o, b ≠ 41 → s.heap.get? b = some o → h'.get? b = some o) → h'.get? D = some (listOf ws.toArray n) → s.heap.get? D = none → h'.get? 41 = some (tabObj ps) → IntsAre ws (digs a 8) → Q (.ref D) {s with heap := h', toks := tk'}) :
   wpAny (model Challenge.rw_tl0025_01.row.prog w) (At dp un gd outer) (call (.ref 46) [.int a t1, .int 6 t2]) Q E s := by
  revert X; k_fill; intro X
  (refine' enterCG (binds := [(Str.ofString "a", .int a t1), (Str.ofString "n", .int 6 t2)]) hg hsz hP nP ?k1 ?k2 ?k3 ?k6 ?k7 ?k8 ?k9 ?kB ?kD ?_ ?c2 ?c3 ?c4; (case k1 => k_asm); (case k2 => k_asm); (case k3 => k_asm); (case k6 => k_is); (case k7 => k_is); (case k8 => (simp only [recursionLimit]; first | exact room (by assumption) rfl | omega)); (case k9 => exact BindsTo.of_eq rfl); (case kD => decide +kernel); (case kB => exact rfl); (case c2 => exact rfl); (case c3 => exact rfl); (case c4 => exact rfl); k_whole)
  intro L' h₁ tk cells F N Y hlt B X T
  (try dsimp only)
  k_fold
  have hb8 := bits8 hlo hhi
  k_cells Y
  (try simp only [List.cons_append, List.nil_append] at *)
  k_steps
  unfold Hold
  rename News _ _ _ _ => N'
  (try simp only [List.cons_append, List.nil_append] at N')
  refine' nestDef_K ?d0 ?k0 ?a0 ?_; (case d0 => exact rfl); (case k0 => exact rfl); (case a0 => exact rfl)
  refine' nest_K ?F ?N ?T ?C ?cd ?U ?t ?n ?cl ?_
  case F => k_asm
  case N => k_asm
  case T => k_asm
  case cd => exact rfl
  case C => kn_code
  case U =>
    k_updF
  case t => kn_triples
  case n => kn_among
  case cl => exact rfl
  k_whole
  intro f' c' oc' vs' t' ct' dc' h' tk' F' N' d1' d2' l1 l2; (try dsimp only at N'); (try k_lt l1); (try k_lt2 l2)
  have l3 : _ ∧ _ ∧ _ ∧ _ ∧ _ ∧ _ := ⟨Nat.lt_trans l1.1 l2, Nat.lt_trans l1.2.1 l2, Nat.lt_trans l1.2.2.1 l2, Nat.lt_trans l1.2.2.2.1 l2, Nat.lt_trans l1.2.2.2.2.1 l2, Nat.lt_trans l1.2.2.2.2.2 l2⟩
  k_steps
  · unfold Hold
    rename Fr _ _ _ _ => F'
    rename News _ _ _ _ => N'
    obtain ⟨D, oI, oA, oN, tO, fO, e1, e2, e3, e4, e5, e6⟩ := nameI N'
    subst e1 e2 e3 e4
    have hI : oI.data = .cell (some (.ref f')) := by assumption
    have hA : oA.data = .cell (some (.ref D)) := by assumption
    have hN : oN.data = .cell (some (.int 6 t2)) := by with_unfolding_all assumption
    have inner : ∀ (k dp un : Nat) (gd : Option (List Code)) (env : Env) (outer : List Env) (A₀ : Around) (base h₀ : Heap) (L : Addr) (m : Str → Option Value) (s : Shared) (x : Int) (lo hi : Nat) (t1 t2 t3 : Tok) (ws : List Value) (ns : List Int) (c : Nat) (Q E : Value → Shared → Prop),
       hi = lo + k → 0 < k → hi ≤ 8 → 0 ≤ x → x < 64 ^ k → dp + k ≤ 900 → ns.length = 8 → IntsAre ws ns → Below A₀ base outer h₀ → env.frame = some L → env.scope.kind = .function → (frag w.params).In h₀ → Top p loose mean mg mb h₀ → Fr h₀ L s.heap m →
       News h₀ L s.heap [(f', fO), (c', oc'), (D, listOf ws.toArray c), (L' + 1 + 1 + 1, oI), (L' + 1 + 1, oA), (L' + 1, oN), (41, tO)] →
       (∀ h' tk' ws', Fr h₀ L h' m → News h₀ L h' [(f', fO), (c', oc'), (D, listOf ws'.toArray c), (L' + 1 + 1 + 1, oI), (L' + 1 + 1, oA), (L' + 1, oN), (41, tO)] → IntsAre ws' (setSeg ns lo k x) → Q .none { s with heap := h', toks := tk' }) →
       wpAny (model Challenge.rw_tl0025_01.row.prog w) (At dp un gd (env :: outer)) (call (.ref f') [.int x t1, .int lo t2, .int hi t3]) Q E s := by
      clear F' N' B X T hret
      subst e6
      intro k
      induction k using Nat.strongRecOn with
      | ind k ih =>
        intro dp un gd env outer A₀ base h₀ L m s x lo hi t1 t2 t3 ws ns c Q E hk hk0 hhi hx0 hx1 hdp hns hws B hfr hki X T F N hq
        revert X; k_fill; intro X
        refine wpAny_call ?_
        (refine' code_nest ?k1 ?k2 ?k3 ?k4 ?k5 ?kA ?kF ?kK ?k6 ?k7 ?k8 ?k9 ?kB ?_ ?c2 ?c3 ?c4 ?c5; (case kA => exact rfl); (case kF => exact hfr); (case kK => exact hki); (case k1 => k_asm); (case k2 => k_asm); (case k3 => k_asm); (case k4 => k_asm); (case k5 => k_asm); (case k6 => k_mem); (case k7 => exact codeRec_news (by k_asm) (by k_mem) (by assumption) (by assumption)); (case k8 => (simp only [recursionLimit]; first | exact room (by assumption) rfl | omega)); (case k9 => exact BindsTo.of_eq rfl); (case c5 => decide); (case kB => exact locs rfl); (case c2 => exact rfl); (case c3 => exact rfl); (case c4 => exact rfl); k_whole; intro g' L' h' FG' F' N' B' X' T'; (try dsimp only); (try k_lift B'); (try k_fold))
        have hx8 : x < 64 ^ 8 := Int.lt_of_lt_of_le hx1 (pow64_le (Nat.le_trans (hf10 hk) hhi))
        have f1 := half hk
        have f2 : ((lo + k / 2 : Nat) : Int) - (lo : Int) = ((k / 2 : Nat) : Int) := by rw [Int.natCast_add, Int.add_comm, Int.add_sub_cancel]
        have f3 : Mul ((k / 2 : Nat) : Int) 6 ((6 * (k / 2) : Nat) : Int) := ⟨IntMulOk.of_right (by decide +kernel), by rw [Int.natCast_mul]; exact Int.mul_comm _ _⟩
        have f4 := @shr6 x (k / 2)
        have f5 := shl6 (k := k / 2) hx0 hx8 (Nat.le_trans (Nat.div_le_self k 2) (Nat.le_trans (hf10 hk) hhi))
        have f6 := @xor6 x (k / 2) hx0
        k_steps
        · have hk1 : k = 1 := hf12 hk (by assumption)
          subst hk1
          refine hq _ _ _ (by assumption) (by assumption) ?_
          rw [setSeg_one (by rw [hns]; exact hf13 (by assumption) hhi) hx0 hx1]
          exact ints_set hws _ _ lo
        · have hk2 : 2 ≤ k := hf11 hk hk0 (by assumption)
          have hxk : x < 64 ^ (k / 2 + (k - k / 2)) := by rw [hf5]; exact hx1
          have hp : (0 : Int) < 64 ^ (k / 2) := Int.pow_pos (by decide)
          unfold Hold
          rename Fr _ _ _ _ => F2
          rename News _ _ _ _ => N2
          rename Below _ _ _ _ => B2
          rename Frag.In _ _ => X2
          rename Top _ _ _ _ _ _ => T2
          refine ih (k / 2) (hf1 hk2) (dp + 1) (un + 3) _ _ _ _ _ _ _ _ _ _ lo (lo + k / 2) _ _ _ ws ns c _ _ rfl (hf2 hk2) (hf7 hk hhi) (Int.emod_nonneg _ (Int.ne_of_gt hp)) (Int.emod_lt_of_pos _ hp) (hf6 hdp (hf1 hk2)) hns hws B2 rfl rfl X2 T2 F2 N2 ?_
          intro h2 tk2 ws2 F3 N3 hI2
          (try dsimp only)
          clear F2 N2
          k_steps
          unfold Hold
          rename Fr _ _ _ _ => F2
          rename News _ _ _ _ => N2
          refine ih (k - k / 2) (hf3 hk2) (dp + 1) (un + 3) _ _ _ _ _ _ _ _ _ _ (lo + k / 2) hi _ _ _ ws2 _ c _ _ (hf8 hk) (hf4 hk2) hhi (Int.ediv_nonneg hx0 (Int.le_of_lt hp)) (pow64 hxk) (hf6 hdp (hf3 hk2)) ((setSeg_len (by rw [hns]; exact hf7 hk hhi)).trans hns) hI2 B2 rfl rfl X2 T2 F2 N2 ?_
          intro h3 tk3 ws3 F4 N4 hI3
          (try dsimp only)
          clear F2 N2
          k_steps
          refine hq _ _ _ (by assumption) (by assumption) ?_
          rw [setSeg_two (by rw [← hf8 hk, hns]; exact hhi), hf5] at hI3
          exact hI3
    have N2 : News g L' _ [(f', fO), (c', oc'), (D, _), (L' + 1 + 1 + 1, oI), (L' + 1 + 1, oA), (L' + 1, oN), (41, tO)] := subI (e5 ▸ e6 ▸ N')
    have hD41 : @Ne Nat D 41 := by omega
    refine inner 8 (dp + 1) (un + 3) _ _ _ _ _ _ _ _ _ a 0 8 _ _ _ _ (List.replicate (Int.toNat 8) [(0 : Int)]).flatten _ _ _ rfl (by omega) (by omega) (Int.le_of_lt ha) hhi (by omega) rfl (by assumption) B rfl rfl X T F' N2 ?_
    intro h2 tk2 ws2 F3 N3 hI2
    (try dsimp only)
    clear F' N' N2 inner
    have hd0 : setSeg (List.replicate (Int.toNat 8) [(0 : Int)]).flatten 0 8 a = digs a 8 := by simp [setSeg]
    rw [hd0] at hI2
    k_steps
    subst e5
    have hd41 := (N3 _ (.tail _ (.tail _ (.tail _ (.tail _ (.tail _ (.tail _ (.head _)))))))).1
    refine hret D ws2 _ h2 _ _ (fun b o hb e => F3.keep b o (hg2 b o hb e)) (N3 _ (.tail _ (.tail _ (.head _)))).1 ?_ hd41 hI2
    cases q : s.heap.get? D with
    | none => rfl
    | some o => have := hg2 D o hD41 q; rw [(N3 _ (.tail _ (.tail _ (.head _)))).2.2] at this; cases this
  · exact absurd (by assumption) (Int.ne_of_gt ha)
end Mine
end

namespace Mine
theorem freshF7 : True ∧ True := by
  k_with_none
  w_top off
  first | (walk1; all_goals exact trivial) | exact ⟨trivial, trivial⟩
end Mine
section
open PySem PySem.W PyProof.Rows
set_option Elab.async false
set_option maxRecDepth 100000
set_option maxHeartbeats 2000000
namespace Mine
open PySem.Calls PySem.Spec PySem.Flt

theorem iseof_spec {w : World} {dp un : Nat} {gd : Option (List Code)} {s : Shared} {base : Heap} {outer : List Env} {p : Program} {loose : List Str} {mean : ExcName → Option Value} {mg mb : Str → Option Value} {Q E : Value → Shared → Prop}
   (x : Int) (t1 : Tok) (B : Below (At dp un gd outer) base outer s.heap) (X : (frag w.params).In s.heap) (T : Top p loose mean mg mb s.heap) (hdp : dp ≤ 900)
   (hret : ∀ h' tk', Ext s.heap h' → Q (.bool (x == 0)) {s with heap := h', toks := tk'}) :
   wpAny (model Challenge.rw_tl0025_01.row.prog w) (At dp un gd outer) (call (.ref 87) [.int x t1]) Q E s := by
  revert X; k_fill; intro X
  (refine' enter (binds := [(Str.ofString "x", .int x t1)]) ?k1 ?k2 ?k3 ?k6 ?k7 ?k8 ?k9 ?kB ?_ ?c2 ?c3 ?c4 ?c5; (case k1 => k_asm); (case k2 => k_asm); (case k3 => k_asm); (case k6 => k_is); (case k7 => k_is); (case k8 => (simp only [recursionLimit]; first | exact room (by assumption) rfl | omega)); (case k9 => exact BindsTo.of_eq rfl); (case c5 => decide); (case kB => exact locs rfl); (case c2 => exact rfl); (case c3 => exact rfl); (case c4 => exact rfl); k_whole)
  intro g L' h₁ eg F N B X T
  (try dsimp only)
  k_fold
  k_steps
  subst eg
  exact hret _ _ (Fr.keep (by assumption))
theorem useE {h₀ h h' : Heap} {L : Addr} {m : Str → Option Value} {news : List (Addr × Obj)} (F : Fr h₀ L h m) (N : News h₀ L h news) (x : Ext h h') : Fr h₀ L h' m ∧ News h₀ L h' news :=
  ⟨F.kept x, fun p hp => ⟨x _ _ (N p hp).1, (N p hp).2⟩⟩
/-- may arc k go now -/
noncomputable def mayGo (xs : List Arc) (ns us : List Int) (reached spare bars : Int) (k : Nat) : Bool :=
  let x := xs.getD k (0, 0, 0)
  !(us.any (· == (k : Int))) && (x.2.1 == 0 || !(Builtin.bitAnd x.2.1 reached == 0)) && (Builtin.bitAnd x.2.2 reached == 0) && (Builtin.bitAnd (spare - ns.getD k 0) bars == bars)
noncomputable def nextOf (xs : List Arc) (ns us : List Int) (reached spare bars : Int) : Int :=
  match (List.range xs.length).find? (mayGo xs ns us reached spare bars) with
  | some k => (k : Int)
  | none => -1

theorem arcs_len' {T : List (Addr × Obj)} {arr : List Value} {xs : List Arc} (h : ArcsIn T arr xs) : arr.length = xs.length := by
  unfold ArcsIn at h
  induction h with
  | nil => rfl
  | cons _ _ ih => simp [ih]
theorem arcs_at {T : List (Addr × Obj)} {arr : List Value} {xs : List Arc} (h : ArcsIn T arr xs) : ∀ {k : Nat}, k < xs.length → ∃ a t1 t2 t3, arr[k]? = some (.ref a) ∧ (a, tupO #[.int (xs.getD k (0,0,0)).1 t1, .int (xs.getD k (0,0,0)).2.1 t2, .int (xs.getD k (0,0,0)).2.2 t3]) ∈ T := by
  unfold ArcsIn at h
  induction h with
  | nil => intro k hk; exact absurd hk (Nat.not_lt_zero _)
  | cons hx _ ih =>
    intro k hk
    match k with
    | 0 =>
      obtain ⟨a, t1, t2, t3, e, hm⟩ := hx
      exact ⟨a, t1, t2, t3, by rw [e]; rfl, hm⟩
    | k + 1 => exact ih (Nat.lt_of_succ_lt_succ hk)
noncomputable def NextInv (la ln lu : Addr) (xs : List Arc) (ns us : List Int) (reached spare bars : Int) (i : Nat) (m : Str → Option Value) (_ : List (Addr × Obj)) : Prop :=
  (∀ j, j < i → mayGo xs ns us reached spare bars j = false) ∧ m "arcs" = some (.ref la) ∧ m "numbers" = some (.ref ln) ∧ m "used" = some (.ref lu) ∧ (∃ t, m "reached" = some (.int reached t)) ∧ (∃ t, m "spare" = some (.int spare t)) ∧ ∃ t, m "bars" = some (.int bars t)
theorem next_found {xs : List Arc} {ns us : List Int} {r s b : Int} {i : Nat} (hi : i < xs.length) (h : ∀ j, j < i → mayGo xs ns us r s b j = false) (hg : mayGo xs ns us r s b i = true) : nextOf xs ns us r s b = (i : Int) := by
  have : (List.range xs.length).find? (mayGo xs ns us r s b) = some i := by
    rw [List.find?_range_eq_some]
    exact ⟨hg, List.mem_range.mpr hi, fun j hj => by simp [h j hj]⟩
  unfold nextOf
  rw [this]
theorem next_none {xs : List Arc} {ns us : List Int} {r s b : Int} (h : ∀ j, j < xs.length → mayGo xs ns us r s b j = false) : nextOf xs ns us r s b = -1 := by
  have : (List.range xs.length).find? (mayGo xs ns us r s b) = none := by
    rw [List.find?_eq_none]
    intro j hj
    rw [h j (List.mem_range.mp hj)]; decide
  unfold nextOf
  rw [this]

theorem range_size (n : Nat) : Builtin.Range.rangeSize 0 (n : Int) 1 = (n : Int) := by
  unfold Builtin.Range.rangeSize; simp; omega
theorem range_small {n : Nat} (h : n ≤ 1000) : Builtin.Range.small 0 (n : Int) 1 = true := by
  have f : ∀ x : Int, 0 ≤ x → x ≤ 2000 → Builtin.Range.rangeFitsLong x = true := fun x h0 h1 => by
    unfold Builtin.Range.rangeFitsLong
    simp only [Bool.and_eq_true, decide_eq_true_eq]
    omega
  unfold Builtin.Range.small
  rw [range_size, f 0 (by omega) (by omega), f n (by omega) (by omega), f 1 (by omega) (by omega)]
  simp only [Bool.true_and, Bool.or_eq_true, beq_iff_eq]
  right
  rw [if_pos (by decide)]
  exact f _ (by omega) (by omega)
section
variable {xs : List Arc} {ns us : List Int} {r s b : Int} {i : Nat} {y : Arc}
theorem mg1 (h : (us.any fun x => x == 0 + (i : Int)) = true) : mayGo xs ns us r s b i = false := by
  rw [Int.zero_add] at h
  simp only [mayGo, h]; rfl
theorem mg2 (hy : xs.getD i (0, 0, 0) = y) (h : Builtin.bitAnd y.2.2 r ≠ 0) : mayGo xs ns us r s b i = false := by
  have e : (Builtin.bitAnd y.2.2 r == 0) = false := by simpa using h
  simp only [mayGo, hy, e, Bool.and_false, Bool.false_and]
theorem mg3 (hy : xs.getD i (0, 0, 0) = y) (h : y.2.1 ≠ 0) (h2 : Builtin.bitAnd y.2.1 r = 0) : mayGo xs ns us r s b i = false := by
  have e : (y.2.1 == 0) = false := by simpa using h
  have e2 : (Builtin.bitAnd y.2.1 r == 0) = true := by simpa using h2
  simp only [mayGo, hy, e, e2, Bool.not_true, Bool.or_false, Bool.and_false, Bool.false_and]
theorem mg4 (h : Builtin.bitAnd (s - ns.getD (0 + (i : Int)).toNat 0) b ≠ b) : mayGo xs ns us r s b i = false := by
  rw [show (0 + (i : Int)).toNat = i by omega] at h
  simp only [mayGo, Bool.and_eq_false_iff]
  exact .inr (by simpa using h)
theorem mgT (hy : xs.getD i (0, 0, 0) = y) (h0 : (us.any fun x => x == 0 + (i : Int)) = false) (h1 : y.2.1 = 0 ∨ Builtin.bitAnd y.2.1 r ≠ 0) (h2 : Builtin.bitAnd y.2.2 r = 0) (h : Builtin.bitAnd (s - ns.getD (0 + (i : Int)).toNat 0) b = b) : mayGo xs ns us r s b i = true := by
  rw [show (0 + (i : Int)).toNat = i by omega] at h
  rw [Int.zero_add] at h0
  simp only [mayGo, hy, h0, h2, h]
  rcases h1 with h1 | h1 <;> simp [h1]
theorem nextTurn {g h' : Heap} {L I : Addr} {oI : Obj} {m' : Str → Option Value} {news : List (Addr × Obj)} {la ln lu : Addr} {s₁ : Shared} {tk : Nat} (F : Fr g L h' m') (N : News g L h' ((I, oI) :: news)) (off : ∀ p ∈ news, p.1 ≠ I)
   (hj : ∀ j, j < i → mayGo xs ns us r s b j = false) (hi : mayGo xs ns us r s b i = false) (m1 : m' "arcs" = some (.ref la)) (m2 : m' "numbers" = some (.ref ln)) (m3 : m' "used" = some (.ref lu)) (m4 : ∃ t, m' "reached" = some (.int r t)) (m5 : ∃ t, m' "spare" = some (.int s t)) (m6 : ∃ t, m' "bars" = some (.int b t)) :
   TurnEnd g L [(I, oI)] (fun _ => True) (NextInv la ln lu xs ns us r s b (i + 1)) s₁ { s₁ with heap := h', toks := tk } :=
  TurnEnd.intro F N (fun _ h => h) (fun p hp q hq => by rw [List.mem_singleton.mp hq]; exact off p hp) trivial ⟨fun j hj' => by
    rcases Nat.lt_succ_iff_lt_or_eq.mp hj' with h | h
    · exact hj j h
    · rw [h]; exact hi, m1, m2, m3, m4, m5, m6⟩
end
theorem wordsF70 : True := by
  k_with_none
  (k_with "m subscriptTail Name Name ref int" => ((with_reducible show wpAny _ _ (subscriptTail _ _ (Value.ref _) (Value.int _ _)) _ _ _); first | (with_unfolding_all refine' item_list ?zkk1 ?zkk2 ?zkk3 ?zkk4 ?_; (case zkk1 => is_list); (case zkk2 => with_reducible assumption); (case zkk3 => with_reducible assumption); (case zkk4 => with_reducible assumption); k_whole) | (with_unfolding_all refine' item_list_ints ?zkk1 ?zkk2 ?zkk3 ?zkk4 ?zkk5 ?_; (case zkk1 => is_list); (case zkk2 => with_reducible assumption); (case zkk3 => with_reducible assumption); (case zkk4 => with_reducible assumption); (case zkk5 => with_reducible assumption); k_whole; intro _)))
  (k_with "m call ref" => refine Hold.mk' ?_)
  (k_with "m exec For Name Call cons nil" => refine Hold.mk' ?_)
  (k_with "m pyIter ref" => refine Hold.mk' ?_)
  trivial
theorem next_spec {w : World} {dp un : Nat} {gd : Option (List Code)} {s : Shared} {base : Heap} {outer : List Env} {p : Program} {loose : List Str} {mean : ExcName → Option Value} {mg mb : Str → Option Value} {Q E : Value → Shared → Prop}
   (la ln lu : Addr) (T₀ : List (Addr × Obj)) (ws vs uv : List Value) (xs : List Arc) (ns us : List Int) (reached spare bars : Int) (t1 t2 t3 : Tok)
   (h1 : s.heap.IsList la ws.toArray) (h2 : s.heap.IsList ln vs.toArray) (h3 : s.heap.IsList lu uv.toArray) (hA : ArcsIn T₀ ws xs) (hT : ∀ p ∈ T₀, s.heap.get? p.1 = some p.2) (hN : IntsAre vs ns) (hU : IntsAre uv us) (hlen : ns.length = xs.length) (hx : xs.length ≤ 63)
   (B : Below (At dp un gd outer) base outer s.heap) (X : (frag w.params).In s.heap) (T : Top p loose mean mg mb s.heap) (hdp : dp ≤ 880)
   (hret : ∀ h' tk' t', Ext s.heap h' → Q (.int (nextOf xs ns us reached spare bars) t') {s with heap := h', toks := tk'}) :
   wpAny (model Challenge.rw_tl0025_01.row.prog w) (At dp un gd outer) (call (.ref 111) [.ref la, .ref ln, .ref lu, .int reached t1, .int spare t2, .int bars t3]) Q E s := by
  revert X; k_fill; intro X
  (refine' enter (binds := [(Str.ofString "arcs", .ref la), (Str.ofString "numbers", .ref ln), (Str.ofString "used", .ref lu), (Str.ofString "reached", .int reached t1), (Str.ofString "spare", .int spare t2), (Str.ofString "bars", .int bars t3)]) ?k1 ?k2 ?k3 ?k6 ?k7 ?k8 ?k9 ?kB ?_ ?c2 ?c3 ?c4 ?c5; (case k1 => k_asm); (case k2 => k_asm); (case k3 => k_asm); (case k6 => k_is); (case k7 => k_is); (case k8 => (simp only [recursionLimit]; first | exact room (by assumption) rfl | omega)); (case k9 => exact BindsTo.of_eq rfl); (case c5 => decide); (case kB => exact locs rfl); (case c2 => exact rfl); (case c3 => exact rfl); (case c4 => exact rfl); k_whole)
  intro g L' h₁ eg F N B X T
  (try dsimp only)
  k_fold
  rw [← eg] at h1 h2 h3 hT
  have hl1 : ws.toArray.size = xs.length := by rw [List.size_toArray]; exact arcs_len' hA
  k_steps
  unfold Hold
  refine wpAny_For ?_
  k_steps
  unfold Hold
  rename IsRange _ _ _ _ _ _ _ _ => R'
  rename Fr _ _ _ _ => F'
  have hl2 : ws.length = xs.length := arcs_len' hA
  refine' iterRange (Q := _) (n := ws.length) (NextInv la ln lu xs ns us reached spare bars) rfl R' ?sm ?rs F' News.nil ?h0 ?turn ?fin
  case sm => exact range_small (by omega)
  case rs => exact range_size _
  case h0 => exact ⟨fun j hj => absurd hj (Nat.not_lt_zero _), by with_unfolding_all rfl, by with_unfolding_all rfl, by with_unfolding_all rfl, ⟨_, by with_unfolding_all rfl⟩, ⟨_, by with_unfolding_all rfl⟩, ⟨_, by with_unfolding_all rfl⟩⟩
  case turn =>
    clear F' R'
    intro I i tt m news h tk oI hi hInv hoff F N
    obtain ⟨hj, m1, m2, m3, ⟨u4, m4⟩, ⟨u5, m5⟩, ⟨u6, m6⟩⟩ := hInv
    have F3 := know3 (know3 F m1 m2 m3 (by decide) (by decide) (by decide)) (x := "reached") (y := "spare") (z := "bars") (u := .int reached u4) (v := .int spare u5) (t := .int bars u6) m4 m5 m6 (by decide) (by decide) (by decide)
    obtain ⟨a, v1, v2, v3, ha, hm⟩ := arcs_at hA (k := i) (by omega)
    have hTa := hT _ hm
    clear F
    have k0 : (0 : Int) ≤ 0 + (i : Int) := by omega
    have k1 : (0 : Int) + (i : Int) < 2 ^ 63 := by omega
    have ha' : ws.toArray[(0 + (i : Int)).toNat]? = some (.ref a) := by rw [show (0 + (i : Int)).toNat = i by omega]; simpa using ha
    have kn : (0 : Int) + (i : Int) < (ns.length : Int) := by omega
    generalize hy : xs.getD i (0, 0, 0) = y at *
    have hTu : g.IsTuple a #[.int y.1 v1, .int y.2.1 v2, .int y.2.2 v3] := ⟨_, hTa, rfl, _, rfl⟩
    k_steps
    · first
        | (show TurnEnd _ _ _ _ _ _ _; exact nextTurn (by assumption) (by assumption) hoff hj (by first | exact mg1 (by assumption) | exact mg2 hy (by assumption) | exact mg3 hy (by assumption) (by assumption) | exact mg4 (by assumption)) (by with_unfolding_all rfl) (by with_unfolding_all rfl) (by with_unfolding_all rfl) ⟨_, by with_unfolding_all rfl⟩ ⟨_, by with_unfolding_all rfl⟩ ⟨_, by with_unfolding_all rfl⟩)
        | (rw [next_found (by omega) hj (mgT hy (by assumption) (by first | exact .inl (by assumption) | exact .inr (by assumption)) (by assumption) (by assumption)), ← Int.zero_add (i : Int)] at hret; subst eg; exact hret _ _ _ (Fr.keep (by assumption)))
    unfold Hold
    rename Fr _ _ _ _ => F'
    rename News _ _ _ _ => N'
    refine iseof_spec y.2.1 _ (pushX B F' rfl rfl) (Frag.In.keeps X F'.keep) (Top.keeps T F'.keep) (by show dp + 1 ≤ 900; omega) ?_
    intro h2 tk2 hE
    obtain ⟨F2, N2⟩ := useE F' N' hE
    clear F' N'
    (try dsimp only)
    k_steps
    all_goals first
      | (show TurnEnd _ _ _ _ _ _ _; exact nextTurn (by assumption) (by assumption) hoff hj (by first | exact mg1 (by assumption) | exact mg2 hy (by assumption) | exact mg3 hy (by assumption) (by assumption) | exact mg4 (by assumption)) (by with_unfolding_all rfl) (by with_unfolding_all rfl) (by with_unfolding_all rfl) ⟨_, by with_unfolding_all rfl⟩ ⟨_, by with_unfolding_all rfl⟩ ⟨_, by with_unfolding_all rfl⟩)
      | (rw [next_found (by omega) hj (mgT hy (by assumption) (by first | exact .inl (by assumption) | exact .inr (by assumption)) (by assumption) (by assumption)), ← Int.zero_add (i : Int)] at hret; subst eg; exact hret _ _ _ (Fr.keep (by assumption)))
  case fin =>
    clear F' R'
    intro m news h tk hInv F N
    obtain ⟨hj, m1, m2, m3, ⟨u4, m4⟩, ⟨u5, m5⟩, ⟨u6, m6⟩⟩ := hInv
    dsimp only
    k_steps
    subst eg
    rw [next_none (by rw [← hl2]; exact hj)] at hret
    exact hret h _ _ F.keep
end Mine
end

namespace Mine
theorem freshLp2 : True ∧ True := by
  k_with_none
  w_top off
  first | (walk1; all_goals exact trivial) | exact ⟨trivial, trivial⟩
end Mine
section
open PySem PySem.W PyProof.Rows
set_option Elab.async false
set_option maxRecDepth 100000
namespace Mine
open PySem.Calls PySem.Spec
section
variable {prog : Program} {w : World} {A : Around} {E : Value → Shared → Prop} {s : Shared} {env : Env} {h₀ : Heap} {L : Addr} {target : Expr} {body : List Stmt} {Q : Flow → Shared → Prop}
theorem iterStep {r : Addr} {a b c : Int} {t u v : Tok} {n : Nat} {m₀ : Str → Option Value} {news₀ : List (Addr × Obj)} (Inv : Nat → (Str → Option Value) → List (Addr × Obj) → Prop)
    (hh : A.handled = none) (hr : IsRange s.heap r a b c t u v) (hsm : Builtin.Range.small a b c = true) (hn : Builtin.Range.rangeSize a b c = ((n : Nat) : Int)) (F : Fr h₀ L s.heap m₀) (N : News h₀ L s.heap news₀) (h0 : Inv 0 m₀ news₀)
    (turn : ∀ I i t m news h tk oI, i < n → Inv i m news → (∀ p ∈ news, p.1 ≠ I) → Fr h₀ L h m → News h₀ L h ((I, oI) :: news) →
      wpAny (model prog w) A (assign target env (.int (a + (i : Int) * c) t)) (fun _ s₂ => wpAny (model prog w) A (execs body env) (TurnPost h₀ L [(I, oI)] (fun _ => True) (Inv (i + 1)) s Q) (fun _ _ => False) s₂) (fun _ _ => False) { s with heap := h, toks := tk })
    (fin : ∀ m news h tk, Inv n m news → Fr h₀ L h m → News h₀ L h news → Q .next { s with heap := h, toks := tk })
    (ht : ∀ it v, letOwnedTupleGo target it v = pure () := by intro _ _; rfl) :
    wpAny (model prog w) A (pyIter (.ref r)) (fun it s₂ => codeAny (model prog w) A (.forLoop target it body [] env) (fun r s' => match r with | .ok f => Q f s' | .error e => cameBackBy (model prog w) A env E e s') s₂) E s := by
  refine wpAny_pyIter_range hr hsm ?_
  refine for_W (S := fun _ => True) (Walks.range hh _ a c n) (fun i h st => ⟨_, st⟩) (fun i h h' o nw st e e' _ _ _ => ?_) (by show IsRangeIter _ _ _ _ _; rw [hn]; simpa using Heap.get?_push_size _ rfl)
    (F.keeps fun _ _ e => Heap.get?_push_of_some _ e) (N.grown fun _ _ e => Heap.get?_push_of_some _ e) (Nat.ne_of_lt F.ns.lt) (next_is_new F) (fun p hp => Nat.ne_of_lt (Heap.lt_size (N p hp).1)) trivial Inv h0 ?_ ?_ (fun _ _ _ _ _ _ _ hQ => wpAny_of_eq (ht _ _) hQ)
  · have st' : h.get? _ = some _ := st
    rw [st'] at e
    exact e'.trans e.symm
  · rintro i v m news h tk oI hi ⟨t, rfl⟩ hJ _ off F N
    exact turn s.heap.objs.size i t m news h tk oI hi hJ off F N
  · intro m news h tk hJ F N
    exact fin m news h tk hJ F N
end
end Mine
end

namespace Mine
theorem freshF8 : True ∧ True := by
  k_with_none
  w_top off
  first | (walk1; all_goals exact trivial) | exact ⟨trivial, trivial⟩
end Mine
section
open PySem PySem.W PyProof.Rows
set_option Elab.async false
set_option maxRecDepth 100000
set_option maxHeartbeats 2000000
namespace Mine
open PySem.Calls PySem.Spec PySem.Flt

noncomputable abbrev Tri := Nat × Nat × Nat
noncomputable def hAt (xs : List Arc) (k : Nat) : Int := (xs.getD k (0, 0, 0)).2.2
noncomputable def tAt (xs : List Arc) (k : Nat) : Int := (xs.getD k (0, 0, 0)).2.1
structure TStep (xs : List Arc) (ns : List Int) (ones still : Int) (us : List Int) (left : Int) (k : Tri) : Prop where
  l1 : k.1 < xs.length
  l2 : k.2.1 < xs.length
  l3 : k.2.2 < xs.length
  n1 : nextOf xs ns us 0 (left + (32 - still) * ones) (32 * ones) = (k.1 : Int)
  r1 : Builtin.bitOr 0 (hAt xs k.1) ≠ 7
  n2 : nextOf xs ns (us ++ [(k.1 : Int)]) (Builtin.bitOr 0 (hAt xs k.1)) (left - ns.getD k.1 0 + (32 - still) * ones) (32 * ones) = (k.2.1 : Int)
  r2 : Builtin.bitOr (Builtin.bitOr 0 (hAt xs k.1)) (hAt xs k.2.1) ≠ 7
  n3 : nextOf xs ns (us ++ [(k.1 : Int)] ++ [(k.2.1 : Int)]) (Builtin.bitOr (Builtin.bitOr 0 (hAt xs k.1)) (hAt xs k.2.1)) (left - ns.getD k.1 0 - ns.getD k.2.1 0 + (32 - still) * ones) (32 * ones) = (k.2.2 : Int)
  r3 : Builtin.bitOr (Builtin.bitOr (Builtin.bitOr 0 (hAt xs k.1)) (hAt xs k.2.1)) (hAt xs k.2.2) = 7
noncomputable def usedUp (ks : List Tri) (i : Nat) : List Int := (ks.take i).flatMap fun k => [(k.1 : Int), (k.2.1 : Int), (k.2.2 : Int)]
noncomputable def leftUp (ns : List Int) (left : Int) (ks : List Tri) (i : Nat) : Int := (ks.take i).foldl (fun l k => l - ns.getD k.1 0 - ns.getD k.2.1 0 - ns.getD k.2.2 0) left
noncomputable def treeOf (xs : List Arc) (k : Tri) : List (Int × Int) := [(tAt xs k.1, hAt xs k.1), (tAt xs k.2.1, hAt xs k.2.1), (tAt xs k.2.2, hAt xs k.2.2)]
noncomputable def PairIn (T : List (Addr × Obj)) (v : Value) (x : Int × Int) : Prop := ∃ a t1 t2, v = .ref a ∧ (a, tupO #[.int x.1 t1, .int x.2 t2]) ∈ T
noncomputable def TreeIn (T : List (Addr × Obj)) (v : Value) (x : List (Int × Int)) : Prop := ∃ l vs n, v = .ref l ∧ (l, listOf (List.toArray vs) n) ∈ T ∧ Paired (PairIn T) vs x
noncomputable def TreesIn (T : List (Addr × Obj)) (ws : List Value) (xs : List (List (Int × Int))) : Prop := Paired (TreeIn T) ws xs

noncomputable def InvT (la ln : Addr) (xs : List Arc) (ns : List Int) (ones : Int) (ks : List Tri) (i : Nat) (m : Str → Option Value) (news : List (Addr × Obj)) : Prop :=
  ∃ D U tv tn uv un T, news = (D, listOf (List.toArray tv) tn) :: (U, listOf (List.toArray uv) un) :: T ∧ Off D U ∧ AllNe D T ∧ AllNe U T ∧ IntsAre uv (usedUp ks i) ∧ TreesIn T tv ((ks.take i).map (treeOf xs)) ∧ tv.length = i ∧
    m "trees" = some (.ref D) ∧ m "used" = some (.ref U) ∧ m "arcs" = some (.ref la) ∧ m "numbers" = some (.ref ln) ∧ (∃ t, m "ones" = some (.int ones t)) ∧ ∃ t, m "left" = some (.int (leftUp ns ns.sum ks i) t)
theorem ints_snoc {vs : List Value} {ns : List Int} (h : IntsAre vs ns) (x : Int) (t : Tok) : IntsAre (vs ++ [.int x t]) (ns ++ [x]) := by
  induction h with
  | nil => exact .cons x t .nil
  | cons n u _ ih => exact .cons n u ih
theorem usedUp_succ {ks : List Tri} {i : Nat} {k : Tri} (h : ks[i]? = some k) : usedUp ks (i + 1) = usedUp ks i ++ [(k.1 : Int)] ++ [(k.2.1 : Int)] ++ [(k.2.2 : Int)] := by
  unfold usedUp
  rw [List.take_add_one, h]
  simp
theorem leftUp_succ {ns : List Int} {l : Int} {ks : List Tri} {i : Nat} {k : Tri} (h : ks[i]? = some k) : leftUp ns l ks (i + 1) = leftUp ns l ks i - ns.getD k.1 0 - ns.getD k.2.1 0 - ns.getD k.2.2 0 := by
  unfold leftUp
  rw [List.take_add_one, h]
  simp
theorem PairIn.mono {T T' : List (Addr × Obj)} (hs : ∀ p ∈ T, p ∈ T') {v : Value} {x : Int × Int} (h : PairIn T v x) : PairIn T' v x := let ⟨a, t1, t2, e, hm⟩ := h; ⟨a, t1, t2, e, hs _ hm⟩
theorem TreeIn.mono {T T' : List (Addr × Obj)} (hs : ∀ p ∈ T, p ∈ T') {v : Value} {x : List (Int × Int)} (h : TreeIn T v x) : TreeIn T' v x :=
  let ⟨l, vs, n, e, hm, hp⟩ := h; ⟨l, vs, n, e, hs _ hm, Paired.mono' (fun _ _ => PairIn.mono hs) hp⟩
theorem trees_turn {g h' : Heap} {L D U R I D1 D2 D3 la ln : Addr} {m' : Str → Option Value} {oI : Obj} {xs : List Arc} {ns : List Int} {ones : Int} {ks : List Tri} {i : Nat} {k1 k2 k3 : Nat} {tv uv : List Value} {T₁ : List (Addr × Obj)} {w1 w2 w3 x1 x2 x3 y1 y2 y3 tl : Tok} {c tn unn tk : Nat} {s₁ : Shared}
    (F : Fr g L h' m') (hk : ks[i]? = some (k1, k2, k3))
    (N : News g L h' ((D3, tupO #[.int (tAt xs k3) w3, .int (hAt xs k3) x3]) :: (D2, tupO #[.int (tAt xs k2) w2, .int (hAt xs k2) x2]) :: (D1, tupO #[.int (tAt xs k1) w1, .int (hAt xs k1) x1]) :: (R, listOf (([] ++ [Value.ref D1] ++ [Value.ref D2]).toArray.push (Value.ref D3)) c) ::
      (I, oI) :: (D, listOf (tv.toArray.push (Value.ref R)) tn) :: (U, listOf ((uv ++ [Value.int (k1 : Int) y1] ++ [Value.int (k2 : Int) y2]).toArray.push (Value.int (k3 : Int) y3)) unn) :: T₁))
    (hU : IntsAre uv (usedUp ks i)) (hTr : TreesIn T₁ tv ((ks.take i).map (treeOf xs))) (htv : tv.length = i) (hDU : Off D U) (hDT : AllNe D T₁) (hUT : AllNe U T₁) (r1 : Off D I) (r2 : Off U I) (r3 : AllOff I T₁)
    (o1 : Off I R) (o2 : Off D R) (o3 : Off U R) (a2 : Off I D1) (a3 : Off D D1) (a4 : Off U D1) (b2 : Off I D2) (b3 : Off D D2) (b4 : Off U D2) (c2 : Off I D3) (c3 : Off D D3) (c4 : Off U D3)
    (m1 : m' "trees" = some (.ref D)) (m2 : m' "used" = some (.ref U)) (m3 : m' "arcs" = some (.ref la)) (m4 : m' "numbers" = some (.ref ln)) (m5 : ∃ t, m' "ones" = some (.int ones t)) (m6 : m' "left" = some (.int (leftUp ns ns.sum ks i - ns.getD k1 0 - ns.getD k2 0 - ns.getD k3 0) tl)) :
    TurnEnd g L [(I, oI)] (fun _ => True) (InvT la ln xs ns ones ks (i + 1)) s₁ { s₁ with heap := h', toks := tk } := by
  simp only [List.push_toArray] at N
  refine TurnEnd.intro (news' := (D, listOf (tv ++ [Value.ref R]).toArray tn) :: (U, listOf (uv ++ [Value.int (k1 : Int) y1] ++ [Value.int (k2 : Int) y2] ++ [Value.int (k3 : Int) y3]).toArray unn) :: (R, listOf ([] ++ [Value.ref D1] ++ [Value.ref D2] ++ [Value.ref D3]).toArray c) ::
    (D1, tupO #[.int (tAt xs k1) w1, .int (hAt xs k1) x1]) :: (D2, tupO #[.int (tAt xs k2) w2, .int (hAt xs k2) x2]) :: (D3, tupO #[.int (tAt xs k3) w3, .int (hAt xs k3) x3]) :: T₁) F N (fun p hp => ?_) (fun p hp q hq => ?_) trivial
    ⟨D, U, _, _, _, _, _, rfl, hDU, ⟨Off.ne' o2, Off.ne' a3, Off.ne' b3, Off.ne' c3, hDT⟩, ⟨Off.ne' o3, Off.ne' a4, Off.ne' b4, Off.ne' c4, hUT⟩, ?_, ?_, by simp [htv], m1, m2, m3, m4, m5, ⟨tl, ?_⟩⟩
  · simp only [List.cons_append, List.nil_append, List.mem_cons] at hp ⊢
    rcases hp with h | h | h | h | h | h | h | h <;> simp [h]
  · rw [List.mem_singleton.mp hq]
    exact of_allNe (show AllNe I ((D, _) :: (U, _) :: (R, _) :: (D1, _) :: (D2, _) :: (D3, _) :: T₁) from ⟨r1, r2, Off.ne' o1, Off.ne' a2, Off.ne' b2, Off.ne' c2, AllOff.ne r3⟩) p hp
  · rw [usedUp_succ hk]
    exact ints_snoc (ints_snoc (ints_snoc hU _ _) _ _) _ _
  · rw [List.take_add_one, hk]
    simp only [Option.toList_some, List.map_append, List.map_cons, List.map_nil]
    refine Paired.snoc (Paired.mono' (fun _ _ => TreeIn.mono fun p hp => by simp [hp]) hTr) ⟨R, [.ref D1, .ref D2, .ref D3], c, rfl, by simp, ?_⟩
    exact .cons ⟨D1, w1, x1, rfl, by simp⟩ (.cons ⟨D2, w2, x2, rfl, by simp⟩ (.cons ⟨D3, w3, x3, rfl, by simp⟩ .nil))
  · rw [leftUp_succ hk]; exact m6
theorem range_down (n : Nat) : Builtin.Range.rangeSize ((n : Int) - 1) (-1) (-1) = (n : Int) := by
  unfold Builtin.Range.rangeSize; simp; omega
theorem range_downS {n : Nat} (h : n ≤ 1000) : Builtin.Range.small ((n : Int) - 1) (-1) (-1) = true := by
  have h2 : (n : Int) ≤ 1000 := by omega
  have f : ∀ x : Int, -2000 ≤ x → x ≤ 2000 → Builtin.Range.rangeFitsLong x = true := fun x h0 h1 => by
    unfold Builtin.Range.rangeFitsLong
    simp only [Bool.and_eq_true, decide_eq_true_eq]
    omega
  unfold Builtin.Range.small
  rw [range_down, f _ (by omega) (by omega), f (-1) (by omega) (by omega), f n (by omega) (by omega)]
  simp only [Bool.true_and, Bool.or_eq_true, beq_iff_eq]
  right
  rw [if_neg (by decide)]
  exact f _ (by omega) (by omega)
theorem Off.of_lt {a b : Addr} (h : @LT.lt Nat _ a b) : Off a b := Nat.ne_of_lt h
theorem szl {l : List Value} (h : l.length ≤ 100) : l.toArray.size ≤ sizeLine := Nat.le_trans h (by decide)
theorem used_len (ks : List Tri) (i : Nat) : (usedUp ks i).length ≤ 3 * i := by
  unfold usedUp
  have : ∀ l : List Tri, (l.flatMap fun k => [(k.1 : Int), (k.2.1 : Int), (k.2.2 : Int)]).length = 3 * l.length := fun l => by
    induction l with
    | nil => rfl
    | cons a r ih => rw [List.flatMap_cons, List.length_append, ih]; simp; omega
  rw [this]
  have := List.length_take_le i ks
  omega
theorem lsz (l : Nat) (h : l ≤ 100) : l ≤ sizeLine := Nat.le_trans h (by decide)
section
variable {prog : Program} {w : World} {A : Around} {E : Value → Shared → Prop} {s : Shared} {a b : Int} {k : Nat} {t u : Tok} {Q : Value → Shared → Prop}
theorem ne_yes (e : a ≠ b) (h : Q (.bool true) s) : wpAny (model prog w) A (compareOp .NotEq (.int a t) (.int b u)) Q E s := ne_int (by rw [show (a != b) = true by simpa using e]; exact h)
theorem ne_yesH (e : Hold (a ≠ b)) (h : Q (.bool true) s) : wpAny (model prog w) A (compareOp .NotEq (.int a t) (.int b u)) Q E s := ne_yes e h
theorem ne_no (e : a = b) (h : Q (.bool false) s) : wpAny (model prog w) A (compareOp .NotEq (.int a t) (.int b u)) Q E s := ne_int (by rw [show (a != b) = false by simpa using e]; exact h)
theorem lt_nat0 (h : Q (.bool false) s) : wpAny (model prog w) A (compareOp .Lt (.int (k : Int) t) (.int 0 u)) Q E s := lt_int (by rw [show decide ((k : Int) < 0) = false from decide_eq_false (by omega)]; exact h)
end
theorem ne07 : Hold ((0 : Int) ≠ 7) := by show (0 : Int) ≠ 7; decide
local macro_rules | `(tactic| k_ne) => `(tactic| (refine neN ?_; (try dsimp only); first | (refine Off.ne ?_; with_reducible assumption) | (refine Off.ne' ?_; with_reducible assumption)))
local macro_rules | `(tactic| k_all) => `(tactic| exact of_allNe (AllOff.ne (by assumption)))
local macro_rules | `(tactic| k_all) => `(tactic| exact of_allNe (by assumption))
theorem wordsF80 : True := by
  k_with_none
  (k_with "m compareOp Lt int int" => (k_here; refine lt_nat0 ?_))
  (k_with "m compareOp NotEq int int" => (k_here; first | (with_reducible refine ne_yesH (by first | assumption | exact ne07) ?_) | (with_reducible refine ne_no (by assumption) ?_)))
  (k_with "m execs cons" => (refine genP ?_; intro _ _))
  (k_with "m execs nil" => (refine genP ?_; intro _ _))
  (k_with "m call builtin:list.append" => (k_dflt (refine' append_K ?zkk1 ?zkk2 ?zkk3 ?_ ?zkz; (case zkk1 => k_asm); (case zkk2 => k_asm); (case zkk3 => k_upd); (case zkz => first | (with_reducible assumption) | (with_unfolding_all exact fitN rfl) | (refine szl ?_; simp only [List.length_append, List.length_cons, List.length_nil]; omega) | size_fits); k_whole); intro h' F' N'; (try k_sweep)))
  (k_with "m binaryOp Mult int int" => (k_here; refine mul_int ?_ (IntMulOk.of_left (by first | with_reducible assumption | decide +kernel))))
  (k_with "m subscriptTail Name Name ref int" => ((with_reducible show wpAny _ _ (subscriptTail _ _ (Value.ref _) (Value.int _ _)) _ _ _); first | (refine item_list (Fr.lst (by with_reducible assumption) (by with_reducible assumption)) (by with_reducible assumption) (by with_reducible assumption) (by with_reducible assumption) ?_) | (refine item_list_ints (Fr.lst (by with_reducible assumption) (by with_reducible assumption)) (by with_reducible assumption) (by with_reducible assumption) (by with_reducible assumption) (by with_reducible assumption) ?_; intro _)))
  trivial
theorem t3_2 {a b c : Value} : (#[a, b, c] : Array Value)[2]? = some c := rfl
theorem wordsF81 : True := by
  (k_with "m subscriptTail Name Constant ref int" => ((with_reducible show wpAny _ _ (subscriptTail _ _ (Value.ref _) (Value.int _ _)) _ _ _); refine item_tuple (j := 2) (Fr.tup (by with_reducible assumption) (by with_reducible assumption)) (by decide) (by decide) (by rfl) t3_2 ?_))
  (k_with "m subscriptTail" => (k_here; k_dflt (refine kba_turn (value' := PySem.Expr.Name (PySem.Str.ofString "_") ⟨0, 0, 0, 0⟩) (fun _ => rfl) ?_)))
  (k_with "m subscriptTail Subscript Slice ref ref" => (k_here; k_dflt (refine kba_turn (value' := PySem.Expr.Name (PySem.Str.ofString "_") ⟨0, 0, 0, 0⟩) (fun _ => rfl) ?_)))
  (k_with "m subscriptTail Name Slice ref ref" => refine Hold.mk' ?_)
  (k_with "m exec For Name Call cons nil" => refine Hold.mk' ?_)
  (k_with "m pyIter ref" => refine Hold.mk' ?_)
  (k_with "m exec While" => refine Hold.mk' ?_)
  (k_with "m call ref" => refine Hold.mk' ?_)
  trivial
theorem trees_spec {w : World} {dp un : Nat} {gd : Option (List Code)} {s : Shared} {base : Heap} {outer : List Env} {p : Program} {loose : List Str} {mean : ExcName → Option Value} {mg mb : Str → Option Value} {Q E : Value → Shared → Prop}
   (la ln : Addr) (T₀ : List (Addr × Obj)) (ws vs : List Value) (xs : List Arc) (ns : List Int) (ones : Int) (most : Nat) (ks : List Tri) (t1 t2 : Tok)
   (h1 : s.heap.IsList la ws.toArray) (h2 : s.heap.IsList ln vs.toArray) (hA : ArcsIn T₀ ws xs) (hT : ∀ p ∈ T₀, s.heap.get? p.1 = some p.2) (hN : IntsAre vs ns) (hlen : ns.length = xs.length) (hx : xs.length ≤ 63) (hmost : most ≤ 6)
   (hK : ks.length = most) (hS : ∀ (i : Nat) (k : Tri), ks[i]? = some k → TStep xs ns ones ((most : Int) - 1 + (i : Int) * (-1)) (usedUp ks i) (leftUp ns ns.sum ks i) k)
   (B : Below (At dp un gd outer) base outer s.heap) (X : (frag w.params).In s.heap) (T : Top p loose mean mg mb s.heap) (hdp : dp ≤ 870)
   (hret : ∀ D (wv : List Value) n (T' : List (Addr × Obj)) h' tk', Ext s.heap h' → s.heap.get? D = none → h'.get? D = some (listOf wv.toArray n) → (∀ p ∈ T', s.heap.get? p.1 = none ∧ h'.get? p.1 = some p.2 ∧ p.1 ≠ D) → TreesIn T' wv (ks.map (treeOf xs)) → Q (.ref D) {s with heap := h', toks := tk'}) :
   wpAny (model Challenge.rw_tl0025_01.row.prog w) (At dp un gd outer) (call (.ref 118) [.ref la, .ref ln, .int ones t1, .int most t2]) Q E s := by
  revert X; k_fill; intro X
  (refine' enter (binds := [(Str.ofString "arcs", .ref la), (Str.ofString "numbers", .ref ln), (Str.ofString "ones", .int ones t1), (Str.ofString "most", .int most t2)]) ?k1 ?k2 ?k3 ?k6 ?k7 ?k8 ?k9 ?kB ?_ ?c2 ?c3 ?c4 ?c5; (case k1 => k_asm); (case k2 => k_asm); (case k3 => k_asm); (case k6 => k_is); (case k7 => k_is); (case k8 => (simp only [recursionLimit]; first | exact room (by assumption) rfl | omega)); (case k9 => exact BindsTo.of_eq rfl); (case c5 => decide); (case kB => exact locs rfl); (case c2 => exact rfl); (case c3 => exact rfl); (case c4 => exact rfl); k_whole)
  intro g L' h₁ eg F N B X T
  (try dsimp only)
  k_fold
  rw [← eg] at h1 h2 hT
  have hl1 : ws.toArray.size = xs.length := by rw [List.size_toArray]; exact arcs_len' hA
  k_steps
  unfold Hold
  refine wpAny_For ?_
  k_steps
  unfold Hold
  rename IsRange _ _ _ _ _ _ _ _ => R'
  rename Fr _ _ _ _ => F'
  rename News _ _ _ _ => N'
  refine' iterStep (Q := _) (n := most) (InvT la ln xs ns ones ks) rfl R' ?sm ?rs F' N' ?h0 ?turn ?fin ?ht
  case sm => exact range_downS (by omega)
  case rs => exact range_down _
  case ht => exact fun _ _ => rfl
  case h0 => exact ⟨_, _, [], _, [], _, [], rfl, Nat.ne_of_gt (by assumption), trivial, trivial, .nil, .nil, rfl, by with_unfolding_all rfl, by with_unfolding_all rfl, by with_unfolding_all rfl, by with_unfolding_all rfl, ⟨_, by with_unfolding_all rfl⟩, ⟨_, by with_unfolding_all rfl⟩⟩
  case turn =>
    clear F' N' R'
    intro I i tt m news h tk oI hi hInv hoff F N
    obtain ⟨D, U, tv, tn, uv, unn, T₁, rfl, hDU, hDT, hUT, hU, hTr, htv, m1, m2, m3, m4, ⟨u5, m5⟩, ⟨u6, m6⟩⟩ := hInv
    replace hoff := offs (allNe_of hoff)
    simp only [AllOff] at hoff
    obtain ⟨r1, r2, r3⟩ := hoff
    obtain ⟨⟨k1, k2, k3⟩, hk⟩ : ∃ k, ks[i]? = some k := ⟨ks[i], List.getElem?_eq_getElem (by omega)⟩
    have hst := hS i _ hk
    have F3 := know3 (know3 F m1 m2 m3 (by decide) (by decide) (by decide)) (x := "numbers") (y := "ones") (z := "left") (u := .ref ln) (v := .int ones u5) (t := .int (leftUp ns ns.sum ks i) u6) m4 m5 m6 (by decide) (by decide) (by decide)
    clear F m1 m2 m3 m4 m5 m6
    obtain ⟨z1, z2, z3⟩ : Hold (Builtin.bitOr 0 (hAt xs k1) ≠ 7) ∧ Hold (Builtin.bitOr (Builtin.bitOr 0 (hAt xs k1)) (hAt xs k2) ≠ 7) ∧ _ := ⟨hst.r1, hst.r2, hst.r3⟩
    have hb : Builtin.Int.intBits (32 - ((most : Int) - 1 + (i : Int) * (-1))) ≤ 64 := (@intBits_le_iff 64 _).mpr (by omega)
    have huv : uv.length ≤ 3 * i := by rw [hU.length]; exact used_len ks i
    obtain ⟨a1, v1, w1, x1, hz1, hm1⟩ := arcs_at hA (k := k1) hst.l1
    have ha1 : ws.toArray[((k1 : Nat) : Int).toNat]? = some (.ref a1) := by simpa using hz1
    have hT1 : IsTup g a1 #[.int (xs.getD k1 (0, 0, 0)).1 v1, .int (tAt xs k1) w1, .int (hAt xs k1) x1] := ⟨_, hT _ hm1, rfl, _, rfl⟩
    have p1 : (0 : Int) ≤ ((k1 : Nat) : Int) := Int.natCast_nonneg _
    have q1 : ((k1 : Nat) : Int) < 2 ^ 63 := by have := hst.l1; simp only at this; omega
    have s1 : ((k1 : Nat) : Int) < (ns.length : Int) := by have := hst.l1; simp only at this; omega
    clear hz1 hm1
    obtain ⟨a2, v2, w2, x2, hz2, hm2⟩ := arcs_at hA (k := k2) hst.l2
    have ha2 : ws.toArray[((k2 : Nat) : Int).toNat]? = some (.ref a2) := by simpa using hz2
    have hT2 : IsTup g a2 #[.int (xs.getD k2 (0, 0, 0)).1 v2, .int (tAt xs k2) w2, .int (hAt xs k2) x2] := ⟨_, hT _ hm2, rfl, _, rfl⟩
    have p2 : (0 : Int) ≤ ((k2 : Nat) : Int) := Int.natCast_nonneg _
    have q2 : ((k2 : Nat) : Int) < 2 ^ 63 := by have := hst.l2; simp only at this; omega
    have s2 : ((k2 : Nat) : Int) < (ns.length : Int) := by have := hst.l2; simp only at this; omega
    clear hz2 hm2
    obtain ⟨a3, v3, w3, x3, hz3, hm3⟩ := arcs_at hA (k := k3) hst.l3
    have ha3 : ws.toArray[((k3 : Nat) : Int).toNat]? = some (.ref a3) := by simpa using hz3
    have hT3 : IsTup g a3 #[.int (xs.getD k3 (0, 0, 0)).1 v3, .int (tAt xs k3) w3, .int (hAt xs k3) x3] := ⟨_, hT _ hm3, rfl, _, rfl⟩
    have p3 : (0 : Int) ≤ ((k3 : Nat) : Int) := Int.natCast_nonneg _
    have q3 : ((k3 : Nat) : Int) < 2 ^ 63 := by have := hst.l3; simp only at this; omega
    have s3 : ((k3 : Nat) : Int) < (ns.length : Int) := by have := hst.l3; simp only at this; omega
    clear hz3 hm3
    k_steps
    · rename (_ < _) ∧ _ => hR
      obtain ⟨hR1, hR2, hR3, hR4⟩ := hR
      have o1 := Off.of_lt hR1
      have o2 := Off.of_lt hR2
      have o3 := Off.of_lt hR3
      have o4 := allNe_of_allLt hR4
      clear hR1 hR2 hR3 hR4
      have hU1 := hU
      -- arc 1
      unfold Hold
      rename Fr _ _ _ _ => F'
      rename News _ _ _ _ => N'
      (try simp only [List.push_toArray] at N')
      refine next_spec (reached := 0) (spare := leftUp ns ns.sum ks i + (32 - ((most : Int) - 1 + (i : Int) * (-1))) * ones) (bars := 32 * ones) (us := usedUp ks i) la ln U T₀ ws vs (uv) xs ns _ _ _ (h1.at fun o e => F'.keep _ _ e) (h2.at fun o e => F'.keep _ _ e) (News.isList N' (.tail _ (.tail _ (.tail _ (.head _))))) hA (fun p hp => F'.keep _ _ (hT p hp)) hN hU1 hlen hx (pushX B F' rfl rfl) (Frag.In.keeps X F'.keep) (Top.keeps T F'.keep) (by show dp + 1 ≤ 880; omega) ?_
      intro h2' tk2 y1 hE
      rw [hst.n1]
      obtain ⟨F2, N2⟩ := useE F' N' hE
      clear F' N' hE
      (try dsimp only)
      k_steps
      unfold Hold
      rename Fr _ _ _ _ => F'
      rename News _ _ _ _ => N'
      refine slice_tupK (items := #[.int (xs.getD k1 (0, 0, 0)).1 v1, .int (tAt xs k1) w1, .int (hAt xs k1) x1]) (rest := [.int (tAt xs k1) w1, .int (hAt xs k1) x1]) (a := 1) F' N' (Fr.tup F' hT1) (Nat.le_refl _) (Nat.succ_le_succ (Nat.zero_le 2)) rfl ?_
      intro D1 h1' F3' N3' l3'
      replace l3' := offs (allNe_of l3')
      simp only [AllOff] at l3'
      (repeat (obtain ⟨_, l3'⟩ := l3'))
      replace l3' := AllOff.ne l3'
      dsimp only
      clear F' N'
      (try clear F2 N2)
      have hU2 := ints_snoc hU1 (k1 : Int) y1
      k_steps
      -- arc 2
      unfold Hold
      rename Fr _ _ _ _ => F'
      rename News _ _ _ _ => N'
      (try simp only [List.push_toArray] at N')
      refine next_spec (reached := Builtin.bitOr 0 (hAt xs k1)) (spare := leftUp ns ns.sum ks i - ns.getD k1 0 + (32 - ((most : Int) - 1 + (i : Int) * (-1))) * ones) (bars := 32 * ones) (us := usedUp ks i ++ [(k1 : Int)]) la ln U T₀ ws vs (uv ++ [.int (k1 : Int) y1]) xs ns _ _ _ (h1.at fun o e => F'.keep _ _ e) (h2.at fun o e => F'.keep _ _ e) (News.isList N' (.tail _ (.tail _ (.tail _ (.tail _ (.head _)))))) hA (fun p hp => F'.keep _ _ (hT p hp)) hN hU2 hlen hx (pushX B F' rfl rfl) (Frag.In.keeps X F'.keep) (Top.keeps T F'.keep) (by show dp + 1 ≤ 880; omega) ?_
      intro h2' tk2 y2 hE
      rw [hst.n2]
      obtain ⟨F2, N2⟩ := useE F' N' hE
      clear F' N' hE
      (try dsimp only)
      k_steps
      unfold Hold
      rename Fr _ _ _ _ => F'
      rename News _ _ _ _ => N'
      refine slice_tupK (items := #[.int (xs.getD k2 (0, 0, 0)).1 v2, .int (tAt xs k2) w2, .int (hAt xs k2) x2]) (rest := [.int (tAt xs k2) w2, .int (hAt xs k2) x2]) (a := 1) F' N' (Fr.tup F' hT2) (Nat.le_refl _) (Nat.succ_le_succ (Nat.zero_le 2)) rfl ?_
      intro D2 h2' F3' N3' l3'
      replace l3' := offs (allNe_of l3')
      simp only [AllOff] at l3'
      (repeat (obtain ⟨_, l3'⟩ := l3'))
      replace l3' := AllOff.ne l3'
      dsimp only
      clear F' N'
      (try clear F2 N2)
      have hU3 := ints_snoc hU2 (k2 : Int) y2
      k_steps
      -- arc 3
      unfold Hold
      rename Fr _ _ _ _ => F'
      rename News _ _ _ _ => N'
      (try simp only [List.push_toArray] at N')
      refine next_spec (reached := Builtin.bitOr (Builtin.bitOr 0 (hAt xs k1)) (hAt xs k2)) (spare := leftUp ns ns.sum ks i - ns.getD k1 0 - ns.getD k2 0 + (32 - ((most : Int) - 1 + (i : Int) * (-1))) * ones) (bars := 32 * ones) (us := usedUp ks i ++ [(k1 : Int)] ++ [(k2 : Int)]) la ln U T₀ ws vs (uv ++ [.int (k1 : Int) y1] ++ [.int (k2 : Int) y2]) xs ns _ _ _ (h1.at fun o e => F'.keep _ _ e) (h2.at fun o e => F'.keep _ _ e) (News.isList N' (.tail _ (.tail _ (.tail _ (.tail _ (.tail _ (.head _))))))) hA (fun p hp => F'.keep _ _ (hT p hp)) hN hU3 hlen hx (pushX B F' rfl rfl) (Frag.In.keeps X F'.keep) (Top.keeps T F'.keep) (by show dp + 1 ≤ 880; omega) ?_
      intro h2' tk2 y3 hE
      rw [hst.n3]
      obtain ⟨F2, N2⟩ := useE F' N' hE
      clear F' N' hE
      (try dsimp only)
      k_steps
      unfold Hold
      rename Fr _ _ _ _ => F'
      rename News _ _ _ _ => N'
      refine slice_tupK (items := #[.int (xs.getD k3 (0, 0, 0)).1 v3, .int (tAt xs k3) w3, .int (hAt xs k3) x3]) (rest := [.int (tAt xs k3) w3, .int (hAt xs k3) x3]) (a := 1) F' N' (Fr.tup F' hT3) (Nat.le_refl _) (Nat.succ_le_succ (Nat.zero_le 2)) rfl ?_
      intro D3 h3' F3' N3' l3'
      replace l3' := offs (allNe_of l3')
      simp only [AllOff] at l3'
      (repeat (obtain ⟨_, l3'⟩ := l3'))
      replace l3' := AllOff.ne l3'
      dsimp only
      clear F' N'
      (try clear F2 N2)
      have hU4 := ints_snoc hU3 (k3 : Int) y3
      k_steps

      show TurnEnd _ _ _ _ _ _ _
      rename Fr _ _ _ _ => F'
      rename News _ _ _ _ => N'
      exact trees_turn F' hk N' hU hTr htv hDU hDT hUT r1 r2 r3 o1 o2 o3 (by with_reducible assumption) (by with_reducible assumption) (by with_reducible assumption) (by with_reducible assumption) (by with_reducible assumption) (by with_reducible assumption) (by with_reducible assumption) (by with_reducible assumption) (by with_reducible assumption) (by with_unfolding_all rfl) (by with_unfolding_all rfl) (by with_unfolding_all rfl) (by with_unfolding_all rfl) ⟨_, by with_unfolding_all rfl⟩ (by with_unfolding_all rfl)
  case fin =>
    clear F' N' R'
    intro m news h tk hInv F N
    obtain ⟨D, U, tv, tn, uv, unn, T₁, rfl, hDU, hDT, hUT, hU, hTr, htv, m1, m2, m3, m4, ⟨u5, m5⟩, ⟨u6, m6⟩⟩ := hInv
    have F3 := know F m1
    dsimp only
    k_steps
    subst eg
    rw [← hK, List.take_length] at hTr
    exact hret D tv _ T₁ h _ F.keep (N.fresh (.head _)) (N.get (.head _)) (fun p hp => ⟨(N p (.tail _ (.tail _ hp))).2.2, (N p (.tail _ (.tail _ hp))).1, of_allNe hDT p hp⟩) hTr
end Mine
end

namespace Mine
theorem freshRe : True ∧ True := by
  k_with_none
  w_top off
  first | (walk1; all_goals exact trivial) | exact ⟨trivial, trivial⟩
end Mine
section
open PySem PySem.W PyProof.Rows
set_option Elab.async false
set_option maxRecDepth 100000
namespace Mine

noncomputable def runSre : Nat → Sre.M → Option Sre.M
  | 0, _ => none
  | k + 1, m => let m := m.runFor Builtin.Re.reTurnSteps; if m.outcome.isSome then some m else runSre k m
/-- what sub with a literal gives, piece by piece -/
noncomputable def subPieces (code : Array Nat) (groups : Nat) (text : Array Nat) (repl : Str) : Nat → Nat → Nat → Bool → Option (List Str)
  | 0, _, _, _ => none
  | f + 1, done, start, must =>
    match runSre 60 (Sre.forSearch code text groups start text.size must) with
    | none => none
    | some m =>
      match m.outcome with
      | some .matched => (subPieces code groups text repl f m.handed m.handed (m.handed == m.start)).map fun r => (if done < m.start then [⟨text.extract done m.start⟩] else []) ++ repl :: r
      | some .failed => some (if done < text.size then [⟨text.extract done text.size⟩] else [])
      | _ => none
noncomputable def reCode1 : Array Nat := #[14, 4, 0, 1, 1, 6, 1, 16, 46, 1]
noncomputable def reCode2 : Array Nat := #[14, 9, 4, 1, 2, 16, 10, 16, 13, 0, 7, 7, 16, 13, 16, 10, 15, 18, 5, 16, 10, 15, 13, 11, 16, 13, 5, 5, 0, 16, 10, 1, 15, 2, 0, 1]
noncomputable def crlf : Str := ⟨#[13, 10]⟩
noncomputable def dd : Str := ⟨#[46, 46]⟩
/-- a mail: dots, a sign, an end -/
noncomputable def mailOf (n : Nat) (sign : Nat) (e : List Nat) : Str := ⟨(List.replicate n 46 ++ sign :: e).toArray⟩
noncomputable def signs : List Nat := [43, 42, 47, 37, 38, 124]
noncomputable def ends : List (List Nat) := [[10], [13], [13, 10]]
end Mine
end

namespace Mine
theorem freshRe2 : True ∧ True := by
  k_with_none
  w_top off
  first | (walk1; all_goals exact trivial) | exact ⟨trivial, trivial⟩
end Mine
section
open PySem PySem.W PyProof.Rows
set_option Elab.async false
set_option maxRecDepth 100000
set_option maxHeartbeats 2000000
namespace Mine
open PySem.Calls PySem.Spec PySem.Builtin.Re

section
variable {prog : Program} {w : World} {A : Around} {E : Value → Shared → Prop} {s : Shared}

theorem drive {Q : Sre.M → Shared → Prop} : ∀ (k n : Nat) (m m' : Sre.M), runSre k m = some m' → k ≤ n → Q m' s → wpAny (model prog w) A (reDrive n m) Q E s
  | 0, _, _, _, h, _, _ => by cases h
  | k + 1, 0, _, _, _, hn, _ => absurd hn (by omega)
  | k + 1, n + 1, m, m', h, hn, hq => by
    unfold runSre at h
    unfold reDrive
    dsimp only at h ⊢
    by_cases ho : (m.runFor reTurnSteps).outcome.isSome = true
    · rw [if_pos ho] at h ⊢
      cases h
      exact wpAny_pure hq
    · rw [if_neg ho] at h ⊢
      exact wpAny_bind (wpAny_rule (drive k n _ m' h (by omega) hq))

theorem notes {c : Nat → Bool} {g : Nat → String} {Q : PUnit → Shared → Prop} (h : Q PUnit.unit s) : ∀ l : List Nat, wpAny (model prog w) A (forIn l PUnit.unit fun i _ => if c i = true then do rule (g i); pure (ForInStep.yield PUnit.unit) else pure (ForInStep.yield PUnit.unit)) Q E s
  | [] => by rw [List.forIn_nil]; exact wpAny_pure h
  | i :: r => by
    rw [List.forIn_cons]
    refine wpAny_bind ?_
    by_cases hc : c i = true
    · rw [if_pos hc]; exact wpAny_bind (wpAny_rule (wpAny_pure (notes h r)))
    · rw [if_neg hc]; exact wpAny_pure (notes h r)

theorem run_end {Q : Option Sre.M → Shared → Prop} {m m' : Sre.M} (h : runSre 60 m = some m')
    (hq : match m'.outcome with | some .matched => Q (some m') s | some .failed => Q none s | _ => False) : wpAny (model prog w) A (reRunToEnd m) Q E s := by
  unfold reRunToEnd
  refine wpAny_bind (drive 60 _ m m' h (by decide +kernel) ?_)
  refine wpAny_bind (notes ?_ _)
  cases ho : m'.outcome with
  | none => rw [ho] at hq; exact hq.elim
  | some o =>
    rw [ho] at hq
    cases o with
    | matched => exact wpAny_pure hq
    | failed => exact wpAny_pure hq
    | stuck _ => exact hq.elim

/-- a compiled pattern in the heap -/
structure PatAt (h : Heap) (a : Addr) (code : Array Nat) (groups : Nat) : Prop where
  obj : ∃ fs l ws n, h.get? a = some { cls := .type "re.Pattern", data := .fields fs } ∧ fs.getD 5 .none = .ref l ∧ reRawNat (fs.getD 2 .none) = groups ∧ reRawNat (fs.getD 6 .none) ≠ 1 ∧
    (∃ o, h.get? l = some o ∧ o.data = .seq ws n) ∧ (ws.map reRawOf).map (·.toNat) = code

theorem whole {p : Addr} {code : Array Nat} {groups : Nat} {x : Str} {t : Tok} {Q : ReTarget → Shared → Prop} (P : PatAt s.heap p code groups)
    (h : Q { pattern := .ref p, string := .str x t, code, text := x.cps, kind := 0, groups, pos := 0, lim := x.cps.size } s) : wpAny (model prog w) A (reWholeTarget (.ref p) (.str x t)) Q E s := by
  obtain ⟨fs, l, ws, n, ho, h5, h2, h6, ⟨o, hl, hd⟩, hc⟩ := P.obj
  unfold reWholeTarget
  refine wpAny_bind (wpAny_fieldsOf ho rfl ?_)
  refine wpAny_bind ?_
  unfold reTextOf
  refine wpAny_bind (wpAny_pure ?_)
  dsimp only
  refine wpAny_pure ?_
  dsimp only
  rw [if_neg (by simp), if_neg (by simp only [Bool.and_eq_true, beq_iff_eq]; exact fun q => h6 q.1)]
  refine wpAny_bind ?_
  unfold reNoCollectionInside
  rw [if_neg (by decide)]
  refine wpAny_pure ?_
  refine wpAny_bind ?_
  rw [h5]
  unfold reRawItems
  refine wpAny_bind (wpAny_seqItems hl hd ?_)
  refine wpAny_pure (wpAny_pure ?_)
  rw [h2, Option.getD_some, hc]
  exact h

theorem PatAt.keep {h h' : Heap} {a : Addr} {code : Array Nat} {groups : Nat} (P : PatAt h a code groups) (k : ∀ b o, h.get? b = some o → h'.get? b = some o) : PatAt h' a code groups := by
  obtain ⟨fs, l, ws, n, ho, h5, h2, h6, ⟨o, hl, hd⟩, hc⟩ := P.obj
  exact ⟨fs, l, ws, n, k _ _ ho, h5, h2, h6, ⟨o, k _ _ hl, hd⟩, hc⟩
theorem plain_sub_loop : plainId "re.Pattern.sub.loop" = true := by decide +kernel
theorem entry_sub_loop : entryFor table "re.Pattern.sub.loop" = some Builtin.«re.Pattern.sub.loop» := entryFor_of_tree (by kernel_rfl)
theorem strs_snoc {vs : List Value} {ys : List Str} (h : StrsAre vs ys) (y : Str) (t : Tok) : StrsAre (vs ++ [.str y t]) (ys ++ [y]) := by
  induction h with
  | nil => exact .cons y t .nil
  | cons x u _ ih => exact .cons x u ih
noncomputable abbrev RetQ (Q : Value → Shared → Prop) (E : Value → Shared → Prop) (r : Result) (s' : Shared) : Prop := match r with | .ok (.ret v) => Q v s' | .ok _ => False | .error e => E e s'

theorem slice_str {text : Array Nat} {b e : Nat} {Q : Value → Shared → Prop} (hx : text.size ≤ 1000) (h : ∀ t, Q (.str ⟨text.extract b e⟩ t) { s with toks := s.toks + 1 }) : wpAny (model prog w) A (reSlice text 0 b e) Q E s := by
  unfold reSlice
  rw [if_pos (by decide)]
  refine wpAny_mkStr (h _) ?_
  show (text.extract b e).size ≤ sizeLine
  refine Nat.le_trans ?_ (Nat.le_trans hx (by decide))
  rw [Array.size_extract]; omega

/-- the list grows by a piece, if there is one -/
theorem push_piece {l : Addr} {arr : Array Value} {c : Nat} {v : Value} {Q : Unit → Shared → Prop} (hl : s.heap.get? l = some (listOf arr c)) (hz : arr.size ≤ 100)
    (h : ∀ h' c', (∀ b o, b ≠ l → s.heap.get? b = some o → h'.get? b = some o) → h'.get? l = some (listOf (arr.push v) c') → Q () { s with heap := h' }) : wpAny (model prog w) A (updateSeq l (·.push v)) Q E s := by
  refine wpAny_updateSeq hl rfl (h _ _ (fun b o hb e => ?_) (get?_update_seq hl _)) (Nat.le_trans hz (by decide)) (by rw [Array.size_push]; exact Nat.succ_le_succ (Nat.le_trans hz (by decide)))
  rw [Heap.get?_update_ne _ _ _ _ hb]; exact e

theorem loop_sub {h₀ : Heap} {p l : Addr} {code : Array Nat} {groups : Nat} {x rp : Str} {t u : Tok} {Q : Value → Shared → Prop} (P : PatAt h₀ p code groups) (hl0 : h₀.get? l = none) (hx : x.cps.size ≤ 1000) : ∀ (f : Nat) (s : Shared) (arr : Array Value) (c : Nat) (n : Int) (done start : Nat) (must : Bool) (sts rest : List Str),
    (∀ b o, h₀.get? b = some o → s.heap.get? b = some o) → s.heap.get? l = some (listOf arr c) → StrsAre arr.toList sts → arr.size + 2 * f ≤ 100 → subPieces code groups x.cps rp f done start must = some rest → ((sts ++ rest).map (·.length)).sum ≤ 16777216 →
    (∀ h' tk t', (∀ b o, h₀.get? b = some o → h'.get? b = some o) → Q (.str (Txt.join ⟨#[]⟩ (sts ++ rest)) t') { s with heap := h', toks := tk }) →
    codeAny (model prog w) A (.builtin "re.Pattern.sub.loop" ⟨[.ref p, .str x t, .str rp u, rawInt 0, rawInt 0, rawInt n, rawInt done, rawInt start, .bool must, .ref l, .bool false], []⟩) (RetQ Q E) s
  := by
  intro f
  induction f with
  | zero => intro _ _ _ _ _ _ _ _ _ _ _ _ _ h _ _; cases h
  | succ f ih =>
    intro s arr c n done start must sts rest hk hl hs hz h hsum hq
    refine codeAny_builtin entry_sub_loop ?_
    rw [Around.under_plainId plain_sub_loop _]
    unfold Builtin.«re.Pattern.sub.loop»
    dsimp only
    refine wpAny_bind (whole (P.keep hk) ?_)
    dsimp only
    rw [if_pos (by decide)]
    refine wpAny_bind ?_
    unfold reLiteralCannotBeTurned
    refine wpAny_bind (wpAny_pure ?_)
    rw [if_neg (show ¬ (some rp).isNone = true from Bool.false_ne_true)]
    refine wpAny_pure ?_
    rw [if_neg (by simp)]
    unfold subPieces at h
    cases hr : runSre 60 (Sre.forSearch code x.cps groups start x.cps.size must) with
    | none => rw [hr] at h; cases h
    | some m =>
      rw [hr] at h
      dsimp only at h
      refine wpAny_bind ?_
      unfold reNextFound
      refine run_end hr ?_
      cases ho : m.outcome with
      | none => rw [ho] at h; cases h
      | some o =>
        rw [ho] at h
        cases o with
        | stuck _ => cases h
        | matched =>
          dsimp only at h ⊢
          obtain ⟨r, hr2, rfl⟩ := Option.map_eq_some_iff.mp h
          by_cases hd : done < m.start
          · rw [if_pos hd] at hsum hq
            rw [if_pos (show (↑done : Int).toNat < m.start from hd)]
            refine wpAny_bind (slice_str hx fun t1 => ?_)
            refine wpAny_bind (push_piece (s := { s with toks := s.toks + 1 }) hl (by omega) fun h1 c1 k1 hl1 => ?_)
            rw [if_pos (by decide)]
            refine wpAny_bind (wpAny_pure ?_)
            rw [if_pos (show (Value.str rp u != Value.none) = true from rfl)]
            refine wpAny_bind (push_piece (s := { s with heap := h1, toks := s.toks + 1 }) hl1 (by rw [Array.size_push]; omega) fun h2 c2 k2 hl2 => ?_)
            refine wpAny_pure ⟨plainId_quiet plain_sub_loop _, ?_⟩
            have ne : ∀ b o, h₀.get? b = some o → b ≠ l := fun b o e q => by rw [q, hl0] at e; cases e
            refine ih _ _ c2 (n + 1) m.handed m.handed _ (sts ++ [⟨x.cps.extract done m.start⟩] ++ [rp]) r (fun b o e => k2 _ _ (ne b o e) (k1 _ _ (ne b o e) (hk _ _ e))) hl2 ?_ ?_ hr2 ?_ ?_
            · simp only [Array.toList_push]
              exact strs_snoc (strs_snoc hs _ _) _ _
            · simp only [Array.size_push]; omega
            · simpa using hsum
            · intro h3 tk3 t3 k3
              have := hq h3 tk3 t3 k3
              simpa using this
          · rw [if_neg hd] at hsum hq
            rw [if_neg (show ¬ (↑done : Int).toNat < m.start from hd)]
            rw [if_pos (by decide)]
            refine wpAny_bind (wpAny_pure ?_)
            rw [if_pos (show (Value.str rp u != Value.none) = true from rfl)]
            refine wpAny_bind (push_piece hl (by omega) fun h2 c2 k2 hl2 => ?_)
            refine wpAny_pure ⟨plainId_quiet plain_sub_loop _, ?_⟩
            have ne : ∀ b o, h₀.get? b = some o → b ≠ l := fun b o e q => by rw [q, hl0] at e; cases e
            refine ih _ _ c2 (n + 1) m.handed m.handed _ (sts ++ [rp]) r (fun b o e => k2 _ _ (ne b o e) (hk _ _ e)) hl2 ?_ ?_ hr2 ?_ ?_
            · simp only [Array.toList_push]
              exact strs_snoc hs _ _
            · simp only [Array.size_push]; omega
            · simpa using hsum
            · intro h3 tk3 t3 k3
              have := hq h3 tk3 t3 k3
              simpa using this
        | failed =>
          dsimp only at h ⊢
          cases h
          have e0 : (⟨x.cps.extract 0 0⟩ : Str) = ⟨#[]⟩ := by simp
          have ne : ∀ b o, h₀.get? b = some o → b ≠ l := fun b o e q => by rw [q, hl0] at e; cases e
          by_cases hd : done < x.cps.size
          · rw [if_pos hd] at hsum hq
            rw [if_pos (show (↑done : Int).toNat < x.cps.size from hd)]
            refine wpAny_bind (slice_str hx fun t1 => ?_)
            refine wpAny_bind (push_piece (s := { s with toks := s.toks + 1 }) hl (by omega) fun h1 c1 k1 hl1 => ?_)
            refine wpAny_bind (slice_str hx fun t2 => ?_)
            refine wpAny_bind (wpAny_seqItems (s := { s with heap := h1, toks := s.toks + 1 + 1 }) hl1 rfl ?_)
            rw [e0, Option.getD_some, if_neg (by simp)]
            refine wpAny_bind ?_
            rw [if_pos (by decide)]
            refine join_list (s := { s with heap := h1, toks := s.toks + 1 + 1 }) (ys := sts ++ [⟨x.cps.extract done x.cps.size⟩]) ⟨_, hl1, rfl, _, rfl⟩ (by simp only [Array.toList_push]; exact strs_snoc hs _ _) (by show _ + _ * 0 ≤ _; omega) fun t3 k => ?_
            exact wpAny_pure (hq h1 _ _ fun b o e => k1 _ _ (ne b o e) (hk _ _ e))
          · rw [if_neg hd] at hsum hq
            rw [if_neg (show ¬ (↑done : Int).toNat < x.cps.size from hd)]
            rw [List.append_nil] at hsum hq
            refine wpAny_bind (slice_str hx fun t2 => ?_)
            refine wpAny_bind (wpAny_seqItems (s := { s with toks := s.toks + 1 }) hl rfl ?_)
            rw [e0, Option.getD_some]
            by_cases hz : arr.isEmpty = true
            · rw [if_pos hz]
              have ha : arr = #[] := Array.isEmpty_iff.mp hz
              subst ha
              cases hs
              refine wpAny_bind (wpAny_pure ?_)
              exact wpAny_pure (hq s.heap _ _ hk)
            · rw [if_neg hz]
              refine wpAny_bind ?_
              rw [if_pos (by decide)]
              refine join_list (s := { s with toks := s.toks + 1 }) (ys := sts) ⟨_, hl, rfl, _, rfl⟩ hs (by show _ + _ * 0 ≤ _; omega) fun t3 k => ?_
              exact wpAny_pure (hq s.heap _ _ hk)

theorem plainAttrs_pattern : PlainAttrs "re.Pattern" :=
  ⟨⟨"object.__getattribute__", by rw [typeLookup_type, builtinLookup_eq_fast]; kernel_rfl, by decide +kernel⟩, by rw [typeLookup_type, builtinLookup_eq_fast]; kernel_rfl⟩
theorem slot_sub : Slot "re.Pattern" "sub" "re.Pattern.sub" :=
  .of (owner := "re.Pattern") (n := "sub") (by rw [typeLookup_type, builtinLookup_eq_fast]; kernel_rfl) (by decide +kernel) (by decide +kernel) (by decide +kernel)
    (by first | exact .inl (by decide +kernel) | exact .inr (by decide +kernel)) (by rw [isSubtype_type]; kernel_rfl)
theorem type_sub : typeOf (.builtin "re.Pattern.sub") = pure (.type "method_descriptor") := by show builtinType _ = _; rw [builtinType_eq_fast]; kernel_rfl
theorem entry_sub : entryFor table "re.Pattern.sub" = some Builtin.«re.Pattern.sub» := entryFor_of_tree (by kernel_rfl)
theorem nocall_str : typeLookup (.type "str") "__call__" = pure none := by rw [typeLookup_type, builtinLookup_eq_fast]; kernel_rfl
theorem owner_pattern : Manifest.owners.lookup (String.ofList ['n', 'r', 'e', 't', 't', 'a', 'P', '.', 'e', 'r'].reverse) = some Manifest.sig_re_Pattern := by kernel_rfl
theorem args_sub (a b c : Value) : argsOk "re.Pattern.sub" ⟨[a, b, c], []⟩ := by
  unfold argsOk; rw [signature?_of (id := "re.Pattern.sub") (n := ['b', 'u', 's']) (o := ['n', 'r', 'e', 't', 't', 'a', 'P', '.', 'e', 'r']) (by kernel_rfl) owner_pattern]; kernel_rfl
theorem meth_sub {p : Addr} {fs : Array Value} {pl : Sem Bool} {Q : Value × List Value → Shared → Prop} (ho : s.heap.get? p = some { cls := .type "re.Pattern", data := .fields fs }) (h : Q (.builtin "re.Pattern.sub", [.ref p]) s) :
    wpAny (model prog w) A (getMethod (.ref p) "sub" pl) Q E s :=
  getMethod_builtin (s := s) ⟨_, ho, rfl⟩ plainAttrs_pattern slot_sub type_sub (fun b e => by injection e with e; subst e; exact ⟨_, ho, rfl⟩) h

theorem call_sub {p : Addr} {code : Array Nat} {groups : Nat} {x rp out : Str} {t u : Tok} {rest : List Str} {Q : Value → Shared → Prop} (P : PatAt s.heap p code groups) (hx : x.cps.size ≤ 1000) (hc : rp.cps.contains 92 = false)
    (h : subPieces code groups x.cps rp 9 0 0 false = some rest) (hsum : (rest.map (·.length)).sum ≤ 16777216) (hout : Txt.join ⟨#[]⟩ rest = out)
    (hq : ∀ h' tk t', Ext s.heap h' → Q (.str out t') { s with heap := h', toks := tk }) :
    wpAny (model prog w) A (call (.builtin "re.Pattern.sub") [.ref p, .str rp u, .str x t]) Q E s := by
  obtain ⟨fs, _, _, _, ho, _⟩ := P.obj
  refine wpAny_call (codeAny_call_builtin slot_sub.plain entry_sub (slot_sub.check _ _ _ _ _ _ _ _ ⟨_, ho, rfl⟩ (args_sub _ _ _) ?_))
  show wpAny _ _ (reSubstitute "re.Pattern.sub" "sub" false _) _ _ _
  unfold reSubstitute
  dsimp only
  refine wpAny_bind (wpAny_of_eq (a := [some (.str rp u), some (.str x t), none]) (by first | rfl | kernel_rfl!) ?_)
  dsimp only
  refine wpAny_bind (wpAny_pure ?_)
  refine wpAny_bind (wpAny_specialOf (T := "str") (by exact PySem.typeIs_str _ _ _) nocall_str ?_)
  simp only [Option.isSome_none, Bool.false_eq_true, if_false]
  refine wpAny_bind (wpAny_pure ?_)
  dsimp only
  refine wpAny_bind (wpAny_pure ?_)
  rw [if_pos (by rw [hc]; rfl)]
  refine wpAny_bind (wpAny_pure ?_)
  dsimp only
  refine wpAny_bind (wpAny_holding (whole P ?_))
  rw [if_neg (by decide)]
  refine wpAny_bind (wpAny_newList ?_)
  refine wpAny_pure ⟨plainId_quiet plain_sub_loop _, ?_⟩
  have hnew : (s.heap.push (seqObj "list" ([] : List Value).toArray 0)).get? s.heap.objs.size = some (listOf #[] 0) := Heap.get?_push_size _ rfl
  have hfr : s.heap.get? s.heap.objs.size = none := by
    cases q : s.heap.get? s.heap.objs.size with
    | none => rfl
    | some o => exact absurd (Heap.lt_size q) (Nat.lt_irrefl _)
  refine loop_sub (h₀ := s.heap) P hfr hx 9 { s with heap := s.heap.push (seqObj "list" ([] : List Value).toArray 0) } #[] 0 0 0 0 false [] rest (fun b o e => Heap.get?_push_of_some _ e) hnew .nil (by decide) h (by simpa using hsum) fun h' tk t' k => ?_
  rw [List.nil_append, hout]
  exact hq h' tk t' k
end
end Mine
end

namespace Mine
theorem freshQ1 : True ∧ True := by
  k_with_none
  w_top off
  first | (walk1; all_goals exact trivial) | exact ⟨trivial, trivial⟩
end Mine
section
open PySem PySem.W PyProof.Rows
set_option Elab.async false
set_option maxRecDepth 100000
set_option maxHeartbeats 2000000
namespace Mine
open PySem.Calls PySem.Spec PySem.Flt

theorem pat1 {w : World} {h : Heap} (X : (frag w.params).In h) : PatAt h 65 reCode1 0 :=
  ⟨_, 64, _, _, X 65 _ (by with_unfolding_all rfl), rfl, rfl, by decide, ⟨_, X 64 _ (by with_unfolding_all rfl), rfl⟩, by kernel_rfl⟩
theorem pat2 {w : World} {h : Heap} (X : (frag w.params).In h) : PatAt h 70 reCode2 0 :=
  ⟨_, 69, _, _, X 70 _ (by with_unfolding_all rfl), rfl, rfl, by decide, ⟨_, X 69 _ (by with_unfolding_all rfl), rfl⟩, by kernel_rfl⟩
theorem PatAt.get {h : Heap} {a : Addr} {code : Array Nat} {groups : Nat} (P : PatAt h a code groups) : ∃ fs, h.get? a = some { cls := .type "re.Pattern", data := .fields fs } := let ⟨fs, _, _, _, ho, _⟩ := P.obj; ⟨fs, ho⟩
theorem wordsQ10 : True := by
  k_with_none
  (k_with "m getMethod ref" => refine Hold.mk' ?_)
  (k_with "m call builtin:re.Pattern.sub" => refine Hold.mk' ?_)
  trivial
theorem quote_spec {w : World} {dp un : Nat} {gd : Option (List Code)} {s : Shared} {base : Heap} {outer : List Env} {p : Program} {loose : List Str} {mean : ExcName → Option Value} {mg mb : Str → Option Value} {Q E : Value → Shared → Prop}
   (x y out : Str) (r1 r2 : List Str) (t1 : Tok) (h2 : subPieces reCode2 0 x.cps crlf 9 0 0 false = some r2) (hj2 : Txt.join ⟨#[]⟩ r2 = y) (h1 : subPieces reCode1 0 y.cps dd 9 0 0 false = some r1) (hj1 : Txt.join ⟨#[]⟩ r1 = out)
   (hx : x.cps.size ≤ 1000) (hy : y.cps.size ≤ 1000) (s2 : (r2.map (·.length)).sum ≤ 16777216) (s1 : (r1.map (·.length)).sum ≤ 16777216)
   (B : Below (At dp un gd outer) base outer s.heap) (X : (frag w.params).In s.heap) (T : Top p loose mean mg mb s.heap) (hdp : dp ≤ 870)
   (hret : ∀ h' tk' t', Ext s.heap h' → Q (.str out t') {s with heap := h', toks := tk'}) :
   wpAny (model Challenge.rw_tl0025_01.row.prog w) (At dp un gd outer) (call (.ref 77) [.str x t1]) Q E s := by
  have P1 := pat1 X
  have P2 := pat2 X
  revert X; k_fill; intro X
  (refine' enter (binds := [(Str.ofString "data", .str x t1)]) ?k1 ?k2 ?k3 ?k6 ?k7 ?k8 ?k9 ?kB ?_ ?c2 ?c3 ?c4 ?c5; (case k1 => k_asm); (case k2 => k_asm); (case k3 => k_asm); (case k6 => k_is); (case k7 => k_is); (case k8 => (simp only [recursionLimit]; first | exact room (by assumption) rfl | omega)); (case k9 => exact BindsTo.of_eq rfl); (case c5 => decide); (case kB => exact locs rfl); (case c2 => exact rfl); (case c3 => exact rfl); (case c4 => exact rfl); k_whole)
  intro g L' h₁ eg F N B X T
  (try dsimp only)
  k_fold
  rw [← eg] at P1 P2
  obtain ⟨f1, o1⟩ := P1.get
  obtain ⟨f2, o2⟩ := P2.get
  k_steps
  unfold Hold
  rename Fr _ _ _ _ => F'
  refine meth_sub (F'.keep _ _ o1) ?_
  k_steps
  unfold Hold
  rename Fr _ _ _ _ => F'
  refine meth_sub (F'.keep _ _ o2) ?_
  k_steps
  unfold Hold
  rename Fr _ _ _ _ => F'
  refine call_sub (P2.keep F'.keep) hx (by decide +kernel) h2 s2 hj2 ?_
  intro h' tk t' hE
  obtain ⟨F2, N2⟩ := useE F' News.nil hE
  clear F'
  (try dsimp only)
  k_steps
  unfold Hold
  rename Fr _ _ _ _ => F'
  refine call_sub (P1.keep F'.keep) hy (by decide +kernel) h1 s1 hj1 ?_
  intro h'' tk2 t2' hE2
  obtain ⟨F3, N3⟩ := useE F' News.nil hE2
  (try dsimp only)
  k_steps
  subst eg
  exact hret _ _ _ F3.keep
end Mine
end

namespace Mine
theorem freshCm2 : True ∧ True := by
  k_with_none
  w_top off
  first | (walk1; all_goals exact trivial) | exact ⟨trivial, trivial⟩
end Mine
section
open PySem PySem.W PyProof.Rows
set_option Elab.async false
set_option maxRecDepth 100000
namespace Mine
open PySem.Calls PySem.Spec

section
variable {prog : Program} {w : World} {A : Around} {E : Value → Shared → Prop} {s : Shared} {env : Env} {h₀ : Heap} {L : Addr} {elt iter target : Expr} {scope : Scope} {pos : Pos} {cl : List (Str × Addr)}

/-- a turn that makes one object -/
noncomputable def TurnE (C : Addr) (s₃ : Shared) (El : Obj → Prop) (y : Value) (s' : Shared) : Prop :=
  ∃ a h' tk m' o, y = .ref a ∧ s' = { s₃ with heap := h', toks := tk } ∧ h'.Ns C m' ∧ (∀ b o, b ≠ C → s₃.heap.get? b = some o → h'.get? b = some o) ∧ a ≠ C ∧ s₃.heap.get? a = none ∧ h'.get? a = some o ∧ El o
noncomputable def TurnsE (prog : Program) (w : World) (A : Around) (env : Env) (elt target : Expr) (scope : Scope) (cl : List (Str × Addr)) (I : Addr) (n : Nat) (P : Nat → Value → Prop) (Elt : Nat → Obj → Prop) (s₂ : Shared) : Prop :=
  ∀ C i v s₃ m₃, s₂.heap.objs.size ≤ C → i < n → P i v → s₃.heap.Ns C m₃ → (∀ b o, b ≠ I → s₂.heap.get? b = some o → s₃.heap.get? b = some o) → (∃ h tk, s₃ = { s₂ with heap := h, toks := tk }) →
    wpAny (model prog w) A (assign target (compEnvC scope cl C env) v) (fun _ s₄ => wpAny (model prog w) A (eval elt (compEnvC scope cl C env)) (fun y s₆ => TurnE C s₃ (Elt i) y s₆) (fun _ _ => False) s₄) (fun _ _ => False) s₃
theorem block_E {s₂ : Shared} {I : Addr} {fp : List Addr} {n : Nat} {P : Nat → Value → Prop} {St : Nat → Heap → Prop} {RR : Value → Addr → Result → Shared → Prop}
    (W : Walks prog w A I fp [I] n P St) (hsz : n ≤ sizeLine) (hIo : ∀ i h, St i h → ∃ o, h.get? I = some o) (Elt : Nat → Obj → Prop)
    (hcell : ∀ y ∈ scope.names, y.2 ≠ .cell) (hkind : scope.kind = .function) (hst : St 0 s₂.heap) (hfp : ∀ b ∈ fp, b < s₂.heap.objs.size)
    (ht : ∀ i v (s' : Shared) (Q' : Unit → Shared → Prop) E', P i v → St (i + 1) s'.heap → Q' () s' → wpAny (model prog w) A (letOwnedTupleGo target (.ref I) v) Q' E' s')
    (turn : TurnsE prog w A env elt target scope cl I n P Elt s₂)
    (hRR : ∀ D C h' tk m' (rs : List Addr) e, s₂.heap.get? D = none → s₂.heap.get? C = none → D ≠ C → h'.Ns C m' → h'.get? D = some (listOf (rs.map Value.ref).toArray e) → rs.length = n → (∀ j a, rs[j]? = some a → a ≠ D ∧ a ≠ C ∧ s₂.heap.get? a = none ∧ ∃ o, h'.get? a = some o ∧ Elt j o) →
      (∀ b o, b ≠ I → s₂.heap.get? b = some o → h'.get? b = some o) → RR (.ref D) C (.ok .next) { s₂ with heap := h', toks := tk }) :
    wpAny (model prog w) A (newList []) (fun acc s₃ => wpAny (model prog w) A (newFunctionEnv scope env.globals cl [] env.qual none .none (some env)) (fun cenv s₄ =>
      codeAny (model prog w) A (.compStart (.ListComp elt [⟨target, iter, [], 0⟩] scope pos) 0 (.ref I) acc { cenv with scope := relabel scope env }) (RR acc cenv.locals) s₄) E s₃) E s₂ := by
  refine wpAny_newObj_type (wpAny_newFunctionEnv hcell (by intro y hy; simp at hy) (fun h₁ hns₁ hsb₁ => ?_) hkind)
  dsimp only at hns₁ hsb₁ ⊢
  generalize hH2 : s₂.heap.push { cls := .type "list", dict := none, data := .seq ([] : List Value).toArray } = H2 at hns₁ hsb₁ ⊢
  have hC : H2.objs.size = s₂.heap.objs.size + 1 := by rw [← hH2, Heap.size_push]
  have hDC : s₂.heap.objs.size ≠ H2.objs.size := by rw [hC]; exact Nat.ne_of_lt (Nat.lt_succ_self _)
  have hCle : s₂.heap.objs.size ≤ H2.objs.size := by rw [hC]; exact Nat.le_succ _
  have below : ∀ b, b < s₂.heap.objs.size → b ≠ H2.objs.size ∧ b ≠ s₂.heap.objs.size := fun b hb => ⟨by rw [hC]; exact Nat.ne_of_lt (Nat.lt_succ_of_lt hb), Nat.ne_of_lt hb⟩
  have hDf : s₂.heap.objs.size ∉ fp := fun hm => Nat.lt_irrefl _ (hfp _ hm)
  have hCf : H2.objs.size ∉ fp := fun hm => by have := hfp _ hm; rw [hC] at this; exact Nat.lt_irrefl _ (Nat.lt_of_succ_lt this)
  have hIf : I ∈ fp := W.sub I (List.mem_singleton.mpr rfl)
  have hIlt : I < s₂.heap.objs.size := hfp I hIf
  have old : ∀ b o, s₂.heap.get? b = some o → h₁.get? b = some o := fun b o e => hsb₁.extBut b o (below b (Heap.lt_size e)).1 (Heap.get?_push_of_some _ (hH2 ▸ Heap.get?_push_of_some _ e))
  have hacc : h₁.get? s₂.heap.objs.size = some (listOf #[] 0) := hsb₁.extBut _ _ hDC (Heap.get?_push_of_some _ (hH2 ▸ Heap.get?_push_size _ rfl))
  have hst₁ : St 0 h₁ := W.frame _ _ _ hst fun b _ o e => old b o e
  have hCI : I ≠ H2.objs.size := (below I hIlt).1
  have hDI : I ≠ s₂.heap.objs.size := (below I hIlt).2
  have fresh : ∀ a, s₂.heap.objs.size ≤ a → s₂.heap.get? a = none := fun a ha => by
    cases e : s₂.heap.get? a with
    | none => rfl
    | some o' => exact absurd (Heap.lt_size e) (Nat.not_lt.mpr ha)
  have loop : ∀ s₃ : Shared, s₃ = { s₂ with heap := h₁, toks := s₂.toks + ([] : List (Str × Value)).length } →
      codeAny (model prog w) A (.compLoop (.ListComp elt [⟨target, iter, [], 0⟩] scope pos) 0 (.ref I) (.ref s₂.heap.objs.size) (compEnvC scope cl H2.objs.size env))
        (RR (.ref s₂.heap.objs.size) H2.objs.size) s₃ := by
    rintro s₃ rfl
    refine compLoop_G
      (fun k s' => ∃ h' tk i rs e m', s' = { s₂ with heap := h', toks := tk } ∧ i ≤ n ∧ k = n + 1 - i ∧ rs.length = i ∧ St i h' ∧ h'.Ns H2.objs.size m' ∧ h'.get? s₂.heap.objs.size = some (listOf (rs.map Value.ref).toArray e) ∧ (∀ j a, rs[j]? = some a → a ≠ s₂.heap.objs.size ∧ a ≠ I ∧ a ≠ H2.objs.size ∧ s₂.heap.get? a = none ∧ ∃ o, h'.get? a = some o ∧ Elt j o) ∧
        ∀ b o, b ≠ I → s₂.heap.get? b = some o → h'.get? b = some o) ?_ (n + 1)
      ⟨h₁, _, 0, [], 0, _, rfl, Nat.zero_le _, rfl, rfl, hst₁, hns₁, hacc, fun j r e => by simp at e, fun b o _ e => old b o e⟩
    rintro k s' ⟨h', tk, i, rs, e, m', rfl, hi, rfl, hyl, hst', hn', hD', hR', hk'⟩
    by_cases hlt : i < n
    · refine W.item i _ _ _ hlt hst' fun v h₂ tk₂ hPv hst₂ hk₂ => ?_
      have keep2 : ∀ b o, b ≠ I → h'.get? b = some o → h₂.get? b = some o := fun b o hb e => hk₂ b o (by simpa using hb) e
      refine ht i v _ _ _ hPv hst₂ ?_
      obtain ⟨oI, hoI⟩ := hIo _ _ hst₂
      refine wpAny_mono (turn H2.objs.size i v _ _ hCle hlt hPv (hn'.at' fun o e => keep2 _ o (Ne.symm hCI) e) (fun b o hb e => keep2 b o hb (hk' b o hb e)) ⟨_, _, rfl⟩) (fun _ s₄ h₄ => wpAny_pure ?_) fun _ _ x => x.elim
      have hD₂ : h₂.get? s₂.heap.objs.size = some (listOf (rs.map Value.ref).toArray e) := keep2 _ _ (Ne.symm hDI) hD'
      have hlen : (rs.map Value.ref).length ≤ sizeLine := by rw [List.length_map, hyl]; exact Nat.le_trans hi hsz
      rw [if_pos rfl]
      refine wpAny_mono h₄ (fun y s₆ h₆ => ?_) fun _ _ x => x.elim
      obtain ⟨a, h₆', tk₆, m₆, oa, rfl, rfl, hn₆, hk₆, haC, haN, hao, hel⟩ := h₆
      have haD : a ≠ s₂.heap.objs.size := fun q => by rw [q] at haN; exact absurd (haN.symm.trans hD₂) (by simp)
      have haI : a ≠ I := fun q => by rw [q] at haN; exact absurd (haN.symm.trans hoI) (by simp)
      have ha2 : s₂.heap.get? a = none := by
        cases q : s₂.heap.get? a with
        | none => rfl
        | some o' => exact absurd (haN.symm.trans (keep2 a o' haI (hk' a o' haI q))) (by simp)
      refine append_at (hsz := by rw [List.size_toArray]; exact hlen) (hk₆ _ _ hDC hD₂) fun h₇ hs₇ hD₇ => ?_
      refine ⟨n + 1 - (i + 1), by omega, h₇, tk₆, i + 1, rs ++ [a], e + 1, m₆, rfl, hlt, rfl, by simp [hyl], W.frame _ _ _ hst₂ fun b hb o e => hs₇.extBut b o (fun q => hDf (q ▸ hb)) (hk₆ b o (fun q => hCf (q ▸ hb)) e), hn₆.sameBut hs₇ (Ne.symm hDC), ?_, ?_,
        fun b o hb e => hs₇.extBut b o (below b (Heap.lt_size e)).2 (hk₆ b o (below b (Heap.lt_size e)).1 (keep2 b o hb (hk' b o hb e)))⟩
      · rw [hD₇]; simp
      · intro j a' hj
        rw [List.getElem?_append] at hj
        split at hj
        · obtain ⟨x1, x2, x3, x4, o', x5, x6⟩ := hR' j a' hj
          exact ⟨x1, x2, x3, x4, o', hs₇.extBut _ _ x1 (hk₆ _ _ x3 (keep2 _ _ x2 x5)), x6⟩
        · rename_i q
          have : j = i := by
            have : j - rs.length < 1 := by
              rcases Nat.lt_or_ge (j - rs.length) 1 with q2 | q2
              · exact q2
              · rw [List.getElem?_eq_none (by simpa using q2)] at hj; cases hj
            omega
          subst this
          rw [show j - rs.length = 0 by omega] at hj
          cases hj
          exact ⟨haD, haI, haC, ha2, oa, hs₇.extBut _ _ haD hao, hel⟩
    · obtain rfl : i = n := Nat.le_antisymm hi (Nat.not_lt.mp hlt)
      refine W.done _ _ _ hst' fun h₂ tk₂ hk₂ => ?_
      have keep2 : ∀ b o, b ≠ I → h'.get? b = some o → h₂.get? b = some o := fun b o hb e => hk₂ b o (by simpa using hb) e
      exact hRR _ _ h₂ tk₂ m' rs e (fresh _ (Nat.le_refl _)) (fresh _ hCle) hDC (hn'.at' fun o e => keep2 _ o (Ne.symm hCI) e) (keep2 _ _ (Ne.symm hDI) hD') hyl (fun j a hj => by obtain ⟨x1, x2, x3, x4, o', x5, x6⟩ := hR' j a hj; exact ⟨x1, x3, x4, o', keep2 _ _ x2 x5, x6⟩) fun b o hb e => keep2 b o hb (hk' b o hb e)
  exact codeAny_compStart_list (loop _ rfl) (W.self 0 _ _ _ hst₁ (loop _ rfl))


/-- what is asked where the iterable is reached -/
noncomputable def CompAtE (prog : Program) (w : World) (A : Around) (env : Env) (elt : Expr) (x : Str) (scope : Scope) (cl : List (Str × Addr)) (Elt : Nat → Obj → Prop) (Q : Value → Shared → Prop) (xv : Value) (s₁ : Shared) : Prop :=
  ∃ l its, xv = .ref l ∧ A.handled = none ∧ s₁.heap.IsList l its ∧ its.size ≤ sizeLine ∧
      (∀ C i v h tk m₃, i < its.size → its[i]? = some v → h.Ns C m₃ → m₃ x = some v → Ext s₁.heap h → s₁.heap.objs.size ≤ C → wpAny (model prog w) A (eval elt (compEnvC scope cl C env)) (fun y s₆ => TurnE C { s₁ with heap := h, toks := tk } (Elt i) y s₆) (fun _ _ => False) { s₁ with heap := h, toks := tk }) ∧
      (∀ D (ts : List Addr) e h tk, s₁.heap.get? D = none → h.get? D = some (listOf (ts.map Value.ref).toArray e) → ts.length = its.size → (∀ j a, ts[j]? = some a → a ≠ D ∧ s₁.heap.get? a = none ∧ ∃ o, h.get? a = some o ∧ Elt j o) → Ext s₁.heap h → Q (.ref D) { s₁ with heap := h, toks := tk })
/-- a comprehension over a list, by one name, each item a new object -/
theorem evalCompE {x : Str} {px : Pos} {Q : Value → Shared → Prop} (Elt : Nat → Obj → Prop) (hclos : closureFor scope env = pure cl) (hcell : ∀ y ∈ scope.names, y.2 ≠ .cell) (hkind : scope.kind = .function)
    (hnames : ∀ y ∈ scope.names, y.2 = .local → scope.names.lookup y.1 = some .local) (hx : scope.names.lookup x = some .local)
    (h : wpAny (model prog w) A (eval iter env) (CompAtE prog w A env elt x scope cl Elt Q) E s)
    (hs : ∀ x, foldedSetIterable iter env x = pure x := by intro _; rfl) :
    wpAny (model prog w) A (eval (.ListComp elt [⟨.Name x px, iter, [], 0⟩] scope pos) env) Q E s := by
  rw [eval_ListComp]
  refine wpAny_comprehension_free (use := none) rfl hs hclos hkind hnames (wpAny_mono h (fun xv s₁ h₁ => ?_) fun _ _ e => e)
  obtain ⟨l, its, rfl, hh, hl, hsz, T, fin⟩ := h₁
  have hlt : l < s₁.heap.objs.size := by obtain ⟨_, e, _⟩ := hl; exact Heap.lt_size e
  refine wpAny_pyIter_list hl ?_
  refine block_E (Walks.list hh s₁.heap.objs.size l (Nat.ne_of_lt hlt) its) hsz (fun i h st => by obtain ⟨o, e, _⟩ := st.1; exact ⟨o, e⟩) Elt hcell hkind ⟨⟨_, Heap.get?_push_size _ rfl, rfl, rfl⟩, hl.push _⟩ (fun b hb => ?_) (fun i v s' Q' E' hP hst hQ => ?_) ?_ ?_
  · show b < (s₁.heap.push _).objs.size
    rw [Heap.size_push]
    rcases List.mem_cons.mp hb with rfl | hb
    · exact Nat.lt_succ_self _
    · rw [List.mem_singleton.mp hb]; exact Nat.lt_succ_of_lt hlt
  · exact wpAny_of_eq rfl hQ
  · rintro C i v s₃ m₃ hC hi hP hn hk ⟨h', tk, rfl⟩
    have hC' : s₁.heap.objs.size ≤ C := Nat.le_trans (by show s₁.heap.objs.size ≤ (s₁.heap.push _).objs.size; rw [Heap.size_push]; exact Nat.le_succ _) hC
    have hext : Ext s₁.heap h' := fun b o e => hk b o (Nat.ne_of_lt (Heap.lt_size e)) (Heap.get?_push_of_some _ e)
    refine wpAny_assign_Name (wpAny_storeName_local (lookup_relabel_local hx) hn (fun h₆ hn₆ hs₆ => ?_) (by simp [compEnvC, relabel, hkind]))
    have kk : ∀ b o, b ≠ C → h'.get? b = some o → h₆.get? b = some o := fun b o hb e => hs₆.extBut b o hb e
    refine wpAny_mono (T C i v h₆ (tk + 1) _ hi hP hn₆ (by simp) (fun b o e => kk b o (Nat.ne_of_lt (Nat.lt_of_lt_of_le (Heap.lt_size e) hC')) (hext b o e)) hC') (fun y s₆ h₆' => ?_) fun _ _ x => x
    obtain ⟨a, h7, tk7, m7, o7, rfl, rfl, hn7, hk7, haC, haN, hao, hel⟩ := h₆'
    refine ⟨a, h7, tk7, m7, o7, rfl, rfl, hn7, fun b o hb e => hk7 b o hb (kk b o hb e), haC, ?_, hao, hel⟩
    cases q : h'.get? a with
    | none => rfl
    | some o' => exact absurd (haN.symm.trans (kk a o' haC q)) (by simp)
  · intro D C h' tk m' rs e hD hC hDC hnC hDo hlen hR hk
    have dn : ∀ {X}, (s₁.heap.push { cls := .type "list_iterator", data := .fields #[.ref l, .int 0 0] }).get? X = none → s₁.heap.get? X = none := fun {X} hX => by
      cases q : s₁.heap.get? X with
      | none => rfl
      | some o => have := Heap.get?_push_of_some (o := { cls := .type "list_iterator", data := .fields #[.ref l, .int 0 0] }) q; rw [this] at hX; cases hX
    have hCn := dn hC
    refine ⟨m', hnC, fun h'' hs'' => fin D rs e h'' tk (dn hD) (hs''.extBut _ _ hDC hDo) hlen (fun j a hj => ?_) fun b o eb => hs''.extBut b o (fun q => ?_) (hk b o (Nat.ne_of_lt (Heap.lt_size eb)) (Heap.get?_push_of_some _ eb))⟩
    · obtain ⟨x1, x2, x3, o, x4, x5⟩ := hR j a hj
      exact ⟨x1, dn x3, o, hs''.extBut _ _ x2 x4, x5⟩
    · rw [q, hCn] at eb; cases eb
end
end Mine
end

namespace Mine
theorem freshF9 : True ∧ True := by
  k_with_none
  w_top off
  first | (walk1; all_goals exact trivial) | exact ⟨trivial, trivial⟩
end Mine
section
open PySem PySem.W PyProof.Rows
set_option Elab.async false
set_option maxRecDepth 100000
set_option maxHeartbeats 800000
namespace Mine
open PySem.Calls PySem.Spec PySem.Flt

noncomputable abbrev Dep := List (Int × Nat)
noncomputable def Dx (txt : Nat → Str) (M : Dep) : List (PyData × PyData) := M.map fun p => (.int p.1, .str (txt p.2))
noncomputable def Ds (M : Dep) : List (PyData × PyData) := M.map fun p => (.int p.1, .int (p.2 : Int))
noncomputable def depthsOf : List (Int × Int) → Dep → Option Dep
  | [], M => some M
  | (t, h) :: r, M => match M.lookup t, M.lookup h with
    | some d, none => if d ≤ 2 then depthsOf r (M ++ [(h, d + 1)]) else none
    | _, _ => none
theorem lookup_gen (f : Nat → PyData) : ∀ (M : Dep) (k : Int), PySem.Spec.lookup (.int k) (M.map fun p => (PyData.int p.1, f p.2)) = (M.lookup k).map f
  | [], _ => rfl
  | (a, d) :: M, k => by
    simp only [List.map_cons, List.lookup_cons, PySem.Spec.lookup]
    rw [PyProof.V.same_int]
    by_cases h : a = k
    · subst h; simp
    · have h2 : (k == a) = false := by simpa using fun e => h e.symm
      simp only [h, h2, decide_false, Bool.false_eq_true, if_false]
      exact lookup_gen f M k
theorem dx_get {txt : Nat → Str} {M : Dep} {k : Int} {d : Nat} (h : M.lookup k = some d) : PySem.Spec.lookup (.int k) (Dx txt M) = some (.str (txt d)) := by
  rw [Dx, lookup_gen (fun d => .str (txt d)), h]; rfl
theorem ds_get {M : Dep} {k : Int} {d : Nat} (h : M.lookup k = some d) : PySem.Spec.lookup (.int k) (Ds M) = some (.int (d : Int)) := by
  rw [Ds, lookup_gen (fun d => .int (d : Int)), h]; rfl
theorem dx_put {txt : Nat → Str} {M : Dep} {k : Int} {d : Nat} (h : M.lookup k = none) : PyProof.V.putD (.int k) (.str (txt d)) (Dx txt M) = Dx txt (M ++ [(k, d)]) := by
  rw [putD_absent (by rw [Dx, lookup_gen (fun d => .str (txt d)), h]; rfl)]; simp [Dx]
theorem ds_put {M : Dep} {k : Int} {d : Nat} (h : M.lookup k = none) : PyProof.V.putD (.int k) (.int (d : Int)) (Ds M) = Ds (M ++ [(k, d)]) := by
  rw [putD_absent (by rw [Ds, lookup_gen (fun d => .int (d : Int)), h]; rfl)]; simp [Ds]

/-- quotedata makes out of x -/
noncomputable def Quoted (x out : Str) : Prop := ∃ y r1 r2, subPieces reCode2 0 x.cps crlf 9 0 0 false = some r2 ∧ Txt.join ⟨#[]⟩ r2 = y ∧ subPieces reCode1 0 y.cps dd 9 0 0 false = some r1 ∧ Txt.join ⟨#[]⟩ r1 = out ∧ x.cps.size ≤ 1000 ∧ y.cps.size ≤ 1000 ∧ (r2.map (·.length)).sum ≤ 16777216 ∧ (r1.map (·.length)).sum ≤ 16777216

section
variable {prog : Program} {w : World} {A : Around} {E : Value → Shared → Prop} {s : Shared} {d : Addr} {k : Int} {t : Tok} {D : List (PyData × PyData)}
theorem itemStr {value slice : Expr} {x : Str} {Q : Value → Shared → Prop} (T : TabAt (intKind prog w) PyData.int s.heap d D) (hl : PySem.Spec.lookup (.int k) D = some (.str x)) (h : ∀ u, Q (.str x u) { s with toks := s.toks + 1 })
   (hs : subscripted slice false (.ref d) (.int k t) = operate [.ref d, .int k t] (getItem (.ref d) (.int k t)) := by with_unfolding_all rfl) (hg : ∀ r, letTemporaryGo value (.ref d) r = pure () := by intro _; with_unfolding_all rfl) : wpAny (model prog w) A (subscriptTail value slice (.ref d) (.int k t)) Q E s :=
  item_intTab T hl (fun v hv => by obtain ⟨u, rfl⟩ := PyProof.V.Flat.str_inv hv; exact h u) hs hg
theorem itemInt {value slice : Expr} {x : Int} {Q : Value → Shared → Prop} (T : TabAt (intKind prog w) PyData.int s.heap d D) (hl : PySem.Spec.lookup (.int k) D = some (.int x)) (h : ∀ u, Q (.int x u) { s with toks := s.toks + 1 })
   (hs : subscripted slice false (.ref d) (.int k t) = operate [.ref d, .int k t] (getItem (.ref d) (.int k t)) := by with_unfolding_all rfl) (hg : ∀ r, letTemporaryGo value (.ref d) r = pure () := by intro _; with_unfolding_all rfl) : wpAny (model prog w) A (subscriptTail value slice (.ref d) (.int k t)) Q E s :=
  item_intTab T hl (fun v hv => by obtain ⟨u, rfl⟩ := PyProof.V.Flat.int_inv hv; exact h u) hs hg
end
theorem pair_at {T : List (Addr × Obj)} {ws : List Value} {tr : List (Int × Int)} (h : Paired (PairIn T) ws tr) : ∀ {k : Nat} {v : Value}, ws[k]? = some v → ∃ a t h' u1 u2, tr[k]? = some (t, h') ∧ v = .ref a ∧ (a, tupO #[.int t u1, .int h' u2]) ∈ T := by
  induction h with
  | nil => intro k v hk; simp at hk
  | cons hx _ ih =>
    intro k v hk
    match k with
    | 0 =>
      cases hk
      obtain ⟨a, t1, t2, e, hm⟩ := hx
      exact ⟨a, _, _, t1, t2, rfl, e, hm⟩
    | k + 1 => exact ih hk
/-- between two arcs of _law_heard -/
noncomputable def InvH (prog : Program) (w : World) (txt : Nat → Str) (tr : List (Int × Int)) (Mf : Dep) (cX cS X S : Addr) (i : Nat) (_m : Str → Option Value) (news : List (Addr × Obj)) : Prop :=
  ∃ M oX oS kX kS c1 c2, news = [(S, oS), (X, oX), (cS, c2), (cX, c1)] ∧ depthsOf (tr.drop i) M = some Mf ∧ oX.IsDictOf (intKind prog w) kX ∧ PyProof.V.FlatPairs PyData.int kX (Dx txt M) ∧ oS.IsDictOf (intKind prog w) kS ∧ PyProof.V.FlatPairs PyData.int kS (Ds M) ∧ M.length ≤ 1 + i ∧
    c1.data = .cell (some (.ref X)) ∧ c2.data = .cell (some (.ref S))
theorem wordsF90 : True := by
  k_with_none
  (k_with "m exec For" => refine Hold.mk' ?_)
  (k_with "m exec For Tuple Name cons nil" => refine Hold.mk' ?_)
  (k_with "m pyIter ref" => refine Hold.mk' ?_)
  (k_with "m call ref" => refine Hold.mk' ?_)
  trivial
theorem startH {prog : Program} {w : World} {txt : Nat → Str} {tr : List (Int × Int)} {Mf : Dep} {g h : Heap} {L S X cX cS : Addr} {oS oX c1 c2 : Obj} {m : Str → Option Value} {kX kS : List (Int × Value)} (N : News g L h [(S, oS), (X, oX), (cS, c2), (cX, c1)]) (hM : depthsOf tr [(0, 0)] = some Mf)
   (a1 : oX.IsDictOf (intKind prog w) kX) (a2 : PyProof.V.FlatPairs PyData.int kX (Dx txt [(0, 0)])) (a3 : oS.IsDictOf (intKind prog w) kS) (a4 : PyProof.V.FlatPairs PyData.int kS (Ds [(0, 0)])) (a5 : c1.data = .cell (some (.ref X))) (a6 : c2.data = .cell (some (.ref S)))
   (lX : (X == sysModules) = false) (lS : (S == sysModules) = false) (ne1 : @Ne Nat X S) (ne2 : @Ne Nat cX X ∧ @Ne Nat cX S ∧ @Ne Nat cS X ∧ @Ne Nat cS S) :
   ∃ X S news, News g L h news ∧ InvH prog w txt tr Mf cX cS X S 0 m news ∧ (X == sysModules) = false ∧ (S == sysModules) = false ∧ Off X S ∧ Off cX X ∧ Off cX S ∧ Off cS X ∧ Off cS S :=
  ⟨X, S, _, N, ⟨[(0, 0)], oX, oS, kX, kS, c1, c2, rfl, hM, a1, a2, a3, a4, Nat.le_refl _, a5, a6⟩, lX, lS, ne1, ne2.1, ne2.2.1, ne2.2.2.1, ne2.2.2.2⟩
theorem depths_step {tr : List (Int × Int)} {M Mf : Dep} {i : Nat} {t h : Int} (hd : depthsOf (tr.drop i) M = some Mf) (hi : tr[i]? = some (t, h)) : ∃ d, M.lookup t = some d ∧ M.lookup h = none ∧ d ≤ 2 ∧ depthsOf (tr.drop (i + 1)) (M ++ [(h, d + 1)]) = some Mf := by
  obtain ⟨hlt, e⟩ := List.getElem?_eq_some_iff.mp hi
  rw [List.drop_eq_getElem_cons hlt, e] at hd
  unfold depthsOf at hd
  cases h1 : M.lookup t with
  | none => simp [h1] at hd
  | some d =>
    cases h2 : M.lookup h with
    | some _ => simp [h1, h2] at hd
    | none =>
      simp only [h1, h2] at hd
      by_cases hd2 : d ≤ 2
      · rw [if_pos hd2] at hd; exact ⟨d, rfl, rfl, hd2, hd⟩
      · rw [if_neg hd2] at hd; cases hd
/-- what is heard at a place -/
noncomputable def HeardAt (txt : Nat → Str) (M : Dep) (k : Int) (o : Obj) : Prop := ∃ d t1 t2, M.lookup k = some d ∧ o = tupO #[.str (txt d) t1, .int (d : Int) t2]
theorem heard_turn {prog : Program} {w : World} {txt : Nat → Str} {tr : List (Int × Int)} {Mf M : Dep} {g h' : Heap} {L S X cX cS I lt : Addr} {oI oS oX c1 c2 : Obj} {m' : Str → Option Value} {kX kS : List (Int × Value)} {DX DS : List (PyData × PyData)} {i tk : Nat} {s₁ : Shared} {its : Array Value} {hh : Int} {d : Nat}
   (F : Fr g L h' m') (N : News g L h' [(I, oI), (S, oS), (X, oX), (cS, c2), (cX, c1)]) (h1 : g.IsList lt its) (hd : depthsOf (tr.drop (i + 1)) (M ++ [(hh, d + 1)]) = some Mf) (l2 : M.lookup hh = none) (hMl : M.length ≤ 1 + i)
   (a1 : oX.IsDictOf (intKind prog w) kX) (a2 : PyProof.V.FlatPairs PyData.int kX DX) (eX : DX = PyProof.V.putD (.int hh) (.str (txt (d + 1))) (Dx txt M)) (a3 : oS.IsDictOf (intKind prog w) kS) (a4 : PyProof.V.FlatPairs PyData.int kS DS) (eS : DS = PyProof.V.putD (.int hh) (.int ((d : Int) + 1)) (Ds M))
   (a5 : c1.data = .cell (some (.ref X))) (a6 : c2.data = .cell (some (.ref S))) (r1 : Off S I) (r2 : Off X I) (r3 : Off cS I) (r4 : Off cX I) :
   TurnEnd g L [(I, oI)] (LCg.SrcAt g lt its) (InvH prog w txt tr Mf cX cS X S (i + 1)) s₁ { s₁ with heap := h', toks := tk } :=
  TurnEnd.intro (news' := [(S, oS), (X, oX), (cS, c2), (cX, c1)]) F N (fun _ h => h) (fun p hp q hq => by
    rw [List.mem_singleton.mp hq]; exact of_allNe (show AllNe I [(S, oS), (X, oX), (cS, c2), (cX, c1)] from ⟨r1, r2, r3, r4, trivial⟩) p hp) (.inl h1)
   ⟨M ++ [(hh, d + 1)], oX, oS, kX, kS, c1, c2, rfl, hd, a1, by rw [eX, dx_put l2] at a2; exact a2, a3, by rw [eS, show ((d : Int) + 1) = ((d + 1 : Nat) : Int) from rfl, ds_put l2] at a4; exact a4, by rw [List.length_append, List.length_singleton]; omega, a5, a6⟩
theorem none_at {h : Heap} (a : Addr) (ha : h.objs.size ≤ a) : h.get? a = none := by
  cases e : h.get? a with
  | none => rfl
  | some o' => exact absurd (Heap.lt_size e) (Nat.not_lt.mpr ha)
theorem dlen {D : List (PyData × PyData)} {n : Nat} (h : D.length = n) (hn : n ≤ 100) : D.length ≤ sizeLine := by rw [h]; exact Nat.le_trans hn (by decide)
local macro_rules | `(tactic| k_ne) => `(tactic| (refine neN ?_; (try dsimp only); first | (refine Off.ne ?_; with_reducible assumption) | (refine Off.ne' ?_; with_reducible assumption)))
local macro_rules | `(tactic| k_all) => `(tactic| exact of_allNe (AllOff.ne (by assumption)))
local macro_rules | `(tactic| k_all) => `(tactic| exact of_allNe (by assumption))
theorem wordsF91 : True := by
  (k_with "m subscriptTail Name Name ref int" => ((with_reducible show wpAny _ _ (subscriptTail _ _ (Value.ref _) (Value.int _ _)) _ _ _); first | (refine itemStr (by k_tabat) (by with_reducible assumption) ?_; intro _) | (refine itemInt (by k_tabat) (by with_reducible assumption) ?_; intro _)))
  (k_with "m setItem ref int" => (k_here; k_dflt (refine' setItem_K PyProof.V.same_int (intKind_is _ _ _ _) ?zkv ?zkF ?zkN ?zkU ?zkd ?zkf ?_ ?zkz; (case zkF => k_asm); (case zkN => k_asm); (case zkU => k_updF); (case zkd => k_asm); (case zkf => k_asm); (case zkz => with_reducible assumption); (case zkv => first | exact PyProof.V.Flat.str _ _ | exact PyProof.V.Flat.int _ _)); intro h' o' F' N' hkd' hkf'; (try dsimp only at N')))
  (k_with "m newTuple" => refine Hold.mk' ?_)
  (k_with "m eval ListComp" => refine Hold.mk' ?_)
  trivial
theorem heard_spec {w : World} {dp un : Nat} {gd : Option (List Code)} {s : Shared} {base : Heap} {outer : List Env} {p : Program} {loose : List Str} {mean : ExcName → Option Value} {mg mb : Str → Option Value} {Q E : Value → Shared → Prop}
   (lt : Addr) (T₀ : List (Addr × Obj)) (ws : List Value) (tr : List (Int × Int)) (txt : Nat → Str) (Mf : Dep) (t1 : Tok) (h1 : s.heap.IsList lt ws.toArray) (hA : Paired (PairIn T₀) ws tr) (hT : ∀ p ∈ T₀, s.heap.get? p.1 = some p.2) (hlen : tr.length ≤ 9)
   (hM : depthsOf tr [(0, 0)] = some Mf) (hqs : ∀ d, d ≤ 2 → Quoted (txt d) (txt (d + 1))) (h124 : ∀ (i : Nat) (k : Int), ([1, 2, 4] : List Int)[i]? = some k → ∃ d, Mf.lookup k = some d)
   (B : Below (At dp un gd outer) base outer s.heap) (X : (frag w.params).In s.heap) (T : Top p loose mean mg mb s.heap) (hdp : dp ≤ 860)
   (hret : ∀ D (ts : List Addr) n h' tk', Ext s.heap h' → s.heap.get? D = none → h'.get? D = some (listOf (ts.map Value.ref).toArray n) → ts.length = 3 → (∀ (j : Nat) (a : Addr), ts[j]? = some a → a ≠ D ∧ s.heap.get? a = none ∧ ∃ o, h'.get? a = some o ∧ ∀ k, ([1, 2, 4] : List Int)[j]? = some k → HeardAt txt Mf k o) → Q (.ref D) {s with heap := h', toks := tk'}) :
   wpAny (model Challenge.rw_tl0025_01.row.prog w) (At dp un gd outer) (call (.ref 123) [.ref lt, .str (txt 0) t1]) Q E s := by
  revert X; k_fill; intro X
  (refine' enterC (binds := [(Str.ofString "tree", .ref lt), (Str.ofString "mail", .str (txt 0) t1)]) ?k1 ?k2 ?k3 ?k6 ?k7 ?k8 ?k9 ?kB ?kD ?_ ?c2 ?c3 ?c4; (case k1 => k_asm); (case k2 => k_asm); (case k3 => k_asm); (case k6 => k_is); (case k7 => k_is); (case k8 => (simp only [recursionLimit]; first | exact room (by assumption) rfl | omega)); (case k9 => exact BindsTo.of_eq rfl); (case kD => decide +kernel); (case kB => exact rfl); (case c2 => exact rfl); (case c3 => exact rfl); (case c4 => exact rfl); k_whole)
  intro g L' h₁ tk cells eg F N Y B X T
  (try dsimp only)
  k_fold
  k_cells Y
  rw [← eg] at h1 hT
  k_steps
  unfold Hold
  refine wpAny_For ?_
  k_steps
  unfold Hold
  rename Fr _ _ _ _ => F'
  rename News _ _ _ _ => N'
  obtain ⟨X', S, news0, N0, I0, lX, lS, q1, q2, q3, q4, q5⟩ := startH (txt := txt) (m := fun _ => none) N' hM (by assumption) (by assumption) (by assumption) (by assumption) (by assumption) (by assumption) (by assumption) (by assumption) (by omega) (by omega)
  have hw1 : ws.length = tr.length := by
    have : ∀ {ws tr}, Paired (PairIn T₀) ws tr → ws.length = tr.length := fun h => by induction h with | nil => rfl | cons _ _ ih => simp [ih]
    exact this hA
  refine' iterList (Q := _) (InvH Challenge.rw_tl0025_01.row.prog w txt tr Mf (L' + 1) (L' + 1 + 1) X' S) rfl ?hS F' N0 ?h0 ?turn ?fin ?ht
  case hS => exact .inl h1
  case h0 => exact I0
  case ht => exact .inr ⟨_, _, _, rfl, fun i v hv => by obtain ⟨a, _, _, _, _, _, e, _⟩ := pair_at hA (k := i) (by simpa using hv); exact ⟨a, e⟩⟩
  case turn =>
    clear F' N' N0 I0
    (repeat (rename PyProof.V.FlatPairs _ _ _ => z; clear z))
    (repeat (rename Obj.IsDictOf _ _ _ => z; clear z))
    intro I i v m news h tk oI hi hv hInv hS hoff F N
    obtain ⟨M, oX, oS, kX, kS, c1, c2, rfl, hd, a1, a2, a3, a4, hMl, a5, a6⟩ := hInv
    replace hoff := offs (allNe_of hoff)
    simp only [AllOff] at hoff
    obtain ⟨r1, r2, r3, r4, _⟩ := hoff
    obtain ⟨a, t, hh, u1, u2, htr, rfl, hm⟩ := pair_at hA (k := i) (by simpa using hv)
    obtain ⟨d, l1, l2, hd2, hd'⟩ := depths_step hd htr
    obtain ⟨y, q1', q2', w1, w2, w3, w4, w5, w6, w7, w8⟩ := hqs d hd2
    have b1 := dx_get (txt := txt) l1
    have b2 := ds_get l1
    have hi' : i < 9 := by have := hi; rw [List.size_toArray] at this; omega
    have z1 : (Dx txt M).length ≤ sizeLine := dlen (List.length_map ..) (by omega)
    have z2 : (Ds M).length ≤ sizeLine := dlen (List.length_map ..) (by omega)
    have hTu : IsTup g a #[.int t u1, .int hh u2] := ⟨_, hT _ hm, rfl, _, rfl⟩
    k_steps
    unfold Hold
    rename Fr _ _ _ _ => F'
    rename News _ _ _ _ => N'
    refine quote_spec (txt d) y (txt (d + 1)) _ _ _ w1 w2 w3 w4 w5 w6 w7 w8 (pushX B F' rfl rfl) (Frag.In.keeps X F'.keep) (Top.keeps T F'.keep) (by show dp + 1 ≤ 870; omega) ?_
    intro h2 tk2 t2 hE
    obtain ⟨F2, N2⟩ := useE F' N' hE
    clear F' N'
    (try dsimp only)
    k_steps
    show TurnEnd _ _ _ _ _ _ _
    exact heard_turn (by assumption) (by assumption) h1 hd' l2 hMl (by assumption) (by assumption) rfl (by assumption) (by assumption) rfl a5 a6 r1 r2 r3 r4
  case fin =>
    clear F' N' N0 I0
    (repeat (rename PyProof.V.FlatPairs _ _ _ => z; clear z))
    (repeat (rename Obj.IsDictOf _ _ _ => z; clear z))
    intro m news h tk hInv F N
    obtain ⟨M, oX, oS, kX, kS, c1, c2, rfl, hd, a1, a2, a3, a4, hMl, a5, a6⟩ := hInv
    rw [List.drop_of_length_le (by rw [List.size_toArray]; omega)] at hd
    cases hd
    dsimp only
    k_steps
    unfold Hold
    refine evalCompE (x := "place") (fun j o => ∀ k, ([1, 2, 4] : List Int)[j]? = some k → HeardAt txt Mf k o) (by with_unfolding_all rfl) (by decide) rfl (by decide) (by rfl) ?_
    k_steps
    rename Fr _ _ _ _ => F'
    rename News _ _ _ _ => N'
    refine ⟨_, _, rfl, rfl, News.isList N' (.head _), Nat.le_trans (show 3 ≤ 9 by decide) (by decide), ?_, ?_⟩
    · intro C i v h2 tk2 m3 hi hv hn hm hext hC
      obtain ⟨F4, N4⟩ := compFrame F' N' hC hext hn
      obtain ⟨k, t, rfl, hk⟩ := item3 hv
      obtain ⟨d, hd⟩ := h124 _ _ hk
      have b1 := dx_get (txt := txt) hd
      have b2 := ds_get hd
      clear F' N'
      k_steps
      unfold Hold
      simp only [newTuple]
      refine wpAny_newObj_type ?_ (by size_fits)
      have hlt := F4.ns.lt
      refine ⟨h2.objs.size, _, _, m3, _, rfl, rfl, (F4.push _).ns, fun b o _ e => Heap.get?_push_of_some _ e, Nat.ne_of_gt hlt, none_at _ (Nat.le_refl _), Heap.get?_push_size _ rfl, fun k' hk' => ?_⟩
      have ek : k = k' := by rw [hk] at hk'; exact Option.some.inj hk'
      subst ek
      exact ⟨d, _, _, hd, rfl⟩
    · intro D ts e h3 tk3 hD hDo hlen3 hts hext
      have dn : ∀ a, Heap.get? _ a = none → g.get? a = none := fun a ha => by
        cases q : g.get? a with
        | none => rfl
        | some o => rw [F'.keep _ _ q] at ha; cases ha
      (try dsimp only)
      k_steps
      subst eg
      exact hret D ts e h3 _ (Ext.trans F'.keep hext) (dn _ hD) hDo hlen3 (fun j a hj => by obtain ⟨x1, x2, o, x3, x4⟩ := hts j a hj; exact ⟨x1, dn _ x2, o, x3, x4⟩)
end Mine
end

namespace Mine
theorem freshF10 : True ∧ True := by
  k_with_none
  w_top off
  first | (walk1; all_goals exact trivial) | exact ⟨trivial, trivial⟩
end Mine
section
open PySem PySem.W PyProof.Rows
set_option Elab.async false
set_option maxRecDepth 100000
set_option maxHeartbeats 1000000
namespace Mine
open PySem.Calls PySem.Spec PySem.Flt

theorem while_inv {prog : Program} {w : World} {A : Around} {E : Value → Shared → Prop} {s : Shared} {env : Env} {test : Expr} {body : List Stmt} {pos : Pos} {Q : Flow → Shared → Prop} (I : Nat → Shared → Prop) (n : Nat) (hE : PassesOwn (model prog w) A env E)
    (turn : ∀ i s, i < n → I i s → wpAny (model prog w) A (isTrue test env (eval test env)) (fun b s₂ => b = true ∧ wpAny (model prog w) A (execs body env) (fun f s₃ => f = .next ∧ I (i + 1) s₃) E s₂) E s)
    (done : ∀ s, I n s → wpAny (model prog w) A (isTrue test env (eval test env)) (fun b s₂ => b = false ∧ Q .next s₂) E s) (h0 : I 0 s) : wpAny (model prog w) A (exec (.While test body [] pos) env) Q E s := by
  refine whl_start (n + 1) ?_
  have key : ∀ r i k s, n - i = r → i ≤ n → r < k → I i s → WhlRest prog w A E env test body [] Q k s := by
    intro r
    induction r with
    | zero =>
      intro i k s hr hi hk hI
      obtain rfl : i = n := by omega
      match k, hk with
      | k + 1, _ =>
        refine whl_turn hE (wpAny_mono (done s hI) (fun b s₂ h => ?_) fun _ _ x => x)
        obtain ⟨rfl, hq⟩ := h
        exact WhlIf.no rfl (wpAny_execs_nil hq)
    | succ r ih =>
      intro i k s hr hi hk hI
      match k, hk with
      | k + 1, hk =>
        refine whl_turn hE (wpAny_mono (turn i s (by omega) hI) (fun b s₂ h => ?_) fun _ _ x => x)
        obtain ⟨rfl, hb⟩ := h
        refine WhlIf.yes rfl (wpAny_mono hb (fun f s₃ h₃ => ?_) fun _ _ x => x)
        obtain ⟨rfl, hI'⟩ := h₃
        exact ih (i + 1) k s₃ (by omega) (by omega) (by omega) hI'
  exact key n 0 (n + 1) s (by omega) (Nat.zero_le _) (Nat.lt_succ_self _) h0

theorem wordsF100 : True := by
  k_with_none
  (k_with "m call builtin:len" => (k_here; (with_reducible show wpAny _ _ (call (Value.builtin "len") [Value.str _ _]) _ _ _); refine PyProof.Rows.len_str (by omega) ?_))
  (k_with "m subscriptTail Name Slice str ref" => refine Hold.mk' ?_)
  (k_with "m compareOp In str ref" => ((with_reducible rename Fr _ _ _ _ => kF); refine tok_in kF (by with_reducible assumption) ?_))
  (k_with "m subscriptTail Name Subscript ref str" => refine Hold.mk' ?_)
  (k_with "m exec While" => refine Hold.mk' ?_)
  (k_with "m eval ListComp" => refine Hold.mk' ?_)
  (k_with "m call builtin:list.append" => (k_dflt (refine' append_K ?zkk1 ?zkk2 ?zkk3 ?_ ?zkz; (case zkk1 => k_asm); (case zkk2 => k_asm); (case zkk3 => k_upd); (case zkz => first | (with_reducible assumption) | (with_unfolding_all exact fitN rfl) | (refine szl ?_; omega) | size_fits); k_whole); intro h' F' N'; (try k_sweep)))
  (k_with "m call builtin:max" => refine Hold.mk' ?_)
  trivial
noncomputable def TokInv (g : Heap) (L' : Addr) (s₀ : Shared) (row : Str) (D cS cR : Addr) (spots : Nat → Nat) (toks : List Int) (i : Nat) (s' : Shared) : Prop :=
  ∃ h tk m arr c c1 c2, s' = { s₀ with heap := h, toks := tk } ∧ Fr g L' h m ∧ News g L' h [(D, listOf (List.toArray arr) c), (cS, c1), (cR, c2)] ∧ (∃ t, c1.data = .cell (some (.int (spots i : Int) t))) ∧ (∃ t, c2.data = .cell (some (.str row t))) ∧
    IntsAre arr (toks.take i) ∧ arr.length = i ∧ m "numbers" = some (.ref D)
theorem nameT {g h : Heap} {L D cS cR : Addr} {o c1 c2 : Obj} (_N : News g L h [(D, o), (cS, c1), (cR, c2)]) : ∃ D' c1' c2', D' = D ∧ c1' = c1 ∧ c2' = c2 := ⟨_, _, _, rfl, rfl, rfl⟩
noncomputable def tokD (w : World) : List (Str × KTD.Dat) := match (frag w.params).lookup 78 with
  | some ⟨_, _, .dict es _, _⟩ => es.toList.filterMap fun e => match e.key, e.val with
    | .str x _, .int i _ => some (x, .flat (.int i))
    | _, _ => none
  | _ => []
theorem tok_tab {w : World} {h : Heap} (X : (frag w.params).In h) : KTD.TextTab h 78 (tokD w) := kt_text_in X (by kernel_rfl)
theorem eachL_of {h : Heap} {k : Str} {P : Value → Prop} : ∀ {D : List (Str × KTD.Dat)}, (∀ d, KTD.datumAt k D = some d → KTD.Opened h P d) → KTD.EachL h k P D
  | [], _ => trivial
  | [(x, d)], hd => KTD.eachL_last fun e => hd d (by simp [KTD.datumAt, e])
  | (x, d) :: p :: D, hd => KTD.eachL_ite (by
      by_cases e : k = x
      · simp only [e, decide_true, if_true]; exact hd d (by simp [KTD.datumAt, e])
      · simp only [e, decide_false, Bool.false_eq_true, if_false]
        exact eachL_of fun d' h' => hd d' (by rw [← h']; simp [KTD.datumAt, e]))
section
variable {prog : Program} {w : World} {A : Around} {E : Value → Shared → Prop} {s : Shared} {h₀ : Heap} {L : Addr} {m : Str → Option Value} {x : Str} {t : Tok} {a : Addr} {D : List (Str × KTD.Dat)}
theorem tok_in {Q : Value → Shared → Prop} (F : Fr h₀ L s.heap m) (T : KTD.TextTab h₀ a D) (h : Q (.bool (KTD.inKeys x D)) { s with toks := s.toks + 1 }) : wpAny (model prog w) A (compareOp .In (.str x t) (.ref a)) Q E s := KTD.in_text ⟨T, F.keep⟩ h
theorem tok_item {value slice : Expr} {i : Int} {Q : Value → Shared → Prop} (F : Fr h₀ L s.heap m) (T : KTD.TextTab h₀ a D) (hi : KTD.datumAt x D = some (.flat (.int i))) (h : ∀ u, Q (.int i u) { s with toks := s.toks + 1 })
   (hs : subscripted slice false (.ref a) (.str x t) = operate [.ref a, .str x t] (getItem (.ref a) (.str x t)) := by with_unfolding_all rfl) (hg : ∀ r, letTemporaryGo value (.ref a) r = pure () := by intro _; with_unfolding_all rfl) : wpAny (model prog w) A (subscriptTail value slice (.ref a) (.str x t)) Q E s :=
  KTD.item_text ⟨T, F.keep⟩ (by rw [← KTD.isSome_datumAt, hi]; rfl) (eachL_of fun d hd => by rw [hi] at hd; cases hd; exact KTD.opened_int h) hs hg
theorem keptE {news : List (Addr × Obj)} {h1 : Heap} : KeptH (fun h => Fr h₀ L h m ∧ News h₀ L h news ∧ Ext h1 h) := fun _ ob a => ⟨Fr.pushS a.1 ob, a.2.1.pushKeep ob, Ext.trans a.2.2 fun _ _ e => Heap.get?_push_of_some _ e⟩
theorem slice_strE {news : List (Addr × Obj)} {value slice : Expr} {Q : Value → Shared → Prop} {i j : Int} {ui uj : Tok} (hF : Fr h₀ L s.heap m) (hN : News h₀ L s.heap news) (h : ∀ h' t' k, Fr h₀ L h' m → News h₀ L h' news → Ext s.heap h' → Q (.str (Txt.slice x (some i) (some j)) t') { s with heap := h', toks := k }) (hsz : x.length ≤ sizeLine)
    (hs : subscripted slice false (.str x t) (.ref s.heap.objs.size) = operate [.ref s.heap.objs.size, .str x t] (getItem (.str x t) (.ref s.heap.objs.size)) := by with_unfolding_all rfl)
    (ht : ∀ r, letTemporaryGo value (.str x t) r = pure () := by intro _; with_unfolding_all rfl) :
    wpAny (model prog w) A (subscriptTail value slice (.str x t) (.ref s.heap.objs.size)) Q E { s with heap := s.heap.push { cls := .type "slice", data := .fields #[.int i ui, .int j uj, .none] } } :=
  tail_of_ItemOn (SBH.sliceItem_ss keptE ⟨hF, hN, Ext.refl _⟩ (fun h' t' k a => h h' t' k a.1 a.2.1 a.2.2) hsz) hs ht
end
theorem know_ns {h : Heap} {C : Addr} {m : Str → Option Value} {x : Str} {v : Value} (hx : m x = some v) (hn : h.Ns C (fun y => if y = x then some v else m y)) : h.Ns C m := by
  have e : (fun y => if y = x then some v else m y) = m := funext fun y => by
    by_cases q : y = x
    · rw [if_pos q, q, hx]
    · rw [if_neg q]
  rw [e] at hn; exact hn
theorem Ext.all {h h' : Heap} (x : Ext h h') : ∀ b o, h.get? b = some o → h'.get? b = some o := x
theorem item123 {i : Nat} {v : Value} {t1 t2 t3 : Tok} (h : (#[.int 1 t1, .int 2 t2, .int 3 t3] : Array Value)[i]? = some v) : ∃ o t, v = .int o t ∧ ([1, 2, 3] : List Int)[i]? = some o := by
  match i with
  | 0 => cases h; exact ⟨_, _, rfl, rfl⟩
  | 1 => cases h; exact ⟨_, _, rfl, rfl⟩
  | 2 => cases h; exact ⟨_, _, rfl, rfl⟩
  | _ + 3 => simp at h
noncomputable def RelS (tab : List (Str × KTD.Dat)) (row : Str) (spot : Int) (j : Nat) (r : Option Value) : Prop := ∀ k, ([1, 2, 3] : List Int)[j]? = some k → match r with
  | some y => KTD.inKeys (Txt.slice row (some spot) (some (spot + k))) tab = true ∧ ∃ t, y = .int k t
  | none => KTD.inKeys (Txt.slice row (some spot) (some (spot + k))) tab = false
structure TokStep (tab : List (Str × KTD.Dat)) (row : Str) (spot next : Nat) (tok : Int) : Prop where
  size : ((next : Int) - spot = 1 ∨ (next : Int) - spot = 2 ∨ (next : Int) - spot = 3)
  tok : KTD.datumAt (Txt.slice row (some (spot : Int)) (some (next : Int))) tab = some (.flat (.int tok))
  most : ∀ k : Int, k = 1 ∨ k = 2 ∨ k = 3 → KTD.inKeys (Txt.slice row (some (spot : Int)) (some ((spot : Int) + k))) tab = true → k ≤ (next : Int) - spot
theorem rel_cons {tab : List (Str × KTD.Dat)} {row : Str} {spot k : Int} {r : Option Value} {rs : List (Option Value)} {ks : List Int} (h : match r with
      | some y => KTD.inKeys (Txt.slice row (some spot) (some (spot + k))) tab = true ∧ ∃ t, y = .int k t
      | none => KTD.inKeys (Txt.slice row (some spot) (some (spot + k))) tab = false)
    (ht : IntsAre (outs rs) (ks.filter fun k => KTD.inKeys (Txt.slice row (some spot) (some (spot + k))) tab)) : IntsAre (outs (r :: rs)) ((k :: ks).filter fun k => KTD.inKeys (Txt.slice row (some spot) (some (spot + k))) tab) := by
  rw [List.filter_cons]
  cases r with
  | none => rw [if_neg (by rw [show _ = false from h]; decide)]; exact ht
  | some y =>
    obtain ⟨h1, t, rfl⟩ := h
    rw [if_pos h1]
    exact .cons _ _ ht
theorem rel_ints {tab : List (Str × KTD.Dat)} {row : Str} {spot : Int} {rs : List (Option Value)} (hl : rs.length = 3) (hR : ∀ j r, rs[j]? = some r → RelS tab row spot j r) :
   IntsAre (outs rs) (([1, 2, 3] : List Int).filter fun k => KTD.inKeys (Txt.slice row (some spot) (some (spot + k))) tab) := by
  obtain ⟨r1, r2, r3, rfl⟩ : ∃ r1 r2 r3, rs = [r1, r2, r3] := by
    match rs, hl with
    | [r1, r2, r3], _ => exact ⟨r1, r2, r3, rfl⟩
  exact rel_cons (hR 0 r1 rfl 1 rfl) (rel_cons (hR 1 r2 rfl 2 rfl) (rel_cons (hR 2 r3 rfl 3 rfl) .nil))
theorem fin_ext {g h h2 : Heap} {L D : Addr} {m : Str → Option Value} {news : List (Addr × Obj)} {o : Obj} (F : Fr g L h m) (N : News g L h news) (x : Ext h h2) (hD : h.get? D = none) (hDo : h2.get? D = some o) : Fr g L h2 m ∧ News g L h2 ((D, o) :: news) := by
  refine ⟨⟨F.ns.keeps x, fun b o e => x b o (F.keep b o e), F.above⟩, fun p hp => ?_⟩
  rcases List.mem_cons.1 hp with rfl | hp
  · refine ⟨hDo, fun q => ?_, ?_⟩
    · obtain ⟨_, _, _, e, _⟩ := F.ns
      dsimp only at q; rw [q, e] at hD; cases hD
    · cases e : g.get? D with
      | none => rfl
      | some o' => rw [F.keep _ _ e] at hD; cases hD
  · exact ⟨x _ _ (N p hp).1, (N p hp).2⟩
theorem newsDrop {g h : Heap} {L : Addr} {a b : Addr × Obj} {news : List (Addr × Obj)} (N : News g L h (a :: b :: news)) : News g L h (a :: news) := fun p hp => N p (by
  rcases List.mem_cons.1 hp with rfl | hp
  · exact .head _
  · exact .tail _ (.tail _ hp))
theorem newsTail {g h : Heap} {L : Addr} {a : Addr × Obj} {news : List (Addr × Obj)} (N : News g L h (a :: news)) : News g L h news := fun p hp => N p (.tail _ hp)
theorem step_max {tab : List (Str × KTD.Dat)} {row : Str} {spot size M : Int} (hs : size = 1 ∨ size = 2 ∨ size = 3) (hin : KTD.inKeys (Txt.slice row (some spot) (some (spot + size))) tab = true)
   (hmax : ∀ k : Int, k = 1 ∨ k = 2 ∨ k = 3 → KTD.inKeys (Txt.slice row (some spot) (some (spot + k))) tab = true → k ≤ size)
   (h1 : M ∈ ([1, 2, 3] : List Int).filter fun k => KTD.inKeys (Txt.slice row (some spot) (some (spot + k))) tab) (h2 : ∀ a, a ∈ (([1, 2, 3] : List Int).filter fun k => KTD.inKeys (Txt.slice row (some spot) (some (spot + k))) tab) → a ≤ M) : M = size := by
  rw [List.mem_filter] at h1
  have a1 := hmax M (by simpa using h1.1) h1.2
  have a2 := h2 size (List.mem_filter.2 ⟨by simpa using hs, hin⟩)
  omega
theorem tok_end {g h : Heap} {L' : Addr} {s : Shared} {row : Str} {D cS cR : Addr} {spots : Nat → Nat} {toks : List Int} {i tk c : Nat} {m : Str → Option Value} {arr : List Value} {c1 c2 : Obj} {M : Int} {u u1 u2 : Tok}
   (F : Fr g L' h m) (N : News g L' h [(D, listOf (arr.toArray.push (Value.int (toks.getD i 0) u)) c), (cS, c1), (cR, c2)]) (hm : m "numbers" = some (.ref D)) (a1 : c1.data = .cell (some (.int ((spots i : Int) + M) u1))) (a2 : c2.data = .cell (some (.str row u2)))
   (hI : IntsAre arr (toks.take i)) (hl : arr.length = i) (hi : i < toks.length) (hM : (spots i : Int) + M = (spots (i + 1) : Int)) : TokInv g L' s row D cS cR spots toks (i + 1) { s with heap := h, toks := tk } := by
  rw [List.push_toArray] at N
  refine ⟨h, tk, m, _, c, c1, c2, rfl, F, N, ⟨u1, by rw [← hM]; exact a1⟩, ⟨u2, a2⟩, ?_, by simp [hl], hm⟩
  have e : toks.take (i + 1) = toks.take i ++ [toks.getD i 0] := by
    rw [List.take_add_one, List.getD_eq_getElem?_getD, List.getElem?_eq_getElem hi]; rfl
  rw [e]
  exact ints_snoc hI _ _
theorem tokens_spec {w : World} {dp un : Nat} {gd : Option (List Code)} {s : Shared} {base : Heap} {outer : List Env} {p : Program} {loose : List Str} {mean : ExcName → Option Value} {mg mb : Str → Option Value} {Q E : Value → Shared → Prop}
   (row : Str) (n : Nat) (spots : Nat → Nat) (toks : List Int) (t1 : Tok) (tab : List (Str × KTD.Dat)) (htab : tokD w = tab) (hlt : ∀ i, i < n → spots i < row.length) (hst : ∀ i, i < n → TokStep tab row (spots i) (spots (i + 1)) (toks.getD i 0)) (h0 : spots 0 = 0) (hn : row.length ≤ spots n) (hlen : toks.length = n) (h9 : n ≤ 9) (hz : row.length ≤ sizeLine) (hrow : row.length ≤ 100)
   (B : Below (At dp un gd outer) base outer s.heap) (X : (frag w.params).In s.heap) (T : Top p loose mean mg mb s.heap) (hdp : dp ≤ 860)
   (hret : ∀ (D : Addr) (ws : List Value) n h' tk', Ext s.heap h' → s.heap.get? D = none → h'.get? D = some (listOf ws.toArray n) → IntsAre ws toks → Q (.ref D) {s with heap := h', toks := tk'}) :
   wpAny (model Challenge.rw_tl0025_01.row.prog w) (At dp un gd outer) (call (.ref 128) [.str row t1]) Q E s := by
  revert X; k_fill; intro X
  (refine' enterC (binds := [(Str.ofString "row", .str row t1)]) ?k1 ?k2 ?k3 ?k6 ?k7 ?k8 ?k9 ?kB ?kD ?_ ?c2 ?c3 ?c4; (case k1 => k_asm); (case k2 => k_asm); (case k3 => k_asm); (case k6 => k_is); (case k7 => k_is); (case k8 => (simp only [recursionLimit]; first | exact room (by assumption) rfl | omega)); (case k9 => exact BindsTo.of_eq rfl); (case kD => decide +kernel); (case kB => exact rfl); (case c2 => exact rfl); (case c3 => exact rfl); (case c4 => exact rfl); k_whole)
  intro g L' h₁ tk cells eg F N Y B X T
  (try dsimp only)
  k_fold
  have hTab : KTD.TextTab g 78 tab := htab ▸ tok_tab X
  k_cells Y
  k_steps
  unfold Hold
  rename Fr _ _ _ _ => F'
  rename News _ _ _ _ => N'
  obtain ⟨D, c1, c2, e1, e2, e3⟩ := nameT N'
  subst e1 e2 e3
  refine while_inv (TokInv g L' s row D (L' + 1 + 1) (L' + 1) spots toks) n (by first | passes_own | with_unfolding_all passes_own) ?_ ?_ ?_
  · clear F' N'
    rintro i _ hi ⟨h, tk, m, arr, c, c1, c2, rfl, F, N, ⟨u1, a1⟩, ⟨u2, a2⟩, hI, hl, m1⟩
    have F3 := know F m1
    clear F
    k_steps
    · exact decide_eq_true (by have := hlt i hi; omega)
    · unfold Hold
      refine evalComp (by with_unfolding_all rfl) (by decide) rfl (by decide) ?_
      k_steps
      rename Fr _ _ _ _ => F'
      rename News _ _ _ _ => N'
      refine ⟨rfl, RelS tab row (spots i), Or.inl ⟨_, _, rfl, News.isList N' (.head _), Nat.le_trans (show 3 ≤ 9 by decide) (by decide), Or.inl (fun _ _ => rfl), ?_, ?_⟩⟩
      · refine Turns.name rfl rfl ?_
        intro C j v h2 tk2 m3 hC hj hv hn hm hk
        obtain ⟨F4, N4⟩ := compFrame F' N' hC hk hn
        obtain ⟨k, t, rfl, hk3⟩ := item123 hv
        clear F' N'
        refine wpAny_tests_one ?_
        k_steps
        unfold Hold
        rename Fr _ _ _ _ => kF
        rename News _ _ _ _ => kN
        refine slice_strE (s := ⟨_, _, _, _, _⟩) kF kN ?_ (by with_reducible assumption)
        intro h5 t5 k5 F6 N6 x6
        have n6 := F6.ns
        clear kF kN
        k_steps
        · refine ⟨fun k' hk' => ?_, _, _, m3, rfl, n6, fun b o _ e => Ext.all x6 b o e⟩
          have ek : k = k' := by rw [hk3] at hk'; exact Option.some.inj hk'
          subst ek
          exact ⟨by assumption, _, rfl⟩
        · refine ⟨fun k' hk' => ?_, _, _, m3, rfl, n6, fun b o _ e => Ext.all x6 b o e⟩
          have ek : k = k' := by rw [hk3] at hk'; exact Option.some.inj hk'
          subst ek
          assumption
      · intro D2 rs e2 h2 tk2 hD2 hDo2 hlen2 hR2 hext2
        obtain ⟨F5, N5⟩ := fin_ext F' N' hext2 hD2 hDo2
        have hI5 := rel_ints hlen2 hR2
        obtain ⟨s1, s2, s3⟩ := hst i hi
        have s4 : KTD.inKeys (Txt.slice row (some (spots i : Int)) (some ((spots i : Int) + ((spots (i + 1) : Int) - spots i)))) tab = true := by
          rw [show (spots i : Int) + ((spots (i + 1) : Int) - spots i) = spots (i + 1) by omega, ← KTD.isSome_datumAt, s2]; rfl
        clear F' N' hD2 hDo2 hlen2 hR2 hext2
        k_steps
        unfold Hold
        rename Fr _ _ _ _ => F6
        rename News _ _ _ _ => N6
        have N7 := newsDrop N6
        clear N6
        refine kso_max F6 N7 ⟨_, N7.get (.head _), rfl, _, rfl⟩ hI5 (List.length_pos_of_mem (List.mem_filter.2 ⟨by simpa using s1, s4⟩)) (by with_unfolding_all rfl) ?_
        intro h' M tM tkM F8 N8 hM1 hM2
        replace N8 := newsTail N8
        have hM := step_max s1 s4 s3 hM1 hM2
        have hM3 : (spots i : Int) + M = (spots (i + 1) : Int) := by omega
        rw [← hM3] at s2
        have hIn : KTD.datumAt (Txt.slice row (some (spots i : Int)) (some ((spots i : Int) + M))) tab = some (.flat (.int (toks.getD i 0))) := s2
        clear F6 N7 hI5 s1 s2 s3 s4 hM1 hM2
        k_steps
        unfold Hold
        rename Fr _ _ _ _ => kF
        rename News _ _ _ _ => kN
        refine slice_strE (s := ⟨_, _, _, _, _⟩) kF kN ?_ (by with_reducible assumption)
        intro h5 t5 k5 F6 N6 x6
        clear kF kN x6
        k_steps
        unfold Hold
        rename Fr _ _ _ _ => F9
        rename News _ _ _ _ => N9
        refine tok_item F9 hTab hIn ?_
        intro u9
        k_steps
        rename Fr _ _ _ _ => F10
        rename News _ _ _ _ => N10
        exact tok_end F10 N10 (by exact (by rfl)) (by assumption) a2 hI hl (by omega) hM3
  · clear F' N'
    rintro _ ⟨h, tk, m, arr, c, c1, c2, rfl, F, N, ⟨u1, a1⟩, ⟨u2, a2⟩, hI, hl, m1⟩
    have F3 := know F m1
    clear F
    k_steps
    · exact decide_eq_false (by omega)
    · exact ints_end (s := s) hret eg (by assumption) (by assumption) (by rw [← hlen, List.take_length] at hI; exact hI)
  · refine ⟨_, _, _, [], 0, _, _, rfl, F', N', ⟨_, by rw [h0]; assumption⟩, ⟨t1, by assumption⟩, .nil, rfl, if_pos rfl⟩
end Mine
end

namespace Mine
theorem freshU1 : True ∧ True := by
  k_with_none
  w_top off
  first | (walk1; all_goals exact trivial) | exact ⟨trivial, trivial⟩
end Mine
section
open PySem PySem.W PyProof.Rows
set_option Elab.async false
set_option maxRecDepth 100000
namespace Mine
open PySem.Calls PySem.Spec PySem.Flt

/-- an arc of the net -/
structure GoodArc (x : Arc) : Prop where
  head : x.2.2 = 1 ∨ x.2.2 = 2 ∨ x.2.2 = 4
  tail : Place x.2.1
  ne : x.2.1 ≠ x.2.2
noncomputable def cut (S : Int) (x : Arc) : Bool := !(Builtin.bitAnd S x.2.2 == 0) && (Builtin.bitAnd S x.2.1 == 0)
noncomputable def i01 (b : Bool) : Int := if b then 1 else 0
noncomputable def isTy (t h : Int) (x : Arc) : Bool := x.2.1 == t && x.2.2 == h
theorem i01_lo (b : Bool) : 0 ≤ i01 b := by cases b <;> decide
theorem i01_hi (b : Bool) : i01 b ≤ 1 := by cases b <;> decide
/-- seven figures in base 64, above a figure 0 -/
noncomputable def V (f : Int → Int) : Int := 64 * (f 1 + 64 * (f 2 + 64 * (f 3 + 64 * (f 4 + 64 * (f 5 + 64 * (f 6 + 64 * f 7))))))
theorem good_cases {x : Arc} (h : GoodArc x) : ∃ r t d, x = (r, t, d) ∧ ((t = 0 ∧ d = 1) ∨ (t = 0 ∧ d = 2) ∨ (t = 0 ∧ d = 4) ∨ (t = 1 ∧ d = 2) ∨ (t = 1 ∧ d = 4) ∨ (t = 2 ∧ d = 1) ∨ (t = 2 ∧ d = 4) ∨ (t = 4 ∧ d = 1) ∨ (t = 4 ∧ d = 2)) := by
  obtain ⟨r, t, d⟩ := x
  obtain ⟨hh, ht, hn⟩ := h
  refine ⟨r, t, d, rfl, ?_⟩
  replace hh : d = 1 ∨ d = 2 ∨ d = 4 := hh
  replace hn : t ≠ d := hn
  replace ht : t = 0 ∨ t = 1 ∨ t = 2 ∨ t = 4 := ht
  rcases hh with rfl | rfl | rfl <;> rcases ht with rfl | rfl | rfl | rfl <;> first | exact absurd rfl hn | decide
theorem number_V {x : Arc} (h : GoodArc x) : lawNumber x.2.1 x.2.2 = V (fun S => i01 (cut S x)) := by
  obtain ⟨r, t, d, rfl, q⟩ := good_cases h; clear h
  rcases q with ⟨rfl, rfl⟩ | ⟨rfl, rfl⟩ | ⟨rfl, rfl⟩ | ⟨rfl, rfl⟩ | ⟨rfl, rfl⟩ | ⟨rfl, rfl⟩ | ⟨rfl, rfl⟩ | ⟨rfl, rfl⟩ | ⟨rfl, rfl⟩ <;> (show lawNumber _ _ = V (fun S => i01 (cut S (0, _, _))); dsimp only; decide +kernel)

/-- how many of the places in L hold what p asks -/
noncomputable def csum (p : Arc → Bool) (xs : List Arc) (L : List Nat) : Int := (L.map fun k => i01 (p (xs.getD k (0, 0, 0)))).sum
theorem csum_nil (p : Arc → Bool) (xs : List Arc) : csum p xs [] = 0 := rfl
theorem csum_cons (p : Arc → Bool) (xs : List Arc) (k : Nat) (L : List Nat) : csum p xs (k :: L) = i01 (p (xs.getD k (0, 0, 0))) + csum p xs L := by simp [csum]
theorem csum_nonneg (p : Arc → Bool) (xs : List Arc) (L : List Nat) : 0 ≤ csum p xs L := by
  induction L with
  | nil => exact Int.le_refl _
  | cons k L ih => rw [csum_cons]; have := i01_lo (p (xs.getD k (0, 0, 0))); omega
theorem csum_erase (p : Arc → Bool) (xs : List Arc) {L : List Nat} {k : Nat} (h : k ∈ L) : csum p xs (L.erase k) = csum p xs L - i01 (p (xs.getD k (0, 0, 0))) := by
  induction L with
  | nil => cases h
  | cons a L ih =>
    by_cases e : a = k
    · subst e; rw [List.erase_cons_head, csum_cons]; omega
    · rw [List.erase_cons_tail (by simpa using e), csum_cons, csum_cons, ih (by simpa [Ne.symm e] using h)]; omega
theorem csum_pos {p : Arc → Bool} {xs : List Arc} {L : List Nat} (h : 1 ≤ csum p xs L) : ∃ k, k ∈ L ∧ p (xs.getD k (0, 0, 0)) = true := by
  induction L with
  | nil => rw [csum_nil] at h; omega
  | cons a L ih =>
    rw [csum_cons] at h
    cases q : p (xs.getD a (0, 0, 0)) with
    | true => exact ⟨a, .head _, q⟩
    | false =>
      rw [q] at h
      obtain ⟨k, hk, e⟩ := ih (by have : i01 false = 0 := rfl; omega)
      exact ⟨k, .tail _ hk, e⟩
/-- the places that are not used yet -/
noncomputable def rem (n : Nat) (us : List Int) : List Nat := (List.range n).filter fun k => !(us.any (· == (k : Int)))
theorem rem_snoc {n : Nat} {us : List Int} (k : Nat) : rem n (us ++ [(k : Int)]) = (rem n us).erase k := by
  have hn : (rem n us).Nodup := List.Pairwise.filter _ List.nodup_range
  rw [hn.erase_eq_filter, rem, rem, List.filter_filter]
  congr 1
  funext j
  rw [List.any_append, Bool.not_or]
  simp only [List.any_cons, List.any_nil, Bool.or_false]
  rw [Bool.and_comm]
  congr 1
  by_cases e : j = k
  · subst e; simp
  · have : ((k : Int) == (j : Int)) = false := by simpa using fun q => e (by omega)
    rw [this]; simp [e]
theorem mem_rem {n : Nat} {us : List Int} {k : Nat} : k ∈ rem n us ↔ k < n ∧ us.any (· == (k : Int)) = false := by simp [rem]
noncomputable abbrev cntR (xs : List Arc) (us : List Int) (S : Int) : Int := csum (cut S) xs (rem xs.length us)

theorem types1 {x : Arc} (h : GoodArc x) :
    i01 (cut 1 x) = i01 (isTy 0 1 x) + i01 (isTy 2 1 x) + i01 (isTy 4 1 x) ∧
    i01 (cut 2 x) = i01 (isTy 0 2 x) + i01 (isTy 1 2 x) + i01 (isTy 4 2 x) ∧
    i01 (cut 3 x) = i01 (isTy 0 1 x) + i01 (isTy 4 1 x) + i01 (isTy 0 2 x) + i01 (isTy 4 2 x) ∧
    i01 (cut 4 x) = i01 (isTy 0 4 x) + i01 (isTy 1 4 x) + i01 (isTy 2 4 x) ∧
    i01 (cut 5 x) = i01 (isTy 0 1 x) + i01 (isTy 2 1 x) + i01 (isTy 0 4 x) + i01 (isTy 2 4 x) ∧
    i01 (cut 6 x) = i01 (isTy 0 2 x) + i01 (isTy 1 2 x) + i01 (isTy 0 4 x) + i01 (isTy 1 4 x) ∧
    i01 (cut 7 x) = i01 (isTy 0 1 x) + i01 (isTy 0 2 x) + i01 (isTy 0 4 x) := by
  obtain ⟨r, t, d, rfl, q⟩ := good_cases h; clear h
  rcases q with ⟨rfl, rfl⟩ | ⟨rfl, rfl⟩ | ⟨rfl, rfl⟩ | ⟨rfl, rfl⟩ | ⟨rfl, rfl⟩ | ⟨rfl, rfl⟩ | ⟨rfl, rfl⟩ | ⟨rfl, rfl⟩ | ⟨rfl, rfl⟩ <;> (show i01 (cut 1 (0, _, _)) = i01 (isTy 0 1 (0, _, _)) + i01 (isTy 2 1 (0, _, _)) + i01 (isTy 4 1 (0, _, _)) ∧ i01 (cut 2 (0, _, _)) = i01 (isTy 0 2 (0, _, _)) + i01 (isTy 1 2 (0, _, _)) + i01 (isTy 4 2 (0, _, _)) ∧ i01 (cut 3 (0, _, _)) = i01 (isTy 0 1 (0, _, _)) + i01 (isTy 4 1 (0, _, _)) + i01 (isTy 0 2 (0, _, _)) + i01 (isTy 4 2 (0, _, _)) ∧ i01 (cut 4 (0, _, _)) = i01 (isTy 0 4 (0, _, _)) + i01 (isTy 1 4 (0, _, _)) + i01 (isTy 2 4 (0, _, _)) ∧ i01 (cut 5 (0, _, _)) = i01 (isTy 0 1 (0, _, _)) + i01 (isTy 2 1 (0, _, _)) + i01 (isTy 0 4 (0, _, _)) + i01 (isTy 2 4 (0, _, _)) ∧ i01 (cut 6 (0, _, _)) = i01 (isTy 0 2 (0, _, _)) + i01 (isTy 1 2 (0, _, _)) + i01 (isTy 0 4 (0, _, _)) + i01 (isTy 1 4 (0, _, _)) ∧ i01 (cut 7 (0, _, _)) = i01 (isTy 0 1 (0, _, _)) + i01 (isTy 0 2 (0, _, _)) + i01 (isTy 0 4 (0, _, _)); decide +kernel)
theorem swap4 (a b c d : Int) : a + b + (c + d) = a + c + (b + d) := by rw [Int.add_assoc, Int.add_assoc, Int.add_left_comm b]
theorem add3 {a b c d A B C D : Int} (h : a = b + c + d) (H : A = B + C + D) : a + A = (b + B) + (c + C) + (d + D) := by
  rw [h, H, swap4 (b + c) d, swap4 b c]
theorem add4 {a b c d e A B C D E : Int} (h : a = b + c + d + e) (H : A = B + C + D + E) : a + A = (b + B) + (c + C) + (d + D) + (e + E) := by
  rw [h, H, swap4 (b + c + d) e, swap4 (b + c) d, swap4 b c]
theorem types {xs : List Arc} {L : List Nat} (h : ∀ k ∈ L, GoodArc (xs.getD k (0, 0, 0))) :
    csum (cut 1) xs L = csum (isTy 0 1) xs L + csum (isTy 2 1) xs L + csum (isTy 4 1) xs L ∧
    csum (cut 2) xs L = csum (isTy 0 2) xs L + csum (isTy 1 2) xs L + csum (isTy 4 2) xs L ∧
    csum (cut 3) xs L = csum (isTy 0 1) xs L + csum (isTy 4 1) xs L + csum (isTy 0 2) xs L + csum (isTy 4 2) xs L ∧
    csum (cut 4) xs L = csum (isTy 0 4) xs L + csum (isTy 1 4) xs L + csum (isTy 2 4) xs L ∧
    csum (cut 5) xs L = csum (isTy 0 1) xs L + csum (isTy 2 1) xs L + csum (isTy 0 4) xs L + csum (isTy 2 4) xs L ∧
    csum (cut 6) xs L = csum (isTy 0 2) xs L + csum (isTy 1 2) xs L + csum (isTy 0 4) xs L + csum (isTy 1 4) xs L ∧
    csum (cut 7) xs L = csum (isTy 0 1) xs L + csum (isTy 0 2) xs L + csum (isTy 0 4) xs L := by
  induction L with
  | nil => exact ⟨rfl, rfl, rfl, rfl, rfl, rfl, rfl⟩
  | cons a L ih =>
    obtain ⟨a1, a2, a3, a4, a5, a6, a7⟩ := ih fun k hk => h k (.tail _ hk)
    obtain ⟨b1, b2, b3, b4, b5, b6, b7⟩ := types1 (h a (.head _))
    simp only [csum_cons]
    exact ⟨add3 b1 a1, add3 b2 a2, add4 b3 a3, add3 b4 a4, add4 b5 a5, add4 b6 a6, add3 b7 a7⟩

/-- what may still be taken, when all cuts hold -/
noncomputable def CutsHold (xs : List Arc) (L : List Nat) (r still : Int) : Prop := ∀ S ∈ ([1, 2, 3, 4, 5, 6, 7] : List Int), still + i01 (Builtin.bitAnd S r == 0) ≤ csum (cut S) xs L
/-- an arc that leads out and leaves all cuts -/
structure Takes (xs : List Arc) (L : List Nat) (r still : Int) (k : Nat) : Prop where
  mem : k ∈ L
  tail : (xs.getD k (0, 0, 0)).2.1 = 0 ∨ Builtin.bitAnd (xs.getD k (0, 0, 0)).2.1 r ≠ 0
  head : Builtin.bitAnd (xs.getD k (0, 0, 0)).2.2 r = 0
  left : ∀ S ∈ ([1, 2, 3, 4, 5, 6, 7] : List Int), still + i01 (cut S (xs.getD k (0, 0, 0))) ≤ csum (cut S) xs L
theorem take_of {xs : List Arc} {L : List Nat} {r still : Int} (t h : Int) (ht : t = 0 ∨ Builtin.bitAnd t r ≠ 0) (hh : Builtin.bitAnd h r = 0) (hc : 1 ≤ csum (isTy t h) xs L)
    (hS : ∀ S ∈ ([1, 2, 3, 4, 5, 6, 7] : List Int), still + i01 (cut S (0, t, h)) ≤ csum (cut S) xs L) : ∃ k, Takes xs L r still k := by
  obtain ⟨k, hk, e⟩ := csum_pos hc
  have e2 : (xs.getD k (0, 0, 0)).2.1 = t ∧ (xs.getD k (0, 0, 0)).2.2 = h := by simpa [isTy] using e
  refine ⟨k, hk, by rw [e2.1]; exact ht, by rw [e2.2]; exact hh, fun S s => ?_⟩
  have : cut S (xs.getD k (0, 0, 0)) = cut S (0, t, h) := by unfold cut; rw [e2.1, e2.2]
  rw [this]; exact hS S s
/-- one place is reached -/
theorem exA1 {s Cx Cy Cz Cxy Cxz Cyz Cxyz m0x m0y m0z mxy mxz myx myz mzx mzy : Int} (hs : 0 ≤ s) (w1 : 0 ≤ m0x) (w2 : 0 ≤ myx) (w3 : 0 ≤ mzx) (ex : Cx = m0x + myx + mzx) (ey : Cy = m0y + mxy + mzy) (ez : Cz = m0z + mxz + myz) (exy : Cxy = m0x + mzx + m0y + mzy) (exz : Cxz = m0x + myx + m0z + myz) (eyz : Cyz = m0y + mxy + m0z + mxz) (exyz : Cxyz = m0x + m0y + m0z)
    (px : 0 ≤ mxy) (pz : 0 ≤ mxz) (p1 : 0 ≤ m0y) (p2 : 0 ≤ m0z) (p3 : 0 ≤ myz) (p4 : 0 ≤ mzy) (cx : s ≤ Cx) (cy : s + 1 ≤ Cy) (cz : s + 1 ≤ Cz) (cxy : s ≤ Cxy) (cxz : s ≤ Cxz) (cyz : s + 1 ≤ Cyz) (cxyz : s ≤ Cxyz) :
    1 ≤ mxy ∨ 1 ≤ mxz ∨ (1 ≤ m0y ∧ s + 1 ≤ Cxy ∧ s + 1 ≤ Cxyz) ∨ (1 ≤ m0z ∧ s + 1 ≤ Cxz ∧ s + 1 ≤ Cxyz) := by
  by_cases q1 : 1 ≤ mxy
  · exact .inl q1
  by_cases q2 : 1 ≤ mxz
  · exact .inr (.inl q2)
  have A : s + 1 ≤ m0y + m0z := by clear ex ey ez exy exz exyz cx cy cz cxy cxz cxyz w1 w2 w3 p1 p2 p3 p4; omega
  have B : s + 1 ≤ Cxyz := by clear ex ey ez exy exz eyz cx cy cz cxy cxz cxyz cyz p1 p2 p3 p4 q1 q2 px pz; omega
  by_cases q3 : 1 ≤ m0y
  · exact .inr (.inr (.inl ⟨q3, by clear ex ez exz eyz exyz cx cz cxy cxz cxyz cyz p1 p2 p3 p4 q2 q3 px pz A B; omega, B⟩))
  · exact .inr (.inr (.inr ⟨by clear ex ey ez exy exz eyz exyz cx cy cz cxy cxz cxyz cyz B; omega, by clear ex ey exy eyz exyz cx cy cxy cxz cxyz cyz p1 p2 p3 p4 q1 q3 px pz A B; omega, B⟩))
/-- two places are reached -/
theorem exA2 {s Cz Cxz Cyz Cxyz Cxy m0x m0y m0z mxz myz mzx mzy myx mxy Cx Cy : Int} (hs : 0 ≤ s) (w1 : 0 ≤ m0x) (w2 : 0 ≤ m0y) (ez : Cz = m0z + mxz + myz) (exz : Cxz = m0x + myx + m0z + myz) (eyz : Cyz = m0y + mxy + m0z + mxz) (exyz : Cxyz = m0x + m0y + m0z) (ex : Cx = m0x + myx + mzx) (ey : Cy = m0y + mxy + mzy) (exy : Cxy = m0x + mzx + m0y + mzy)
    (p1 : 0 ≤ m0z) (p2 : 0 ≤ mxz) (p3 : 0 ≤ myz) (p4 : 0 ≤ mzx) (p5 : 0 ≤ mzy) (p6 : 0 ≤ myx) (p7 : 0 ≤ mxy) (cx : s ≤ Cx) (cy : s ≤ Cy) (cxy : s ≤ Cxy) (cz : s + 1 ≤ Cz) (cxz : s ≤ Cxz) (cyz : s ≤ Cyz) (cxyz : s ≤ Cxyz) :
    (1 ≤ mxz ∧ s + 1 ≤ Cyz) ∨ (1 ≤ myz ∧ s + 1 ≤ Cxz) ∨ (1 ≤ m0z ∧ s + 1 ≤ Cxz ∧ s + 1 ≤ Cyz ∧ s + 1 ≤ Cxyz) := by
  clear ex ey exy cx cy cxy p4 p5
  by_cases a : s + 1 ≤ Cyz
  · by_cases b : 1 ≤ mxz
    · exact .inl ⟨b, a⟩
    · have c : s + 1 ≤ Cxz := by clear eyz exyz cxz cyz cxyz a; omega
      by_cases d : 1 ≤ myz
      · exact .inr (.inl ⟨d, c⟩)
      · have e : s + 1 ≤ m0z := by clear exz eyz exyz cxz cyz cxyz a c w1 w2; omega
        exact .inr (.inr ⟨by clear exz eyz exyz cxz cyz cxyz a c w1 w2 ez cz b d; omega, c, a, by clear exz eyz ez cxz cyz cxyz a c cz b d; omega⟩)
  · refine .inr (.inl ⟨by clear exz exyz cxz cyz cxyz w1 p6; omega, by clear cxz cyz hs w1 w2 p1 p2 p3; omega⟩)
theorem seven {Q : Int → Prop} (h1 : Q 1) (h2 : Q 2) (h3 : Q 3) (h4 : Q 4) (h5 : Q 5) (h6 : Q 6) (h7 : Q 7) : ∀ S ∈ ([1, 2, 3, 4, 5, 6, 7] : List Int), Q S := by
  intro S hS
  simp only [List.mem_cons, List.not_mem_nil, or_false] at hS
  rcases hS with rfl | rfl | rfl | rfl | rfl | rfl | rfl <;> assumption
theorem lo_of {s C : Int} {b : Bool} (h : s + i01 b ≤ C) : s + 0 ≤ C := by have := i01_lo b; omega
theorem exTake {xs : List Arc} {L : List Nat} {r still : Int} (hg : ∀ k ∈ L, GoodArc (xs.getD k (0, 0, 0))) (h0 : 0 ≤ still) (hr : r = 0 ∨ r = 1 ∨ r = 2 ∨ r = 3 ∨ r = 4 ∨ r = 5 ∨ r = 6) (hc : CutsHold xs L r still) : ∃ k, Takes xs L r still k := by
  obtain ⟨a1, a2, a3, a4, a5, a6, a7⟩ := types hg
  have c1 := hc 1 (by decide)
  have c2 := hc 2 (by decide)
  have c3 := hc 3 (by decide)
  have c4 := hc 4 (by decide)
  have c5 := hc 5 (by decide)
  have c6 := hc 6 (by decide)
  have c7 := hc 7 (by decide)
  have d1 := lo_of c1
  have d2 := lo_of c2
  have d3 := lo_of c3
  have d4 := lo_of c4
  have d5 := lo_of c5
  have d6 := lo_of c6
  have d7 := lo_of c7
  have n1 := csum_nonneg (isTy 0 1) xs L
  have n2 := csum_nonneg (isTy 0 2) xs L
  have n3 := csum_nonneg (isTy 0 4) xs L
  have n4 := csum_nonneg (isTy 1 2) xs L
  have n5 := csum_nonneg (isTy 1 4) xs L
  have n6 := csum_nonneg (isTy 2 1) xs L
  have n7 := csum_nonneg (isTy 2 4) xs L
  have n8 := csum_nonneg (isTy 4 1) xs L
  have n9 := csum_nonneg (isTy 4 2) xs L
  have e : ∀ {C : Int}, still + 0 ≤ C → still ≤ C := fun h => by rwa [Int.add_zero] at h
  rcases hr with rfl | rfl | rfl | rfl | rfl | rfl | rfl
  · replace c1 : still + 1 ≤ _ := c1
    replace c2 : still + 1 ≤ _ := c2
    replace c3 : still + 1 ≤ _ := c3
    replace c4 : still + 1 ≤ _ := c4
    replace c5 : still + 1 ≤ _ := c5
    replace c6 : still + 1 ≤ _ := c6
    replace c7 : still + 1 ≤ _ := c7
    have q : 1 ≤ csum (isTy 0 1) xs L ∨ 1 ≤ csum (isTy 0 2) xs L ∨ 1 ≤ csum (isTy 0 4) xs L := by
      clear hc c1 c2 c3 c4 c5 c6 d1 d2 d3 d4 d5 d6 d7 a1 a2 a3 a4 a5 a6 n4 n5 n6 n7 n8 n9
      rw [a7] at c7
      omega
    rcases q with q | q | q
    · exact take_of 0 1 (.inl rfl) rfl q (seven c1 d2 c3 d4 c5 d6 c7)
    · exact take_of 0 2 (.inl rfl) rfl q (seven d1 c2 c3 d4 d5 c6 c7)
    · exact take_of 0 4 (.inl rfl) rfl q (seven d1 d2 d3 c4 c5 c6 c7)
  · replace c2 : still + 1 ≤ _ := c2
    replace c4 : still + 1 ≤ _ := c4
    replace c6 : still + 1 ≤ _ := c6
    rcases exA1 h0 n1 n6 n8 a1 a2 a4 a3 a5 a6 a7 n4 n5 n2 n3 n7 n9 (e d1) c2 c4 (e d3) (e d5) c6 (e d7) with q | q | ⟨q, q3, q7⟩ | ⟨q, q5, q7⟩
    · exact take_of 1 2 (.inr (by decide)) rfl q (seven d1 c2 d3 d4 d5 c6 d7)
    · exact take_of 1 4 (.inr (by decide)) rfl q (seven d1 d2 d3 c4 d5 c6 d7)
    · exact take_of 0 2 (.inl rfl) rfl q (seven d1 c2 q3 d4 d5 c6 q7)
    · exact take_of 0 4 (.inl rfl) rfl q (seven d1 d2 d3 c4 q5 c6 q7)
  · replace c1 : still + 1 ≤ _ := c1
    replace c4 : still + 1 ≤ _ := c4
    replace c5 : still + 1 ≤ _ := c5
    rcases exA1 (m0x := csum (isTy 0 2) xs L) (myx := csum (isTy 1 2) xs L) (mzx := csum (isTy 4 2) xs L) h0 n2 n4 n9 a2 a1 (a4.trans (by omega)) (a3.trans (by omega)) (a6.trans (by omega)) (a5.trans (by omega)) (a7.trans (by omega)) n6 n7 n1 n3 n5 n8 (e d2) c1 c4 (e d3) (e d6) c5 (e d7) with q | q | ⟨q, q3, q7⟩ | ⟨q, q6, q7⟩
    · exact take_of 2 1 (.inr (by decide)) rfl q (seven c1 d2 d3 d4 c5 d6 d7)
    · exact take_of 2 4 (.inr (by decide)) rfl q (seven d1 d2 d3 c4 c5 d6 d7)
    · exact take_of 0 1 (.inl rfl) rfl q (seven c1 d2 q3 d4 c5 d6 q7)
    · exact take_of 0 4 (.inl rfl) rfl q (seven d1 d2 d3 c4 c5 q6 q7)
  · replace c4 : still + 1 ≤ _ := c4
    rcases exA2 h0 n1 n2 a4 a5 a6 a7 a1 a2 a3 n3 n5 n7 n8 n9 n6 n4 (e d1) (e d2) (e d3) c4 (e d5) (e d6) (e d7) with ⟨q, q6⟩ | ⟨q, q5⟩ | ⟨q, q5, q6, q7⟩
    · exact take_of 1 4 (.inr (by decide)) rfl q (seven d1 d2 d3 c4 d5 q6 d7)
    · exact take_of 2 4 (.inr (by decide)) rfl q (seven d1 d2 d3 c4 q5 d6 d7)
    · exact take_of 0 4 (.inl rfl) rfl q (seven d1 d2 d3 c4 q5 q6 q7)
  · replace c1 : still + 1 ≤ _ := c1
    replace c2 : still + 1 ≤ _ := c2
    replace c3 : still + 1 ≤ _ := c3
    rcases exA1 (m0x := csum (isTy 0 4) xs L) (myx := csum (isTy 1 4) xs L) (mzx := csum (isTy 2 4) xs L) h0 n3 n5 n7 a4 (a1.trans (by omega)) (a2.trans (by omega)) (a5.trans (by omega)) (a6.trans (by omega)) (a3.trans (by omega)) (a7.trans (by omega)) n8 n9 n1 n2 n4 n6 (e d4) c1 c2 (e d5) (e d6) c3 (e d7) with q | q | ⟨q, q5, q7⟩ | ⟨q, q6, q7⟩
    · exact take_of 4 1 (.inr (by decide)) rfl q (seven c1 d2 c3 d4 d5 d6 d7)
    · exact take_of 4 2 (.inr (by decide)) rfl q (seven d1 c2 c3 d4 d5 d6 d7)
    · exact take_of 0 1 (.inl rfl) rfl q (seven c1 d2 c3 d4 q5 d6 q7)
    · exact take_of 0 2 (.inl rfl) rfl q (seven d1 c2 c3 d4 d5 q6 q7)
  · replace c2 : still + 1 ≤ _ := c2
    rcases exA2 (m0x := csum (isTy 0 1) xs L) (m0y := csum (isTy 0 4) xs L) (mzx := csum (isTy 2 1) xs L) (mzy := csum (isTy 2 4) xs L) (myx := csum (isTy 4 1) xs L) (mxy := csum (isTy 1 4) xs L) h0 n1 n3 a2 (a3.trans (by omega)) (a6.trans (by omega)) (a7.trans (by omega)) (a1.trans (by omega)) (a4.trans (by omega)) (a5.trans (by omega)) n2 n4 n9 n6 n7 n8 n5 (e d1) (e d4) (e d5) c2 (e d3) (e d6) (e d7) with ⟨q, q6⟩ | ⟨q, q3⟩ | ⟨q, q3, q6, q7⟩
    · exact take_of 1 2 (.inr (by decide)) rfl q (seven d1 c2 d3 d4 d5 q6 d7)
    · exact take_of 4 2 (.inr (by decide)) rfl q (seven d1 c2 q3 d4 d5 d6 d7)
    · exact take_of 0 2 (.inl rfl) rfl q (seven d1 c2 q3 d4 d5 q6 q7)
  · replace c1 : still + 1 ≤ _ := c1
    rcases exA2 (m0x := csum (isTy 0 2) xs L) (m0y := csum (isTy 0 4) xs L) (mzx := csum (isTy 1 2) xs L) (mzy := csum (isTy 1 4) xs L) (myx := csum (isTy 4 2) xs L) (mxy := csum (isTy 2 4) xs L) h0 n2 n3 a1 (a3.trans (by omega)) (a5.trans (by omega)) (a7.trans (by omega)) (a2.trans (by omega)) (a4.trans (by omega)) (a6.trans (by omega)) n1 n6 n8 n4 n5 n9 n7 (e d2) (e d4) (e d6) c1 (e d3) (e d5) (e d7) with ⟨q, q5⟩ | ⟨q, q3⟩ | ⟨q, q3, q5, q7⟩
    · exact take_of 2 1 (.inr (by decide)) rfl q (seven c1 d2 d3 d4 q5 d6 d7)
    · exact take_of 4 1 (.inr (by decide)) rfl q (seven c1 d2 q3 d4 d5 d6 d7)
    · exact take_of 0 1 (.inl rfl) rfl q (seven c1 d2 q3 d4 q5 d6 q7)
end Mine
end

namespace Mine
theorem freshU2 : True ∧ True := by
  k_with_none
  w_top off
  first | (walk1; all_goals exact trivial) | exact ⟨trivial, trivial⟩
end Mine
section
open PySem PySem.W PyProof.Rows
set_option Elab.async false
set_option maxRecDepth 100000
namespace Mine
open PySem.Calls PySem.Spec PySem.Flt

noncomputable abbrev ones7 : Int := 65 * 4097 * 16777217 - 1
theorem low64 {a c : Nat} (h : (a : Int) < 64) : (a + 64 * c) % 2 ^ 6 = a := by
  rw [Nat.add_mul_mod_self_left]; exact Nat.mod_eq_of_lt (Int.ofNat_lt.mp h)
theorem high64 {a c : Nat} (h : (a : Int) < 64) : (a + 64 * c) / 2 ^ 6 = c := by
  rw [Nat.add_mul_div_left _ _ (by decide), Nat.div_eq_of_lt (Int.ofNat_lt.mp h), Nat.zero_add]
theorem and64 {a b c d : Int} (a0 : 0 ≤ a) (a1 : a < 64) (b0 : 0 ≤ b) (b1 : b < 64) (c0 : 0 ≤ c) (d0 : 0 ≤ d) : Builtin.bitAnd (a + 64 * c) (b + 64 * d) = Builtin.bitAnd a b + 64 * Builtin.bitAnd c d := by
  obtain ⟨a, rfl⟩ := Int.eq_ofNat_of_zero_le a0
  obtain ⟨b, rfl⟩ := Int.eq_ofNat_of_zero_le b0
  obtain ⟨c, rfl⟩ := Int.eq_ofNat_of_zero_le c0
  obtain ⟨d, rfl⟩ := Int.eq_ofNat_of_zero_le d0
  have e : ((a : Int) + 64 * (c : Int)) = ((a + 64 * c : Nat) : Int) := by push_cast; rfl
  have e2 : ((b : Int) + 64 * (d : Int)) = ((b + 64 * d : Nat) : Int) := by push_cast; rfl
  rw [e, e2, bitAnd_nat, bitAnd_nat, bitAnd_nat]
  have h1 : (a + 64 * c &&& b + 64 * d) % 2 ^ 6 = (a + 64 * c) % 2 ^ 6 &&& (b + 64 * d) % 2 ^ 6 := Nat.and_mod_two_pow
  have h2 : (a + 64 * c &&& b + 64 * d) / 2 ^ 6 = (a + 64 * c) / 2 ^ 6 &&& (b + 64 * d) / 2 ^ 6 := Nat.and_div_two_pow
  rw [low64 a1, low64 b1] at h1
  rw [high64 a1, high64 b1] at h2
  generalize (a + 64 * c &&& b + 64 * d) = z at *
  generalize (a &&& b) = x at *
  generalize (c &&& d) = y at *
  omega
theorem and32 {a : Int} (a0 : 0 ≤ a) (a1 : a < 64) : Builtin.bitAnd a 32 = if 32 ≤ a then 32 else 0 := by
  have h : ∀ k : Fin 64, Builtin.bitAnd ((k.val : Nat) : Int) 32 = if (32 : Int) ≤ ((k.val : Nat) : Int) then 32 else 0 := by decide +kernel
  have := h ⟨a.toNat, by omega⟩
  rwa [show (((⟨a.toNat, by omega⟩ : Fin 64).val : Nat) : Int) = a by simp; omega] at this
noncomputable def In64 (f : Int → Int) : Prop := ∀ S ∈ ([1, 2, 3, 4, 5, 6, 7] : List Int), 0 ≤ f S ∧ f S < 64
/-- the bars of one figure and of all above it -/
structure Bar (r r' : Int) (P : Prop) : Prop where
  bar : Builtin.bitAnd r r' = r' ↔ P
  le : Builtin.bitAnd r r' ≤ r'
  lo : 0 ≤ r
  lo' : 0 ≤ r'
theorem Bar.one {d : Int} (h0 : 0 ≤ d) (h1 : d < 64) : Bar d 32 (32 ≤ d) := by
  have e := and32 h0 h1
  refine ⟨?_, ?_, h0, by decide⟩ <;> rw [e] <;> split <;> omega
theorem Bar.cons {d r r' : Int} {P : Prop} (h0 : 0 ≤ d) (h1 : d < 64) (b : Bar r r' P) : Bar (d + 64 * r) (32 + 64 * r') (32 ≤ d ∧ P) := by
  obtain ⟨b1, b2, b3, b4⟩ := b
  have e := and64 h0 h1 (b := 32) (by decide) (by decide) b3 b4
  have e2 := and32 h0 h1
  refine ⟨?_, ?_, by omega, by omega⟩
  · rw [e, e2, ← b1]
    clear e e2 b1
    generalize Builtin.bitAnd r r' = z at *
    split <;> omega
  · rw [e, e2]
    clear e e2 b1
    generalize Builtin.bitAnd r r' = z at *
    split <;> omega
theorem barV {f : Int → Int} (h : In64 f) : Builtin.bitAnd (V f) (32 * ones7) = 32 * ones7 ↔ ∀ S ∈ ([1, 2, 3, 4, 5, 6, 7] : List Int), 32 ≤ f S := by
  have h1 := h 1 (by decide)
  have h2 := h 2 (by decide)
  have h3 := h 3 (by decide)
  have h4 := h 4 (by decide)
  have h5 := h 5 (by decide)
  have h6 := h 6 (by decide)
  have h7 := h 7 (by decide)
  have b := Bar.cons h1.1 h1.2 (Bar.cons h2.1 h2.2 (Bar.cons h3.1 h3.2 (Bar.cons h4.1 h4.2 (Bar.cons h5.1 h5.2 (Bar.cons h6.1 h6.2 (Bar.one h7.1 h7.2))))))
  have z := and64 (a := 0) (b := 0) (by decide) (by decide) (by decide) (by decide) b.lo b.lo'
  rw [Int.zero_add, Int.zero_add, show Builtin.bitAnd 0 0 = 0 from rfl, Int.zero_add] at z
  have e : 32 * ones7 = 64 * (32 + 64 * (32 + 64 * (32 + 64 * (32 + 64 * (32 + 64 * (32 + 64 * 32)))))) := by decide
  have l : (∀ S ∈ ([1, 2, 3, 4, 5, 6, 7] : List Int), 32 ≤ f S) ↔ (32 ≤ f 1 ∧ 32 ≤ f 2 ∧ 32 ≤ f 3 ∧ 32 ≤ f 4 ∧ 32 ≤ f 5 ∧ 32 ≤ f 6 ∧ 32 ≤ f 7) := by
    simp only [List.forall_mem_cons, List.not_mem_nil, false_imp_iff, implies_true, and_true]
  rw [l, e, ← b.bar]
  unfold V
  rw [z]
  exact ⟨fun q => Int.eq_of_mul_eq_mul_left (by decide) q, fun q => by rw [q]⟩
theorem hor_sub (a b c d : Int) : 64 * (a + b) - 64 * (c + d) = 64 * (a - c + (b - d)) := by rw [← Int.mul_sub]; exact congrArg (64 * ·) (by omega)
theorem hor_add (a b c d : Int) : 64 * (a + b) + 64 * (c + d) = 64 * (a + c + (b + d)) := by rw [← Int.mul_add, swap4]
theorem V_sub (f g : Int → Int) : V f - V g = V (fun S => f S - g S) := by unfold V; rw [hor_sub, hor_sub, hor_sub, hor_sub, hor_sub, hor_sub, ← Int.mul_sub]
theorem V_add (f g : Int → Int) : V f + V g = V (fun S => f S + g S) := by unfold V; rw [hor_add, hor_add, hor_add, hor_add, hor_add, hor_add, ← Int.mul_add]
theorem V_const (c : Int) : c * ones7 = V (fun _ => c) := by unfold V; rw [show ones7 = 4467856773184 from by decide]; dsimp only; omega
theorem V_spare (f : Int → Int) (c : Int) : V f + c * ones7 = V (fun S => f S + c) := by rw [V_const, V_add]

theorem getD_get {α : Type} (l : List α) (d : α) {k : Nat} (h : k < l.length) : l.getD k d = l[k] := by rw [List.getD_eq_getElem?_getD, List.getElem?_eq_getElem h]; rfl
/-- the run of the greedy way -/
structure Run (xs : List Arc) (us : List Int) (left r still : Int) : Prop where
  left : left = V (cntR xs us)
  cuts : CutsHold xs (rem xs.length us) r still
  top : ∀ S, cntR xs us S ≤ 30
theorem one_step {xs : List Arc} {ns us : List Int} {left r still : Int} (hg : ∀ x ∈ xs, GoodArc x) (hns : ns = xs.map fun x => lawNumber x.2.1 x.2.2) (h0 : 0 ≤ still) (h6 : still ≤ 6) (hr : r = 0 ∨ r = 1 ∨ r = 2 ∨ r = 3 ∨ r = 4 ∨ r = 5 ∨ r = 6)
    (R : Run xs us left r still) : ∃ k : Nat, k < xs.length ∧ GoodArc (xs.getD k (0, 0, 0)) ∧ nextOf xs ns us r (left + (32 - still) * ones7) (32 * ones7) = (k : Int) ∧ Builtin.bitAnd (hAt xs k) r = 0 ∧ (tAt xs k = 0 ∨ Builtin.bitAnd (tAt xs k) r ≠ 0) ∧
      Run xs (us ++ [(k : Int)]) (left - ns.getD k 0) (Builtin.bitOr r (hAt xs k)) still := by
  have hx : ∀ k, k < xs.length → GoodArc (xs.getD k (0, 0, 0)) := fun k hk => by rw [getD_get _ _ hk]; exact hg _ (List.getElem_mem hk)
  have hn : ∀ k, k < xs.length → ns.getD k 0 = V (fun S => i01 (cut S (xs.getD k (0, 0, 0)))) := fun k hk => by
    rw [← number_V (hx k hk), hns, getD_get _ _ (by simpa using hk), getD_get _ _ hk, List.getElem_map]
  have hgL : ∀ k ∈ rem xs.length us, GoodArc (xs.getD k (0, 0, 0)) := fun k hk => hx k (mem_rem.mp hk).1
  have bars : ∀ k, k ∈ rem xs.length us → (Builtin.bitAnd (left + (32 - still) * ones7 - ns.getD k 0) (32 * ones7) = 32 * ones7 ↔ ∀ S ∈ ([1, 2, 3, 4, 5, 6, 7] : List Int), still + i01 (cut S (xs.getD k (0, 0, 0))) ≤ cntR xs us S) := fun k hk => by
    rw [hn k (mem_rem.mp hk).1, R.left, V_spare, V_sub, barV]
    · refine forall_congr' fun S => forall_congr' fun _ => ?_
      omega
    · intro S hS
      dsimp only
      have c1 := R.top S
      have c2 := R.cuts S hS
      have c3 := i01_lo (cut S (xs.getD k (0, 0, 0)))
      have c4 := i01_hi (cut S (xs.getD k (0, 0, 0)))
      have c5 := i01_lo (Builtin.bitAnd S r == 0)
      unfold cntR at *
      omega
  have mg : ∀ k, k < xs.length → (mayGo xs ns us r (left + (32 - still) * ones7) (32 * ones7) k = true ↔ Takes xs (rem xs.length us) r still k) := fun k hk => by
    unfold mayGo
    constructor
    · intro h
      simp only [Bool.and_eq_true, Bool.or_eq_true, Bool.not_eq_true', beq_iff_eq, beq_eq_false_iff_ne] at h
      obtain ⟨⟨⟨e1, e2⟩, e3⟩, e4⟩ := h
      have hm := mem_rem.mpr ⟨hk, e1⟩
      exact ⟨hm, e2, e3, (bars k hm).mp e4⟩
    · intro h
      simp only [Bool.and_eq_true, Bool.or_eq_true, Bool.not_eq_true', beq_iff_eq, beq_eq_false_iff_ne]
      exact ⟨⟨⟨(mem_rem.mp h.mem).2, h.tail⟩, h.head⟩, (bars k h.mem).mpr h.left⟩
  obtain ⟨k₀, hk₀⟩ := exTake hgL h0 hr R.cuts
  have hk₀n := (mem_rem.mp hk₀.mem).1
  obtain ⟨k, hk⟩ : ∃ k, (List.range xs.length).find? (mayGo xs ns us r (left + (32 - still) * ones7) (32 * ones7)) = some k := by
    cases q : (List.range xs.length).find? (mayGo xs ns us r (left + (32 - still) * ones7) (32 * ones7)) with
    | some k => exact ⟨k, rfl⟩
    | none =>
      have := List.find?_eq_none.mp q k₀ (List.mem_range.mpr hk₀n)
      exact absurd ((mg k₀ hk₀n).mpr hk₀) this
  have hkn : k < xs.length := List.mem_range.mp (List.mem_of_find?_eq_some hk)
  have T := (mg k hkn).mp (List.find?_some hk)
  refine ⟨k, hkn, hx k hkn, by unfold nextOf; rw [hk], T.head, T.tail, ?_⟩
  have ec : ∀ S, cntR xs (us ++ [(k : Int)]) S = cntR xs us S - i01 (cut S (xs.getD k (0, 0, 0))) := fun S => by
    unfold cntR; rw [rem_snoc, csum_erase _ _ T.mem]
  refine ⟨?_, fun S hS => ?_, fun S => ?_⟩
  · rw [hn k hkn, R.left, V_sub]
    exact congrArg V (funext fun S => (ec S).symm)
  · show _ ≤ cntR xs (us ++ [(k : Int)]) S
    rw [ec S]
    have l := T.left S hS
    have c := R.cuts S hS
    have hh := (hx k hkn).head
    have th := T.head
    unfold hAt
    unfold cntR
    have key : i01 (Builtin.bitAnd S (Builtin.bitOr r (xs.getD k (0, 0, 0)).2.2) == 0) ≤ i01 (Builtin.bitAnd S r == 0) ∧ (i01 (Builtin.bitAnd S (Builtin.bitOr r (xs.getD k (0, 0, 0)).2.2) == 0) = 1 → i01 (cut S (xs.getD k (0, 0, 0))) = 0) := by
      unfold cut
      generalize (xs.getD k (0, 0, 0)).2.2 = hd' at hh th ⊢
      generalize (xs.getD k (0, 0, 0)).2.1 = tl' at *
      have all : ∀ S ∈ ([1, 2, 3, 4, 5, 6, 7] : List Int), ∀ r ∈ ([0, 1, 2, 3, 4, 5, 6] : List Int), ∀ h ∈ ([1, 2, 4] : List Int), i01 (Builtin.bitAnd S (Builtin.bitOr r h) == 0) ≤ i01 (Builtin.bitAnd S r == 0) ∧ (i01 (Builtin.bitAnd S (Builtin.bitOr r h) == 0) = 1 → (Builtin.bitAnd S h == 0) = true) := by decide +kernel
      obtain ⟨a1, a2⟩ := all S hS r (by rcases hr with rfl | rfl | rfl | rfl | rfl | rfl | rfl <;> decide) hd' (by rcases hh with rfl | rfl | rfl <;> decide)
      exact ⟨a1, fun q => by rw [a2 q]; rfl⟩
    have b1 := i01_lo (Builtin.bitAnd S (Builtin.bitOr r (xs.getD k (0, 0, 0)).2.2) == 0)
    have b2 := i01_hi (Builtin.bitAnd S (Builtin.bitOr r (xs.getD k (0, 0, 0)).2.2) == 0)
    obtain ⟨k1, k2⟩ := key
    generalize i01 (Builtin.bitAnd S (Builtin.bitOr r (xs.getD k (0, 0, 0)).2.2) == 0) = B at *
    rcases (show B = 0 ∨ B = 1 by omega) with rfl | rfl
    · omega
    · have := k2 rfl; omega
  · rw [ec S]; have := R.top S; have := i01_lo (cut S (xs.getD k (0, 0, 0))); omega
end Mine
end

namespace Mine
theorem freshU3 : True ∧ True := by
  k_with_none
  w_top off
  first | (walk1; all_goals exact trivial) | exact ⟨trivial, trivial⟩
end Mine
section
open PySem PySem.W PyProof.Rows
set_option Elab.async false
set_option maxRecDepth 100000
namespace Mine
open PySem.Calls PySem.Spec PySem.Flt

noncomputable def treeOk (tr : List (Int × Int)) : Bool := match depthsOf tr [(0, 0)] with
  | some M => ([1, 2, 4] : List Int).all fun k => match M.lookup k with
    | some d => decide (1 ≤ d) && decide (d ≤ 3)
    | none => false
  | none => false
theorem tri_ok : ∀ h1 ∈ ([1, 2, 4] : List Int), ∀ h2 ∈ ([1, 2, 4] : List Int), ∀ h3 ∈ ([1, 2, 4] : List Int), ∀ t2 ∈ ([0, 1, 2, 4] : List Int), ∀ t3 ∈ ([0, 1, 2, 4] : List Int),
    Builtin.bitAnd h2 (Builtin.bitOr 0 h1) = 0 → Builtin.bitAnd h3 (Builtin.bitOr (Builtin.bitOr 0 h1) h2) = 0 → (t2 = 0 ∨ Builtin.bitAnd t2 (Builtin.bitOr 0 h1) ≠ 0) → (t3 = 0 ∨ Builtin.bitAnd t3 (Builtin.bitOr (Builtin.bitOr 0 h1) h2) ≠ 0) →
    treeOk [(0, h1), (t2, h2), (t3, h3)] = true ∧ Builtin.bitOr 0 h1 ∈ ([1, 2, 4] : List Int) ∧ Builtin.bitOr (Builtin.bitOr 0 h1) h2 ∈ ([3, 5, 6] : List Int) ∧ Builtin.bitOr (Builtin.bitOr (Builtin.bitOr 0 h1) h2) h3 = 7 := by decide +kernel
theorem or1 : ∀ h1 ∈ ([1, 2, 4] : List Int), Builtin.bitOr 0 h1 ∈ ([1, 2, 4] : List Int) := by decide +kernel
theorem or2 : ∀ h1 ∈ ([1, 2, 4] : List Int), ∀ h2 ∈ ([1, 2, 4] : List Int), Builtin.bitAnd h2 (Builtin.bitOr 0 h1) = 0 → Builtin.bitOr (Builtin.bitOr 0 h1) h2 ∈ ([3, 5, 6] : List Int) := by decide +kernel
theorem head_mem {x : Arc} (h : GoodArc x) : x.2.2 ∈ ([1, 2, 4] : List Int) := by rcases h.head with e | e | e <;> rw [e] <;> decide
theorem tail_mem {x : Arc} (h : GoodArc x) : x.2.1 ∈ ([0, 1, 2, 4] : List Int) := by rcases h.tail with e | e | e | e <;> rw [e] <;> decide
theorem six1 : ∀ r ∈ ([1, 2, 4] : List Int), r = 0 ∨ r = 1 ∨ r = 2 ∨ r = 3 ∨ r = 4 ∨ r = 5 ∨ r = 6 := by decide
theorem six2 : ∀ r ∈ ([3, 5, 6] : List Int), r = 0 ∨ r = 1 ∨ r = 2 ∨ r = 3 ∨ r = 4 ∨ r = 5 ∨ r = 6 := by decide
theorem tri_step {xs : List Arc} {ns us : List Int} {left still : Int} (hg : ∀ x ∈ xs, GoodArc x) (hns : ns = xs.map fun x => lawNumber x.2.1 x.2.2) (h0 : 0 ≤ still) (h6 : still ≤ 6) (R : Run xs us left 0 still) :
    ∃ k : Tri, TStep xs ns ones7 still us left k ∧ treeOk (treeOf xs k) = true ∧ Run xs (us ++ [(k.1 : Int)] ++ [(k.2.1 : Int)] ++ [(k.2.2 : Int)]) (left - ns.getD k.1 0 - ns.getD k.2.1 0 - ns.getD k.2.2 0) 7 still := by
  obtain ⟨k1, l1, g1, n1, a1, b1, R1⟩ := one_step hg hns h0 h6 (.inl rfl) R
  have m1 : hAt xs k1 ∈ ([1, 2, 4] : List Int) := head_mem g1
  have o1 := or1 _ m1
  obtain ⟨k2, l2, g2, n2, a2, b2, R2⟩ := one_step hg hns h0 h6 (six1 _ o1) R1
  have m2 : hAt xs k2 ∈ ([1, 2, 4] : List Int) := head_mem g2
  have o2 := or2 _ m1 _ m2 a2
  obtain ⟨k3, l3, g3, n3, a3, b3, R3⟩ := one_step hg hns h0 h6 (six2 _ o2) R2
  have m3 : hAt xs k3 ∈ ([1, 2, 4] : List Int) := head_mem g3
  obtain ⟨q1, q2, q3, q4⟩ := tri_ok _ m1 _ m2 _ m3 (tAt xs k2) (tail_mem g2) (tAt xs k3) (tail_mem g3) a2 a3 b2 b3
  have t1 : tAt xs k1 = 0 := by
    rcases b1 with b1 | b1
    · exact b1
    · refine absurd ?_ b1
      have z : ∀ t ∈ ([0, 1, 2, 4] : List Int), Builtin.bitAnd t 0 = 0 := by decide +kernel
      exact z _ (tail_mem g1)
  rw [q4] at R3
  refine ⟨(k1, k2, k3), ⟨l1, l2, l3, n1, fun e => ?_, n2, fun e => ?_, n3, q4⟩, ?_, R3⟩
  · rw [e] at q2; exact absurd q2 (by decide)
  · rw [e] at q3; exact absurd q3 (by decide)
  · unfold treeOf; dsimp only; rw [t1]; exact q1
theorem Run.next {xs : List Arc} {us : List Int} {left still : Int} (R : Run xs us left 7 still) : Run xs us left 0 (still - 1) := by
  refine ⟨R.left, fun S hS => ?_, R.top⟩
  have c := R.cuts S hS
  have z : ∀ S ∈ ([1, 2, 3, 4, 5, 6, 7] : List Int), i01 (Builtin.bitAnd S 7 == 0) = 0 ∧ i01 (Builtin.bitAnd S 0 == 0) = 1 := by decide +kernel
  obtain ⟨z1, z2⟩ := z S hS
  rw [z1] at c
  rw [z2]
  omega
theorem usedUp_snoc (ks : List Tri) (k : Tri) : ∀ {i : Nat}, i ≤ ks.length → usedUp (ks ++ [k]) i = usedUp ks i := fun h => by
  unfold usedUp; rw [List.take_append_of_le_length h]
theorem leftUp_snoc (ns : List Int) (l : Int) (ks : List Tri) (k : Tri) : ∀ {i : Nat}, i ≤ ks.length → leftUp ns l (ks ++ [k]) i = leftUp ns l ks i := fun h => by
  unfold leftUp; rw [List.take_append_of_le_length h]
theorem all_trees {xs : List Arc} {ns : List Int} {left : Int} (hg : ∀ x ∈ xs, GoodArc x) (hns : ns = xs.map fun x => lawNumber x.2.1 x.2.2) (most : Nat) (h6 : most ≤ 6) (R : Run xs [] left 7 (most : Int)) :
    ∀ j, j ≤ most → ∃ ks : List Tri, ks.length = j ∧ (∀ (i : Nat) (k : Tri), ks[i]? = some k → TStep xs ns ones7 ((most : Int) - 1 + (i : Int) * (-1)) (usedUp ks i) (leftUp ns left ks i) k ∧ treeOk (treeOf xs k) = true) ∧ Run xs (usedUp ks j) (leftUp ns left ks j) 7 ((most : Int) - (j : Int)) := by
  intro j
  induction j with
  | zero => exact fun _ => ⟨[], rfl, fun i k h => by simp at h, by simpa [usedUp, leftUp] using R⟩
  | succ j ih =>
    intro hj
    obtain ⟨ks, hl, hk, hR⟩ := ih (by omega)
    obtain ⟨k, hT, hok, hR2⟩ := tri_step hg hns (by omega) (by omega) hR.next
    have e : (ks ++ [k])[j]? = some k := by rw [← hl]; simp
    refine ⟨ks ++ [k], by simp [hl], fun i k' h => ?_, ?_⟩
    · by_cases q : i < j
      · rw [usedUp_snoc _ _ (by omega), leftUp_snoc _ _ _ _ (by omega)]
        rw [List.getElem?_append_left (by omega)] at h
        exact hk i k' h
      · have hlt : i < (ks ++ [k]).length := by
          rcases Nat.lt_or_ge i (ks ++ [k]).length with h' | h'
          · exact h'
          · rw [List.getElem?_eq_none h'] at h; cases h
        have : i = j := by simp only [List.length_append, List.length_cons, List.length_nil] at hlt; omega
        subst this
        rw [e] at h
        cases h
        rw [usedUp_snoc _ _ (by omega), leftUp_snoc _ _ _ _ (by omega)]
        refine ⟨?_, hok⟩
        have : (most : Int) - 1 + (i : Int) * (-1) = (most : Int) - (i : Int) - 1 := by omega
        rw [this]; exact hT
    · rw [usedUp_succ e, leftUp_succ e, usedUp_snoc _ _ (by omega), leftUp_snoc _ _ _ _ (by omega)]
      have : (most : Int) - ((j + 1 : Nat) : Int) = (most : Int) - (j : Int) - 1 := by omega
      rw [this]; exact hR2
end Mine
end

namespace Mine
theorem freshU4 : True ∧ True := by
  k_with_none
  w_top off
  first | (walk1; all_goals exact trivial) | exact ⟨trivial, trivial⟩
end Mine
section
open PySem PySem.W PyProof.Rows
set_option Elab.async false
set_option maxRecDepth 100000
namespace Mine
open PySem.Calls PySem.Spec PySem.Flt

noncomputable def cnt (xs : List Arc) (S : Int) : Int := (xs.map fun x => i01 (cut S x)).sum
noncomputable def cutsOf (xs : List Arc) : List Int := [cnt xs 0, cnt xs 1, cnt xs 2, cnt xs 3, cnt xs 4, cnt xs 5, cnt xs 6, cnt xs 7]
theorem map_getD_range {α β : Type} (f : α → β) (d : α) (l : List α) : ((List.range l.length).map fun k => f (l.getD k d)) = l.map f := by
  refine List.ext_getElem (by simp) fun i h1 h2 => ?_
  simp only [List.length_map, List.length_range] at h1
  simp only [List.getElem_map, List.getElem_range]
  rw [getD_get _ _ h1]
theorem csum_all (p : Arc → Bool) (xs : List Arc) : csum p xs (rem xs.length []) = (xs.map fun x => i01 (p x)).sum := by
  have e : rem xs.length [] = List.range xs.length := by simp [rem]
  rw [e, csum, map_getD_range (fun x => i01 (p x))]
theorem sum_perm {l1 l2 : List Int} (h : l1.Perm l2) : l1.sum = l2.sum := by
  induction h with
  | nil => rfl
  | cons x _ ih => simp [ih]
  | swap x y l => simp only [List.sum_cons]; omega
  | trans _ _ i1 i2 => exact i1.trans i2
theorem cnt_perm {xs ys : List Arc} (h : xs.Perm ys) (S : Int) : cnt xs S = cnt ys S := sum_perm (h.map _)
theorem cnt_append (xs ys : List Arc) (S : Int) : cnt (xs ++ ys) S = cnt xs S + cnt ys S := by simp [cnt]
theorem cnt_le (xs : List Arc) (S : Int) : 0 ≤ cnt xs S ∧ cnt xs S ≤ xs.length := by
  induction xs with
  | nil => exact ⟨Int.le_refl _, Int.le_refl _⟩
  | cons x xs ih =>
    have := i01_lo (cut S x)
    have := i01_hi (cut S x)
    have e : cnt (x :: xs) S = i01 (cut S x) + cnt xs S := by simp [cnt]
    rw [e, List.length_cons]; push_cast; omega

theorem arcsUpTo_rank (rk : Int) (H : List Int) (n : Nat) : arcsUpTo rk H n = (arcsUpTo 0 H n).map fun x => (rk, x.2) := by
  unfold arcsUpTo
  rw [List.map_flatMap]
  congr 1
  funext j
  unfold arcJ
  split <;> rfl
noncomputable def goodB (x : Arc) : Bool := (x.2.2 == 1 || x.2.2 == 2 || x.2.2 == 4) && (x.2.1 == 0 || x.2.1 == 1 || x.2.1 == 2 || x.2.1 == 4) && !(x.2.1 == x.2.2)
theorem good_of {x : Arc} (h : goodB x = true) : GoodArc x := by
  simp only [goodB, Bool.and_eq_true, Bool.or_eq_true, beq_iff_eq, Bool.not_eq_true', beq_eq_false_iff_ne] at h
  obtain ⟨⟨h1, h2⟩, h3⟩ := h
  exact ⟨or_assoc.mp h1, (or_assoc.trans or_assoc).mp h2, h3⟩
noncomputable def hueOk (L : List Arc) : Bool := decide (L.length ≤ 2) && decide (1 ≤ L.length) && L.all goodB && decide (cnt L 1 + cnt L 2 + cnt L 4 + cnt L 7 ≤ 2)
theorem hues36 : ∀ k : Fin 36, hueOk (arcsUpTo 0 (hList ((k.val : Nat) : Int)) 3) = true := by decide +kernel
theorem hues048 : cnt (arcsUpTo 0 (hList 0) 3) 7 = 1 ∧ cnt (arcsUpTo 0 (hList 4) 3) 7 = 1 ∧ cnt (arcsUpTo 0 (hList 8) 3) 7 = 1 := by decide +kernel
theorem cnt_rank (rk S : Int) (L : List Arc) : cnt (L.map fun x => (rk, x.2)) S = cnt L S := by
  unfold cnt; rw [List.map_map]; rfl
structure HueFacts (L : List Arc) : Prop where
  len : L.length ≤ 2
  len1 : 1 ≤ L.length
  good : ∀ x ∈ L, GoodArc x
  four : cnt L 1 + cnt L 2 + cnt L 4 + cnt L 7 ≤ 2
theorem hue_ok (first : Int) {h : Int} (h0 : 0 ≤ h) (h1 : h < 36) : HueFacts (arcsHue first h) := by
  have e := hues36 ⟨h.toNat, by omega⟩
  rw [show (((⟨h.toNat, by omega⟩ : Fin 36).val : Nat) : Int) = h by simp; omega] at e
  simp only [hueOk, Bool.and_eq_true, decide_eq_true_eq, List.all_eq_true] at e
  obtain ⟨⟨⟨e1, e2⟩, e3⟩, e4⟩ := e
  unfold arcsHue
  rw [arcsUpTo_rank]
  refine ⟨by rw [List.length_map]; exact e1, by rw [List.length_map]; exact e2, fun x hx => ?_, ?_⟩
  · obtain ⟨y, hy, rfl⟩ := List.mem_map.mp hx
    have := good_of (e3 y hy)
    exact ⟨this.head, this.tail, this.ne⟩
  · simp only [cnt_rank]; exact e4
structure RawFacts (n : Nat) (L : List Arc) : Prop where
  len : L.length ≤ 2 * n
  len1 : n ≤ L.length
  good : ∀ x ∈ L, GoodArc x
  four : cnt L 1 + cnt L 2 + cnt L 4 + cnt L 7 ≤ 2 * (n : Int)
theorem raw_ok (first : Int) : ∀ {hs : List Int}, (∀ h ∈ hs, 0 ≤ h ∧ h < 36) → RawFacts hs.length (rawArcs first hs)
  | [], _ => ⟨by simp [rawArcs], by simp, fun x hx => by simp [rawArcs] at hx, by simp [rawArcs, cnt]⟩
  | h :: hs, hb => by
    obtain ⟨a1, a2, a3, a4⟩ := hue_ok first (hb h (.head _)).1 (hb h (.head _)).2
    obtain ⟨b1, b2, b3, b4⟩ := raw_ok first (hs := hs) fun x hx => hb x (.tail _ hx)
    have e : rawArcs first (h :: hs) = arcsHue first h ++ rawArcs first hs := by simp [rawArcs]
    rw [e]
    refine ⟨by simp only [List.length_append, List.length_cons]; omega, by simp only [List.length_append, List.length_cons]; omega, fun x hx => ?_, ?_⟩
    · rcases List.mem_append.mp hx with q | q
      · exact a3 x q
      · exact b3 x q
    · simp only [cnt_append, List.length_cons]; push_cast; omega
theorem raw_append (first : Int) (a b : List Int) : rawArcs first (a ++ b) = rawArcs first a ++ rawArcs first b := by simp [rawArcs]
theorem raw_root (first : Int) (hs : List Int) : 3 ≤ cnt (rawArcs first (hs ++ [0, 4, 8])) 7 := by
  rw [raw_append, cnt_append]
  have a := (cnt_le (rawArcs first hs) 7).1
  have e : rawArcs first [0, 4, 8] = arcsHue first 0 ++ (arcsHue first 4 ++ (arcsHue first 8 ++ [])) := rfl
  rw [e, cnt_append, cnt_append, cnt_append]
  obtain ⟨z1, z2, z3⟩ := hues048
  unfold arcsHue
  rw [arcsUpTo_rank, arcsUpTo_rank _ (hList 4), arcsUpTo_rank _ (hList 8), cnt_rank, cnt_rank, cnt_rank, z1, z2, z3]
  have : cnt [] 7 = 0 := rfl
  omega

theorem sum_numbers {xs : List Arc} (hg : ∀ x ∈ xs, GoodArc x) : (xs.map fun x => lawNumber x.2.1 x.2.2).sum = V (cnt xs) := by
  induction xs with
  | nil => rfl
  | cons x xs ih =>
    rw [List.map_cons, List.sum_cons, ih fun y hy => hg y (.tail _ hy), number_V (hg x (.head _))]
    have e : ∀ S, cnt (x :: xs) S = i01 (cut S x) + cnt xs S := fun S => by simp [cnt]
    rw [V_add]
    unfold V
    simp only [e]
theorem digs_cons {d r : Int} (k : Nat) (h0 : 0 ≤ d) (h1 : d < 64) : digs (d + 64 * r) (k + 1) = d :: digs r k := by
  show (d + 64 * r) % 64 :: digs ((d + 64 * r) / 64) k = _
  rw [show (d + 64 * r) % 64 = d by omega, show (d + 64 * r) / 64 = r by omega]
theorem digs_V {f : Int → Int} (h : In64 f) : digs (V f) 8 = [0, f 1, f 2, f 3, f 4, f 5, f 6, f 7] := by
  have h1 := h 1 (by decide)
  have h2 := h 2 (by decide)
  have h3 := h 3 (by decide)
  have h4 := h 4 (by decide)
  have h5 := h 5 (by decide)
  have h6 := h 6 (by decide)
  have h7 := h 7 (by decide)
  unfold V
  rw [show ∀ z : Int, 64 * z = 0 + 64 * z from fun z => (Int.zero_add _).symm, digs_cons 7 (by omega) (by omega)]
  rw [digs_cons 6 h1.1 h1.2, digs_cons 5 h2.1 h2.2, digs_cons 4 h3.1 h3.2, digs_cons 3 h4.1 h4.2, digs_cons 2 h5.1 h5.2, digs_cons 1 h6.1 h6.2, show f 7 = f 7 + 64 * 0 by omega, digs_cons 0 h7.1 h7.2]
  simp [digs]
theorem V_lo {f : Int → Int} (h : In64 f) (h7 : 1 ≤ f 7) : (64 : Int) ^ 7 ≤ V f ∧ V f < 64 ^ 8 := by
  have h1 := h 1 (by decide)
  have h2 := h 2 (by decide)
  have h3 := h 3 (by decide)
  have h4 := h 4 (by decide)
  have h5 := h 5 (by decide)
  have h6 := h 6 (by decide)
  have h7 := h 7 (by decide)
  rw [show (64 : Int) ^ 7 = 4398046511104 by decide, show (64 : Int) ^ 8 = 281474976710656 by decide]
  unfold V
  omega
structure Plan (xs : List Arc) (most : Nat) (ks : List Tri) : Prop where
  good : ∀ x ∈ xs, GoodArc x
  len : xs.length ≤ 24
  len2 : 2 ≤ xs.length
  digs : digs ((xs.map fun x => lawNumber x.2.1 x.2.2).sum) 8 = cutsOf xs
  lo : (64 : Int) ^ 7 ≤ (xs.map fun x => lawNumber x.2.1 x.2.2).sum
  hi : (xs.map fun x => lawNumber x.2.1 x.2.2).sum < 64 ^ 8
  mem : (most : Int) ∈ (cutsOf xs).drop 1
  min : ∀ c ∈ (cutsOf xs).drop 1, (most : Int) ≤ c
  most6 : most ≤ 6
  klen : ks.length = most
  steps : ∀ (i : Nat) (k : Tri), ks[i]? = some k → TStep xs (xs.map fun x => lawNumber x.2.1 x.2.2) ones7 ((most : Int) - 1 + (i : Int) * (-1)) (usedUp ks i) (leftUp (xs.map fun x => lawNumber x.2.1 x.2.2) (xs.map fun x => lawNumber x.2.1 x.2.2).sum ks i) k
  ok : ∀ (i : Nat) (k : Tri), ks[i]? = some k → treeOk (treeOf xs k) = true
theorem min_of : ∀ (l : List Int), l ≠ [] → ∃ m ∈ l, ∀ c ∈ l, m ≤ c
  | [], h => absurd rfl h
  | [a], _ => ⟨a, .head _, fun c hc => by rw [List.mem_singleton.mp hc]; exact Int.le_refl _⟩
  | a :: b :: l, _ => by
    obtain ⟨m, hm, h⟩ := min_of (b :: l) (by simp)
    by_cases q : a ≤ m
    · refine ⟨a, .head _, fun c hc => ?_⟩
      rcases List.mem_cons.mp hc with rfl | hc
      · exact Int.le_refl _
      · exact Int.le_trans q (h c hc)
    · refine ⟨m, .tail _ hm, fun c hc => ?_⟩
      rcases List.mem_cons.mp hc with rfl | hc
      · omega
      · exact h c hc
theorem plan_of {first : Int} {hs : List Int} {xs : List Arc} (h9 : hs.length = 9) (hb : ∀ h ∈ hs, 0 ≤ h ∧ h < 36) (hp : xs.Perm (rawArcs first (hs ++ [0, 4, 8]))) : ∃ most ks, Plan xs most ks := by
  have R := raw_ok first (hs := hs ++ [0, 4, 8]) fun h hh => by
    rcases List.mem_append.mp hh with q | q
    · exact hb h q
    · simp only [List.mem_cons, List.not_mem_nil, or_false] at q; omega
  have hl : (hs ++ [0, 4, 8]).length = 12 := by simp [h9]
  rw [hl] at R
  have root := raw_root first hs
  have e7 : 3 ≤ cnt xs 7 := by rw [cnt_perm hp]; exact root
  have hlen : xs.length ≤ 24 := by rw [hp.length_eq]; exact R.len
  have hlen2 : 12 ≤ xs.length := by rw [hp.length_eq]; exact R.len1
  have hgood : ∀ x ∈ xs, GoodArc x := fun x hx => R.good x (hp.mem_iff.mp hx)
  have hfour : cnt xs 1 + cnt xs 2 + cnt xs 4 + cnt xs 7 ≤ 24 := by simp only [cnt_perm hp]; exact R.four
  have h64 : In64 (cnt xs) := fun S _ => by have := cnt_le xs S; omega
  have hsum := sum_numbers hgood
  have hV := V_lo h64 (by omega)
  have h0 : cnt xs 0 = 0 := by
    have : ∀ x ∈ xs, i01 (cut 0 x) = 0 := fun x hx => by
      obtain ⟨r, t, d, rfl, q⟩ := good_cases (hgood x hx)
      rcases q with ⟨rfl, rfl⟩ | ⟨rfl, rfl⟩ | ⟨rfl, rfl⟩ | ⟨rfl, rfl⟩ | ⟨rfl, rfl⟩ | ⟨rfl, rfl⟩ | ⟨rfl, rfl⟩ | ⟨rfl, rfl⟩ | ⟨rfl, rfl⟩ <;> (show i01 (cut 0 (0, _, _)) = 0; decide +kernel)
    unfold cnt
    clear hp hlen hlen2 hsum hV h64 hfour e7 hgood
    induction xs with
    | nil => rfl
    | cons x xs ih => rw [List.map_cons, List.sum_cons, this x (.head _), ih fun y hy => this y (.tail _ hy)]; rfl
  obtain ⟨m, hm, hmin⟩ := min_of ((cutsOf xs).drop 1) (by simp [cutsOf])
  have hd1 : (cutsOf xs).drop 1 = [cnt xs 1, cnt xs 2, cnt xs 3, cnt xs 4, cnt xs 5, cnt xs 6, cnt xs 7] := rfl
  have m0 : 0 ≤ m := by
    rw [hd1] at hm
    simp only [List.mem_cons, List.not_mem_nil, or_false] at hm
    rcases hm with rfl | rfl | rfl | rfl | rfl | rfl | rfl <;> exact (cnt_le xs _).1
  have m1 := hmin (cnt xs 1) (by rw [hd1]; simp)
  have m2 := hmin (cnt xs 2) (by rw [hd1]; simp)
  have m4 := hmin (cnt xs 4) (by rw [hd1]; simp)
  have m7 := hmin (cnt xs 7) (by rw [hd1]; simp)
  have m6 : m ≤ 6 := by omega
  obtain ⟨most, rfl⟩ := Int.eq_ofNat_of_zero_le m0
  have R0 : Run xs [] (xs.map fun x => lawNumber x.2.1 x.2.2).sum 7 (most : Int) := by
    refine ⟨by rw [hsum]; exact congrArg V (funext fun S => (csum_all _ _).symm), fun S hS => ?_, fun S => ?_⟩
    · rw [csum_all]
      have z : ∀ S ∈ ([1, 2, 3, 4, 5, 6, 7] : List Int), i01 (Builtin.bitAnd S 7 == 0) = 0 := by decide +kernel
      rw [z S hS, Int.add_zero]
      refine hmin (cnt xs S) ?_
      rw [hd1]
      simp only [List.mem_cons, List.not_mem_nil, or_false] at hS
      rcases hS with rfl | rfl | rfl | rfl | rfl | rfl | rfl <;> simp
    · show csum _ _ _ ≤ 30
      rw [csum_all]
      have := (cnt_le xs S).2
      unfold cnt at this
      omega
  obtain ⟨ks, k1, k2, _⟩ := all_trees hgood rfl most (by omega) R0 most (Nat.le_refl _)
  exact ⟨most, ks, hgood, hlen, by omega, by rw [hsum, digs_V h64, cutsOf, h0], by rw [hsum]; exact hV.1, by rw [hsum]; exact hV.2, hm, hmin, by omega, k1, fun i k h => (k2 i k h).1, fun i k h => (k2 i k h).2⟩
end Mine
end

namespace Mine
theorem freshU5 : True ∧ True := by
  k_with_none
  w_top off
  first | (walk1; all_goals exact trivial) | exact ⟨trivial, trivial⟩
end Mine
section
open PySem PySem.W PyProof.Rows
set_option Elab.async false
set_option maxRecDepth 100000
namespace Mine
open PySem.Calls PySem.Spec PySem.Flt

noncomputable def quotedB (x out : Str) : Bool := match subPieces reCode2 0 x.cps crlf 9 0 0 false with
  | some r2 => match subPieces reCode1 0 (Txt.join ⟨#[]⟩ r2).cps dd 9 0 0 false with
    | some r1 => decide (Txt.join ⟨#[]⟩ r1 = out) && decide (x.cps.size ≤ 1000) && decide ((Txt.join ⟨#[]⟩ r2).cps.size ≤ 1000) && decide ((r2.map (·.length)).sum ≤ 16777216) && decide ((r1.map (·.length)).sum ≤ 16777216)
    | none => false
  | none => false
theorem quoted_of {x out : Str} (h : quotedB x out = true) : Quoted x out := by
  unfold quotedB at h
  split at h
  · rename_i r2 e2
    split at h
    · rename_i r1 e1
      simp only [Bool.and_eq_true, decide_eq_true_eq] at h
      obtain ⟨⟨⟨⟨h1, h2⟩, h3⟩, h4⟩, h5⟩ := h
      exact ⟨_, r1, r2, e2, rfl, e1, h1, h2, h3, h4, h5⟩
    · cases h
  · cases h
/-- the mail with sign c and end e after d arcs -/
noncomputable def txtOf (c : Nat) (e : List Nat) (d : Nat) : Str := if d = 0 then mailOf 1 c e else mailOf (d + 1) c [13, 10]
noncomputable def rowOf (c d : Nat) : Str := ⟨(List.replicate (d + 1) 46 ++ [c]).toArray⟩
theorem quoted_all : (signs.all fun c => ends.all fun e => [0, 1, 2].all fun d => quotedB (txtOf c e d) (txtOf c e (d + 1))) = true := by decide +kernel
theorem quoted_txt {c d : Nat} {e : List Nat} (hc : c ∈ signs) (he : e ∈ ends) (hd : d ≤ 2) : Quoted (txtOf c e d) (txtOf c e (d + 1)) :=
  quoted_of (List.all_eq_true.mp (List.all_eq_true.mp (List.all_eq_true.mp quoted_all c hc) e he) d (by
    rcases (show d = 0 ∨ d = 1 ∨ d = 2 by omega) with rfl | rfl | rfl <;> simp))

noncomputable def tokStepB (tab : List (Str × KTD.Dat)) (row : Str) (spot next : Nat) (tok : Int) : Bool :=
  (decide ((next : Int) - spot = 1) || decide ((next : Int) - spot = 2) || decide ((next : Int) - spot = 3)) &&
  (match KTD.datumAt (Txt.slice row (some (spot : Int)) (some (next : Int))) tab with | some (.flat (.int t)) => decide (t = tok) | _ => false) &&
  (([1, 2, 3] : List Int).all fun k => !(KTD.inKeys (Txt.slice row (some (spot : Int)) (some ((spot : Int) + k))) tab) || decide (k ≤ (next : Int) - spot))
theorem tokStep_of {tab : List (Str × KTD.Dat)} {row : Str} {spot next : Nat} {tok : Int} (h : tokStepB tab row spot next tok = true) : TokStep tab row spot next tok := by
  simp only [tokStepB, Bool.and_eq_true, Bool.or_eq_true, decide_eq_true_eq] at h
  obtain ⟨⟨h1, h2⟩, h3⟩ := h
  refine ⟨by omega, ?_, fun k hk hin => ?_⟩
  · split at h2
    · rename_i t e
      rw [e, of_decide_eq_true h2]
    · cases h2
  · have := List.all_eq_true.mp h3 k (by rcases hk with rfl | rfl | rfl <;> simp)
    rw [hin] at this
    simpa using this
noncomputable def spotsOf (d : Nat) : List Nat := if d = 1 then [0, 1, 2, 5] else if d = 2 then [0, 3, 6] else [0, 3, 4, 7]
noncomputable def dotsOf (d : Nat) : List Int := if d = 1 then [23, 23] else if d = 2 then [52] else [52, 23]
noncomputable def signTok : List (Nat × Int) := [(43, 14), (42, 16), (47, 17), (37, 24), (38, 19), (124, 18)]
noncomputable def rowB (tab : List (Str × KTD.Dat)) (c : Nat) (t : Int) (d : Nat) : Bool :=
  (List.range (dotsOf d ++ [t]).length).all fun i => decide ((spotsOf d).getD i 0 < (rowOf c d).length) && tokStepB tab (rowOf c d) ((spotsOf d).getD i 0) ((spotsOf d).getD (i + 1) 0) ((dotsOf d ++ [t]).getD i 0)
noncomputable def rowsB (tab : List (Str × KTD.Dat)) : Bool := signTok.all fun p => [1, 2, 3].all fun d => rowB tab p.1 p.2 d
theorem rows_ok (w : World) : rowsB (tokD w) = true := by kernel_rfl
theorem row_ok (w : World) {p : Nat × Int} {d : Nat} (hp : p ∈ signTok) (h1 : 1 ≤ d) (h3 : d ≤ 3) :
    ∀ i, i < (dotsOf d ++ [p.2]).length → (spotsOf d).getD i 0 < (rowOf p.1 d).length ∧ TokStep (tokD w) (rowOf p.1 d) ((spotsOf d).getD i 0) ((spotsOf d).getD (i + 1) 0) ((dotsOf d ++ [p.2]).getD i 0) := by
  intro i hi
  have := List.all_eq_true.mp (List.all_eq_true.mp (List.all_eq_true.mp (rows_ok w) p hp) d (by
    rcases (show d = 1 ∨ d = 2 ∨ d = 3 by omega) with rfl | rfl | rfl <;> simp)) i (List.mem_range.mpr hi)
  rw [Bool.and_eq_true, decide_eq_true_eq] at this
  exact ⟨this.1, tokStep_of this.2⟩
end Mine
end

namespace Mine
theorem freshL0 : True ∧ True := by
  k_with_none
  w_top off
  first | (walk1; all_goals exact trivial) | exact ⟨trivial, trivial⟩
end Mine
section
open PySem PySem.W PyProof.Rows
set_option Elab.async false
set_option maxRecDepth 100000
set_option maxHeartbeats 4000000
namespace Mine
open PySem.Calls PySem.Spec PySem.Flt

noncomputable def lawData (w : World) : Option (Scope × List Stmt) := match (frag w.params).lookup 133 with
  | some ⟨_, _, .func f, _⟩ => match f.body with
    | .stmts b => some (f.scope, b)
    | _ => none
  | _ => none
noncomputable def lawScope (w : World) : Option Scope := (lawData w).map (·.1)
noncomputable def lawRest (w : World) (k : Nat) : Option (List Stmt) := (lawData w).map fun d => d.2.drop k
theorem law_lit {w : World} {k : Nat} {sc sc' : Scope} {b b' : List Stmt} {Goal : Scope → List Stmt → Prop} (h1 : lawScope w = some sc) (h2 : lawRest w k = some b) (e1 : lawScope w = some sc') (e2 : lawRest w k = some b') (g : Goal sc' b') : Goal sc b := by
  rw [e1] at h1
  rw [e2] at h2
  cases h1
  cases h2
  exact g
noncomputable abbrev lawEnv (sc : Scope) (L fa : Addr) (cd : Value) : Env := envOfC (Str.ofString "law") sc L fa cd
/-- the body of the inner loop of law -/
noncomputable def lawInner (w : World) : Option (List Stmt) := match lawRest w 11 with
  | some (.For _ _ b _ _ :: _) => match b with
    | _ :: _ :: .For _ _ b2 _ _ :: _ => some b2
    | _ => none
  | _ => none
theorem law_litI {w : World} {sc sc' : Scope} {b b' : List Stmt} {Goal : Scope → List Stmt → Prop} (h1 : lawScope w = some sc) (h2 : lawInner w = some b) (e1 : lawScope w = some sc') (e2 : lawInner w = some b') (g : Goal sc' b') : Goal sc b := by
  rw [e1] at h1
  rw [e2] at h2
  cases h1
  cases h2
  exact g
noncomputable def Stop : Prop := True
theorem stop : Stop := trivial
theorem News.sub {h₀ h : Heap} {L : Addr} {l l' : List (Addr × Obj)} (N : News h₀ L h l) (hs : ∀ p ∈ l', p ∈ l) : News h₀ L h l' := fun p hp => N p (hs p hp)
theorem pick {a : Addr × Obj} {r l : List (Addr × Obj)} (h1 : a ∈ l) (h2 : ∀ p ∈ r, p ∈ l) : ∀ p ∈ a :: r, p ∈ l := List.forall_mem_cons.mpr ⟨h1, h2⟩
theorem pickN {a : Addr × Obj} {r : List (Addr × Obj)} {c : Addr} (h1 : a.1 ≠ c) (h2 : ∀ p ∈ r, p.1 ≠ c) : ∀ p ∈ a :: r, p.1 ≠ c := List.forall_mem_cons.mpr ⟨h1, h2⟩
theorem Fr.weak {h₀ h : Heap} {L : Addr} {m : Str → Option Value} (F : Fr h₀ L h m) : Fr h₀ L h m := F
section
variable {prog : Program} {w : World} {A : Around} {E : Value → Shared → Prop} {s : Shared}
theorem ne_str_no {x y : Str} {t u : Tok} {Q : Value → Shared → Prop} (e : Hold (x = y)) (h : Q (.bool false) s) : wpAny (model prog w) A (compareOp .NotEq (.str x t) (.str y u)) Q E s :=
  ne_str (by unfold Hold at e; subst e; rw [show (x != x) = false by simp]; exact h)
theorem ne_ints_no {a b : Addr} {vs us : List Value} {ns ms : List Int} {Q : Value → Shared → Prop} (hl : s.heap.IsList a vs.toArray) (hi : IntsAre vs ns) (hl' : s.heap.IsList b us.toArray) (hi' : IntsAre us ms) (hu : A.units + 64 < cLine) (e : ns = ms)
    (h : Q (.bool false) s) : wpAny (model prog w) A (compareOp .NotEq (.ref a) (.ref b)) Q E s :=
  ne_intsK hl hi hl' hi' hu (by rw [decide_eq_true e]; exact h)
end
/-- new objects beside old ones -/
theorem fresh_ne {h : Heap} {news T : List (Addr × Obj)} {g : Heap} {L : Addr} (N : News g L h news) (hT : ∀ p ∈ T, h.get? p.1 = none) : ∀ q ∈ news, ∀ p ∈ T, p.1 ≠ q.1 := fun q hq p hp e => by
  have := hT p hp
  rw [e, (N q hq).1] at this; cases this
theorem useT {h₀ h h' : Heap} {L D : Addr} {m : Str → Option Value} {news T : List (Addr × Obj)} {o : Obj} (F : Fr h₀ L h m) (N : News h₀ L h news) (x : Ext h h') (hn : h.get? D = none) (hD : h'.get? D = some o)
    (hT : ∀ p ∈ T, h.get? p.1 = none ∧ h'.get? p.1 = some p.2 ∧ p.1 ≠ D) : Fr h₀ L h' m ∧ News h₀ L h' (news ++ (D, o) :: T) ∧ ∀ q ∈ news, ∀ p ∈ (D, o) :: T, p.1 ≠ q.1 := by
  obtain ⟨oL, _, _, hL, _⟩ := id F.ns
  have fr : ∀ p ∈ (D, o) :: T, h.get? p.1 = none := fun p hp => by
    rcases List.mem_cons.mp hp with rfl | hp
    · exact hn
    · exact (hT p hp).1
  have gt : ∀ p ∈ (D, o) :: T, h'.get? p.1 = some p.2 := fun p hp => by
    rcases List.mem_cons.mp hp with rfl | hp
    · exact hD
    · exact (hT p hp).2.1
  refine ⟨F.kept x, fun p hp => ?_, fresh_ne N fr⟩
  rcases List.mem_append.mp hp with hp | hp
  · exact ⟨x _ _ (N p hp).1, (N p hp).2⟩
  · refine ⟨gt p hp, fun (q : p.1 = L) => ?_, ?_⟩
    · have := fr p hp; rw [q, hL] at this; cases this
    · cases q : h₀.get? p.1 with
      | none => rfl
      | some o' => have := fr p hp; rw [F.keep _ _ q] at this; cases this
end Mine
end

namespace Mine
theorem freshLi : True ∧ True := by
  k_with_none
  w_top off
  first | (walk1; all_goals exact trivial) | exact ⟨trivial, trivial⟩
end Mine
section
open PySem PySem.W PyProof.Rows
set_option Elab.async false
set_option maxRecDepth 100000
set_option maxHeartbeats 4000000
namespace Mine
open PySem.Calls PySem.Spec PySem.Flt

noncomputable def textsB : Bool := (List.range 6).all fun i => [1, 2, 3].all fun d => ends.all fun e => decide (txtOf (signs.getD i 0) e d = Txt.mul (Str.ofString ".") (1 + ((d : Nat) : Int)) ++ (⟨#[signs.getD i 0]⟩ : Str) ++ Str.ofString "\x0d\n") && decide (Txt.slice (txtOf (signs.getD i 0) e d) none (some (-2)) = rowOf (signs.getD i 0) d) && decide ((txtOf (signs.getD i 0) e d).length ≤ 9) && decide ((rowOf (signs.getD i 0) d).length ≤ 9)
theorem texts_ok : textsB = true := by decide +kernel
theorem text_ok {i d : Nat} {e : List Nat} (hi : i < 6) (h1 : 1 ≤ d) (h3 : d ≤ 3) (he : e ∈ ends) : txtOf (signs.getD i 0) e d = Txt.mul (Str.ofString ".") (1 + (d : Int)) ++ (⟨#[signs.getD i 0]⟩ : Str) ++ Str.ofString "\x0d\n" ∧ Txt.slice (txtOf (signs.getD i 0) e d) none (some (-2)) = rowOf (signs.getD i 0) d ∧ (txtOf (signs.getD i 0) e d).length ≤ 9 ∧ (rowOf (signs.getD i 0) d).length ≤ 9 := by
  have := List.all_eq_true.mp (List.all_eq_true.mp (List.all_eq_true.mp texts_ok i (List.mem_range.mpr hi)) d (by
    rcases (show d = 1 ∨ d = 2 ∨ d = 3 by omega) with rfl | rfl | rfl <;> simp)) e he
  simp only [Bool.and_eq_true, decide_eq_true_eq] at this
  exact ⟨this.1.1.1, this.1.1.2, this.1.2, this.2⟩
noncomputable def tokAt (i : Nat) : Int := ([14, 16, 17, 24, 19, 18] : List Int).getD i 0
theorem sign_tok : ∀ i : Fin 6, (signs.getD i.val 0, tokAt i.val) ∈ signTok := by decide
theorem spots_ends {d : Nat} (h1 : 1 ≤ d) (h3 : d ≤ 3) (c : Nat) (t : Int) : (spotsOf d).getD 0 0 = 0 ∧ (rowOf c d).length ≤ (spotsOf d).getD (dotsOf d ++ [t]).length 0 ∧ (dotsOf d ++ [t]).length ≤ 9 := by
  rcases (show d = 1 ∨ d = 2 ∨ d = 3 by omega) with rfl | rfl | rfl <;> exact ⟨by decide, by simp [rowOf, spotsOf, dotsOf, Str.length], by simp [dotsOf]⟩
theorem ints_rep (x : Int) (t : Tok) : ∀ n : Nat, IntsAre (List.replicate n [Value.int x t]).flatten (List.replicate n [x]).flatten
  | 0 => .nil
  | n + 1 => .cons x t (ints_rep x t n)
theorem ints_len {vs : List Value} {ns : List Int} (h : IntsAre vs ns) : vs.length = ns.length := h.length
structure DotFacts (d : Nat) : Prop where
  a1 : -(2 ^ 63 : Int) ≤ (1 + (d : Int)).fdiv 3
  a2 : (1 + (d : Int)).fdiv 3 < 2 ^ 63
  a3 : 1 * ((1 + (d : Int)).fdiv 3).toNat ≤ 256
  b1 : -(2 ^ 63 : Int) ≤ (1 + (d : Int)).fmod 3
  b2 : (1 + (d : Int)).fmod 3 < 2 ^ 63
  b3 : 1 * ((1 + (d : Int)).fmod 3).toNat ≤ 256
  dots : (List.replicate ((1 + (d : Int)).fdiv 3).toNat [(52 : Int)]).flatten ++ (List.replicate ((1 + (d : Int)).fmod 3).toNat [(23 : Int)]).flatten = dotsOf d
  len : (List.replicate ((1 + (d : Int)).fdiv 3).toNat [(52 : Int)]).flatten.length + (List.replicate ((1 + (d : Int)).fmod 3).toNat [(23 : Int)]).flatten.length ≤ sizeLine
  len2 : (dotsOf d).length + [(0 : Int)].length ≤ sizeLine
theorem dot_facts {d : Nat} (h1 : 1 ≤ d) (h3 : d ≤ 3) : DotFacts d := by
  rcases (show d = 1 ∨ d = 2 ∨ d = 3 by omega) with rfl | rfl | rfl <;> exact ⟨by decide, by decide, by decide, by decide, by decide, by decide, by decide, Nat.le_trans (show _ ≤ 9 by decide) (by decide), Nat.le_trans (show _ ≤ 9 by decide) (by decide)⟩
theorem wordsLi0 : True := by
  k_with_none
  (k_with "m call ref" => refine Hold.mk' ?_)
  (k_with "m compareOp NotEq str str" => (with_reducible refine ne_str_no (by assumption) ?_))
  (k_with "m compareOp NotEq ref ref" => refine Hold.mk' ?_)
  (k_with "m binaryOp Mult ref int" => refine Hold.mk' ?_)
  (k_with "m binaryOp Add ref ref" => refine Hold.mk' ?_)
  (k_with "m subscriptTail Name Slice str ref" => refine Hold.mk' ?_)
  trivial
theorem law_in {w : World} {dp un : Nat} {gd : Option (List Code)} {s : Shared} {g base : Heap} {outer : List Env} {p : Program} {loose : List Str} {mean : ExcName → Option Value} {mg mb : Str → Option Value} {Q : Flow → Shared → Prop} {E : Value → Shared → Prop}
   {sc : Scope} {b : List Stmt} {L fa D1 DT : Addr} {cd : Value} {m : Str → Option Value} {NN : List (Addr × Obj)} {i d : Nat} {el : List Nat} {tx ta ts tj : Tok}
   (hsc : lawScope w = some sc) (hb : lawInner w = some b) 
   (F : Fr g L s.heap m) (m1 : m "hues" = some (.ref D1)) (m2 : m "trees" = some (.ref DT)) (m3 : m "sign" = some (.str ⟨#[signs.getD i 0]⟩ ts)) (m4 : m "j" = some (.int (i : Int) tj)) (m5 : m "text" = some (.str (txtOf (signs.getD i 0) el d) tx)) (m6 : m "arcs_gone" = some (.int (d : Int) ta))
   (N : News g L s.heap NN) (hi : i < 6) (hd1 : 1 ≤ d) (hd3 : d ≤ 3) (he : el ∈ ends)
   (B : Below (At dp un gd outer) base outer g) (X : (frag w.params).In g) (T : Top p loose mean mg mb g) (hdp : dp ≤ 850) (hun : un < 8000)
   (hret : ∀ h' tk' m', Fr g L h' m' → News g L h' NN → m' "hues" = some (.ref D1) → m' "trees" = some (.ref DT) → m' "sign" = some (.str ⟨#[signs.getD i 0]⟩ ts) → m' "j" = some (.int (i : Int) tj) → Q .next {s with heap := h', toks := tk'}) :
   wpAny (model Challenge.rw_tl0025_01.row.prog w) ((At dp un gd outer).deeper (lawEnv sc L fa cd)) (execs b (lawEnv sc L fa cd)) Q E s := by
  revert X; k_fill; intro X
  refine law_litI (Goal := fun sc b => wpAny _ ((At dp un gd outer).deeper (lawEnv sc L fa cd)) (execs b (lawEnv sc L fa cd)) Q E s) hsc hb (by with_unfolding_all rfl) (by with_unfolding_all rfl) ?_
  unfold lawEnv
  try k_fold
  obtain ⟨ht1, ht2⟩ : Hold (txtOf (signs.getD i 0) el d = Txt.mul (Str.ofString ".") (1 + (d : Int)) ++ (⟨#[signs.getD i 0]⟩ : Str) ++ Str.ofString "\x0d\n") ∧ Hold (Txt.slice (txtOf (signs.getD i 0) el d) none (some (-2)) = rowOf (signs.getD i 0) d ∧ (txtOf (signs.getD i 0) el d).length ≤ 9 ∧ (rowOf (signs.getD i 0) d).length ≤ 9) := text_ok hi hd1 hd3 he
  have F1 := know3 (know3 F m1 m2 m3 (by decide) (by decide) (by decide)) (x := "j") (y := "text") (z := "arcs_gone") m4 m5 m6 (by decide) (by decide) (by decide)
  clear F m1 m2 m3 m4 m5 m6
  obtain ⟨a1, a2, a3, b1, b2, b3, hdots, hln, hln2⟩ := dot_facts hd1 hd3
  k_steps
  unfold Hold
  rename Fr _ _ _ _ => kF
  rename News _ _ _ _ => kN
  refine KMa.mul kF kN (News.isList (items := List.toArray [_]) kN (.head _)) a1 a2 a3 rfl ?_
  intro DA hA FA NA lA
  clear kF kN a1 a2 a3
  dsimp only
  k_steps
  unfold Hold
  rename Fr _ _ _ _ => kF
  rename News _ _ _ _ => kN
  refine KMa.mul kF kN (News.isList (items := List.toArray [_]) kN (.head _)) b1 b2 b3 rfl ?_
  intro DB hB FB NB lB
  clear kF kN b1 b2 b3
  dsimp only
  k_steps
  unfold Hold
  rename Fr _ _ _ _ => kF
  rename News _ _ _ _ => kN
  refine kmk_add_ints kF kN (News.isList kN (.tail _ (.tail _ (.head _)))) (News.isList kN (.head _)) (ints_rep 52 _ _) (ints_rep 23 _ _) ?_ hln
  rw [hdots]
  intro DD du hD FD ND lD hdu
  have ND2 := News.sub (l' := (DD, listOf du.toArray 0) :: NN) ND (fun p hp => by
    rcases List.mem_cons.mp hp with rfl | hp
    · exact .head _
    · exact .tail _ (.tail _ (.tail _ (.tail _ (.tail _ hp)))))
  clear kF kN hdots hln ND lA lB lD
  dsimp only
  k_steps
  unfold Hold
  rename Fr _ _ _ _ => kF
  rename News _ _ _ _ => kN
  unfold Hold at ht2
  obtain ⟨hrow, hl9, hr9⟩ := ht2
  refine slice_strN_ns (s := ⟨_, _, _, _, _⟩) kF kN ?_ (hsz := Nat.le_trans hl9 (by decide))
  rw [hrow]
  intro hS tS tkS FS NS
  obtain ⟨z1, z2, z3⟩ := spots_ends hd1 hd3 (signs.getD i 0) (tokAt i)
  have hst := row_ok w (sign_tok ⟨i, hi⟩) hd1 hd3
  clear kF kN hl9 hrow ht1
  dsimp only
  k_steps
  unfold Hold
  rename Fr _ _ _ _ => kF
  rename News _ _ _ _ => kN
  refine tokens_spec (rowOf (signs.getD i 0) d) (dotsOf d ++ [tokAt i]).length (fun k => (spotsOf d).getD k 0) (dotsOf d ++ [tokAt i]) _ (tokD w) rfl (fun k hk => (hst k hk).1) (fun k hk => (hst k hk).2) z1 z2 rfl z3 (Nat.le_trans hr9 (by decide)) (by omega) (pushX B kF rfl rfl) (Frag.In.keeps X kF.keep) (Top.keeps T kF.keep) (by show dp + 1 ≤ 860; omega) ?_
  intro DK kv nk hk tkk x1 x2 x3 hkI
  obtain ⟨F2, N2, l2⟩ := use1 kF kN x1 x2 x3
  replace l2 := offs l2
  simp only [AllOff] at l2
  clear kF kN x1 x2 x3 z1 z2 z3 hst hr9
  dsimp only
  k_steps
  unfold Hold
  rename Fr _ _ _ _ => kF
  rename News _ _ _ _ => kN
  refine kmk_add_ints kF kN (News.isList kN (.tail _ (.tail _ (.tail _ (.head _))))) (News.isList (items := List.toArray [_]) kN (.head _)) hdu (.cons _ _ .nil) ?_ hln2
  intro DE eu hE FE NE lE heu
  clear kF kN hln2 lE
  dsimp only
  k_steps
  unfold Hold
  rename Fr _ _ _ _ => kF
  rename News _ _ _ _ => kN
  refine ne_ints_no (News.isList kN (.tail _ (.tail _ (.tail _ (.head _))))) hkI (News.isList kN (.head _)) heu (by show un + 3 + 64 < cLine; units_room) rfl ?_
  k_steps
  exact hret hE _ _ kF (News.sub kN fun p hp => .tail _ (.tail _ (.tail _ (.tail _ (.tail _ hp))))) (by with_unfolding_all rfl) (by with_unfolding_all rfl) (by with_unfolding_all rfl) (by with_unfolding_all rfl)
end Mine
end

namespace Mine
theorem freshL4 : True ∧ True := by
  k_with_none
  w_top off
  first | (walk1; all_goals exact trivial) | exact ⟨trivial, trivial⟩
end Mine
section
open PySem PySem.W PyProof.Rows
set_option Elab.async false
set_option maxRecDepth 100000
set_option maxHeartbeats 4000000
namespace Mine
open PySem.Calls PySem.Spec PySem.Flt

theorem sign_at : ∀ i : Fin 6, Txt.item (Str.ofString "+*/%&|") ((i.val : Nat) : Int) = ⟨#[signs.getD i.val 0]⟩ := by decide +kernel
theorem end_at {k : Int} {a b c : Tok} (h0 : 0 ≤ k) (h3 : k < 3) : ∃ e t el, (#[Value.str (Str.ofString "\n") a, Value.str (Str.ofString "\x0d") b, Value.str (Str.ofString "\x0d\n") c] : Array Value)[k.toNat]? = some (.str e t) ∧ k < 2 ^ 63 ∧ e.length ≤ 2 ∧ e = ⟨List.toArray el⟩ ∧ el ∈ ends := by
  rcases (show k = 0 ∨ k = 1 ∨ k = 2 by omega) with rfl | rfl | rfl
  · exact ⟨_, a, [10], rfl, by decide, by decide, by decide, by decide⟩
  · exact ⟨_, b, [13], rfl, by decide, by decide, by decide, by decide⟩
  · exact ⟨_, c, [13, 10], rfl, by decide, by decide, by decide, by decide⟩
theorem mail_at : (List.range 6).all (fun i => ends.all fun e => decide ((Str.ofString "." ++ (⟨#[signs.getD i 0]⟩ : Str)) ++ (⟨e.toArray⟩ : Str) = txtOf (signs.getD i 0) e 0)) = true := by decide +kernel
noncomputable def InvO (D1 DT : Addr) (NN : List (Addr × Obj)) (i : Nat) (m : Str → Option Value) (news : List (Addr × Obj)) : Prop := news = NN ∧ m "hues" = some (.ref D1) ∧ m "trees" = some (.ref DT) ∧ i = i
noncomputable def InvI (D1 DT : Addr) (c i : Nat) (NI : List (Addr × Obj)) (_ : Nat) (m : Str → Option Value) (news : List (Addr × Obj)) : Prop :=
  news = NI ∧ m "hues" = some (.ref D1) ∧ m "trees" = some (.ref DT) ∧ (∃ t, m "sign" = some (.str ⟨#[c]⟩ t)) ∧ ∃ t, m "j" = some (.int (i : Int) t)
theorem tree_at {T : List (Addr × Obj)} {ws : List Value} {xs : List (List (Int × Int))} (h : TreesIn T ws xs) : ∀ {k : Nat} {x : List (Int × Int)}, xs[k]? = some x → ∃ v, ws[k]? = some v ∧ TreeIn T v x := by
  unfold TreesIn at h
  induction h with
  | nil => intro k x e; simp at e
  | cons hx _ ih =>
    intro k x e
    match k with
    | 0 => cases e; exact ⟨_, rfl, hx⟩
    | k + 1 => exact ih (by simpa using e)
theorem tree_ok {tr : List (Int × Int)} (h : treeOk tr = true) : ∃ M, depthsOf tr [(0, 0)] = some M ∧ ∀ (i : Nat) (k : Int), ([1, 2, 4] : List Int)[i]? = some k → ∃ d, M.lookup k = some d ∧ 1 ≤ d ∧ d ≤ 3 := by
  unfold treeOk at h
  split at h
  · rename_i M e
    refine ⟨M, e, fun i k hk => ?_⟩
    have := List.all_eq_true.mp h k (List.mem_of_getElem? hk)
    split at this
    · rename_i d e2
      simp only [Bool.and_eq_true, decide_eq_true_eq] at this
      exact ⟨d, e2, this.1, this.2⟩
    · cases this
  · cases h
theorem wordsL40 : True := by
  k_with_none
  (k_with "m subscriptTail Name BinOp ref int" => refine Hold.mk' ?_)
  (k_with "m subscriptTail Name Subscript ref int" => refine Hold.mk' ?_)
  (k_with "m subscriptTail Name Name ref int" => ((with_reducible show wpAny _ _ (subscriptTail _ _ (Value.ref _) (Value.int _ _)) _ _ _); (with_unfolding_all refine' item_list ?zkk1 ?zkk2 ?zkk3 ?zkk4 ?_; (case zkk1 => is_list); (case zkk2 => with_reducible assumption); (case zkk3 => with_reducible assumption); (case zkk4 => with_reducible assumption); k_whole)))
  (k_with "m execs cons" => ((with_reducible rename Stop => st); clear st; refine Hold.mk' ?_))
  (k_with "m call ref" => refine Hold.mk' ?_)
  (k_with "m pyIter ref" => refine Hold.mk' ?_)
  (k_with "m exec For" => refine Hold.mk' ?_)
  trivial
theorem law_4 {w : World} {dp un : Nat} {gd : Option (List Code)} {s : Shared} {g base : Heap} {outer : List Env} {p : Program} {loose : List Str} {mean : ExcName → Option Value} {mg mb : Str → Option Value} {Q : Flow → Shared → Prop} {E : Value → Shared → Prop}
   {sc : Scope} {b : List Stmt} {L fa D1 DT : Addr} {cd : Value} {m : Str → Option Value} {hv tv : List Value} {hs : List Int} {most n1 n2 : Nat} {tm : Tok} {ps : Array Value} {TT : List (Addr × Obj)} {trs : List (List (Int × Int))}
   (hsc : lawScope w = some sc) (hb : lawRest w 11 = some b) 
   (F : Fr g L s.heap m) (mH : m "hues" = some (.ref D1)) (mM : m "most" = some (.int most tm)) (mT : m "trees" = some (.ref DT))
   (N : News g L s.heap ((41, tabObj ps) :: (D1, listOf hv.toArray n1) :: (DT, listOf tv.toArray n2) :: TT))
   (hH : IntsAre hv hs) (hl : hs.length = 12) (hTr : TreesIn TT tv trs) (htl : trs.length = most) (h6 : most ≤ 6) (hok : ∀ (i : Nat) (tr : List (Int × Int)), trs[i]? = some tr → treeOk tr = true ∧ tr.length ≤ 9)
   (B : Below (At dp un gd outer) base outer g) (X : (frag w.params).In g) (T : Top p loose mean mg mb g) (hdp : dp ≤ 850) (hun : un < 8000)
   (hret : ∀ h' tk' m' ps, Fr g L h' m' → News g L h' [(41, tabObj ps)] → Q (.ret (.bool true)) {s with heap := h', toks := tk'}) :
   wpAny (model Challenge.rw_tl0025_01.row.prog w) ((At dp un gd outer).deeper (lawEnv sc L fa cd)) (execs b (lawEnv sc L fa cd)) Q E s := by
  revert X; k_fill; intro X
  refine law_lit (Goal := fun sc b => wpAny _ ((At dp un gd outer).deeper (lawEnv sc L fa cd)) (execs b (lawEnv sc L fa cd)) Q E s) hsc hb (by with_unfolding_all rfl) (by with_unfolding_all rfl) ?_
  unfold lawEnv
  try k_fold
  have F1 := know3 F mH mM mT (by decide) (by decide) (by decide)
  clear F mH mM mT
  k_steps
  unfold Hold
  refine wpAny_For ?_
  k_steps
  unfold Hold
  rename Fr _ _ _ _ => F'
  rename News _ _ _ _ => N'
  rename IsRange _ _ _ _ _ _ _ _ => R'
  refine' iterRange (Q := _) (n := most) (InvO D1 DT ((41, tabObj ps) :: (D1, listOf hv.toArray n1) :: (DT, listOf tv.toArray n2) :: TT)) rfl R' ?sm ?rs F' N' ?h0 ?turn ?fin
  case sm => exact range_small (by omega)
  case rs => exact range_size _
  case h0 => exact ⟨rfl, by with_unfolding_all rfl, by with_unfolding_all rfl, rfl⟩
  case turn =>
    clear F' N' R'
    rintro I i tt m news h tk oI hi ⟨rfl, m1, m2, _⟩ hoff F N
    rw [Int.zero_add]
    have F3 := know (know F m1) ((if_neg (by decide)).trans m2)
    clear F m1 m2
    have hi6 : i < 6 := by omega
    have hsg := sign_at ⟨i, hi6⟩
    simp only at hsg
    k_steps
    unfold Hold
    rename Fr _ _ _ _ => F'
    rename News _ _ _ _ => N'
    obtain ⟨eS, te, el, hte, hk63, hel, hes, hend⟩ := end_at (k := _) (a := _) (b := _) (c := _) (Int.fmod_nonneg_of_pos (hs.getD i 0) (show (0 : Int) < 3 by decide)) (Int.fmod_lt_of_pos (hs.getD i 0) (show (0 : Int) < 3 by decide))
    refine item_list (News.isList N' (.head _)) (Int.fmod_nonneg_of_pos _ (by decide)) hk63 hte ?_
    have hmail := of_decide_eq_true (List.all_eq_true.mp (List.all_eq_true.mp mail_at i (List.mem_range.mpr hi6)) _ hend)
    rw [← hes, ← hsg] at hmail
    clear hes hk63
    clear hte
    obtain ⟨tr, htr⟩ : ∃ tr, trs[i]? = some tr := ⟨trs[i], List.getElem?_eq_getElem (by omega)⟩
    obtain ⟨hok1, hok2⟩ := hok i tr htr
    obtain ⟨vT, hvT, lt, tvs, ntv, rfl, hmT, hPT⟩ := tree_at hTr htr
    obtain ⟨Mf, hMf, hM124⟩ := tree_ok hok1
    have hti : tv.toArray[((i : Nat) : Int).toNat]? = some (.ref lt) := by simpa using hvT
    have hi0 : (0 : Int) ≤ (i : Int) := Int.natCast_nonneg _
    have hi63 : (i : Int) < 2 ^ 63 := by omega
    k_steps
    unfold Hold
    refine wpAny_For ?_
    rename Fr _ _ _ _ => F'
    rename News _ _ _ _ => N'
    rw [hmail, hsg] at F'
    have N3 := newsTail N'
    clear N' hmail hel
    k_steps
    unfold Hold
    rename Fr _ _ _ _ => F2
    rename News _ _ _ _ => N2
    refine heard_spec lt TT tvs tr (txtOf (signs.getD i 0) el) Mf _ (News.isList N2 (.tail _ (.tail _ (.tail _ (.tail _ hmT))))) hPT (fun p hp => N2.get (.tail _ (.tail _ (.tail _ (.tail _ hp))))) hok2 hMf (fun d hd => quoted_txt (by rw [getD_get _ _ (show i < signs.length from hi6)]; exact List.getElem_mem _) hend hd) (fun j k hk => let ⟨d, h1, _⟩ := hM124 j k hk; ⟨d, h1⟩) (pushX B F2 rfl rfl) (Frag.In.keeps X F2.keep) (Top.keeps T F2.keep) (by show dp + 1 ≤ 860; omega) ?_
    intro DH ts nh hh1 tkh x1 x2 x3 hts hat
    obtain ⟨b0, b1, b2, rfl⟩ : ∃ b0 b1 b2, ts = [b0, b1, b2] := by
      match ts, hts with
      | [b0, b1, b2], _ => exact ⟨b0, b1, b2, rfl⟩
    obtain ⟨e0, f0, o0, g0, q0⟩ := hat 0 b0 rfl
    obtain ⟨e1, f1, o1, g1, q1⟩ := hat 1 b1 rfl
    obtain ⟨e2, f2, o2, g2, q2⟩ := hat 2 b2 rfl
    obtain ⟨d0, u0, v0, l0, rfl⟩ := q0 1 rfl
    obtain ⟨d1, u1, v1, l1, rfl⟩ := q1 2 rfl
    obtain ⟨d2, u2, v2, l2, rfl⟩ := q2 4 rfl
    have r0 : 1 ≤ d0 ∧ d0 ≤ 3 := by obtain ⟨d, z, zz⟩ := hM124 0 1 rfl; rw [l0] at z; cases z; exact zz
    have r1 : 1 ≤ d1 ∧ d1 ≤ 3 := by obtain ⟨d, z, zz⟩ := hM124 1 2 rfl; rw [l1] at z; cases z; exact zz
    have r2 : 1 ≤ d2 ∧ d2 ≤ 3 := by obtain ⟨d, z, zz⟩ := hM124 2 4 rfl; rw [l2] at z; cases z; exact zz
    obtain ⟨F5, N5, l5⟩ := useT F2 N2 x1 x2 x3 (T := [(b0, _), (b1, _), (b2, _)]) (fun p hp => by
      simp only [List.mem_cons, List.not_mem_nil, or_false] at hp
      rcases hp with rfl | rfl | rfl
      · exact ⟨f0, g0, e0⟩
      · exact ⟨f1, g1, e1⟩
      · exact ⟨f2, g2, e2⟩)
    clear F2 N2 x1 x2 x3 e0 e1 e2 f0 f1 f2 g0 g1 g2 q0 q1 q2 l0 l1 l2 hat hts
    k_steps
    unfold Hold
    rename Fr _ _ _ _ => F2
    rename News _ _ _ _ => N2
    have N6 : News g L _ ((DH, listOf ([b0, b1, b2].map Value.ref).toArray nh) :: (b0, tupO #[.str (txtOf (signs.getD i 0) el d0) u0, .int (d0 : Int) v0]) :: (b1, tupO #[.str (txtOf (signs.getD i 0) el d1) u1, .int (d1 : Int) v1]) :: (b2, tupO #[.str (txtOf (signs.getD i 0) el d2) u2, .int (d2 : Int) v2]) ::
        (I, oI) :: (41, tabObj ps) :: (D1, listOf hv.toArray n1) :: (DT, listOf tv.toArray n2) :: TT) := News.sub N2 (pick (List.mem_append_right _ (.head _)) (pick (List.mem_append_right _ (.tail _ (.head _))) (pick (List.mem_append_right _ (.tail _ (.tail _ (.head _)))) (pick (List.mem_append_right _ (.tail _ (.tail _ (.tail _ (.head _))))) (fun p hp => List.mem_append_left _ hp)))))
    clear N2
    refine' iterList (Q := _) (InvI D1 DT (signs.getD i 0) i ((DH, listOf ([b0, b1, b2].map Value.ref).toArray nh) :: (b0, tupO #[.str (txtOf (signs.getD i 0) el d0) u0, .int (d0 : Int) v0]) :: (b1, tupO #[.str (txtOf (signs.getD i 0) el d1) u1, .int (d1 : Int) v1]) :: (b2, tupO #[.str (txtOf (signs.getD i 0) el d2) u2, .int (d2 : Int) v2]) ::
        (I, oI) :: (41, tabObj ps) :: (D1, listOf hv.toArray n1) :: (DT, listOf tv.toArray n2) :: TT)) rfl ?hS2 F2 N6 ?h02 ?turn2 ?fin2 ?ht2
    case hS2 => exact .inr ⟨_, .head _, rfl, _, rfl⟩
    case h02 => exact ⟨rfl, by with_unfolding_all rfl, by with_unfolding_all rfl, ⟨_, by with_unfolding_all rfl⟩, ⟨_, by with_unfolding_all rfl⟩⟩
    case ht2 => exact .inr ⟨_, _, _, rfl, fun j v hv => by
      match j, hv with
      | 0, hv => cases hv; exact ⟨_, rfl⟩
      | 1, hv => cases hv; exact ⟨_, rfl⟩
      | 2, hv => cases hv; exact ⟨_, rfl⟩⟩
    case turn2 =>
      clear F2 N6 l5
      rintro J j v m2 _ h2 tk2 oJ hj hv ⟨rfl, m1, m2', ⟨ts, m3⟩, ⟨tj, m4⟩⟩ hS hoff2 F N
      obtain ⟨bq, dq, uq, vq, rfl, hTu, rq⟩ : ∃ (bq : Addr) (dq : Nat) (uq vq : Tok), v = .ref bq ∧ IsTup h2 bq #[.str (txtOf (signs.getD i 0) el dq) uq, .int (dq : Int) vq] ∧ 1 ≤ dq ∧ dq ≤ 3 := by
        match j, hv with
        | 0, hv => cases hv; exact ⟨_, _, _, _, rfl, News.isTup N (.tail _ (.tail _ (.head _))), r0⟩
        | 1, hv => cases hv; exact ⟨_, _, _, _, rfl, News.isTup N (.tail _ (.tail _ (.tail _ (.head _)))), r1⟩
        | 2, hv => cases hv; exact ⟨_, _, _, _, rfl, News.isTup N (.tail _ (.tail _ (.tail _ (.tail _ (.head _))))), r2⟩
      have F3 := know4 F m1 m2' m3 m4 (by decide) (by decide) (by decide) (by decide) (by decide) (by decide)
      clear F m1 m2' m3 m4 hv r0 r1 r2
      generalize hNI : ((DH, listOf ([b0, b1, b2].map Value.ref).toArray nh) :: (b0, tupO #[.str (txtOf (signs.getD i 0) el d0) u0, .int (d0 : Int) v0]) :: (b1, tupO #[.str (txtOf (signs.getD i 0) el d1) u1, .int (d1 : Int) v1]) :: (b2, tupO #[.str (txtOf (signs.getD i 0) el d2) u2, .int (d2 : Int) v2]) ::
        (I, oI) :: (41, tabObj ps) :: (D1, listOf hv.toArray n1) :: (DT, listOf tv.toArray n2) :: TT) = NI at *
      clear hNI
      have st := stop
      k_steps
      unfold Hold
      rename Fr _ _ _ _ => kF
      rename News _ _ _ _ => kN
      refine law_in (NN := (J, oJ) :: NI) (i := i) (d := dq) (el := el) (by with_unfolding_all rfl) (by with_unfolding_all rfl) kF (by with_unfolding_all rfl) (by with_unfolding_all rfl) (by with_unfolding_all rfl) (by with_unfolding_all rfl) (by with_unfolding_all rfl) (by with_unfolding_all rfl) kN hi6 rq.1 rq.2 hend B X T hdp hun ?_
      intro h9 tk9 m9 F9 N9 a1 a2 a3 a4
      show TurnEnd _ _ _ _ _ _ _
      exact TurnEnd.intro F9 N9 (fun _ h => h) (fun p hp q hq => by rw [List.mem_singleton.mp hq]; exact hoff2 p hp) hS ⟨rfl, a1, a2, ⟨_, a3⟩, ⟨_, a4⟩⟩
    case fin2 =>
      clear F2 N6 l5
      rintro m9 _ h9 tk9 ⟨rfl, a1, a2, _, _⟩ F9 N9
      dsimp only
      k_steps
      show TurnEnd _ _ _ _ _ _ _
      exact TurnEnd.intro F9 N9 (fun p hp => .tail _ (.tail _ (.tail _ (.tail _ hp)))) (fun p hp q hq => by rw [List.mem_singleton.mp hq]; exact hoff p hp) trivial ⟨rfl, a1, a2, rfl⟩
  case fin =>
    clear F' N'
    rintro m9 _ h9 tk9 ⟨rfl, a1, a2, _⟩ F9 N9
    dsimp only
    k_steps
    exact hret _ _ _ ps F9 (News.sub N9 fun p hp => by rw [List.mem_singleton.mp hp]; exact .head _)
end Mine
end

namespace Mine
theorem freshL3 : True ∧ True := by
  k_with_none
  w_top off
  first | (walk1; all_goals exact trivial) | exact ⟨trivial, trivial⟩
end Mine
section
open PySem PySem.W PyProof.Rows
set_option Elab.async false
set_option maxRecDepth 100000
set_option maxHeartbeats 4000000
namespace Mine
open PySem.Calls PySem.Spec PySem.Flt

noncomputable def DictAt (prog : Program) (w : World) (d : Addr) (o : Obj) : Prop := (d == sysModules) = false ∧ ∃ kvs, o.IsDictOf (intKind prog w) kvs ∧ PyProof.V.FlatPairs PyData.int kvs (tabI 3)
theorem DictAt.pow {prog : Program} {w : World} {h₀ h : Heap} {L d : Addr} {o : Obj} {news : List (Addr × Obj)} (D : DictAt prog w d o) (N : News h₀ L h news) (hm : (d, o) ∈ news) : PowAt prog w h d :=
  let ⟨a, _, b, c⟩ := D; TabAt.ofNews N hm a b c
section
variable {prog : Program} {w : World} {A : Around} {E : Value → Shared → Prop} {s : Shared} {h₀ : Heap} {L d : Addr} {o : Obj} {news : List (Addr × Obj)}
theorem pow_news {value slice : Expr} {k r : Int} {t : Tok} {Q : Value → Shared → Prop} (N : News h₀ L s.heap news) (hm : (d, o) ∈ news) (D : DictAt prog w d o) (h : ∀ u, Q (.int r u) { s with toks := s.toks + 1 }) (hk : Place k) (e : pw k = r)
   (hs : subscripted slice false (.ref d) (.int k t) = operate [.ref d, .int k t] (getItem (.ref d) (.int k t)) := by with_unfolding_all rfl) (hg : ∀ r, letTemporaryGo value (.ref d) r = pure () := by intro _; with_unfolding_all rfl) :
   wpAny (model prog w) A (subscriptTail value slice (.ref d) (.int k t)) Q E s := by
  subst e; exact pow_item (D.pow N hm) (fun _ _ e => e) hk h hs hg
theorem pl0 : Place 0 := .inl rfl
theorem pl1 : Place 1 := .inr (.inl rfl)
theorem pl2 : Place 2 := .inr (.inr (.inl rfl))
theorem pl4 : Place 4 := .inr (.inr (.inr rfl))
theorem pw0 : pw 0 = 1 := by decide
theorem pw1 : pw 1 = 64 := by decide
theorem pw2 : pw 2 = 4096 := by decide
theorem pw4 : pw 4 = 16777216 := by decide
end
/-- what _int2digits leaves -/
theorem useD {h₀ h h' : Heap} {L D : Addr} {m : Str → Option Value} {news : List (Addr × Obj)} {o t t' : Obj} (F : Fr h₀ L h m) (N : News h₀ L h ((41, t) :: news)) (h41 : ∀ p ∈ news, p.1 ≠ 41) (x : ∀ b o, b ≠ 41 → h.get? b = some o → h'.get? b = some o) (hn : h.get? D = none) (hD : h'.get? D = some o) (ht : h'.get? 41 = some t') :
    Fr h₀ L h' m ∧ News h₀ L h' ((41, t') :: (D, o) :: news) := by
  obtain ⟨oL, _, _, hL, _⟩ := id F.ns
  have n41 : (41 : Addr) ≠ L := (N _ (.head _)).2.1
  have k0 : ∀ b o, h₀.get? b = some o → h'.get? b = some o := fun b o e => x b o (fun q => by
    have := (N _ (.head _)).2.2
    rw [q] at e
    exact absurd e (by rw [this]; simp)) (F.keep b o e)
  refine ⟨⟨F.ns.at' fun o e => x _ o (Ne.symm n41) e, k0, F.above⟩, fun p hp => ?_⟩
  rcases List.mem_cons.mp hp with rfl | hp
  · exact ⟨ht, n41, (N _ (.head _)).2.2⟩
  rcases List.mem_cons.mp hp with rfl | hp
  · refine ⟨hD, fun (q : D = L) => ?_, ?_⟩
    · rw [q, hL] at hn; cases hn
    · cases q : h₀.get? D with
      | none => rfl
      | some o' => rw [F.keep _ _ q] at hn; cases hn
  · have := N p (.tail _ hp)
    exact ⟨x _ _ (h41 p hp) this.1, this.2⟩
theorem hideFr {h₀ h : Heap} {L : Addr} {m : Str → Option Value} {news : List (Addr × Obj)} {o : Obj} (F : Fr h₀ L h m) (N : News h₀ L h ((41, o) :: news)) : Fr h₀ L (hideAll h [41]) m ∧
    (∀ b o, (hideAll h [41]).get? b = some o → h.get? b = some o) ∧ (hideAll h [41]).objs.size ≤ h.objs.size ∧ (∀ b o, b ≠ 41 → h.get? b = some o → (hideAll h [41]).get? b = some o) ∧ (hideAll h [41]).get? 41 = none ∧ h.get? 41 = some o := by
  have n41 : (41 : Addr) ≠ L := (N _ (.head _)).2.1
  have k : ∀ b o, b ≠ 41 → h.get? b = some o → (hideAll h [41]).get? b = some o := fun b o n e => hideAll_get [41] e fun q => n (List.mem_singleton.mp q)
  exact ⟨⟨F.ns.at' fun o e => k _ o (Ne.symm n41) e, fun b o e => k b o (fun q => by
    have := (N _ (.head _)).2.2
    rw [q] at e
    exact absurd e (by rw [this]; simp)) (F.keep b o e), F.above⟩, fun b o => of_hideAll _, Nat.le_of_eq (hideAll_size _ _), k, hideAll_none _ (.head _), (N _ (.head _)).1⟩
theorem wordsL30 : True := by
  k_with_none
  (k_with "m call ref" => refine Hold.mk' ?_)
  (k_with "m compareOp NotEq ref ref" => refine Hold.mk' ?_)
  (k_with "m compareOp NotEq int int" => refine Hold.mk' ?_)
  (k_with "m subscriptTail Name Slice ref ref" => refine Hold.mk' ?_)
  (k_with "m call builtin:min" => refine Hold.mk' ?_)
  (k_with "m execs cons" => ((with_reducible rename Stop => st); clear st; refine Hold.mk' ?_))
  (k_with "m subscriptTail Name Constant ref int" => ((with_reducible show wpAny _ _ (subscriptTail _ _ (Value.ref _) (Value.int _ _)) _ _ _); (with_reducible rename News _ _ _ _ => kN); first
    | (refine pow_news kN (by k_mem) (by with_reducible assumption) ?_ pl1 pw1; intro _) | (refine pow_news kN (by k_mem) (by with_reducible assumption) ?_ pl2 pw2; intro _) | (refine pow_news kN (by k_mem) (by with_reducible assumption) ?_ pl4 pw4; intro _) | (refine pow_news kN (by k_mem) (by with_reducible assumption) ?_ pl0 pw0; intro _)))
  trivial
theorem law_3 {w : World} {dp un : Nat} {gd : Option (List Code)} {s : Shared} {g base : Heap} {outer : List Env} {p : Program} {loose : List Str} {mean : ExcName → Option Value} {mg mb : Str → Option Value} {Q : Flow → Shared → Prop} {E : Value → Shared → Prop}
   {sc : Scope} {b : List Stmt} {L fa D1 DA DP DN DC : Addr} {cd : Value} {m : Str → Option Value} {hv av nv cv : List Value} {hs : List Int} {n1 n2 n3 n4 most : Nat} {cA cP oD : Obj} {TA : List (Addr × Obj)} {xs : List Arc} {ks : List Tri}
   (hsc : lawScope w = some sc) (hb : lawRest w 6 = some b) 
   (F : Fr g L s.heap m) (mH : m "hues" = some (.ref D1)) (mN : m "numbers" = some (.ref DN)) (mC : m "cuts" = some (.ref DC))
   (N : News g L s.heap ((41, tabObj #[]) :: (L + 1, cA) :: (L + 1 + 1, cP) :: (DA, listOf av.toArray n2) :: (D1, listOf hv.toArray n1) :: (DP, oD) :: (DN, listOf nv.toArray n3) :: (DC, listOf cv.toArray n4) :: TA))
   (h41 : ∀ p ∈ (L + 1, cA) :: (L + 1 + 1, cP) :: (DA, listOf av.toArray n2) :: (D1, listOf hv.toArray n1) :: (DP, oD) :: (DN, listOf nv.toArray n3) :: (DC, listOf cv.toArray n4) :: TA, p.1 ≠ 41)
   (eA : cA.data = .cell (some (.ref DA))) (eP : cP.data = .cell (some (.ref DP))) (hD : DictAt Challenge.rw_tl0025_01.row.prog w DP oD)
   (hH : IntsAre hv hs) (hl : hs.length = 12) (hA : ArcsIn TA av xs) (hN : IntsAre nv (xs.map fun x => lawNumber x.2.1 x.2.2)) (hC : IntsAre cv (cutsOf xs)) (P : Plan xs most ks)
   (B : Below (At dp un gd outer) base outer g) (X : (frag w.params).In g) (T : Top p loose mean mg mb g) (hdp : dp ≤ 850) (hun : un < 8000) (C : CodeHd g 45 41)
   (hret : ∀ h' tk' m' ps, Fr g L h' m' → News g L h' [(41, tabObj ps)] → Q (.ret (.bool true)) {s with heap := h', toks := tk'}) :
   wpAny (model Challenge.rw_tl0025_01.row.prog w) ((At dp un gd outer).deeper (lawEnv sc L fa cd)) (execs b (lawEnv sc L fa cd)) Q E s := by
  revert X; k_fill; intro X
  refine law_lit (Goal := fun sc b => wpAny _ ((At dp un gd outer).deeper (lawEnv sc L fa cd)) (execs b (lawEnv sc L fa cd)) Q E s) hsc hb (by with_unfolding_all rfl) (by with_unfolding_all rfl) ?_
  unfold lawEnv
  try k_fold
  have F1 := know3 F mH mN mC (by decide) (by decide) (by decide)
  clear F mH mN mC
  k_steps
  unfold Hold
  rename Fr _ _ _ _ => F'
  rename News _ _ _ _ => N'
  obtain ⟨FH, h1, h2, h3, h4, h5⟩ := hideFr F' N'
  refine digits_spec _ _ _ (Int.lt_of_lt_of_le (by decide) P.lo) P.lo P.hi h1 h2 h3 h5 h4 (C.keeps FH.keep) (pushX B FH rfl rfl) (Frag.In.keeps X FH.keep) (Top.keeps T FH.keep) (by show dp + 1 ≤ 880; omega) ?_
  intro DD dv nd hh1 tk1 pt x1 x2 x3 x4 hdI
  obtain ⟨F2, N2⟩ := useD F' N' h41 x1 x3 x2 x4
  clear F' N' FH h1 h2 h3 h4 h5 x1 x2 x3 x4
  k_steps
  unfold Hold
  rename Fr _ _ _ _ => F'
  rename News _ _ _ _ => N'
  refine ne_ints_no (News.isList N' (.tail _ (.head _))) hdI (News.isList N' (.tail _ (.tail _ (.tail _ (.tail _ (.tail _ (.tail _ (.tail _ (.tail _ (.head _)))))))))) hC (by show un + 3 + 64 < cLine; units_room) P.digs ?_
  k_steps
  unfold Hold
  rename Fr _ _ _ _ => F'
  rename News _ _ _ _ => N'
  have hcs : cv.toArray.size ≤ sizeLine := by rw [List.size_toArray, hC.length]; exact (show 8 ≤ sizeLine by decide)
  (refine' kmk_slice_ints (s := ⟨_, _, _, _, _⟩) (ns := cutsOf xs) (ms := (cutsOf xs).drop 1) (c := 7) F' N' (News.isList N' (.tail _ (.tail _ (.tail _ (.tail _ (.tail _ (.tail _ (.tail _ (.tail _ (.head _)))))))))) ?zp ?zq hC ?zm rfl ?_ ?zs ?zt hcs; (case zp => kmk_part); (case zq => kmk_part); (case zm => kmk_nums); (case zs => with_unfolding_all rfl); (case zt => kmk_pure))
  intro DM mv hM FM NM lM hmI _ _
  dsimp only
  clear F' N' lM hcs
  k_steps
  unfold Hold
  rename Fr _ _ _ _ => F'
  rename News _ _ _ _ => N'
  refine kso_min F' N' (News.isList N' (.head _)) hmI (show 0 < 7 by decide) (by with_unfolding_all rfl) ?_
  intro hM2 M tM tkM FM2 NM2 hM1 hM2
  have hMm : M = (most : Int) := Int.le_antisymm (hM2 _ P.mem) (P.min _ hM1)
  subst hMm
  dsimp only
  clear F' N' hM1 hM2
  k_steps
  unfold Hold
  rename Fr _ _ _ _ => F'
  rename News _ _ _ _ => N'
  dsimp only at F'
  rw [show ((1 + 64) * (1 + 4096) * (1 + 16777216) - 1 : Int) = ones7 by decide]
  have hTA : ∀ p ∈ TA, Heap.get? _ p.1 = some p.2 := fun p hp => N'.get (.tail _ (.tail _ (.tail _ (.tail _ (.tail _ (.tail _ (.tail _ (.tail _ (.tail _ (.tail _ hp))))))))))
  refine trees_spec _ _ TA av nv xs (xs.map fun x => lawNumber x.2.1 x.2.2) ones7 most ks _ _ (News.isList N' (.tail _ (.tail _ (.tail _ (.tail _ (.tail _ (.head _))))))) (News.isList N' (.tail _ (.tail _ (.tail _ (.tail _ (.tail _ (.tail _ (.tail _ (.tail _ (.head _)))))))))) hA hTA hN (List.length_map ..) (Nat.le_trans P.len (by decide)) P.most6 P.klen P.steps (pushX B F' rfl rfl) (Frag.In.keeps X F'.keep) (Top.keeps T F'.keep) (by show dp + 1 ≤ 870; omega) ?_
  intro DT tv nt TT hh2 tk2 x1 x2 x3 x4 hTr
  obtain ⟨F2, N2, l2⟩ := useT F' N' x1 x2 x3 x4
  have htv : tv.length = most := by
    have z : ∀ {l1 : List Value} {l2 : List (List (Int × Int))}, Paired (TreeIn TT) l1 l2 → l1.length = l2.length := fun h => by
      induction h with
      | nil => rfl
      | cons _ _ ih => simp [ih]
    rw [z hTr, List.length_map, P.klen]
  have N3 : News g L hh2 ((41, tabObj pt) :: (D1, listOf hv.toArray n1) :: (DT, listOf tv.toArray nt) :: TT) := News.sub N2 (pick (List.mem_append_left _ (by k_mem)) (pick (List.mem_append_left _ (by k_mem)) (fun p hp => List.mem_append_right _ hp)))
  have hok : ∀ (i : Nat) (tr : List (Int × Int)), (ks.map (treeOf xs))[i]? = some tr → treeOk tr = true ∧ tr.length ≤ 9 := fun i tr h => by
    rw [List.getElem?_map] at h
    cases q : ks[i]? with
    | none => rw [q] at h; cases h
    | some k => rw [q] at h; cases h; exact ⟨P.ok i k q, (show 3 ≤ 9 by decide)⟩
  clear F' N' x1 x2 x3 x4 hTA l2 N2
  dsimp only
  have hsz : tv.toArray.size = most := by rw [List.size_toArray]; exact htv
  k_steps
  rename Fr _ _ _ _ => F'
  rename News _ _ _ _ => N'
  refine len_list (News.isList N' (.tail _ (.tail _ (.head _)))) (by rw [hsz]; have := P.most6; omega) ?_
  rw [hsz]
  dsimp only
  k_steps
  unfold Hold
  refine ne_no rfl ?_
  have st := stop
  k_steps
  unfold Hold
  rename Fr _ _ _ _ => F'
  rename News _ _ _ _ => N'
  exact law_4 (by with_unfolding_all rfl) (by with_unfolding_all rfl) F' (by with_unfolding_all rfl) (by with_unfolding_all rfl) (by with_unfolding_all rfl) N' hH hl hTr (by rw [List.length_map, P.klen]) P.most6 hok B X T hdp hun (fun h' tk' m' ps F9 N9 => hret h' tk' m' ps F9 N9)
end Mine
end

namespace Mine
theorem freshCc : True ∧ True := by
  k_with_none
  w_top off
  first | (walk1; all_goals exact trivial) | exact ⟨trivial, trivial⟩
end Mine
section
open PySem PySem.W PyProof.Rows
set_option Elab.async false
set_option maxRecDepth 100000
namespace Mine
open PySem.Calls PySem.Spec

section
variable {prog : Program} {w : World} {A : Around} {E : Value → Shared → Prop} {s : Shared} {env : Env} {h₀ : Heap} {L : Addr} {elt iter : Expr} {x : Str} {px : Pos} {scope : Scope} {pos : Pos} {cl : List (Str × Addr)}

noncomputable abbrev cellO : Obj := { cls := .type "cell", data := .cell none }
theorem newEnv_cell {Q : Env → Shared → Prop} (hc : ∀ n, cellsFrom n scope.names cl = (x, n) :: cl) (hp : ∀ H, pushCells H scope.names = H.push cellO)
    (h : Q (newEnv scope s.heap.objs.size env.globals ((x, s.heap.objs.size + 1) :: cl) env.qual none .none (some env) builtinsNs) { s with heap := (s.heap.push { cls := .type "dict", data := .dict #[] }).push cellO }) :
    wpAny (model prog w) A (newFunctionEnv scope env.globals cl [] env.qual none .none (some env)) Q E s := by
  simp only [newFunctionEnv, Option.isSome_some, if_true]
  refine wpAny_bind (wpAny_alloc ?_)
  refine wpAny_bind (wpAny_layCells _ (fun name kind cells => by cases hkc : kind == NameKind.cell <;> simp) _ _ _ _ ?_)
  rw [hc, hp]
  simp only [List.forIn_nil]
  refine wpAny_bind (wpAny_pure (wpAny_pure ?_))
  rw [show ({ s with heap := s.heap.push { cls := .type "dict", data := .dict #[] } } : Shared).heap.objs.size = s.heap.objs.size + 1 from Heap.size_push ..]
  exact h

noncomputable def TurnsK (prog : Program) (w : World) (A : Around) (env : Env) (elt : Expr) (x : Str) (scope : Scope) (cl : List (Str × Addr)) (n : Nat) (P : Nat → Value → Prop) (Rel : Nat → Option Value → Prop) (s₁ : Shared) : Prop :=
  ∀ C c i v h tk m₃, s₁.heap.objs.size ≤ C → s₁.heap.objs.size ≤ c → C ≠ c → i < n → P i v → h.Ns C m₃ → h.IsCell c (some v) → Ext s₁.heap h →
    wpAny (model prog w) A (eval elt (compEnvC scope ((x, c) :: cl) C env)) (fun y s₆ => Rel i (some y) ∧ ∃ h' tk', s₆ = { s₁ with heap := h', toks := tk' } ∧ Ext h h') (fun _ _ => False) { s₁ with heap := h, toks := tk }

theorem block_K {s₁ : Shared} {I : Addr} {oI : Obj} {n : Nat} {P : Nat → Value → Prop} {St : Nat → Heap → Prop} {RR : Value → Addr → Result → Shared → Prop}
    (W : Walks prog w A I [I] [I] n P St) (hI : I = s₁.heap.objs.size) (hsz : n ≤ sizeLine) (Rel : Nat → Option Value → Prop)
    (hc : ∀ n, cellsFrom n scope.names cl = (x, n) :: cl) (hp : ∀ H, pushCells H scope.names = H.push cellO) (hxk : ∀ C c, (compEnvC scope ((x, c) :: cl) C env).kindOf x = some .cell) (hkind : scope.kind = .function) (hst : St 0 (s₁.heap.push oI))
    (ht : ∀ i v (s' : Shared) (Q' : Unit → Shared → Prop) E', P i v → St (i + 1) s'.heap → Q' () s' → wpAny (model prog w) A (letOwnedTupleGo (.Name x px) (.ref I) v) Q' E' s')
    (turn : TurnsK prog w A env elt x scope cl n P Rel s₁)
    (hRR : ∀ D C h' tk m' (rs : List (Option Value)) e, s₁.heap.get? D = none → s₁.heap.get? C = none → D ≠ C → h'.Ns C m' → h'.get? D = some (listOf (outs rs).toArray e) → rs.length = n → (∀ j r, rs[j]? = some r → Rel j r) →
      Ext s₁.heap h' → RR (.ref D) C (.ok .next) { s₁ with heap := h', toks := tk }) :
    wpAny (model prog w) A (newList []) (fun acc s₃ => wpAny (model prog w) A (newFunctionEnv scope env.globals cl [] env.qual none .none (some env)) (fun cenv s₄ =>
      codeAny (model prog w) A (.compStart (.ListComp elt [⟨.Name x px, iter, [], 0⟩] scope pos) 0 (.ref I) acc { cenv with scope := relabel scope env }) (RR acc cenv.locals) s₄) E s₃) E { s₁ with heap := s₁.heap.push oI } := by
  refine wpAny_newObj_type (newEnv_cell hc hp ?_)
  dsimp only
  generalize hH1 : s₁.heap.push oI = H1 at hst ⊢
  generalize hH2 : H1.push { cls := .type "list", dict := none, data := .seq ([] : List Value).toArray } = H2
  have s1 : H1.objs.size = s₁.heap.objs.size + 1 := by rw [← hH1, Heap.size_push]
  have s2 : H2.objs.size = s₁.heap.objs.size + 2 := by rw [← hH2, Heap.size_push, s1]
  generalize hh₁ : (H2.push { cls := .type "dict", data := .dict #[] }).push cellO = h₁
  have s3 : (H2.push { cls := .type "dict", data := .dict #[] }).objs.size = s₁.heap.objs.size + 3 := by rw [Heap.size_push, s2]
  have hns₁ : h₁.Ns H2.objs.size (fun _ => none) := by rw [← hh₁]; exact (Heap.Ns.new H2 (.type "dict")).keeps fun b o e => Heap.get?_push_of_some _ e
  have hcell₁ : h₁.IsCell (H2.objs.size + 1) none := ⟨cellO, by rw [← hh₁]; rw [show H2.objs.size + 1 = (H2.push { cls := .type "dict", data := .dict #[] }).objs.size from (Heap.size_push ..).symm]; exact Heap.get?_push_size _ rfl, rfl⟩
  have old1 : ∀ b o, H1.get? b = some o → h₁.get? b = some o := fun b o e => by
    rw [← hh₁]; exact Heap.get?_push_of_some _ (Heap.get?_push_of_some _ (by rw [← hH2]; exact Heap.get?_push_of_some _ e))
  have hacc : h₁.get? H1.objs.size = some (listOf #[] 0) := by
    rw [← hh₁]; exact Heap.get?_push_of_some _ (Heap.get?_push_of_some _ (by rw [← hH2]; exact Heap.get?_push_size _ rfl))
  have old : ∀ b o, s₁.heap.get? b = some o → h₁.get? b = some o := fun b o e => old1 b o (by rw [← hH1]; exact Heap.get?_push_of_some _ e)
  generalize hC : H2.objs.size = C at *
  generalize hD : H1.objs.size = D at *
  have hI' : @Eq Nat I s₁.heap.objs.size := hI
  have hDC : @Ne Nat D C := by omega
  have hIC : @Ne Nat I C := by omega
  have hID : @Ne Nat I D := by omega
  have hIc : @Ne Nat I (C + 1) := by omega
  have hDc : @Ne Nat D (C + 1) := by omega
  have hCc : @Ne Nat C (C + 1) := by omega
  have below : ∀ b o, s₁.heap.get? b = some o → @Ne Nat b C ∧ @Ne Nat b D ∧ @Ne Nat b (C + 1) ∧ @Ne Nat b I := fun b o e => by have : @LT.lt Nat _ b s₁.heap.objs.size := Heap.lt_size e; refine ⟨?_, ?_, ?_, ?_⟩ <;> omega
  have fresh : ∀ a, s₁.heap.objs.size ≤ a → s₁.heap.get? a = none := fun a ha => by
    cases e : s₁.heap.get? a with
    | none => rfl
    | some o' => exact absurd (Heap.lt_size e) (Nat.not_lt.mpr ha)
  have hst₁ : St 0 h₁ := W.frame _ _ _ hst fun b _ o e => old1 b o e
  have loop : ∀ s₃ : Shared, s₃ = { s₁ with heap := h₁ } →
      codeAny (model prog w) A (.compLoop (.ListComp elt [⟨.Name x px, iter, [], 0⟩] scope pos) 0 (.ref I) (.ref D) (compEnvC scope ((x, C + 1) :: cl) C env)) (RR (.ref D) C) s₃ := by
    rintro s₃ rfl
    refine compLoop_G
      (fun k s' => ∃ h' tk i rs e m' vc, s' = { s₁ with heap := h', toks := tk } ∧ i ≤ n ∧ k = n + 1 - i ∧ rs.length = i ∧ St i h' ∧ h'.Ns C m' ∧ h'.IsCell (C + 1) vc ∧ h'.get? D = some (listOf (outs rs).toArray e) ∧ (∀ j r, rs[j]? = some r → Rel j r) ∧ Ext s₁.heap h') ?_ (n + 1)
      ⟨h₁, _, 0, [], 0, _, _, rfl, Nat.zero_le _, rfl, rfl, hst₁, hns₁, hcell₁, hacc, fun j r e => by simp at e, old⟩
    rintro k s' ⟨h', tk, i, rs, e, m', vc, rfl, hi, rfl, hyl, hst', hn', hcl', hD', hR', hk'⟩
    by_cases hlt : i < n
    · refine W.item i _ _ _ hlt hst' fun v h₂ tk₂ hPv hst₂ hk₂ => ?_
      have keep2 : ∀ b o, b ≠ I → h'.get? b = some o → h₂.get? b = some o := fun b o hb e => hk₂ b o (by simpa using hb) e
      refine ht i v _ _ _ hPv hst₂ ?_
      have hcl2 : h₂.IsCell (C + 1) vc := let ⟨o, ho, hd⟩ := hcl'; ⟨o, keep2 _ _ (Ne.symm hIc) ho, hd⟩
      refine wpAny_assign_Name (wpAny_storeName_cell hkind (hxk _ _) (by simp [compEnvC]) hcl2 fun h₃ hv₃ hs₃ => ?_)
      have keep3 : ∀ b o, b ≠ C + 1 → h₂.get? b = some o → h₃.get? b = some o := fun b o hb e => hs₃.extBut b o hb e
      have hx3 : Ext s₁.heap h₃ := fun b o eb => keep3 b o (below b o eb).2.2.1 (keep2 b o (below b o eb).2.2.2 (hk' b o eb))
      have hn3 : h₃.Ns C m' := (hn'.at' fun o e => keep2 _ o (Ne.symm hIC) e).at' fun o e => keep3 _ o hCc e
      refine wpAny_tests_nil ?_
      simp only [if_true]
      refine wpAny_mono (turn C (C + 1) i v h₃ _ m' (by omega) (by omega) hCc hlt hPv hn3 hv₃ hx3) (fun y s₆ h₆ => ?_) fun _ _ x => x.elim
      obtain ⟨hr, h₆', tk₆, rfl, hk₆⟩ := h₆
      have hD₂ : h₃.get? D = some (listOf (outs rs).toArray e) := keep3 _ _ hDc (keep2 _ _ (Ne.symm hID) hD')
      have hlen : (outs rs).length ≤ sizeLine := Nat.le_trans (List.length_filterMap_le ..) (by rw [hyl]; exact Nat.le_trans hi hsz)
      refine append_at (hsz := by rw [List.size_toArray]; exact hlen) (hk₆ _ _ hD₂) fun h₇ hs₇ hD₇ => ?_
      have kept : ∀ b o, b ≠ D → h₃.get? b = some o → h₇.get? b = some o := fun b o hb eb => hs₇.extBut b o hb (hk₆ b o eb)
      refine ⟨n + 1 - (i + 1), by omega, h₇, _, i + 1, rs ++ [some y], e + 1, m', some v, rfl, hlt, rfl, by simp [hyl], W.frame _ _ _ hst₂ fun b hb o eb => ?_, hn3.at' fun o eb => kept _ o (Ne.symm hDC) eb, let ⟨o, ho, hd⟩ := hv₃; ⟨o, kept _ _ (Ne.symm hDc) ho, hd⟩, ?_, ?_, fun b o eb => kept b o (below b o eb).2.1 (hx3 b o eb)⟩
      · rw [List.mem_singleton.mp hb] at eb ⊢
        exact kept _ o hID (keep3 _ o hIc eb)
      · rw [hD₇]; simp [outs]
      · intro j r hj
        rw [List.getElem?_append] at hj
        split at hj
        · exact hR' j r hj
        · rename_i q
          have : j = i := by
            have : j - rs.length < 1 := by
              rcases Nat.lt_or_ge (j - rs.length) 1 with q2 | q2
              · exact q2
              · rw [List.getElem?_eq_none (by simpa using q2)] at hj; cases hj
            omega
          subst this
          rw [show j - rs.length = 0 by omega] at hj
          cases hj; exact hr
    · obtain rfl : i = n := Nat.le_antisymm hi (Nat.not_lt.mp hlt)
      refine W.done _ _ _ hst' fun h₂ tk₂ hk₂ => ?_
      have keep2 : ∀ b o, b ≠ I → h'.get? b = some o → h₂.get? b = some o := fun b o hb e => hk₂ b o (by simpa using hb) e
      exact hRR _ _ h₂ tk₂ m' rs e (fresh _ (by omega)) (fresh _ (by omega)) hDC (hn'.at' fun o e => keep2 _ o (Ne.symm hIC) e) (keep2 _ _ (Ne.symm hID) hD') hyl hR' fun b o eb => keep2 b o (below b o eb).2.2.2 (hk' b o eb)
  exact codeAny_compStart_list (loop _ rfl) (W.self 0 _ _ _ hst₁ (loop _ rfl))

noncomputable def CompAtK (prog : Program) (w : World) (A : Around) (env : Env) (elt : Expr) (x : Str) (scope : Scope) (cl : List (Str × Addr)) (y : Str) (Q : Flow → Shared → Prop) (xv : Value) (s₁ : Shared) : Prop :=
  A.handled = none ∧ ∃ Rel : Nat → Option Value → Prop, ∃ h₀ m news, Fr h₀ env.locals s₁.heap m ∧ News h₀ env.locals s₁.heap news ∧
   (∃ r a b t u v n, xv = .ref r ∧ IsRange s₁.heap r a b 1 t u v ∧ Builtin.Range.small a b 1 = true ∧ Builtin.Range.rangeSize a b 1 = ((n : Nat) : Int) ∧ n ≤ sizeLine ∧
      TurnsK prog w A env elt x scope cl n (fun i v => ∃ t, v = .int (a + (i : Int)) t) Rel s₁ ∧ FinA h₀ env.locals m news y s₁ n Rel Q)

theorem assignCompK {y : Str} {py spos : Pos} {Q : Flow → Shared → Prop} (hclos : closureFor scope env = pure cl) (hc : ∀ n, cellsFrom n scope.names cl = (x, n) :: cl) (hpu : ∀ H, pushCells H scope.names = H.push cellO) (hxk : ∀ C c, (compEnvC scope ((x, c) :: cl) C env).kindOf x = some .cell) (hkind : scope.kind = .function)
    (hnames : ∀ y ∈ scope.names, y.2 = .local → scope.names.lookup y.1 = some .local) (hsw : swapsWith (.ListComp elt [⟨.Name x px, iter, [], 0⟩] scope pos) (some (.Name y py)) spos.line env = pure true)
    (hy : env.kindOf y = some .local) (hp : (env.scope.kind == .class || (env.scope.kind == .module && env.locals != env.globals)) = false)
    (h : wpAny (model prog w) A (eval iter env) (CompAtK prog w A env elt x scope cl y Q) E s)
    (hs : ∀ x, foldedSetIterable iter env x = pure x := by intro _; rfl) :
    wpAny (model prog w) A (exec (.Assign [.Name y py] (.ListComp elt [⟨.Name x px, iter, [], 0⟩] scope pos) spos) env) Q E s := by
  rw [exec_Assign_Name_used _ _ _ _ hsw]
  refine wpAny_bind (wpAny_standAt (wpAny_bind ?_))
  show wpAny _ A (do let _ ← comprehension (.ListComp elt [⟨.Name x px, iter, [], 0⟩] scope pos) scope env _ (newList []) false (eval iter env) (some (assign (.Name y py) env))) _ _ s
  refine wpAny_bind (wpAny_mono (wpAny_comprehension_free (use := some (assign (.Name y py) env)) (Q := fun _ s' => Q .next s') rfl hs hclos hkind hnames
    (wpAny_mono h (fun xv s₁ h₁ => ?_) fun _ _ e => e)) (fun _ s' hq => wpAny_pure (wpAny_pure hq)) fun _ _ e => e)
  obtain ⟨hh, Rel, h₀, m, news, F, N, r, a, b, t, u, v, n, rfl, hr, hsm, hn, hsz, T, fin⟩ := h₁
  refine wpAny_pyIter_range hr hsm ?_
  refine block_K (LCg.range_walks hh a n) rfl hsz Rel hc hpu hxk hkind (by show IsRangeIter _ _ _ _ _; rw [hn]; simpa using Heap.get?_push_size _ rfl) (fun i v s' Q' E' hP hst hQ => wpAny_of_eq (by rfl) hQ) T ?_
  intro D C h' tk m' rs e hD hC hDC hnC hDo hlen hR hk
  exact assign_fin (s₁ := s₁) hy hp F N hD hC hDC hnC hDo hlen hR hk fin
end
end Mine
end

namespace Mine
theorem freshL2 : True ∧ True := by
  k_with_none
  w_top off
  first | (walk1; all_goals exact trivial) | exact ⟨trivial, trivial⟩
end Mine
section
open PySem PySem.W PyProof.Rows
set_option Elab.async false
set_option maxRecDepth 100000
set_option maxHeartbeats 4000000
namespace Mine
open PySem.Calls PySem.Spec PySem.Flt

/-- what the numbers are, item by item -/
noncomputable def RelN (xs : List Arc) (i : Nat) (r : Option Value) : Prop := ∃ t, r = some (.int (lawNumber (xs.getD i (0, 0, 0)).2.1 (xs.getD i (0, 0, 0)).2.2) t)
theorem size_of {α : Type} {l : List α} {i : Nat} {v : α} (h : l[i]? = some v) : i < l.length := by
  rcases Nat.lt_or_ge i l.length with q | q
  · exact q
  · rw [List.getElem?_eq_none q] at h; cases h
noncomputable def RelK (xs : List Arc) (i : Nat) (r : Option Value) : Prop := ∃ t, r = some (.int (cnt xs (i : Int)) t)
noncomputable def RelC (xs : List Arc) (S : Int) (j : Nat) (r : Option Value) : Prop := match r with
  | some _ => cut S (xs.getD j (0, 0, 0)) = true
  | none => cut S (xs.getD j (0, 0, 0)) = false
theorem relC_tail {xs : List Arc} {S : Int} {j : Nat} (h : Builtin.bitAnd (0 + S) (xs.getD j (0, 0, 0)).2.1 ≠ 0) : RelC xs S j none := by
  rw [Int.zero_add] at h
  have e : (Builtin.bitAnd S (xs.getD j (0, 0, 0)).2.1 == 0) = false := by simpa using h
  unfold RelC cut; rw [e, Bool.and_false]
theorem relC_head {xs : List Arc} {S : Int} {j : Nat} (h : Builtin.bitAnd (0 + S) (xs.getD j (0, 0, 0)).2.2 = 0) : RelC xs S j none := by
  rw [Int.zero_add] at h
  unfold RelC cut; rw [h]; rfl
theorem relC_yes {xs : List Arc} {S : Int} {j : Nat} {v : Value} (h : Builtin.bitAnd (0 + S) (xs.getD j (0, 0, 0)).2.2 ≠ 0) (h2 : Builtin.bitAnd (0 + S) (xs.getD j (0, 0, 0)).2.1 = 0) : RelC xs S j (some v) := by
  rw [Int.zero_add] at h h2
  have e : (Builtin.bitAnd S (xs.getD j (0, 0, 0)).2.2 == 0) = false := by simpa using h
  unfold RelC cut; rw [h2, e]; rfl
theorem filter_len (p : Arc → Bool) (xs : List Arc) : ∀ L : List Nat, (((L.filter fun k => p (xs.getD k (0, 0, 0))).length : Nat) : Int) = (L.map fun k => i01 (p (xs.getD k (0, 0, 0)))).sum
  | [] => rfl
  | k :: L => by
    rw [List.map_cons, List.sum_cons, ← filter_len p xs L, List.filter_cons]
    cases p (xs.getD k (0, 0, 0)) with
    | true => simp only [if_true, List.length_cons]; have : i01 true = 1 := rfl; omega
    | false => simp only [Bool.false_eq_true, if_false]; have : i01 false = 0 := rfl; omega
theorem outs_cnt {xs : List Arc} {S : Int} {rs : List (Option Value)} (hl : rs.length = xs.length) (h : ∀ j r, rs[j]? = some r → RelC xs S j r) : ((outs rs).length : Int) = cnt xs S := by
  have key : ∀ (rs : List (Option Value)) (k : Nat), (∀ j r, rs[j]? = some r → RelC xs S (k + j) r) → (outs rs).length = ((List.range' k rs.length).filter fun k => cut S (xs.getD k (0, 0, 0))).length := by
    intro rs
    induction rs with
    | nil => intro k _; rfl
    | cons r rs ih =>
      intro k h
      have ih := ih (k + 1) fun j r hr => by have := h (j + 1) r (by simpa using hr); rwa [show k + (j + 1) = k + 1 + j by omega] at this
      have h0 := h 0 r rfl
      rw [Nat.add_zero] at h0
      rw [List.length_cons, List.range'_succ, List.filter_cons]
      cases r with
      | none => simp only [RelC] at h0; rw [h0]; simpa [outs] using ih
      | some v => simp only [RelC] at h0; rw [h0]; simpa [outs] using ih
  have := key rs 0 (by simpa using h)
  rw [this, hl, ← List.range_eq_range', filter_len, map_getD_range (fun x => i01 (cut S x))]
  rfl
theorem news_cons {h₀ h : Heap} {L c : Addr} {o : Obj} {news : List (Addr × Obj)} (N : News h₀ L h news) (h1 : h.get? c = some o) (h2 : c ≠ L) (h3 : h₀.get? c = none) : News h₀ L h ((c, o) :: news) := fun p hp => by
  rcases List.mem_cons.mp hp with rfl | hp
  · exact ⟨h1, h2, h3⟩
  · exact N p hp
theorem old_none {h₀ h : Heap} {L c : Addr} {m : Str → Option Value} (F : Fr h₀ L h m) (hc : h.objs.size ≤ c) : h₀.get? c = none := by
  cases e : h₀.get? c with
  | none => rfl
  | some o => exact absurd (Heap.lt_size (F.keep c o e)) (Nat.not_lt.mpr hc)
theorem tup3_eq {h : Heap} {a : Addr} {v1 v2 v3 u1 u2 u3 : Value} (h1 : IsTup h a #[v1, v2, v3]) (h2 : h.get? a = some (tupO #[u1, u2, u3])) : v1 = u1 ∧ v2 = u2 ∧ v3 = u3 := by
  obtain ⟨o, ho, _, n, hd⟩ := h1
  rw [h2] at ho
  cases ho
  have e : (#[u1, u2, u3] : Array Value) = #[v1, v2, v3] := (Data.seq.inj hd).1
  simp only [Array.mk.injEq, List.cons.injEq, and_true] at e
  exact ⟨e.1.symm, e.2.1.symm, e.2.2.symm⟩
theorem place_head {x : Arc} (h : GoodArc x) : Place x.2.2 := by
  rcases h.head with e | e | e <;> rw [e]
  · exact pl1
  · exact pl2
  · exact pl4
theorem wordsL20 : True := by
  k_with_none
  (k_with "m call ref" => refine Hold.mk' ?_)
  (k_with "m compareOp NotEq ref ref" => refine Hold.mk' ?_)
  (k_with "m compareOp Eq ref ref" => refine Hold.mk' ?_)
  (k_with "m exec Assign cons ListComp" => refine Hold.mk' ?_)
  (k_with "m eval ListComp" => refine Hold.mk' ?_)
  (k_with "m execs cons" => ((with_reducible rename Stop => st); clear st; refine Hold.mk' ?_))
  trivial
theorem law_2 {w : World} {dp un : Nat} {gd : Option (List Code)} {s : Shared} {g base : Heap} {outer : List Env} {p : Program} {loose : List Str} {mean : ExcName → Option Value} {mg mb : Str → Option Value} {Q : Flow → Shared → Prop} {E : Value → Shared → Prop}
   {sc : Scope} {b : List Stmt} {L fa D1 DA DP : Addr} {cd : Value} {m : Str → Option Value} {hv av : List Value} {hs : List Int} {n1 n2 most : Nat} {cA cP oD : Obj} {TA : List (Addr × Obj)} {xs : List Arc} {ks : List Tri}
   (hsc : lawScope w = some sc) (hb : lawRest w 3 = some b) 
   (F : Fr g L s.heap m) (mH : m "hues" = some (.ref D1))
   (N : News g L s.heap ((41, tabObj #[]) :: (L + 1, cA) :: (L + 1 + 1, cP) :: (DA, listOf av.toArray n2) :: (D1, listOf hv.toArray n1) :: (DP, oD) :: TA))
   (h41 : ∀ p ∈ (L + 1, cA) :: (L + 1 + 1, cP) :: (DA, listOf av.toArray n2) :: (D1, listOf hv.toArray n1) :: (DP, oD) :: TA, p.1 ≠ 41)
   (eA : cA.data = .cell (some (.ref DA))) (eP : cP.data = .cell (some (.ref DP))) (hD : DictAt Challenge.rw_tl0025_01.row.prog w DP oD)
   (hH : IntsAre hv hs) (hl : hs.length = 12) (hA : ArcsIn TA av xs) (P : Plan xs most ks)
   (B : Below (At dp un gd outer) base outer g) (X : (frag w.params).In g) (T : Top p loose mean mg mb g) (hdp : dp ≤ 850) (hun : un < 8000) (C : CodeHd g 45 41)
   (hret : ∀ h' tk' m' ps, Fr g L h' m' → News g L h' [(41, tabObj ps)] → Q (.ret (.bool true)) {s with heap := h', toks := tk'}) :
   wpAny (model Challenge.rw_tl0025_01.row.prog w) ((At dp un gd outer).deeper (lawEnv sc L fa cd)) (execs b (lawEnv sc L fa cd)) Q E s := by
  revert X; k_fill; intro X
  refine law_lit (Goal := fun sc b => wpAny _ ((At dp un gd outer).deeper (lawEnv sc L fa cd)) (execs b (lawEnv sc L fa cd)) Q E s) hsc hb (by with_unfolding_all rfl) (by with_unfolding_all rfl) ?_
  unfold lawEnv
  try k_fold
  have F1 := know F mH
  clear F mH
  k_steps
  unfold Hold
  rename Fr _ _ _ _ => F'
  rename News _ _ _ _ => N'
  have hav : (av.toArray.size != (#[] : Array Value).size) = true := by
    have := P.len2
    have e : av.length = xs.length := arcs_len' hA
    have z : av.toArray.size ≠ 0 := by rw [List.size_toArray]; omega
    simpa using z
  refine PySem.SeqAt.eq_list_lengthsAt (News.isList N' (.tail _ (.tail _ (.tail _ (.tail _ (.head _)))))) (News.isList (items := #[]) N' (.head _)) hav (by show un + 3 < cLine; show un + 3 < 9900; omega) ?_
  obtain ⟨lo, kvs, hd1, hd2⟩ := id hD
  (try dsimp only)
  k_steps
  unfold Hold
  rename Fr _ _ _ _ => F'
  rename News _ _ _ _ => N'
  refine ne_ints_no (ns := [0, 1, 2, 4]) (ms := [0, 1, 2, 4]) (News.isList (items := List.toArray [_, _, _, _]) N' (.tail _ (.head _))) (.cons _ _ (.cons _ _ (.cons _ _ (.cons _ _ .nil)))) (News.isList (items := List.toArray [_, _, _, _]) N' (.head _)) (.cons _ _ (.cons _ _ (.cons _ _ (.cons _ _ .nil)))) (by show un + 3 + 64 < cLine; show un + 3 + 64 < 9900; omega) rfl ?_
  have N2 := newsTail (newsTail (newsTail N'))
  clear N' hav
  (try dsimp only)
  k_steps
  unfold Hold
  rename Fr _ _ _ _ => F'
  rename News _ _ _ _ => N'
  refine assignComp (by with_unfolding_all rfl) (by decide) rfl (by decide) (by with_unfolding_all rfl) (by rfl) (by rfl) ?_
  k_steps
  rename Fr _ _ _ _ => F'
  rename News _ _ _ _ => N'
  have hlA : av.length = xs.length := arcs_len' hA
  have hlN : (List.map (fun x : Arc => lawNumber x.2.1 x.2.2) xs).length = xs.length := List.length_map ..
  refine ⟨rfl, RelN xs, g, _, _, F', N', Or.inl ⟨_, _, rfl, News.isList N' (.tail _ (.tail _ (.tail _ (.head _)))), (by rw [List.size_toArray, hlA]; exact Nat.le_trans P.len (by decide)), Or.inr ⟨_, _, _, rfl, fun i v hv => ?_⟩, ?_, ?_⟩⟩
  · obtain ⟨a, t1, t2, t3, e, _⟩ := arcs_at hA (k := i) (by rw [← hlA]; exact size_of (by simpa using hv))
    have hv' : av[i]? = some v := by simpa using hv
    rw [e] at hv'; cases hv'; exact ⟨a, rfl⟩
  · refine Turns.three rfl rfl rfl rfl rfl (by decide) (by decide) (by decide) ?_ ?_
    · intro i v hi hv
      obtain ⟨a, t1, t2, t3, e, hm⟩ := arcs_at hA (k := i) (by rw [← hlA]; exact size_of (by simpa using hv))
      have hv' : av[i]? = some v := by simpa using hv
      rw [e] at hv'; cases hv'
      exact ⟨a, _, _, _, rfl, News.isTup N' (.tail _ (.tail _ (.tail _ (.tail _ (.tail _ (.tail _ hm))))))⟩
    · intro C i a v1 v2 v3 h tk m3 hC hi hv hT hn e1 e2 e3 hx
      have hi' : i < xs.length := by rw [← hlA]; exact size_of (by simpa using hv)
      obtain ⟨a', t1, t2, t3, e, hm⟩ := arcs_at hA (k := i) hi'
      have hv' : av[i]? = some (.ref a) := by simpa using hv
      rw [e] at hv'; cases hv'
      obtain ⟨q1, q2, q3⟩ := tup3_eq hT (N'.get (.tail _ (.tail _ (.tail _ (.tail _ (.tail _ (.tail _ hm)))))))
      subst q1 q2 q3
      have hgd := P.good _ (by rw [getD_get _ _ hi']; exact List.getElem_mem hi' : xs.getD i (0, 0, 0) ∈ xs)
      have hpl := hgd.tail
      have hph := place_head hgd
      obtain ⟨F4, N4⟩ := compFrame F' N' hC hx hn
      have F5 := know (know F4 e2) ((if_neg (by decide)).trans e3)
      have FL : Hold (Fr g L h _) := F'.kept hx
      clear F' N' F4 hd1 hd2 lo
      refine wpAny_tests_nil ?_
      k_steps
      any_goals (first | exact (show Addr from (0 : Nat)) | exact (⟨#[]⟩ : Str) | exact Value.none | exact ([] : List (Str × Addr)))
      unfold Hold at FL ⊢
      refine number_spec DP _ _ _ _ (hD.pow N4 (.tail _ (.tail _ (.tail _ (.tail _ (.tail _ (.head _))))))) hpl hph (pushX B FL rfl rfl) (Frag.In.keeps X FL.keep) (Top.keeps T FL.keep) (by show dp + 1 ≤ 880; omega) ?_
      intro h9 tk9 t9 x9
      exact ⟨⟨_, rfl⟩, h9, _, m3, rfl, hn.at' fun o e => x9 _ o e, fun b o _ e => x9 b o e⟩
  · intro DN rs e4 h4 tk4 F4 N4 off4 hlen4 hR4
    clear F' N'
    have F' : Fr g L h4 _ := F4
    have N' : News g L h4 _ := N4
    clear F4 N4
    (try dsimp only)
    have hOut : IntsAre (outs rs) (xs.map fun x => lawNumber x.2.1 x.2.2) := by
      have z := outs_filter (n := xs.length) (P := fun _ => true) (f := fun i => lawNumber (xs.getD i (0, 0, 0)).2.1 (xs.getD i (0, 0, 0)).2.2) (by rw [hlen4, List.size_toArray, hlA]) (fun i r hr => by obtain ⟨t, rfl⟩ := hR4 i r hr; exact ⟨rfl, t, rfl⟩)
      rw [List.filter_eq_self.mpr (fun _ _ => rfl)] at z
      rw [← map_getD_range (fun x : Arc => lawNumber x.2.1 x.2.2) (0, 0, 0) xs]
      exact z
    generalize outs rs = nv at *
    have hDN : DN ≠ 41 := fun q => off4 _ (.head _) q.symm
    clear hlen4 hR4 off4
    k_steps
    unfold Hold
    rename Fr _ _ _ _ => F'
    rename News _ _ _ _ => N'
    refine assignCompK (by with_unfolding_all rfl) (fun n => by rfl) (fun H => by rfl) (fun C c => by rfl) rfl (by decide) (by with_unfolding_all rfl) (by rfl) (by rfl) ?_
    k_steps
    rename IsRange _ _ _ _ _ _ _ _ => R'
    rename Fr _ _ _ _ => F'
    rename News _ _ _ _ => N'
    refine ⟨rfl, RelK xs, g, _, _, F', N', _, 0, 8, _, _, _, 8, rfl, R', by decide, by decide, by decide, ?_, ?_⟩
    · rintro C c i v h tk m3 hC hc hCc hi ⟨t, rfl⟩ hn ⟨oc, hoc, hdc⟩ hx
      obtain ⟨F4, N4⟩ := compFrame F' N' hC hx hn
      have N5 := news_cons N4 hoc (Ne.symm hCc) (old_none F' hc)
      clear F' N' N4
      k_steps
      unfold Hold
      refine evalComp (by with_unfolding_all rfl) (by decide) rfl (by decide) ?_
      k_steps
      rename Fr _ _ _ _ => F6
      rename News _ _ _ _ => N6
      refine ⟨rfl, RelC xs (i : Int), Or.inl ⟨_, _, rfl, News.isList N6 (.tail _ (.tail _ (.tail _ (.tail _ (.tail _ (.head _)))))), (by rw [List.size_toArray, hlA]; exact Nat.le_trans P.len (by decide)), Or.inr ⟨_, _, _, rfl, fun j v hv => ?_⟩, ?_, ?_⟩⟩
      · obtain ⟨a, t1, t2, t3, e, _⟩ := arcs_at hA (k := j) (by rw [← hlA]; exact size_of (by simpa using hv))
        have hv' : av[j]? = some v := by simpa using hv
        rw [e] at hv'; cases hv'; exact ⟨a, rfl⟩
      · refine Turns.three rfl rfl rfl rfl rfl (by decide) (by decide) (by decide) ?_ ?_
        · intro j v hj hv
          obtain ⟨a, t1, t2, t3, e, hm⟩ := arcs_at hA (k := j) (by rw [← hlA]; exact size_of (by simpa using hv))
          have hv' : av[j]? = some v := by simpa using hv
          rw [e] at hv'; cases hv'
          exact ⟨a, _, _, _, rfl, News.isTup N6 (.tail _ (.tail _ (.tail _ (.tail _ (.tail _ (.tail _ (.tail _ (.tail _ hm))))))))⟩
        · intro C2 j a v1 v2 v3 h2 tk2 m4 hC2 hj hv hT hn2 e1 e2 e3 hx2
          have hj' : j < xs.length := by rw [← hlA]; exact size_of (by simpa using hv)
          obtain ⟨a', t1, t2, t3, e, hm⟩ := arcs_at hA (k := j) hj'
          have hv' : av[j]? = some (.ref a) := by simpa using hv
          rw [e] at hv'; cases hv'
          obtain ⟨q1, q2, q3⟩ := tup3_eq hT (N6.get (.tail _ (.tail _ (.tail _ (.tail _ (.tail _ (.tail _ (.tail _ (.tail _ hm)))))))))
          subst q1 q2 q3
          obtain ⟨F7, N7⟩ := compFrame F6 N6 hC2 hx2 hn2
          have F8 := know (know F7 e2) ((if_neg (by decide)).trans e3)
          clear F6 N6 F7
          refine wpAny_tests_one ?_
          k_steps
          any_goals (first | exact (show Addr from (0 : Nat)) | exact (⟨#[]⟩ : Str) | exact Value.none | exact ([] : List (Str × Addr)))
          · exact ⟨relC_tail (by assumption), h2, _, m4, rfl, hn2, fun b o _ e => e⟩
          · exact ⟨relC_yes (by assumption) (by assumption), h2, _, m4, rfl, hn2, fun b o _ e => e⟩
          · exact ⟨relC_head (by assumption), h2, _, m4, rfl, hn2, fun b o _ e => e⟩
      · intro D5 rs e5 h5 tk5 hD5 hDo5 hlen5 hR5 hx5
        rename Fr _ _ _ _ => F6
        rename News _ _ _ _ => N6
        have hcnt := outs_cnt (by rw [hlen5, List.size_toArray, hlA]) hR5
        have hfit : ((outs rs).toArray.size : Int) < 2 ^ 63 := by
          have := (cnt_le xs (i : Int)).2
          have := P.len
          rw [List.size_toArray, hcnt]; omega
        clear F6 N6
        k_steps
        refine len_list ⟨_, hDo5, rfl, _, rfl⟩ hfit ?_
        have hsz : ((outs rs).toArray.size : Int) = cnt xs (i : Int) := by rw [List.size_toArray]; exact hcnt
        exact ⟨⟨_, by rw [hsz]⟩, h5, _, rfl, hx5⟩
    · intro DC rs e6 h6 tk6 F4 N4 off4 hlen4 hR4
      clear F' N'
      have F' : Fr g L h6 _ := F4
      have N' : News g L h6 _ := N4
      clear F4 N4
      (try dsimp only)
      have hCuts : IntsAre (outs rs) (cutsOf xs) := by
        have z := outs_filter (n := 8) (P := fun _ => true) (f := fun i => cnt xs (i : Int)) hlen4 (fun i r hr => by obtain ⟨t, rfl⟩ := hR4 i r hr; exact ⟨rfl, t, rfl⟩)
        rw [List.filter_eq_self.mpr (fun _ _ => rfl)] at z
        exact z
      generalize outs rs = cv at *
      have hDC : DC ≠ 41 := fun q => off4 _ (.tail _ (.head _)) q.symm
      clear hlen4 hR4 off4 R'
      have N2 := News.sub (l' := (41, tabObj #[]) :: (L + 1, cA) :: (L + 1 + 1, cP) :: (DA, listOf av.toArray n2) :: (D1, listOf hv.toArray n1) :: (DP, oD) :: (DN, listOf nv.toArray e4) :: (DC, listOf cv.toArray e6) :: TA) N' (pick (by k_mem) (pick (by k_mem) (pick (by k_mem) (pick (by k_mem) (pick (by k_mem) (pick (by k_mem) (pick (by k_mem) (pick (by k_mem) (fun p hp => .tail _ (.tail _ (.tail _ (.tail _ (.tail _ (.tail _ (.tail _ (.tail _ hp))))))))))))))))
      have h41' : ∀ p ∈ (L + 1, cA) :: (L + 1 + 1, cP) :: (DA, listOf av.toArray n2) :: (D1, listOf hv.toArray n1) :: (DP, oD) :: (DN, listOf nv.toArray e4) :: (DC, listOf cv.toArray e6) :: TA, p.1 ≠ 41 := pickN (h41 _ (.head _)) (pickN (h41 _ (.tail _ (.head _))) (pickN (h41 _ (.tail _ (.tail _ (.head _)))) (pickN (h41 _ (.tail _ (.tail _ (.tail _ (.head _))))) (pickN (h41 _ (.tail _ (.tail _ (.tail _ (.tail _ (.head _)))))) (pickN hDN (pickN hDC (fun p hp => h41 p (.tail _ (.tail _ (.tail _ (.tail _ (.tail _ hp))))))))))))
      clear N'
      have st := stop
      k_steps
      unfold Hold
      rename Fr _ _ _ _ => F'
      rename News _ _ _ _ => N'
      exact law_3 (by with_unfolding_all rfl) (by with_unfolding_all rfl) F' (by with_unfolding_all rfl) (by with_unfolding_all rfl) (by with_unfolding_all rfl) N' h41' eA eP hD hH hl hA hOut hCuts P B X T hdp hun C (fun h' tk' m' ps F9 N9 => hret h' tk' m' ps F9 N9)
end Mine
end

namespace Mine
theorem freshL1 : True ∧ True := by
  k_with_none
  w_top off
  first | (walk1; all_goals exact trivial) | exact ⟨trivial, trivial⟩
end Mine
section
open PySem PySem.W PyProof.Rows
set_option Elab.async false
set_option maxRecDepth 100000
set_option maxHeartbeats 4000000
namespace Mine
open PySem.Calls PySem.Spec PySem.Flt

theorem hues_facts (ns : List Int) (f : Int) : (huesOf ns).length = 12 ∧ (∀ h ∈ huesOf ns, 0 ≤ h ∧ h < 36) ∧ 2 ≤ (rawArcs f (huesOf ns)).length ∧ ∀ xs : List Arc, xs.Perm (rawArcs f (huesOf ns)) → ∃ most ks, Plan xs most ks := by
  unfold huesOf
  generalize hH : List.map (fun k' : Int => (plan.getD k'.toNat 0 + (padOf ns).getD k'.toNat 0).fmod 36) (rangeKs 0 (9 - 0 : Int).toNat) = hs
  have h9 : hs.length = 9 := by rw [← hH, List.length_map]; decide
  have hb : ∀ h ∈ hs, 0 ≤ h ∧ h < 36 := fun h hh => by
    rw [← hH] at hh
    obtain ⟨k, _, rfl⟩ := List.mem_map.mp hh
    exact ⟨Int.fmod_nonneg_of_pos _ (by decide), Int.fmod_lt_of_pos _ (by decide)⟩
  have hb2 : ∀ h ∈ hs ++ [0, 4, 8], 0 ≤ h ∧ h < 36 := fun h hh => by
    rcases List.mem_append.mp hh with q | q
    · exact hb h q
    · simp only [List.mem_cons, List.not_mem_nil, or_false] at q; omega
  refine ⟨by rw [List.length_append, h9]; rfl, hb2, ?_, fun xs hp => plan_of h9 hb hp⟩
  have := (raw_ok f hb2).len1
  rw [List.length_append, h9] at this
  exact Nat.le_trans (by decide) this
local macro_rules | `(tactic| k_all) => `(tactic| with_reducible assumption)
theorem wordsL10 : True := by
  k_with_none
  (k_with "m call ref" => refine Hold.mk' ?_)
  (k_with "m execs cons" => ((with_reducible rename Stop => st); clear st; refine Hold.mk' ?_))
  trivial
theorem law_1 {w : World} {dp un : Nat} {gd : Option (List Code)} {s : Shared} {g base : Heap} {outer : List Env} {p : Program} {loose : List Str} {mean : ExcName → Option Value} {mg mb : Str → Option Value} {Q : Flow → Shared → Prop} {E : Value → Shared → Prop}
   {sc : Scope} {b : List Stmt} {L fa lw : Addr} {cd : Value} {m : Str → Option Value} {ws : List Value} {ns : List Int} {oP oA : Obj}
   (hsc : lawScope w = some sc) (hb : lawRest w 0 = some b) (h1 : g.IsList lw ws.toArray) (hI : IntsAre ws ns) (hlen : ns.length ≤ 63)
   (F : Fr g L s.heap m) (hm : m "script" = some (.ref lw)) (N : News g L s.heap [(L + 1 + 1, oP), (L + 1, oA), (41, tabObj #[])]) (eP : oP.data = .cell none) (eA : oA.data = .cell none) (l0 : 41 < L)
   (B : Below (At dp un gd outer) base outer g) (X : (frag w.params).In g) (T : Top p loose mean mg mb g) (hdp : dp ≤ 850) (hun : un < 8000) (C : CodeHd g 45 41)
   (hret : ∀ h' tk' d' m' ps, Fr g L h' m' → News g L h' [(41, tabObj ps)] → Q (.ret (.bool true)) {s with heap := h', toks := tk', drawn := d'}) :
   wpAny (model Challenge.rw_tl0025_01.row.prog w) ((At dp un gd outer).deeper (lawEnv sc L fa cd)) (execs b (lawEnv sc L fa cd)) Q E s := by
  revert X; k_fill; intro X
  refine law_lit (Goal := fun sc b => wpAny _ ((At dp un gd outer).deeper (lawEnv sc L fa cd)) (execs b (lawEnv sc L fa cd)) Q E s) hsc hb (by with_unfolding_all rfl) (by with_unfolding_all rfl) ?_
  unfold lawEnv
  try k_fold
  obtain ⟨hHl, hHb, hraw, hPlan⟩ := hues_facts ns ((huesOf ns).sum.fmod 12)
  have F1 := know F hm
  clear F hm
  k_steps
  unfold Hold
  rename Fr _ _ _ _ => F'
  rename News _ _ _ _ => N'
  refine hues_spec _ ws ns (Fr.lst F' h1) hI hlen (pushX B F' rfl rfl) (Frag.In.keeps X F'.keep) (Top.keeps T F'.keep) (by show dp + 1 ≤ 900; omega) ?_
  intro D1 hv n1 hh1 tk1 x1 x2 x3 hH
  obtain ⟨F2, N2, l2⟩ := useT F' N' x1 x2 x3 (T := []) (fun _ h => nomatch h)
  clear F' N' x1 x2 x3
  have hlt : @Ne Nat D1 (L + 1) ∧ @Ne Nat D1 (L + 1 + 1) ∧ @Ne Nat D1 41 := ⟨l2 (L + 1, oA) (by simp) _ (.head _), l2 (L + 1 + 1, oP) (by simp) _ (.head _), l2 (41, tabObj #[]) (by simp) _ (.head _)⟩
  clear l2
  k_steps
  unfold Hold
  rename Fr _ _ _ _ => F'
  rename News _ _ _ _ => N'
  refine arcs_spec _ hv (huesOf ns) _ _ (News.isList N' (List.mem_append_right _ (.head _))) hH hHl hHb (pushX B F' rfl rfl) (Frag.In.keeps X F'.keep) (Top.keeps T F'.keep) hraw (by show dp + 1 ≤ 880; omega) (by show un + 3 < 9000; omega) ?_
  intro DA av xs TA n2 hh2 tk2 x1 x2 x3 x4 hA hPerm
  obtain ⟨F3, N3, l3⟩ := useT F' N' x1 x2 x3 x4
  have N4 : News g L hh2 ((L + 1, oA) :: (L + 1 + 1, oP) :: (41, tabObj #[]) :: (DA, listOf av.toArray n2) :: (D1, listOf hv.toArray n1) :: TA) := News.sub N3 (pick (List.mem_append_left _ (by k_mem)) (pick (List.mem_append_left _ (by k_mem)) (pick (List.mem_append_left _ (by k_mem)) (pick (List.mem_append_right _ (.head _)) (pick (List.mem_append_left _ (by k_mem)) (fun p hp => List.mem_append_right _ (.tail _ hp)))))))
  have hallA : ∀ p ∈ (L + 1 + 1, oP) :: (41, tabObj #[]) :: (DA, listOf av.toArray n2) :: (D1, listOf hv.toArray n1) :: TA, p.1 ≠ L + 1 :=
    pickN (by show @Ne Nat (L + 1 + 1) (L + 1); omega) (pickN (by show @Ne Nat 41 (L + 1); have : @LT.lt Nat _ 41 L := l0; omega) (pickN (l3 (L + 1, oA) (by simp) _ (.head _)) (pickN hlt.1 (fun p hp => l3 (L + 1, oA) (by simp) _ (.tail _ hp)))))
  have hallP : ∀ p ∈ (41, tabObj #[]) :: (DA, listOf av.toArray n2) :: (D1, listOf hv.toArray n1) :: TA, p.1 ≠ L + 1 + 1 :=
    pickN (by show @Ne Nat 41 (L + 1 + 1); have : @LT.lt Nat _ 41 L := l0; omega) (pickN (l3 (L + 1 + 1, oP) (by simp) _ (.head _)) (pickN hlt.2.1 (fun p hp => l3 (L + 1 + 1, oP) (by simp) _ (.tail _ hp))))
  have hall41 : ∀ p ∈ (DA, listOf av.toArray n2) :: (D1, listOf hv.toArray n1) :: TA, p.1 ≠ 41 :=
    pickN (l3 (41, tabObj #[]) (by simp) _ (.head _)) (pickN hlt.2.2 (fun p hp => l3 (41, tabObj #[]) (by simp) _ (.tail _ hp)))
  obtain ⟨most, ks, P⟩ := hPlan xs hPerm
  clear F' N' N3 l3 x1 x2 x3 x4 hlt hraw hPlan hPerm
  (try clear F2)
  (try clear N2)
  k_steps
  unfold Hold
  rename Fr _ _ _ _ => F'
  rename News _ _ _ _ => N'
  rename Obj => oA'
  rename oA'.data = _ => eA'
  refine powers_spec _ _ _ (pushX B F' rfl rfl) (Frag.In.keeps X F'.keep) (Top.keeps T F'.keep) (by show dp + 1 ≤ 880; omega) (by show un + 3 < 9000; omega) ?_
  intro DP oD kvs hh3 tk3 dr x1 x2 x3 lo hd1 hd2
  have hDict : DictAt Challenge.rw_tl0025_01.row.prog w DP oD := ⟨lo, kvs, hd1, hd2⟩
  obtain ⟨F5, N5, l5⟩ := useT F' N' x1 x2 x3 (T := []) (fun _ h => nomatch h)
  have N6 := News.sub (l' := (L + 1, oA') :: (L + 1 + 1, oP) :: (41, tabObj #[]) :: (DA, listOf av.toArray n2) :: (D1, listOf hv.toArray n1) :: (DP, oD) :: TA) N5 (pick (List.mem_append_left _ (by k_mem)) (pick (List.mem_append_left _ (by k_mem)) (pick (List.mem_append_left _ (by k_mem)) (pick (List.mem_append_left _ (by k_mem)) (pick (List.mem_append_left _ (by k_mem)) (pick (List.mem_append_right _ (.head _)) (fun p hp => List.mem_append_left _ (.tail _ (.tail _ (.tail _ (.tail _ (.tail _ hp))))))))))))
  have hDP : ∀ q ∈ (L + 1 + 1, oP) :: (41, tabObj #[]) :: (DA, listOf av.toArray n2) :: (D1, listOf hv.toArray n1) :: TA, DP ≠ q.1 := fun q hq => l5 q (.tail _ hq) (DP, oD) (.head _)
  have hallP2 : ∀ p ∈ (41, tabObj #[]) :: (DA, listOf av.toArray n2) :: (D1, listOf hv.toArray n1) :: (DP, oD) :: TA, p.1 ≠ L + 1 + 1 :=
    pickN (hallP _ (.head _)) (pickN (hallP _ (.tail _ (.head _))) (pickN (hallP _ (.tail _ (.tail _ (.head _)))) (pickN (hDP _ (.head _)) (fun p hp => hallP p (.tail _ (.tail _ (.tail _ hp)))))))
  have h41 : ∀ p ∈ (DA, listOf av.toArray n2) :: (D1, listOf hv.toArray n1) :: (DP, oD) :: TA, p.1 ≠ 41 :=
    pickN (hall41 _ (.head _)) (pickN (hall41 _ (.tail _ (.head _))) (pickN (hDP (41, tabObj #[]) (.tail _ (.head _))) (fun p hp => hall41 p (.tail _ (.tail _ hp)))))
  clear F' N' N5 l5 x1 x2 x3 hDP hallP hallA hall41 lo hd1 hd2
  (try dsimp only)
  have st := stop
  k_steps
  unfold Hold
  rename Fr _ _ _ _ => F'
  rename News _ _ _ _ => N'
  rename Obj => oP'
  rename oP'.data = _ => eP'
  have N7 := News.sub (l' := (41, tabObj #[]) :: (L + 1, oA') :: (L + 1 + 1, oP') :: (DA, listOf av.toArray n2) :: (D1, listOf hv.toArray n1) :: (DP, oD) :: TA) N' (pick (by k_mem) (pick (by k_mem) (pick (by k_mem) (pick (by k_mem) (pick (by k_mem) (pick (by k_mem) (fun p hp => .tail _ (.tail _ (.tail _ (.tail _ (.tail _ (.tail _ hp))))))))))))
  have h41' : ∀ p ∈ (L + 1, oA') :: (L + 1 + 1, oP') :: (DA, listOf av.toArray n2) :: (D1, listOf hv.toArray n1) :: (DP, oD) :: TA, p.1 ≠ 41 := fun p hp => by
    have l0' : @LT.lt Nat _ 41 L := l0
    rcases List.mem_cons.mp hp with rfl | hp
    · show @Ne Nat (L + 1) 41; omega
    rcases List.mem_cons.mp hp with rfl | hp
    · show @Ne Nat (L + 1 + 1) 41; omega
    · exact h41 p hp
  exact law_2 (by with_unfolding_all rfl) (by with_unfolding_all rfl) F' (by with_unfolding_all rfl) N7 h41' eA' eP' hDict hH hHl hA P B X T hdp hun C (fun h' tk' m' ps F9 N9 => hret h' tk' dr m' ps F9 N9)
end Mine
end

namespace Mine
theorem freshHm : True ∧ True := by
  k_with_none
  w_top off
  first | (walk1; all_goals exact trivial) | exact ⟨trivial, trivial⟩
end Mine
section
open PySem PySem.W PyProof.Rows
set_option Elab.async false
set_option maxRecDepth 100000
set_option linter.unusedVariables false
set_option maxHeartbeats 4000000
namespace Mine
noncomputable def fa (i : Nat) : Arguments := match funAt i with | some x => x.1 | none => { posonlyargs := [], args := [], vararg := none, kwonlyargs := [], kw_defaults := [], kwarg := none, defaults := [] }
noncomputable def fb (i : Nat) : List Stmt := match funAt i with | some x => x.2.1 | none => []
noncomputable def fs (i : Nat) : Scope := match funAt i with | some x => x.2.2 | none => { kind := .module, names := [], isGenerator := false, isCoroutine := false, more := [] }
noncomputable def ob1 (P : Params) : Obj := (Obj.mk (Value.type "dict") none (Data.dict (List.toArray ((DictEntry.mk (PyData.keyHash P (Str.ofString "__name__")) (Value.str (Str.ofString "__name__") 1) (Value.str (Str.ofString "builtins") 160)) :: (DictEntry.mk (PyData.keyHash P (Str.ofString "__doc__")) (Value.str (Str.ofString "__doc__") 2) (Value.builtin "builtins.__doc__:str#opaque")) :: (DictEntry.mk (PyData.keyHash P (Str.ofString "__package__")) (Value.str (Str.ofString "__package__") 3) (Value.builtin "builtins.__package__:str#opaque")) :: (DictEntry.mk (PyData.keyHash P (Str.ofString "__loader__")) (Value.str (Str.ofString "__loader__") 4) (Value.builtin "builtins.__loader__:shared#opaque")) :: (DictEntry.mk (PyData.keyHash P (Str.ofString "__spec__")) (Value.str (Str.ofString "__spec__") 5) (Value.builtin "builtins.__spec__#opaque")) :: (DictEntry.mk (PyData.keyHash P (Str.ofString "__build_class__")) (Value.str (Str.ofString "__build_class__") 6) (Value.builtin "__build_class__")) :: (DictEntry.mk (PyData.keyHash P (Str.ofString "__import__")) (Value.str (Str.ofString "__import__") 7) (Value.builtin "__import__")) :: (DictEntry.mk (PyData.keyHash P (Str.ofString "abs")) (Value.str (Str.ofString "abs") 8) (Value.builtin "abs")) :: (DictEntry.mk (PyData.keyHash P (Str.ofString "all")) (Value.str (Str.ofString "all") 9) (Value.builtin "all")) :: (DictEntry.mk (PyData.keyHash P (Str.ofString "any")) (Value.str (Str.ofString "any") 10) (Value.builtin "any")) :: (DictEntry.mk (PyData.keyHash P (Str.ofString "ascii")) (Value.str (Str.ofString "ascii") 11) (Value.builtin "ascii")) :: (DictEntry.mk (PyData.keyHash P (Str.ofString "bin")) (Value.str (Str.ofString "bin") 12) (Value.builtin "bin")) :: (DictEntry.mk (PyData.keyHash P (Str.ofString "breakpoint")) (Value.str (Str.ofString "breakpoint") 13) (Value.builtin "breakpoint")) :: (DictEntry.mk (PyData.keyHash P (Str.ofString "callable")) (Value.str (Str.ofString "callable") 14) (Value.builtin "callable")) :: (DictEntry.mk (PyData.keyHash P (Str.ofString "chr")) (Value.str (Str.ofString "chr") 15) (Value.builtin "chr")) :: (DictEntry.mk (PyData.keyHash P (Str.ofString "compile")) (Value.str (Str.ofString "compile") 16) (Value.builtin "compile")) :: (DictEntry.mk (PyData.keyHash P (Str.ofString "delattr")) (Value.str (Str.ofString "delattr") 17) (Value.builtin "delattr")) :: (DictEntry.mk (PyData.keyHash P (Str.ofString "dir")) (Value.str (Str.ofString "dir") 18) (Value.builtin "dir")) :: (DictEntry.mk (PyData.keyHash P (Str.ofString "divmod")) (Value.str (Str.ofString "divmod") 19) (Value.builtin "divmod")) :: (DictEntry.mk (PyData.keyHash P (Str.ofString "eval")) (Value.str (Str.ofString "eval") 20) (Value.builtin "eval")) :: (DictEntry.mk (PyData.keyHash P (Str.ofString "exec")) (Value.str (Str.ofString "exec") 21) (Value.builtin "exec")) :: (DictEntry.mk (PyData.keyHash P (Str.ofString "format")) (Value.str (Str.ofString "format") 22) (Value.builtin "format")) :: (DictEntry.mk (PyData.keyHash P (Str.ofString "getattr")) (Value.str (Str.ofString "getattr") 23) (Value.builtin "getattr")) :: (DictEntry.mk (PyData.keyHash P (Str.ofString "globals")) (Value.str (Str.ofString "globals") 24) (Value.builtin "globals")) :: (DictEntry.mk (PyData.keyHash P (Str.ofString "hasattr")) (Value.str (Str.ofString "hasattr") 25) (Value.builtin "hasattr")) :: (DictEntry.mk (PyData.keyHash P (Str.ofString "hash")) (Value.str (Str.ofString "hash") 26) (Value.builtin "hash")) :: (DictEntry.mk (PyData.keyHash P (Str.ofString "hex")) (Value.str (Str.ofString "hex") 27) (Value.builtin "hex")) :: (DictEntry.mk (PyData.keyHash P (Str.ofString "id")) (Value.str (Str.ofString "id") 28) (Value.builtin "id")) :: (DictEntry.mk (PyData.keyHash P (Str.ofString "input")) (Value.str (Str.ofString "input") 29) (Value.builtin "input")) :: (DictEntry.mk (PyData.keyHash P (Str.ofString "isinstance")) (Value.str (Str.ofString "isinstance") 30) (Value.builtin "isinstance")) :: (DictEntry.mk (PyData.keyHash P (Str.ofString "issubclass")) (Value.str (Str.ofString "issubclass") 31) (Value.builtin "issubclass")) :: (DictEntry.mk (PyData.keyHash P (Str.ofString "iter")) (Value.str (Str.ofString "iter") 32) (Value.builtin "iter")) :: (DictEntry.mk (PyData.keyHash P (Str.ofString "aiter")) (Value.str (Str.ofString "aiter") 33) (Value.builtin "aiter")) :: (DictEntry.mk (PyData.keyHash P (Str.ofString "len")) (Value.str (Str.ofString "len") 34) (Value.builtin "len")) :: (DictEntry.mk (PyData.keyHash P (Str.ofString "locals")) (Value.str (Str.ofString "locals") 35) (Value.builtin "locals")) :: (DictEntry.mk (PyData.keyHash P (Str.ofString "max")) (Value.str (Str.ofString "max") 36) (Value.builtin "max")) :: (DictEntry.mk (PyData.keyHash P (Str.ofString "min")) (Value.str (Str.ofString "min") 37) (Value.builtin "min")) :: (DictEntry.mk (PyData.keyHash P (Str.ofString "next")) (Value.str (Str.ofString "next") 38) (Value.builtin "next")) :: (DictEntry.mk (PyData.keyHash P (Str.ofString "anext")) (Value.str (Str.ofString "anext") 39) (Value.builtin "anext")) :: (DictEntry.mk (PyData.keyHash P (Str.ofString "oct")) (Value.str (Str.ofString "oct") 40) (Value.builtin "oct")) :: (DictEntry.mk (PyData.keyHash P (Str.ofString "ord")) (Value.str (Str.ofString "ord") 41) (Value.builtin "ord")) :: (DictEntry.mk (PyData.keyHash P (Str.ofString "pow")) (Value.str (Str.ofString "pow") 42) (Value.builtin "pow")) :: (DictEntry.mk (PyData.keyHash P (Str.ofString "print")) (Value.str (Str.ofString "print") 43) (Value.builtin "print")) :: (DictEntry.mk (PyData.keyHash P (Str.ofString "repr")) (Value.str (Str.ofString "repr") 44) (Value.builtin "repr")) :: (DictEntry.mk (PyData.keyHash P (Str.ofString "round")) (Value.str (Str.ofString "round") 45) (Value.builtin "round")) :: (DictEntry.mk (PyData.keyHash P (Str.ofString "setattr")) (Value.str (Str.ofString "setattr") 46) (Value.builtin "setattr")) :: (DictEntry.mk (PyData.keyHash P (Str.ofString "sorted")) (Value.str (Str.ofString "sorted") 47) (Value.builtin "sorted")) :: (DictEntry.mk (PyData.keyHash P (Str.ofString "sum")) (Value.str (Str.ofString "sum") 48) (Value.builtin "sum")) :: (DictEntry.mk (PyData.keyHash P (Str.ofString "vars")) (Value.str (Str.ofString "vars") 49) (Value.builtin "vars")) :: (DictEntry.mk (PyData.keyHash P (Str.ofString "None")) (Value.str (Str.ofString "None") 50) Value.none) :: (DictEntry.mk (PyData.keyHash P (Str.ofString "Ellipsis")) (Value.str (Str.ofString "Ellipsis") 51) Value.ellipsis) :: (DictEntry.mk (PyData.keyHash P (Str.ofString "NotImplemented")) (Value.str (Str.ofString "NotImplemented") 52) Value.notImplemented) :: (DictEntry.mk (PyData.keyHash P (Str.ofString "False")) (Value.str (Str.ofString "False") 53) (Value.bool Bool.false)) :: (DictEntry.mk (PyData.keyHash P (Str.ofString "True")) (Value.str (Str.ofString "True") 54) (Value.bool Bool.true)) :: (DictEntry.mk (PyData.keyHash P (Str.ofString "bool")) (Value.str (Str.ofString "bool") 55) (Value.type "bool")) :: (DictEntry.mk (PyData.keyHash P (Str.ofString "memoryview")) (Value.str (Str.ofString "memoryview") 56) (Value.type "memoryview")) :: (DictEntry.mk (PyData.keyHash P (Str.ofString "bytearray")) (Value.str (Str.ofString "bytearray") 57) (Value.type "bytearray")) :: (DictEntry.mk (PyData.keyHash P (Str.ofString "bytes")) (Value.str (Str.ofString "bytes") 58) (Value.type "bytes")) :: (DictEntry.mk (PyData.keyHash P (Str.ofString "classmethod")) (Value.str (Str.ofString "classmethod") 59) (Value.type "classmethod")) :: (DictEntry.mk (PyData.keyHash P (Str.ofString "complex")) (Value.str (Str.ofString "complex") 60) (Value.type "complex")) :: (DictEntry.mk (PyData.keyHash P (Str.ofString "dict")) (Value.str (Str.ofString "dict") 61) (Value.type "dict")) :: (DictEntry.mk (PyData.keyHash P (Str.ofString "enumerate")) (Value.str (Str.ofString "enumerate") 62) (Value.type "enumerate")) :: (DictEntry.mk (PyData.keyHash P (Str.ofString "filter")) (Value.str (Str.ofString "filter") 63) (Value.type "filter")) :: (DictEntry.mk (PyData.keyHash P (Str.ofString "float")) (Value.str (Str.ofString "float") 64) (Value.type "float")) :: (DictEntry.mk (PyData.keyHash P (Str.ofString "frozenset")) (Value.str (Str.ofString "frozenset") 65) (Value.type "frozenset")) :: (DictEntry.mk (PyData.keyHash P (Str.ofString "property")) (Value.str (Str.ofString "property") 66) (Value.type "property")) :: (DictEntry.mk (PyData.keyHash P (Str.ofString "int")) (Value.str (Str.ofString "int") 67) (Value.type "int")) :: (DictEntry.mk (PyData.keyHash P (Str.ofString "list")) (Value.str (Str.ofString "list") 68) (Value.type "list")) :: (DictEntry.mk (PyData.keyHash P (Str.ofString "map")) (Value.str (Str.ofString "map") 69) (Value.type "map")) :: (DictEntry.mk (PyData.keyHash P (Str.ofString "object")) (Value.str (Str.ofString "object") 70) (Value.type "object")) :: (DictEntry.mk (PyData.keyHash P (Str.ofString "range")) (Value.str (Str.ofString "range") 71) (Value.type "range")) :: (DictEntry.mk (PyData.keyHash P (Str.ofString "reversed")) (Value.str (Str.ofString "reversed") 72) (Value.type "reversed")) :: (DictEntry.mk (PyData.keyHash P (Str.ofString "set")) (Value.str (Str.ofString "set") 73) (Value.type "set")) :: (DictEntry.mk (PyData.keyHash P (Str.ofString "slice")) (Value.str (Str.ofString "slice") 74) (Value.type "slice")) :: (DictEntry.mk (PyData.keyHash P (Str.ofString "staticmethod")) (Value.str (Str.ofString "staticmethod") 75) (Value.type "staticmethod")) :: (DictEntry.mk (PyData.keyHash P (Str.ofString "str")) (Value.str (Str.ofString "str") 76) (Value.type "str")) :: (DictEntry.mk (PyData.keyHash P (Str.ofString "super")) (Value.str (Str.ofString "super") 77) (Value.type "super")) :: (DictEntry.mk (PyData.keyHash P (Str.ofString "tuple")) (Value.str (Str.ofString "tuple") 78) (Value.type "tuple")) :: (DictEntry.mk (PyData.keyHash P (Str.ofString "type")) (Value.str (Str.ofString "type") 79) (Value.type "type")) :: (DictEntry.mk (PyData.keyHash P (Str.ofString "zip")) (Value.str (Str.ofString "zip") 80) (Value.type "zip")) :: (DictEntry.mk (PyData.keyHash P (Str.ofString "__debug__")) (Value.str (Str.ofString "__debug__") 81) (Value.bool Bool.true)) :: (DictEntry.mk (PyData.keyHash P (Str.ofString "BaseException")) (Value.str (Str.ofString "BaseException") 82) (Value.type "BaseException")) :: (DictEntry.mk (PyData.keyHash P (Str.ofString "BaseExceptionGroup")) (Value.str (Str.ofString "BaseExceptionGroup") 83) (Value.type "BaseExceptionGroup")) :: (DictEntry.mk (PyData.keyHash P (Str.ofString "Exception")) (Value.str (Str.ofString "Exception") 84) (Value.type "Exception")) :: (DictEntry.mk (PyData.keyHash P (Str.ofString "GeneratorExit")) (Value.str (Str.ofString "GeneratorExit") 85) (Value.type "GeneratorExit")) :: (DictEntry.mk (PyData.keyHash P (Str.ofString "KeyboardInterrupt")) (Value.str (Str.ofString "KeyboardInterrupt") 86) (Value.type "KeyboardInterrupt")) :: (DictEntry.mk (PyData.keyHash P (Str.ofString "SystemExit")) (Value.str (Str.ofString "SystemExit") 87) (Value.type "SystemExit")) :: (DictEntry.mk (PyData.keyHash P (Str.ofString "ArithmeticError")) (Value.str (Str.ofString "ArithmeticError") 88) (Value.type "ArithmeticError")) :: (DictEntry.mk (PyData.keyHash P (Str.ofString "AssertionError")) (Value.str (Str.ofString "AssertionError") 89) (Value.type "AssertionError")) :: (DictEntry.mk (PyData.keyHash P (Str.ofString "AttributeError")) (Value.str (Str.ofString "AttributeError") 90) (Value.type "AttributeError")) :: (DictEntry.mk (PyData.keyHash P (Str.ofString "BufferError")) (Value.str (Str.ofString "BufferError") 91) (Value.type "BufferError")) :: (DictEntry.mk (PyData.keyHash P (Str.ofString "EOFError")) (Value.str (Str.ofString "EOFError") 92) (Value.type "EOFError")) :: (DictEntry.mk (PyData.keyHash P (Str.ofString "ImportError")) (Value.str (Str.ofString "ImportError") 93) (Value.type "ImportError")) :: (DictEntry.mk (PyData.keyHash P (Str.ofString "LookupError")) (Value.str (Str.ofString "LookupError") 94) (Value.type "LookupError")) :: (DictEntry.mk (PyData.keyHash P (Str.ofString "MemoryError")) (Value.str (Str.ofString "MemoryError") 95) (Value.type "MemoryError")) :: (DictEntry.mk (PyData.keyHash P (Str.ofString "NameError")) (Value.str (Str.ofString "NameError") 96) (Value.type "NameError")) :: (DictEntry.mk (PyData.keyHash P (Str.ofString "OSError")) (Value.str (Str.ofString "OSError") 97) (Value.type "OSError")) :: (DictEntry.mk (PyData.keyHash P (Str.ofString "ReferenceError")) (Value.str (Str.ofString "ReferenceError") 98) (Value.type "ReferenceError")) :: (DictEntry.mk (PyData.keyHash P (Str.ofString "RuntimeError")) (Value.str (Str.ofString "RuntimeError") 99) (Value.type "RuntimeError")) :: (DictEntry.mk (PyData.keyHash P (Str.ofString "StopAsyncIteration")) (Value.str (Str.ofString "StopAsyncIteration") 100) (Value.type "StopAsyncIteration")) :: (DictEntry.mk (PyData.keyHash P (Str.ofString "StopIteration")) (Value.str (Str.ofString "StopIteration") 101) (Value.type "StopIteration")) :: (DictEntry.mk (PyData.keyHash P (Str.ofString "SyntaxError")) (Value.str (Str.ofString "SyntaxError") 102) (Value.type "SyntaxError")) :: (DictEntry.mk (PyData.keyHash P (Str.ofString "SystemError")) (Value.str (Str.ofString "SystemError") 103) (Value.type "SystemError")) :: (DictEntry.mk (PyData.keyHash P (Str.ofString "TypeError")) (Value.str (Str.ofString "TypeError") 104) (Value.type "TypeError")) :: (DictEntry.mk (PyData.keyHash P (Str.ofString "ValueError")) (Value.str (Str.ofString "ValueError") 105) (Value.type "ValueError")) :: (DictEntry.mk (PyData.keyHash P (Str.ofString "Warning")) (Value.str (Str.ofString "Warning") 106) (Value.type "Warning")) :: (DictEntry.mk (PyData.keyHash P (Str.ofString "FloatingPointError")) (Value.str (Str.ofString "FloatingPointError") 107) (Value.type "FloatingPointError")) :: (DictEntry.mk (PyData.keyHash P (Str.ofString "OverflowError")) (Value.str (Str.ofString "OverflowError") 108) (Value.type "OverflowError")) :: (DictEntry.mk (PyData.keyHash P (Str.ofString "ZeroDivisionError")) (Value.str (Str.ofString "ZeroDivisionError") 109) (Value.type "ZeroDivisionError")) :: (DictEntry.mk (PyData.keyHash P (Str.ofString "BytesWarning")) (Value.str (Str.ofString "BytesWarning") 110) (Value.type "BytesWarning")) :: (DictEntry.mk (PyData.keyHash P (Str.ofString "DeprecationWarning")) (Value.str (Str.ofString "DeprecationWarning") 111) (Value.type "DeprecationWarning")) :: (DictEntry.mk (PyData.keyHash P (Str.ofString "EncodingWarning")) (Value.str (Str.ofString "EncodingWarning") 112) (Value.type "EncodingWarning")) :: (DictEntry.mk (PyData.keyHash P (Str.ofString "FutureWarning")) (Value.str (Str.ofString "FutureWarning") 113) (Value.type "FutureWarning")) :: (DictEntry.mk (PyData.keyHash P (Str.ofString "ImportWarning")) (Value.str (Str.ofString "ImportWarning") 114) (Value.type "ImportWarning")) :: (DictEntry.mk (PyData.keyHash P (Str.ofString "PendingDeprecationWarning")) (Value.str (Str.ofString "PendingDeprecationWarning") 115) (Value.type "PendingDeprecationWarning")) :: (DictEntry.mk (PyData.keyHash P (Str.ofString "ResourceWarning")) (Value.str (Str.ofString "ResourceWarning") 116) (Value.type "ResourceWarning")) :: (DictEntry.mk (PyData.keyHash P (Str.ofString "RuntimeWarning")) (Value.str (Str.ofString "RuntimeWarning") 117) (Value.type "RuntimeWarning")) :: (DictEntry.mk (PyData.keyHash P (Str.ofString "SyntaxWarning")) (Value.str (Str.ofString "SyntaxWarning") 118) (Value.type "SyntaxWarning")) :: (DictEntry.mk (PyData.keyHash P (Str.ofString "UnicodeWarning")) (Value.str (Str.ofString "UnicodeWarning") 119) (Value.type "UnicodeWarning")) :: (DictEntry.mk (PyData.keyHash P (Str.ofString "UserWarning")) (Value.str (Str.ofString "UserWarning") 120) (Value.type "UserWarning")) :: (DictEntry.mk (PyData.keyHash P (Str.ofString "BlockingIOError")) (Value.str (Str.ofString "BlockingIOError") 121) (Value.type "BlockingIOError")) :: (DictEntry.mk (PyData.keyHash P (Str.ofString "ChildProcessError")) (Value.str (Str.ofString "ChildProcessError") 122) (Value.type "ChildProcessError")) :: (DictEntry.mk (PyData.keyHash P (Str.ofString "ConnectionError")) (Value.str (Str.ofString "ConnectionError") 123) (Value.type "ConnectionError")) :: (DictEntry.mk (PyData.keyHash P (Str.ofString "FileExistsError")) (Value.str (Str.ofString "FileExistsError") 124) (Value.type "FileExistsError")) :: (DictEntry.mk (PyData.keyHash P (Str.ofString "FileNotFoundError")) (Value.str (Str.ofString "FileNotFoundError") 125) (Value.type "FileNotFoundError")) :: (DictEntry.mk (PyData.keyHash P (Str.ofString "InterruptedError")) (Value.str (Str.ofString "InterruptedError") 126) (Value.type "InterruptedError")) :: (DictEntry.mk (PyData.keyHash P (Str.ofString "IsADirectoryError")) (Value.str (Str.ofString "IsADirectoryError") 127) (Value.type "IsADirectoryError")) :: (DictEntry.mk (PyData.keyHash P (Str.ofString "NotADirectoryError")) (Value.str (Str.ofString "NotADirectoryError") 128) (Value.type "NotADirectoryError")) :: (DictEntry.mk (PyData.keyHash P (Str.ofString "PermissionError")) (Value.str (Str.ofString "PermissionError") 129) (Value.type "PermissionError")) :: (DictEntry.mk (PyData.keyHash P (Str.ofString "ProcessLookupError")) (Value.str (Str.ofString "ProcessLookupError") 130) (Value.type "ProcessLookupError")) :: (DictEntry.mk (PyData.keyHash P (Str.ofString "TimeoutError")) (Value.str (Str.ofString "TimeoutError") 131) (Value.type "TimeoutError")) :: (DictEntry.mk (PyData.keyHash P (Str.ofString "IndentationError")) (Value.str (Str.ofString "IndentationError") 132) (Value.type "IndentationError")) :: (DictEntry.mk (PyData.keyHash P (Str.ofString "_IncompleteInputError")) (Value.str (Str.ofString "_IncompleteInputError") 133) (Value.type "_IncompleteInputError")) :: (DictEntry.mk (PyData.keyHash P (Str.ofString "IndexError")) (Value.str (Str.ofString "IndexError") 134) (Value.type "IndexError")) :: (DictEntry.mk (PyData.keyHash P (Str.ofString "KeyError")) (Value.str (Str.ofString "KeyError") 135) (Value.type "KeyError")) :: (DictEntry.mk (PyData.keyHash P (Str.ofString "ModuleNotFoundError")) (Value.str (Str.ofString "ModuleNotFoundError") 136) (Value.type "ModuleNotFoundError")) :: (DictEntry.mk (PyData.keyHash P (Str.ofString "NotImplementedError")) (Value.str (Str.ofString "NotImplementedError") 137) (Value.type "NotImplementedError")) :: (DictEntry.mk (PyData.keyHash P (Str.ofString "PythonFinalizationError")) (Value.str (Str.ofString "PythonFinalizationError") 138) (Value.type "PythonFinalizationError")) :: (DictEntry.mk (PyData.keyHash P (Str.ofString "RecursionError")) (Value.str (Str.ofString "RecursionError") 139) (Value.type "RecursionError")) :: (DictEntry.mk (PyData.keyHash P (Str.ofString "UnboundLocalError")) (Value.str (Str.ofString "UnboundLocalError") 140) (Value.type "UnboundLocalError")) :: (DictEntry.mk (PyData.keyHash P (Str.ofString "UnicodeError")) (Value.str (Str.ofString "UnicodeError") 141) (Value.type "UnicodeError")) :: (DictEntry.mk (PyData.keyHash P (Str.ofString "BrokenPipeError")) (Value.str (Str.ofString "BrokenPipeError") 142) (Value.type "BrokenPipeError")) :: (DictEntry.mk (PyData.keyHash P (Str.ofString "ConnectionAbortedError")) (Value.str (Str.ofString "ConnectionAbortedError") 143) (Value.type "ConnectionAbortedError")) :: (DictEntry.mk (PyData.keyHash P (Str.ofString "ConnectionRefusedError")) (Value.str (Str.ofString "ConnectionRefusedError") 144) (Value.type "ConnectionRefusedError")) :: (DictEntry.mk (PyData.keyHash P (Str.ofString "ConnectionResetError")) (Value.str (Str.ofString "ConnectionResetError") 145) (Value.type "ConnectionResetError")) :: (DictEntry.mk (PyData.keyHash P (Str.ofString "TabError")) (Value.str (Str.ofString "TabError") 146) (Value.type "TabError")) :: (DictEntry.mk (PyData.keyHash P (Str.ofString "UnicodeDecodeError")) (Value.str (Str.ofString "UnicodeDecodeError") 147) (Value.type "UnicodeDecodeError")) :: (DictEntry.mk (PyData.keyHash P (Str.ofString "UnicodeEncodeError")) (Value.str (Str.ofString "UnicodeEncodeError") 148) (Value.type "UnicodeEncodeError")) :: (DictEntry.mk (PyData.keyHash P (Str.ofString "UnicodeTranslateError")) (Value.str (Str.ofString "UnicodeTranslateError") 149) (Value.type "UnicodeTranslateError")) :: (DictEntry.mk (PyData.keyHash P (Str.ofString "ExceptionGroup")) (Value.str (Str.ofString "ExceptionGroup") 150) (Value.type "ExceptionGroup")) :: (DictEntry.mk (PyData.keyHash P (Str.ofString "EnvironmentError")) (Value.str (Str.ofString "EnvironmentError") 151) (Value.type "OSError")) :: (DictEntry.mk (PyData.keyHash P (Str.ofString "IOError")) (Value.str (Str.ofString "IOError") 152) (Value.type "OSError")) :: (DictEntry.mk (PyData.keyHash P (Str.ofString "open")) (Value.str (Str.ofString "open") 153) (Value.builtin "open")) :: (DictEntry.mk (PyData.keyHash P (Str.ofString "quit")) (Value.str (Str.ofString "quit") 154) (Value.builtin "builtins.quit#opaque")) :: (DictEntry.mk (PyData.keyHash P (Str.ofString "exit")) (Value.str (Str.ofString "exit") 155) (Value.builtin "builtins.exit#opaque")) :: (DictEntry.mk (PyData.keyHash P (Str.ofString "copyright")) (Value.str (Str.ofString "copyright") 156) (Value.builtin "builtins.copyright#opaque")) :: (DictEntry.mk (PyData.keyHash P (Str.ofString "credits")) (Value.str (Str.ofString "credits") 157) (Value.builtin "builtins.credits#opaque")) :: (DictEntry.mk (PyData.keyHash P (Str.ofString "license")) (Value.str (Str.ofString "license") 158) (Value.builtin "builtins.license#opaque")) :: (DictEntry.mk (PyData.keyHash P (Str.ofString "help")) (Value.str (Str.ofString "help") 159) (Value.builtin "builtins.help#opaque")) :: [])) 159) #[])
noncomputable def ob2 (P : Params) : Obj := (Obj.mk (Value.type "dict") none (Data.dict #[(DictEntry.mk (PyData.keyHash P (Str.ofString "builtins")) (Value.str (Str.ofString "builtins") 162) (Value.ref 4)), (DictEntry.mk (PyData.keyHash P (Str.ofString "__main__")) (Value.str (Str.ofString "__main__") 163) (Value.ref 5)), (DictEntry.mk (PyData.keyHash P (Str.ofString "_sre")) (Value.str (Str.ofString "_sre") 244) (Value.ref 12))] 3) #[])
noncomputable def ob3 (P : Params) : Obj := (Obj.mk (Value.type "dict") none (Data.dict #[(DictEntry.mk (PyData.keyHash P (Str.ofString "__name__")) (Value.str (Str.ofString "__name__") 165) (Value.str (Str.ofString "__main__") 164)), (DictEntry.mk (PyData.keyHash P (Str.ofString "__doc__")) (Value.str (Str.ofString "__doc__") 166) Value.none), (DictEntry.mk (PyData.keyHash P (Str.ofString "__package__")) (Value.str (Str.ofString "__package__") 167) Value.none), (DictEntry.mk (PyData.keyHash P (Str.ofString "__loader__")) (Value.str (Str.ofString "__loader__") 168) (Value.builtin "__main__.__loader__#opaque")), (DictEntry.mk (PyData.keyHash P (Str.ofString "__spec__")) (Value.str (Str.ofString "__spec__") 169) Value.none), (DictEntry.mk (PyData.keyHash P (Str.ofString "__annotations__")) (Value.str (Str.ofString "__annotations__") 170) (Value.ref 6)), (DictEntry.mk (PyData.keyHash P (Str.ofString "__builtins__")) (Value.str (Str.ofString "__builtins__") 171) (Value.ref 4)), (DictEntry.mk (PyData.keyHash P (Str.ofString "__file__")) (Value.str (Str.ofString "__file__") 173) (Value.str (Str.ofString "/claim/cut.py") 172)), (DictEntry.mk (PyData.keyHash P (Str.ofString "__cached__")) (Value.str (Str.ofString "__cached__") 174) Value.none), (DictEntry.mk (PyData.keyHash P (Str.ofString "_sre")) (Value.str (Str.ofString "_sre") 275) (Value.ref 12))] 10) #[])
noncomputable def ob4 (P : Params) : Obj := (Obj.mk (Value.type "tuple") none (Data.seq #[] 0) #[])
noncomputable def ob5 (P : Params) : Obj := (Obj.mk (Value.type "tuple") none (Data.seq #[(Value.str (Str.ofString "_cached") 219), (Value.str (Str.ofString "_set_fileattr") 220), (Value.str (Str.ofString "_uninitialized_submodules") 221), (Value.str (Str.ofString "loader") 222), (Value.str (Str.ofString "loader_state") 223), (Value.str (Str.ofString "name") 224), (Value.str (Str.ofString "origin") 225), (Value.str (Str.ofString "submodule_search_locations") 226)] 0) #[])
noncomputable def ob6 (P : Params) : Obj := (Obj.mk (Value.type "dict") none (Data.dict #[(DictEntry.mk (PyData.keyHash P (Str.ofString "__name__")) (Value.str (Str.ofString "__name__") 247) (Value.str (Str.ofString "_sre") 246)), (DictEntry.mk (PyData.keyHash P (Str.ofString "__doc__")) (Value.str (Str.ofString "__doc__") 248) Value.none), (DictEntry.mk (PyData.keyHash P (Str.ofString "__package__")) (Value.str (Str.ofString "__package__") 250) (Value.str (Str.ofString "") 249)), (DictEntry.mk (PyData.keyHash P (Str.ofString "__loader__")) (Value.str (Str.ofString "__loader__") 251) (Value.ref 14)), (DictEntry.mk (PyData.keyHash P (Str.ofString "__spec__")) (Value.str (Str.ofString "__spec__") 252) (Value.ref 26)), (DictEntry.mk (PyData.keyHash P (Str.ofString "compile")) (Value.str (Str.ofString "compile") 253) (Value.builtin "_sre.compile")), (DictEntry.mk (PyData.keyHash P (Str.ofString "template")) (Value.str (Str.ofString "template") 254) (Value.builtin "_sre.template")), (DictEntry.mk (PyData.keyHash P (Str.ofString "getcodesize")) (Value.str (Str.ofString "getcodesize") 255) (Value.builtin "_sre.getcodesize")), (DictEntry.mk (PyData.keyHash P (Str.ofString "ascii_iscased")) (Value.str (Str.ofString "ascii_iscased") 256) (Value.builtin "_sre.ascii_iscased")), (DictEntry.mk (PyData.keyHash P (Str.ofString "unicode_iscased")) (Value.str (Str.ofString "unicode_iscased") 257) (Value.builtin "_sre.unicode_iscased")), (DictEntry.mk (PyData.keyHash P (Str.ofString "ascii_tolower")) (Value.str (Str.ofString "ascii_tolower") 258) (Value.builtin "_sre.ascii_tolower")), (DictEntry.mk (PyData.keyHash P (Str.ofString "unicode_tolower")) (Value.str (Str.ofString "unicode_tolower") 259) (Value.builtin "_sre.unicode_tolower")), (DictEntry.mk (PyData.keyHash P (Str.ofString "MAGIC")) (Value.str (Str.ofString "MAGIC") 261) (Value.int 20230612 260)), (DictEntry.mk (PyData.keyHash P (Str.ofString "CODESIZE")) (Value.str (Str.ofString "CODESIZE") 263) (Value.int 4 262)), (DictEntry.mk (PyData.keyHash P (Str.ofString "MAXREPEAT")) (Value.str (Str.ofString "MAXREPEAT") 265) (Value.int 4294967295 264)), (DictEntry.mk (PyData.keyHash P (Str.ofString "MAXGROUPS")) (Value.str (Str.ofString "MAXGROUPS") 267) (Value.int 1073741823 266)), (DictEntry.mk (PyData.keyHash P (Str.ofString "copyright")) (Value.str (Str.ofString "copyright") 269) (Value.str (Str.ofString " SRE 2.2.2 Copyright (c) 1997-2002 by Secret Labs AB ") 268))] 17) #[])
noncomputable def ob7 (P : Params) : Obj := (Obj.mk (Value.type "list") none (Data.seq #[] 0) #[])
noncomputable def ob8 (P : Params) : Obj := (Obj.mk Value.none none (Data.seq #[(Value.int 11 0), (Value.str (Str.mk (List.toArray (6 :: 247 :: 8 :: 95 :: 95 :: 110 :: 97 :: 109 :: 101 :: 95 :: 95 :: 6 :: 246 :: 4 :: 95 :: 115 :: 114 :: 101 :: 6 :: 248 :: 7 :: 95 :: 95 :: 100 :: 111 :: 99 :: 95 :: 95 :: 0 :: 6 :: 250 :: 11 :: 95 :: 95 :: 112 :: 97 :: 99 :: 107 :: 97 :: 103 :: 101 :: 95 :: 95 :: 6 :: 249 :: 0 :: 6 :: 251 :: 10 :: 95 :: 95 :: 108 :: 111 :: 97 :: 100 :: 101 :: 114 :: 95 :: 95 :: 4 :: 0 :: 0 :: 14 :: 6 :: 252 :: 8 :: 95 :: 95 :: 115 :: 112 :: 101 :: 99 :: 95 :: 95 :: 4 :: 0 :: 0 :: 26 :: 6 :: 253 :: 7 :: 99 :: 111 :: 109 :: 112 :: 105 :: 108 :: 101 :: 9 :: 12 :: 95 :: 115 :: 114 :: 101 :: 46 :: 99 :: 111 :: 109 :: 112 :: 105 :: 108 :: 101 :: 6 :: 254 :: 8 :: 116 :: 101 :: 109 :: 112 :: 108 :: 97 :: 116 :: 101 :: 9 :: 13 :: 95 :: 115 :: 114 :: 101 :: 46 :: 116 :: 101 :: 109 :: 112 :: 108 :: 97 :: 116 :: 101 :: 6 :: 255 :: 11 :: 103 :: 101 :: 116 :: 99 :: 111 :: 100 :: 101 :: 115 :: 105 :: 122 :: 101 :: 9 :: 16 :: 95 :: 115 :: 114 :: 101 :: 46 :: 103 :: 101 :: 116 :: 99 :: 111 :: 100 :: 101 :: 115 :: 105 :: 122 :: 101 :: 6 :: 256 :: 13 :: 97 :: 115 :: 99 :: 105 :: 105 :: 95 :: 105 :: 115 :: 99 :: 97 :: 115 :: 101 :: 100 :: 9 :: 18 :: 95 :: 115 :: 114 :: 101 :: 46 :: 97 :: 115 :: 99 :: 105 :: 105 :: 95 :: 105 :: 115 :: 99 :: 97 :: 115 :: 101 :: 100 :: 6 :: 257 :: 15 :: 117 :: 110 :: 105 :: 99 :: 111 :: 100 :: 101 :: 95 :: 105 :: 115 :: 99 :: 97 :: 115 :: 101 :: 100 :: 9 :: 20 :: 95 :: 115 :: 114 :: 101 :: 46 :: 117 :: 110 :: 105 :: 99 :: 111 :: 100 :: 101 :: 95 :: 105 :: 115 :: 99 :: 97 :: 115 :: 101 :: 100 :: 6 :: 258 :: 13 :: 97 :: 115 :: 99 :: 105 :: 105 :: 95 :: 116 :: 111 :: 108 :: 111 :: 119 :: 101 :: 114 :: 9 :: 18 :: 95 :: 115 :: 114 :: 101 :: 46 :: 97 :: 115 :: 99 :: 105 :: 105 :: 95 :: 116 :: 111 :: 108 :: 111 :: 119 :: 101 :: 114 :: 6 :: 259 :: 15 :: 117 :: 110 :: 105 :: 99 :: 111 :: 100 :: 101 :: 95 :: 116 :: 111 :: 108 :: 111 :: 119 :: 101 :: 114 :: 9 :: 20 :: 95 :: 115 :: 114 :: 101 :: 46 :: 117 :: 110 :: 105 :: 99 :: 111 :: 100 :: 101 :: 95 :: 116 :: 111 :: 108 :: 111 :: 119 :: 101 :: 114 :: 6 :: 261 :: 5 :: 77 :: 65 :: 71 :: 73 :: 67 :: 4 :: 260 :: 0 :: 20230612 :: 6 :: 263 :: 8 :: 67 :: 79 :: 68 :: 69 :: 83 :: 73 :: 90 :: 69 :: 4 :: 262 :: 0 :: 4 :: 6 :: 265 :: 9 :: 77 :: 65 :: 88 :: 82 :: 69 :: 80 :: 69 :: 65 :: 84 :: 4 :: 264 :: 0 :: 4294967295 :: 6 :: 267 :: 9 :: 77 :: 65 :: 88 :: 71 :: 82 :: 79 :: 85 :: 80 :: 83 :: 4 :: 266 :: 0 :: 1073741823 :: 6 :: 269 :: 9 :: 99 :: 111 :: 112 :: 121 :: 114 :: 105 :: 103 :: 104 :: 116 :: 6 :: 268 :: 53 :: 32 :: 83 :: 82 :: 69 :: 32 :: 50 :: 46 :: 50 :: 46 :: 50 :: 32 :: 67 :: 111 :: 112 :: 121 :: 114 :: 105 :: 103 :: 104 :: 116 :: 32 :: 40 :: 99 :: 41 :: 32 :: 49 :: 57 :: 57 :: 55 :: 45 :: 50 :: 48 :: 48 :: 50 :: 32 :: 98 :: 121 :: 32 :: 83 :: 101 :: 99 :: 114 :: 101 :: 116 :: 32 :: 76 :: 97 :: 98 :: 115 :: 32 :: 65 :: 66 :: 32 :: []))) 0), (Value.bool Bool.true), (Value.bool Bool.false), (Value.str (Str.ofString "_sre") 271)] 0) #[])
noncomputable def ob9 (P : Params) : Obj := (Obj.mk (Value.type "module") (some 3) Data.plain #[])
noncomputable def ob10 (P : Params) : Obj := (Obj.mk (Value.type "code") none (Data.fields #[(Value.str (Str.ofString "<module>") 176), (Value.str (Str.ofString "<module>") 177), (Value.str (Str.ofString "/claim/cut.py") 178), (Value.int 1 0), (Value.int 0 0), (Value.int 0 0), (Value.int 0 0), (Value.int 0 0), (Value.ref 7), (Value.bool Bool.false), (Value.int 175 0), (Value.ref 8), Value.none, Value.none, Value.none, Value.none, (Value.int 179 0), (Value.int 1 0), (Value.str (Str.ofString "/claim/cut.py") 180)]) #[])
noncomputable def ob11 (P : Params) : Obj := (Obj.mk (Value.type "getset_descriptor") none (Data.fields #[(Value.str (Str.ofString "__weakref__") 203), (Value.ref 14), (Value.builtin "ExceptionGroup.__weakref__"), Value.none]) #[])
noncomputable def ob12 (P : Params) : Obj := (Obj.mk (Value.type "getset_descriptor") none (Data.fields #[(Value.str (Str.ofString "__weakref__") 239), (Value.ref 22), (Value.builtin "ExceptionGroup.__weakref__"), Value.none]) #[])
noncomputable def ob13 (P : Params) : Obj := (Obj.mk (Value.type "dict") none (Data.dict #[(DictEntry.mk (PyData.keyHash P (Str.ofString "__module__")) (Value.str (Str.ofString "__module__") 189) (Value.str (Str.ofString "_frozen_importlib") 186)), (DictEntry.mk (PyData.keyHash P (Str.ofString "__firstlineno__")) (Value.str (Str.ofString "__firstlineno__") 190) (Value.int 971 187)), (DictEntry.mk (PyData.keyHash P (Str.ofString "__doc__")) (Value.str (Str.ofString "__doc__") 191) (Value.builtin "_frozen_importlib.BuiltinImporter.__doc__:str#opaque")), (DictEntry.mk (PyData.keyHash P (Str.ofString "_ORIGIN")) (Value.str (Str.ofString "_ORIGIN") 192) (Value.str (Str.ofString "built-in") 188)), (DictEntry.mk (PyData.keyHash P (Str.ofString "find_spec")) (Value.str (Str.ofString "find_spec") 193) (Value.builtin "_frozen_importlib.BuiltinImporter.find_spec#opaque")), (DictEntry.mk (PyData.keyHash P (Str.ofString "create_module")) (Value.str (Str.ofString "create_module") 194) (Value.builtin "_frozen_importlib.BuiltinImporter.create_module#opaque")), (DictEntry.mk (PyData.keyHash P (Str.ofString "exec_module")) (Value.str (Str.ofString "exec_module") 195) (Value.builtin "_frozen_importlib.BuiltinImporter.exec_module#opaque")), (DictEntry.mk (PyData.keyHash P (Str.ofString "get_code")) (Value.str (Str.ofString "get_code") 196) (Value.builtin "_frozen_importlib.BuiltinImporter.get_code#opaque")), (DictEntry.mk (PyData.keyHash P (Str.ofString "get_source")) (Value.str (Str.ofString "get_source") 197) (Value.builtin "_frozen_importlib.BuiltinImporter.get_source#opaque")), (DictEntry.mk (PyData.keyHash P (Str.ofString "is_package")) (Value.str (Str.ofString "is_package") 198) (Value.builtin "_frozen_importlib.BuiltinImporter.is_package#opaque")), (DictEntry.mk (PyData.keyHash P (Str.ofString "load_module")) (Value.str (Str.ofString "load_module") 199) (Value.builtin "_frozen_importlib.BuiltinImporter.load_module#opaque")), (DictEntry.mk (PyData.keyHash P (Str.ofString "__static_attributes__")) (Value.str (Str.ofString "__static_attributes__") 200) (Value.ref 15)), (DictEntry.mk (PyData.keyHash P (Str.ofString "__dict__")) (Value.str (Str.ofString "__dict__") 202) (Value.ref 16)), (DictEntry.mk (PyData.keyHash P (Str.ofString "__weakref__")) (Value.str (Str.ofString "__weakref__") 204) (Value.ref 17))] 14) #[])
noncomputable def ob14 (P : Params) : Obj := (Obj.mk (Value.type "dict") none (Data.dict #[(DictEntry.mk (PyData.keyHash P (Str.ofString "__module__")) (Value.str (Str.ofString "__module__") 227) (Value.str (Str.ofString "_frozen_importlib") 217)), (DictEntry.mk (PyData.keyHash P (Str.ofString "__firstlineno__")) (Value.str (Str.ofString "__firstlineno__") 228) (Value.int 562 218)), (DictEntry.mk (PyData.keyHash P (Str.ofString "__doc__")) (Value.str (Str.ofString "__doc__") 229) (Value.builtin "_frozen_importlib.ModuleSpec.__doc__:str#opaque")), (DictEntry.mk (PyData.keyHash P (Str.ofString "__init__")) (Value.str (Str.ofString "__init__") 230) (Value.builtin "_frozen_importlib.ModuleSpec.__init__#opaque")), (DictEntry.mk (PyData.keyHash P (Str.ofString "__repr__")) (Value.str (Str.ofString "__repr__") 231) (Value.builtin "_frozen_importlib.ModuleSpec.__repr__#opaque")), (DictEntry.mk (PyData.keyHash P (Str.ofString "__eq__")) (Value.str (Str.ofString "__eq__") 232) (Value.builtin "_frozen_importlib.ModuleSpec.__eq__#opaque")), (DictEntry.mk (PyData.keyHash P (Str.ofString "cached")) (Value.str (Str.ofString "cached") 233) (Value.builtin "_frozen_importlib.ModuleSpec.cached#opaque")), (DictEntry.mk (PyData.keyHash P (Str.ofString "parent")) (Value.str (Str.ofString "parent") 234) (Value.builtin "_frozen_importlib.ModuleSpec.parent#opaque")), (DictEntry.mk (PyData.keyHash P (Str.ofString "has_location")) (Value.str (Str.ofString "has_location") 235) (Value.builtin "_frozen_importlib.ModuleSpec.has_location#opaque")), (DictEntry.mk (PyData.keyHash P (Str.ofString "__static_attributes__")) (Value.str (Str.ofString "__static_attributes__") 236) (Value.ref 23)), (DictEntry.mk (PyData.keyHash P (Str.ofString "__dict__")) (Value.str (Str.ofString "__dict__") 238) (Value.ref 24)), (DictEntry.mk (PyData.keyHash P (Str.ofString "__weakref__")) (Value.str (Str.ofString "__weakref__") 240) (Value.ref 25)), (DictEntry.mk (PyData.keyHash P (Str.ofString "__hash__")) (Value.str (Str.ofString "__hash__") 241) Value.none)] 13) #[])
noncomputable def ob15 (P : Params) : Obj := (Obj.mk Value.none none (Data.dict #[(DictEntry.mk (PyData.keyHash P (Str.ofString "\x69mport.loaded._sre")) (Value.str (Str.ofString "\x69mport.loaded._sre") 183) (Value.bool Bool.true)), (DictEntry.mk (PyData.keyHash P (Str.ofString "class._frozen_importlib.BuiltinImporter")) (Value.str (Str.ofString "class._frozen_importlib.BuiltinImporter") 185) (Value.ref 14)), (DictEntry.mk (PyData.keyHash P (Str.ofString "watched.\x69mport")) (Value.str (Str.ofString "watched.\x69mport") 206) (Value.ref 18)), (DictEntry.mk (PyData.keyHash P (Str.ofString "class._frozen_importlib.ModuleSpec")) (Value.str (Str.ofString "class._frozen_importlib.ModuleSpec") 216) (Value.ref 22)), (DictEntry.mk (PyData.keyHash P (Str.ofString "sys.modules.booked-epoch")) (Value.str (Str.ofString "sys.modules.booked-epoch") 245) (Value.int 3 0)), (DictEntry.mk (PyData.keyHash P (Str.ofString "\x69mport.later-laid._sre")) (Value.str (Str.ofString "\x69mport.later-laid._sre") 270) (Value.bool Bool.true)), (DictEntry.mk (PyData.keyHash P (Str.ofString "watched.library")) (Value.str (Str.ofString "watched.library") 272) (Value.ref 27)), (DictEntry.mk (PyData.keyHash P (Str.ofString "watched.library-objects")) (Value.str (Str.ofString "watched.library-objects") 0) (Value.str (Str.ofString "\x0c") 0)), (DictEntry.mk (PyData.keyHash P (Str.ofString "watched.library-deep._sre")) (Value.str (Str.ofString "watched.library-deep._sre") 273) (Value.str (Str.ofString "\x04\x00\x00\x0b\x04\x00\x00\x0b\x04\x00\x00\x03\x04\x00\x00\x0b\x08\x04dict\x02") 0))] 9) #[])
noncomputable def ob16 (P : Params) : Obj := (Obj.mk (Value.type "module") (some 0) Data.plain #[])
noncomputable def ob17 (P : Params) : Obj := (Obj.mk Value.none none (Data.fields #[]) #[])
noncomputable def ob18 (P : Params) : Obj := (Obj.mk (Value.type "getset_descriptor") none (Data.fields #[(Value.str (Str.ofString "__dict__") 201), (Value.ref 14), (Value.builtin "function.__dict__"), (Value.builtin "function.__dict__#set")]) #[])
noncomputable def ob19 (P : Params) : Obj := (Obj.mk (Value.type "getset_descriptor") none (Data.fields #[(Value.str (Str.ofString "__dict__") 237), (Value.ref 22), (Value.builtin "function.__dict__"), (Value.builtin "function.__dict__#set")]) #[])
noncomputable def ob20 (P : Params) : Obj := (Obj.mk (Value.type "module") (some 11) Data.plain #[])
noncomputable def ob21 (P : Params) : Obj := (Obj.mk (Value.type "dict") none (Data.dict #[(DictEntry.mk (PyData.keyHash P (Str.ofString "name")) (Value.str (Str.ofString "name") 208) (Value.str (Str.ofString "_sre") 207)), (DictEntry.mk (PyData.keyHash P (Str.ofString "loader")) (Value.str (Str.ofString "loader") 209) (Value.ref 14)), (DictEntry.mk (PyData.keyHash P (Str.ofString "origin")) (Value.str (Str.ofString "origin") 210) (Value.str (Str.ofString "built-in") 184)), (DictEntry.mk (PyData.keyHash P (Str.ofString "loader_state")) (Value.str (Str.ofString "loader_state") 211) Value.none), (DictEntry.mk (PyData.keyHash P (Str.ofString "submodule_search_locations")) (Value.str (Str.ofString "submodule_search_locations") 212) Value.none), (DictEntry.mk (PyData.keyHash P (Str.ofString "_uninitialized_submodules")) (Value.str (Str.ofString "_uninitialized_submodules") 213) (Value.ref 19)), (DictEntry.mk (PyData.keyHash P (Str.ofString "_set_fileattr")) (Value.str (Str.ofString "_set_fileattr") 214) (Value.bool Bool.false)), (DictEntry.mk (PyData.keyHash P (Str.ofString "_cached")) (Value.str (Str.ofString "_cached") 215) Value.none), (DictEntry.mk (PyData.keyHash P (Str.ofString "_initializing")) (Value.str (Str.ofString "_initializing") 243) (Value.bool Bool.false))] 9) #[])
noncomputable def ob22 (P : Params) : Obj := (Obj.mk (Value.type "dict") none (Data.dict #[] 0) #[])
noncomputable def ob23 (P : Params) : Obj := (Obj.mk (Value.type "frame") none Data.plain #[(some (Value.ref 9)), (some (Value.ref 3)), (some (Value.ref 3)), none, (some (Value.str (Str.ofString "__main__") 164)), none, (some (Value.ref 0))])
noncomputable def ob24 (P : Params) : Obj := (Obj.mk Value.none none (Data.seq #[(Value.int 13 0), (Value.str (Str.ofString "\x06½\n__module__\x06º\x11_frozen_importlib\x06¾\x0f__firstlineno__\x04»\x00ϋ\x06¿\x07__doc__\t4_frozen_importlib.BuiltinImporter.__doc__:str#opaque\x06À\x07_ORIGIN\x06¼\x08built-in\x06Á\tfind_spec\t2_frozen_importlib.BuiltinImporter.find_spec#opaque\x06Â\x0dcreate_module\t6_frozen_importlib.BuiltinImporter.create_module#opaque\x06Ã\x0bexec_module\t4_frozen_importlib.BuiltinImporter.exec_module#opaque\x06Ä\x08get_code\t1_frozen_importlib.BuiltinImporter.get_code#opaque\x06Å\nget_source\t3_frozen_importlib.BuiltinImporter.get_source#opaque\x06Æ\nis_package\t3_frozen_importlib.BuiltinImporter.is_package#opaque\x06Ç\x0bload_module\t4_frozen_importlib.BuiltinImporter.load_module#opaque\x06È\x15__static_attributes__\x04\x00\x00\x0f\x06Ê\x08__dict__\x04\x00\x00\x10\x06Ì\x0b__weakref__\x04\x00\x00\x11") 0), (Value.bool Bool.true), (Value.bool Bool.true), (Value.str (Str.ofString "") 205), (Value.int 21 0), (Value.str (Str.ofString "\x06ã\n__module__\x06Ù\x11_frozen_importlib\x06ä\x0f__firstlineno__\x04Ú\x00Ȳ\x06å\x07__doc__\t/_frozen_importlib.ModuleSpec.__doc__:str#opaque\x06æ\x08__init__\t,_frozen_importlib.ModuleSpec.__init__#opaque\x06ç\x08__repr__\t,_frozen_importlib.ModuleSpec.__repr__#opaque\x06è\x06__eq__\t*_frozen_importlib.ModuleSpec.__eq__#opaque\x06é\x06cached\t*_frozen_importlib.ModuleSpec.cached#opaque\x06ê\x06parent\t*_frozen_importlib.ModuleSpec.parent#opaque\x06ë\x0chas_location\t0_frozen_importlib.ModuleSpec.has_location#opaque\x06ì\x15__static_attributes__\x04\x00\x00\x17\x06î\x08__dict__\x04\x00\x00\x18\x06ð\x0b__weakref__\x04\x00\x00\x19\x06ñ\x08__hash__\x00") 0), (Value.bool Bool.true), (Value.bool Bool.true), (Value.str (Str.ofString "") 242)] 1) #[])
noncomputable def ob25 (P : Params) : Obj := (Obj.mk (Value.ref 22) (some 20) Data.plain #[])
noncomputable def ob26 (P : Params) : Obj := (Obj.mk (Value.type "type") none (Data.cls (ClassData.mk (Str.ofString "BuiltinImporter") [(Value.type "object")] [(Value.ref 14), (Value.type "object")] 13 (Str.ofString "BuiltinImporter") Bool.true [] [] Bool.false none Bool.false)) #[])
noncomputable def ob27 (P : Params) : Obj := (Obj.mk (Value.type "type") none (Data.cls (ClassData.mk (Str.ofString "ModuleSpec") [(Value.type "object")] [(Value.ref 22), (Value.type "object")] 21 (Str.ofString "ModuleSpec") Bool.true [] [] Bool.false none Bool.false)) #[])
noncomputable def ob28 (P : Params) : Obj := (Obj.mk (Value.type "dict") none (Data.dict #[(DictEntry.mk (PyData.keyHash P (Str.ofString "__name__")) (Value.str (Str.ofString "__name__") 247) (Value.str (Str.ofString "_sre") 246)), (DictEntry.mk (PyData.keyHash P (Str.ofString "__doc__")) (Value.str (Str.ofString "__doc__") 248) Value.none), (DictEntry.mk (PyData.keyHash P (Str.ofString "__package__")) (Value.str (Str.ofString "__package__") 250) (Value.str (Str.ofString "") 249)), (DictEntry.mk (PyData.keyHash P (Str.ofString "__loader__")) (Value.str (Str.ofString "__loader__") 251) (Value.builtin "off-the-table:_sre.__loader__:shared#opaque")), (DictEntry.mk (PyData.keyHash P (Str.ofString "__spec__")) (Value.str (Str.ofString "__spec__") 252) (Value.builtin "off-the-table:_sre.__spec__:shared#opaque")), (DictEntry.mk (PyData.keyHash P (Str.ofString "compile")) (Value.str (Str.ofString "compile") 253) (Value.builtin "_sre.compile")), (DictEntry.mk (PyData.keyHash P (Str.ofString "template")) (Value.str (Str.ofString "template") 254) (Value.builtin "off-the-table:_sre.template:shared#opaque")), (DictEntry.mk (PyData.keyHash P (Str.ofString "getcodesize")) (Value.str (Str.ofString "getcodesize") 255) (Value.builtin "off-the-table:_sre.getcodesize:shared#opaque")), (DictEntry.mk (PyData.keyHash P (Str.ofString "ascii_iscased")) (Value.str (Str.ofString "ascii_iscased") 256) (Value.builtin "off-the-table:_sre.ascii_iscased:shared#opaque")), (DictEntry.mk (PyData.keyHash P (Str.ofString "unicode_iscased")) (Value.str (Str.ofString "unicode_iscased") 257) (Value.builtin "off-the-table:_sre.unicode_iscased:shared#opaque")), (DictEntry.mk (PyData.keyHash P (Str.ofString "ascii_tolower")) (Value.str (Str.ofString "ascii_tolower") 258) (Value.builtin "off-the-table:_sre.ascii_tolower:shared#opaque")), (DictEntry.mk (PyData.keyHash P (Str.ofString "unicode_tolower")) (Value.str (Str.ofString "unicode_tolower") 259) (Value.builtin "off-the-table:_sre.unicode_tolower:shared#opaque")), (DictEntry.mk (PyData.keyHash P (Str.ofString "MAGIC")) (Value.str (Str.ofString "MAGIC") 261) (Value.int 20230612 260)), (DictEntry.mk (PyData.keyHash P (Str.ofString "CODESIZE")) (Value.str (Str.ofString "CODESIZE") 263) (Value.int 4 262)), (DictEntry.mk (PyData.keyHash P (Str.ofString "MAXREPEAT")) (Value.str (Str.ofString "MAXREPEAT") 265) (Value.int 4294967295 264)), (DictEntry.mk (PyData.keyHash P (Str.ofString "MAXGROUPS")) (Value.str (Str.ofString "MAXGROUPS") 267) (Value.int 1073741823 266)), (DictEntry.mk (PyData.keyHash P (Str.ofString "copyright")) (Value.str (Str.ofString "copyright") 269) (Value.str (Str.ofString " SRE 2.2.2 Copyright (c) 1997-2002 by Secret Labs AB ") 268))] 17) #[])
noncomputable def ob29 (P : Params) : Obj := (Obj.mk (Value.type "code") none (Data.fields #[(Value.str (Str.ofString "<module>") 277), (Value.str (Str.ofString "<module>") 278), (Value.str (Str.ofString "/claim/cut.py") 279), (Value.int 1 0), (Value.int 0 0), (Value.int 0 0), (Value.int 0 0), (Value.int 0 0), (Value.ref 28), (Value.bool Bool.false), (Value.int 276 0), (Value.ref 29), Value.none, Value.none, Value.none, Value.none, (Value.int 280 0), (Value.int 1 0), (Value.str (Str.ofString "/claim/cut.py") 281)]) #[])
noncomputable def ob30 (P : Params) : Obj := (Obj.mk (Value.type "frame") none Data.plain #[(some (Value.ref 30)), (some (Value.ref 3)), (some (Value.ref 3)), none, (some (Value.str (Str.ofString "__main__") 164)), none, (some (Value.ref 0))])
noncomputable def ob31 (P : Params) : Obj := (Obj.mk (Value.type "dict") none (Data.dict #[(DictEntry.mk (PyData.keyHash P (Str.ofString "__name__")) (Value.str (Str.ofString "__name__") 165) (Value.str (Str.ofString "cpy313.token") 418)), (DictEntry.mk (PyData.keyHash P (Str.ofString "__doc__")) (Value.str (Str.ofString "__doc__") 166) Value.none), (DictEntry.mk (PyData.keyHash P (Str.ofString "__package__")) (Value.str (Str.ofString "__package__") 167) Value.none), (DictEntry.mk (PyData.keyHash P (Str.ofString "__loader__")) (Value.str (Str.ofString "__loader__") 168) (Value.builtin "__main__.__loader__#opaque")), (DictEntry.mk (PyData.keyHash P (Str.ofString "__spec__")) (Value.str (Str.ofString "__spec__") 169) Value.none), (DictEntry.mk (PyData.keyHash P (Str.ofString "__annotations__")) (Value.str (Str.ofString "__annotations__") 170) (Value.ref 6)), (DictEntry.mk (PyData.keyHash P (Str.ofString "__builtins__")) (Value.str (Str.ofString "__builtins__") 171) (Value.ref 4)), (DictEntry.mk (PyData.keyHash P (Str.ofString "__file__")) (Value.str (Str.ofString "__file__") 173) (Value.str (Str.ofString "/claim/cut.py") 172)), (DictEntry.mk (PyData.keyHash P (Str.ofString "__cached__")) (Value.str (Str.ofString "__cached__") 174) Value.none), (DictEntry.mk (PyData.keyHash P (Str.ofString "_sre")) (Value.str (Str.ofString "_sre") 275) (Value.ref 12)), (DictEntry.mk (PyData.keyHash P (Str.ofString "compute_powers")) (Value.str (Str.ofString "compute_powers") 303) (Value.ref 39)), (DictEntry.mk (PyData.keyHash P (Str.ofString "_int2digits")) (Value.str (Str.ofString "_int2digits") 314) (Value.ref 46)), (DictEntry.mk (PyData.keyHash P (Str.ofString "rgb_to_hsv")) (Value.str (Str.ofString "rgb_to_hsv") 334) (Value.ref 53)), (DictEntry.mk (PyData.keyHash P (Str.ofString "hsv_to_rgb")) (Value.str (Str.ofString "hsv_to_rgb") 348) (Value.ref 60)), (DictEntry.mk (PyData.keyHash P (Str.ofString "_twin_re_1")) (Value.str (Str.ofString "_twin_re_1") 366) (Value.ref 65)), (DictEntry.mk (PyData.keyHash P (Str.ofString "_twin_re_2")) (Value.str (Str.ofString "_twin_re_2") 408) (Value.ref 70)), (DictEntry.mk (PyData.keyHash P (Str.ofString "CRLF")) (Value.str (Str.ofString "CRLF") 410) (Value.str (Str.ofString "\x0d\n") 409)), (DictEntry.mk (PyData.keyHash P (Str.ofString "quotedata")) (Value.str (Str.ofString "quotedata") 417) (Value.ref 77)), (DictEntry.mk (PyData.keyHash P (Str.ofString "ENDMARKER")) (Value.str (Str.ofString "ENDMARKER") 421) (Value.int 0 420)), (DictEntry.mk (PyData.keyHash P (Str.ofString "LPAR")) (Value.str (Str.ofString "LPAR") 423) (Value.int 7 422)), (DictEntry.mk (PyData.keyHash P (Str.ofString "RPAR")) (Value.str (Str.ofString "RPAR") 425) (Value.int 8 424))] 21) #[])
noncomputable def ob32 (P : Params) : Obj := (Obj.mk (Value.type "tuple") none (Data.seq #[Value.none] 0) #[])
noncomputable def ob33 (P : Params) : Obj := (Obj.mk (Value.type "function") none (Data.func (FuncData.mk (Str.ofString "compute_powers") (Str.ofString "compute_powers") (fa 2) (FuncBody.stmts (fb 2)) (fs 2) 3 [] (Value.ref 32) Value.none Value.none (Value.str (Str.ofString "cpy313._pylong") 282) none (Value.ref 38) Value.none 0)) #[])
noncomputable def ob34 (P : Params) : Obj := (Obj.mk (Value.type "tuple") none (Data.seq #[(Value.str (Str.ofString "w") 287), (Value.str (Str.ofString "base") 288), (Value.str (Str.ofString "more_than") 289), (Value.str (Str.ofString "show") 290), (Value.str (Str.ofString "seen") 291), (Value.str (Str.ofString "need") 292), (Value.str (Str.ofString "ws") 293), (Value.str (Str.ofString "lo") 294), (Value.str (Str.ofString "d") 295), (Value.str (Str.ofString "it") 296), (Value.str (Str.ofString "first") 297), (Value.str (Str.ofString "this") 298), (Value.str (Str.ofString "hi") 299), (Value.str (Str.ofString "sq") 300)] 0) #[])
noncomputable def ob35 (P : Params) : Obj := (Obj.mk Value.none none (Data.func (FuncData.mk (Str.ofString "rgb_to_hsv") (Str.ofString "rgb_to_hsv") (fa 5) (FuncBody.stmts (fb 5)) (fs 5) 0 [] Value.none Value.none Value.none Value.none none Value.none Value.none 0)) #[])
noncomputable def ob36 (P : Params) : Obj := (Obj.mk (Value.type "tuple") none (Data.seq #[(Value.str (Str.ofString "n") 309), (Value.str (Str.ofString "a_digits") 310), (Value.str (Str.ofString "inner") 311)] 0) #[])
noncomputable def ob37 (P : Params) : Obj := (Obj.mk Value.none none (Data.func (FuncData.mk (Str.ofString "quotedata") (Str.ofString "quotedata") (fa 11) (FuncBody.stmts (fb 11)) (fs 11) 0 [] Value.none Value.none Value.none Value.none none Value.none Value.none 0)) #[])
noncomputable def ob38 (P : Params) : Obj := (Obj.mk (Value.type "code") none (Data.fields #[(Value.str (Str.ofString "hsv_to_rgb") 335), (Value.str (Str.ofString "hsv_to_rgb") 336), (Value.str (Str.ofString "/claim/cut.py") 337), (Value.int 80 0), (Value.int 3 0), (Value.int 0 0), (Value.int 0 0), (Value.int 3 0), (Value.ref 54), (Value.bool Bool.true), (Value.int 276 0), (Value.ref 55), Value.none, (Value.ref 56), (Value.ref 57), (Value.ref 58), (Value.int 346 0), (Value.int 80 0), (Value.str (Str.ofString "/claim/cut.py") 347)]) #[])
noncomputable def ob39 (P : Params) : Obj := (Obj.mk (Value.type "re.Pattern") none (Data.fields #[(Value.str (Str.ofString "(?m)^\\.") 352), (Value.int 40 365), (Value.int 0 0), Value.none, Value.none, (Value.ref 64), (Value.int 0 0)]) #[])
noncomputable def ob40 (P : Params) : Obj := (Obj.mk (Value.type "tuple") none (Data.seq #[(Value.str (Str.ofString "r") 320), (Value.str (Str.ofString "g") 321), (Value.str (Str.ofString "b") 322), (Value.str (Str.ofString "maxc") 323), (Value.str (Str.ofString "minc") 324), (Value.str (Str.ofString "rangec") 325), (Value.str (Str.ofString "v") 326), (Value.str (Str.ofString "s") 327), (Value.str (Str.ofString "rc") 328), (Value.str (Str.ofString "gc") 329), (Value.str (Str.ofString "bc") 330), (Value.str (Str.ofString "h") 331)] 0) #[])
noncomputable def ob41 (P : Params) : Obj := (Obj.mk (Value.type "tuple") none (Data.seq #[(Value.str (Str.ofString "data") 414)] 0) #[])
noncomputable def ob42 (P : Params) : Obj := (Obj.mk Value.none none (Data.func (FuncData.mk (Str.ofString "compute_powers") (Str.ofString "compute_powers") (fa 2) (FuncBody.stmts (fb 2)) (fs 2) 0 [] Value.none Value.none Value.none Value.none none Value.none Value.none 0)) #[])
noncomputable def ob43 (P : Params) : Obj := (Obj.mk (Value.type "tuple") none (Data.seq #[(Value.int 14 0), (Value.int 9 0), (Value.int 4 0), (Value.int 1 0), (Value.int 2 0), (Value.int 16 0), (Value.int 10 0), (Value.int 16 0), (Value.int 13 0), (Value.int 0 0), (Value.int 7 0), (Value.int 7 0), (Value.int 16 0), (Value.int 13 0), (Value.int 16 0), (Value.int 10 0), (Value.int 15 0), (Value.int 18 0), (Value.int 5 0), (Value.int 16 0), (Value.int 10 0), (Value.int 15 0), (Value.int 13 0), (Value.int 11 0), (Value.int 16 0), (Value.int 13 0), (Value.int 5 0), (Value.int 5 0), (Value.int 0 0), (Value.int 16 0), (Value.int 10 0), (Value.int 1 0), (Value.int 15 0), (Value.int 2 0), (Value.int 0 0), (Value.int 1 0)] 0) #[])
noncomputable def ob44 (P : Params) : Obj := (Obj.mk (Value.type "function") none (Data.func (FuncData.mk (Str.ofString "rgb_to_hsv") (Str.ofString "rgb_to_hsv") (fa 5) (FuncBody.stmts (fb 5)) (fs 5) 3 [] Value.none Value.none Value.none (Value.str (Str.ofString "cpy313.colorsys") 315) none (Value.ref 52) Value.none 0)) #[])
noncomputable def ob45 (P : Params) : Obj := (Obj.mk Value.none none (Data.fields #[(Value.int 3 0), (Value.int 0 0), (Value.ref 38), (Value.int 44 0), (Value.int 0 0), (Value.ref 45), (Value.int 61 0), (Value.int 0 0), (Value.ref 52), (Value.int 80 0), (Value.int 0 0), (Value.ref 59), (Value.int 105 0), (Value.int 0 0), (Value.ref 76)]) #[])
noncomputable def ob46 (P : Params) : Obj := (Obj.mk (Value.type "code") none (Data.fields #[(Value.str (Str.ofString "_int2digits") 304), (Value.str (Str.ofString "_int2digits") 305), (Value.str (Str.ofString "/claim/cut.py") 306), (Value.int 44 0), (Value.int 2 0), (Value.int 0 0), (Value.int 0 0), (Value.int 3 0), (Value.ref 40), (Value.bool Bool.true), (Value.int 276 0), (Value.ref 41), Value.none, (Value.ref 42), (Value.ref 43), (Value.ref 44), (Value.int 312 0), (Value.int 44 0), (Value.str (Str.ofString "/claim/cut.py") 313)]) #[])
noncomputable def ob47 (P : Params) : Obj := (Obj.mk (Value.type "function") none (Data.func (FuncData.mk (Str.ofString "quotedata") (Str.ofString "quotedata") (fa 11) (FuncBody.stmts (fb 11)) (fs 11) 3 [] Value.none Value.none Value.none (Value.str (Str.ofString "cpy313.smtplib") 349) none (Value.ref 76) Value.none 0)) #[])
noncomputable def ob48 (P : Params) : Obj := (Obj.mk (Value.type "list") none (Data.seq #[(Value.int 14 354), (Value.int 4 355), (Value.int 0 356), (Value.int 1 357), (Value.int 1 358), (Value.int 6 359), (Value.int 1 360), (Value.int 16 361), (Value.int 46 362), (Value.int 1 363)] 0) #[])
noncomputable def ob49 (P : Params) : Obj := (Obj.mk (Value.type "tuple") none (Data.seq #[(Value.bool Bool.false)] 0) #[])
noncomputable def ob50 (P : Params) : Obj := (Obj.mk (Value.type "tuple") none (Data.seq #[(Value.int 14 0), (Value.int 4 0), (Value.int 0 0), (Value.int 1 0), (Value.int 1 0), (Value.int 6 0), (Value.int 1 0), (Value.int 16 0), (Value.int 46 0), (Value.int 1 0)] 0) #[])
noncomputable def ob51 (P : Params) : Obj := (Obj.mk (Value.type "tuple") none (Data.seq #[(Value.str (Str.ofString "h") 338), (Value.str (Str.ofString "s") 339), (Value.str (Str.ofString "v") 340), (Value.str (Str.ofString "i") 341), (Value.str (Str.ofString "f") 342), (Value.str (Str.ofString "p") 343), (Value.str (Str.ofString "q") 344), (Value.str (Str.ofString "t") 345)] 0) #[])
noncomputable def ob52 (P : Params) : Obj := (Obj.mk (Value.type "code") none (Data.fields #[(Value.str (Str.ofString "rgb_to_hsv") 317), (Value.str (Str.ofString "rgb_to_hsv") 318), (Value.str (Str.ofString "/claim/cut.py") 319), (Value.int 61 0), (Value.int 3 0), (Value.int 0 0), (Value.int 0 0), (Value.int 3 0), (Value.ref 47), (Value.bool Bool.true), (Value.int 276 0), (Value.ref 48), Value.none, (Value.ref 49), (Value.ref 50), (Value.ref 51), (Value.int 332 0), (Value.int 61 0), (Value.str (Str.ofString "/claim/cut.py") 333)]) #[])
noncomputable def ob53 (P : Params) : Obj := (Obj.mk Value.none none (Data.func (FuncData.mk (Str.ofString "_int2digits") (Str.ofString "_int2digits") (fa 3) (FuncBody.stmts (fb 3)) (fs 3) 0 [] Value.none Value.none Value.none Value.none none Value.none Value.none 0)) #[])
noncomputable def ob54 (P : Params) : Obj := (Obj.mk (Value.type "code") none (Data.fields #[(Value.str (Str.ofString "quotedata") 411), (Value.str (Str.ofString "quotedata") 412), (Value.str (Str.ofString "/claim/cut.py") 413), (Value.int 105 0), (Value.int 1 0), (Value.int 0 0), (Value.int 0 0), (Value.int 3 0), (Value.ref 71), (Value.bool Bool.true), (Value.int 276 0), (Value.ref 72), Value.none, (Value.ref 73), (Value.ref 74), (Value.ref 75), (Value.int 415 0), (Value.int 105 0), (Value.str (Str.ofString "/claim/cut.py") 416)]) #[])
noncomputable def ob55 (P : Params) : Obj := (Obj.mk (Value.type "function") none (Data.func (FuncData.mk (Str.ofString "hsv_to_rgb") (Str.ofString "hsv_to_rgb") (fa 6) (FuncBody.stmts (fb 6)) (fs 6) 3 [] Value.none Value.none Value.none (Value.str (Str.ofString "cpy313.colorsys") 315) none (Value.ref 59) Value.none 0)) #[])
noncomputable def ob56 (P : Params) : Obj := (Obj.mk (Value.type "list") none (Data.seq #[(Value.int 14 370), (Value.int 9 371), (Value.int 4 372), (Value.int 1 373), (Value.int 2 374), (Value.int 16 375), (Value.int 10 376), (Value.int 16 377), (Value.int 13 378), (Value.int 0 379), (Value.int 7 380), (Value.int 7 381), (Value.int 16 382), (Value.int 13 383), (Value.int 16 384), (Value.int 10 385), (Value.int 15 386), (Value.int 18 387), (Value.int 5 388), (Value.int 16 389), (Value.int 10 390), (Value.int 15 391), (Value.int 13 392), (Value.int 11 393), (Value.int 16 394), (Value.int 13 395), (Value.int 5 396), (Value.int 5 397), (Value.int 0 398), (Value.int 16 399), (Value.int 10 400), (Value.int 1 401), (Value.int 15 402), (Value.int 2 403), (Value.int 0 404), (Value.int 1 405)] 0) #[])
noncomputable def ob57 (P : Params) : Obj := (Obj.mk (Value.type "tuple") none (Data.seq #[(Value.str (Str.ofString "a") 307), (Value.str (Str.ofString "n") 308)] 0) #[])
noncomputable def ob58 (P : Params) : Obj := (Obj.mk Value.none none (Data.func (FuncData.mk (Str.ofString "hsv_to_rgb") (Str.ofString "hsv_to_rgb") (fa 6) (FuncBody.stmts (fb 6)) (fs 6) 0 [] Value.none Value.none Value.none Value.none none Value.none Value.none 0)) #[])
noncomputable def ob59 (P : Params) : Obj := (Obj.mk (Value.type "code") none (Data.fields #[(Value.str (Str.ofString "compute_powers") 284), (Value.str (Str.ofString "compute_powers") 285), (Value.str (Str.ofString "/claim/cut.py") 286), (Value.int 3 0), (Value.int 4 0), (Value.int 0 0), (Value.int 0 0), (Value.int 3 0), (Value.ref 33), (Value.bool Bool.true), (Value.int 276 0), (Value.ref 34), Value.none, (Value.ref 35), (Value.ref 36), (Value.ref 37), (Value.int 301 0), (Value.int 3 0), (Value.str (Str.ofString "/claim/cut.py") 302)]) #[])
noncomputable def ob60 (P : Params) : Obj := (Obj.mk (Value.type "re.Pattern") none (Data.fields #[(Value.str (Str.ofString "(?:\\r\\n|\\n|\\r(?!\\n))") 368), (Value.int 32 407), (Value.int 0 0), Value.none, Value.none, (Value.ref 69), (Value.int 0 0)]) #[])
noncomputable def ob61 (P : Params) : Obj := (Obj.mk (Value.type "function") none (Data.func (FuncData.mk (Str.ofString "_int2digits") (Str.ofString "_int2digits") (fa 3) (FuncBody.stmts (fb 3)) (fs 3) 3 [] Value.none Value.none Value.none (Value.str (Str.ofString "cpy313._pylong") 282) none (Value.ref 45) Value.none 0)) #[])
noncomputable def ob62 (P : Params) : Obj := (Obj.mk (Value.type "dict") none (Data.dict (List.toArray ((DictEntry.mk (PyData.keyHash P (Str.ofString "__name__")) (Value.str (Str.ofString "__name__") 165) (Value.str (Str.ofString "cpy313.token") 418)) :: (DictEntry.mk (PyData.keyHash P (Str.ofString "__doc__")) (Value.str (Str.ofString "__doc__") 166) Value.none) :: (DictEntry.mk (PyData.keyHash P (Str.ofString "__package__")) (Value.str (Str.ofString "__package__") 167) Value.none) :: (DictEntry.mk (PyData.keyHash P (Str.ofString "__loader__")) (Value.str (Str.ofString "__loader__") 168) (Value.builtin "__main__.__loader__#opaque")) :: (DictEntry.mk (PyData.keyHash P (Str.ofString "__spec__")) (Value.str (Str.ofString "__spec__") 169) Value.none) :: (DictEntry.mk (PyData.keyHash P (Str.ofString "__annotations__")) (Value.str (Str.ofString "__annotations__") 170) (Value.ref 6)) :: (DictEntry.mk (PyData.keyHash P (Str.ofString "__builtins__")) (Value.str (Str.ofString "__builtins__") 171) (Value.ref 4)) :: (DictEntry.mk (PyData.keyHash P (Str.ofString "__file__")) (Value.str (Str.ofString "__file__") 173) (Value.str (Str.ofString "/claim/cut.py") 172)) :: (DictEntry.mk (PyData.keyHash P (Str.ofString "__cached__")) (Value.str (Str.ofString "__cached__") 174) Value.none) :: (DictEntry.mk (PyData.keyHash P (Str.ofString "_sre")) (Value.str (Str.ofString "_sre") 275) (Value.ref 12)) :: (DictEntry.mk (PyData.keyHash P (Str.ofString "compute_powers")) (Value.str (Str.ofString "compute_powers") 303) (Value.ref 39)) :: (DictEntry.mk (PyData.keyHash P (Str.ofString "_int2digits")) (Value.str (Str.ofString "_int2digits") 314) (Value.ref 46)) :: (DictEntry.mk (PyData.keyHash P (Str.ofString "rgb_to_hsv")) (Value.str (Str.ofString "rgb_to_hsv") 334) (Value.ref 53)) :: (DictEntry.mk (PyData.keyHash P (Str.ofString "hsv_to_rgb")) (Value.str (Str.ofString "hsv_to_rgb") 348) (Value.ref 60)) :: (DictEntry.mk (PyData.keyHash P (Str.ofString "_twin_re_1")) (Value.str (Str.ofString "_twin_re_1") 366) (Value.ref 65)) :: (DictEntry.mk (PyData.keyHash P (Str.ofString "_twin_re_2")) (Value.str (Str.ofString "_twin_re_2") 408) (Value.ref 70)) :: (DictEntry.mk (PyData.keyHash P (Str.ofString "CRLF")) (Value.str (Str.ofString "CRLF") 410) (Value.str (Str.ofString "\x0d\n") 409)) :: (DictEntry.mk (PyData.keyHash P (Str.ofString "quotedata")) (Value.str (Str.ofString "quotedata") 417) (Value.ref 77)) :: (DictEntry.mk (PyData.keyHash P (Str.ofString "ENDMARKER")) (Value.str (Str.ofString "ENDMARKER") 421) (Value.int 0 420)) :: (DictEntry.mk (PyData.keyHash P (Str.ofString "LPAR")) (Value.str (Str.ofString "LPAR") 423) (Value.int 7 422)) :: (DictEntry.mk (PyData.keyHash P (Str.ofString "RPAR")) (Value.str (Str.ofString "RPAR") 425) (Value.int 8 424)) :: (DictEntry.mk (PyData.keyHash P (Str.ofString "LSQB")) (Value.str (Str.ofString "LSQB") 427) (Value.int 9 426)) :: (DictEntry.mk (PyData.keyHash P (Str.ofString "RSQB")) (Value.str (Str.ofString "RSQB") 429) (Value.int 10 428)) :: (DictEntry.mk (PyData.keyHash P (Str.ofString "COLON")) (Value.str (Str.ofString "COLON") 431) (Value.int 11 430)) :: (DictEntry.mk (PyData.keyHash P (Str.ofString "COMMA")) (Value.str (Str.ofString "COMMA") 433) (Value.int 12 432)) :: (DictEntry.mk (PyData.keyHash P (Str.ofString "SEMI")) (Value.str (Str.ofString "SEMI") 435) (Value.int 13 434)) :: (DictEntry.mk (PyData.keyHash P (Str.ofString "PLUS")) (Value.str (Str.ofString "PLUS") 437) (Value.int 14 436)) :: (DictEntry.mk (PyData.keyHash P (Str.ofString "MINUS")) (Value.str (Str.ofString "MINUS") 439) (Value.int 15 438)) :: (DictEntry.mk (PyData.keyHash P (Str.ofString "STAR")) (Value.str (Str.ofString "STAR") 441) (Value.int 16 440)) :: (DictEntry.mk (PyData.keyHash P (Str.ofString "SLASH")) (Value.str (Str.ofString "SLASH") 443) (Value.int 17 442)) :: (DictEntry.mk (PyData.keyHash P (Str.ofString "VBAR")) (Value.str (Str.ofString "VBAR") 445) (Value.int 18 444)) :: (DictEntry.mk (PyData.keyHash P (Str.ofString "AMPER")) (Value.str (Str.ofString "AMPER") 447) (Value.int 19 446)) :: (DictEntry.mk (PyData.keyHash P (Str.ofString "LESS")) (Value.str (Str.ofString "LESS") 449) (Value.int 20 448)) :: (DictEntry.mk (PyData.keyHash P (Str.ofString "GREATER")) (Value.str (Str.ofString "GREATER") 451) (Value.int 21 450)) :: (DictEntry.mk (PyData.keyHash P (Str.ofString "EQUAL")) (Value.str (Str.ofString "EQUAL") 453) (Value.int 22 452)) :: (DictEntry.mk (PyData.keyHash P (Str.ofString "DOT")) (Value.str (Str.ofString "DOT") 455) (Value.int 23 454)) :: (DictEntry.mk (PyData.keyHash P (Str.ofString "PERCENT")) (Value.str (Str.ofString "PERCENT") 457) (Value.int 24 456)) :: (DictEntry.mk (PyData.keyHash P (Str.ofString "LBRACE")) (Value.str (Str.ofString "LBRACE") 459) (Value.int 25 458)) :: (DictEntry.mk (PyData.keyHash P (Str.ofString "RBRACE")) (Value.str (Str.ofString "RBRACE") 461) (Value.int 26 460)) :: (DictEntry.mk (PyData.keyHash P (Str.ofString "EQEQUAL")) (Value.str (Str.ofString "EQEQUAL") 463) (Value.int 27 462)) :: (DictEntry.mk (PyData.keyHash P (Str.ofString "NOTEQUAL")) (Value.str (Str.ofString "NOTEQUAL") 465) (Value.int 28 464)) :: (DictEntry.mk (PyData.keyHash P (Str.ofString "LESSEQUAL")) (Value.str (Str.ofString "LESSEQUAL") 467) (Value.int 29 466)) :: (DictEntry.mk (PyData.keyHash P (Str.ofString "GREATEREQUAL")) (Value.str (Str.ofString "GREATEREQUAL") 469) (Value.int 30 468)) :: (DictEntry.mk (PyData.keyHash P (Str.ofString "TILDE")) (Value.str (Str.ofString "TILDE") 471) (Value.int 31 470)) :: (DictEntry.mk (PyData.keyHash P (Str.ofString "CIRCUMFLEX")) (Value.str (Str.ofString "CIRCUMFLEX") 473) (Value.int 32 472)) :: (DictEntry.mk (PyData.keyHash P (Str.ofString "LEFTSHIFT")) (Value.str (Str.ofString "LEFTSHIFT") 475) (Value.int 33 474)) :: (DictEntry.mk (PyData.keyHash P (Str.ofString "RIGHTSHIFT")) (Value.str (Str.ofString "RIGHTSHIFT") 477) (Value.int 34 476)) :: (DictEntry.mk (PyData.keyHash P (Str.ofString "DOUBLESTAR")) (Value.str (Str.ofString "DOUBLESTAR") 479) (Value.int 35 478)) :: (DictEntry.mk (PyData.keyHash P (Str.ofString "PLUSEQUAL")) (Value.str (Str.ofString "PLUSEQUAL") 481) (Value.int 36 480)) :: (DictEntry.mk (PyData.keyHash P (Str.ofString "MINEQUAL")) (Value.str (Str.ofString "MINEQUAL") 483) (Value.int 37 482)) :: (DictEntry.mk (PyData.keyHash P (Str.ofString "STAREQUAL")) (Value.str (Str.ofString "STAREQUAL") 485) (Value.int 38 484)) :: (DictEntry.mk (PyData.keyHash P (Str.ofString "SLASHEQUAL")) (Value.str (Str.ofString "SLASHEQUAL") 487) (Value.int 39 486)) :: (DictEntry.mk (PyData.keyHash P (Str.ofString "PERCENTEQUAL")) (Value.str (Str.ofString "PERCENTEQUAL") 489) (Value.int 40 488)) :: (DictEntry.mk (PyData.keyHash P (Str.ofString "AMPEREQUAL")) (Value.str (Str.ofString "AMPEREQUAL") 491) (Value.int 41 490)) :: (DictEntry.mk (PyData.keyHash P (Str.ofString "VBAREQUAL")) (Value.str (Str.ofString "VBAREQUAL") 493) (Value.int 42 492)) :: (DictEntry.mk (PyData.keyHash P (Str.ofString "CIRCUMFLEXEQUAL")) (Value.str (Str.ofString "CIRCUMFLEXEQUAL") 495) (Value.int 43 494)) :: (DictEntry.mk (PyData.keyHash P (Str.ofString "LEFTSHIFTEQUAL")) (Value.str (Str.ofString "LEFTSHIFTEQUAL") 497) (Value.int 44 496)) :: (DictEntry.mk (PyData.keyHash P (Str.ofString "RIGHTSHIFTEQUAL")) (Value.str (Str.ofString "RIGHTSHIFTEQUAL") 499) (Value.int 45 498)) :: (DictEntry.mk (PyData.keyHash P (Str.ofString "DOUBLESTAREQUAL")) (Value.str (Str.ofString "DOUBLESTAREQUAL") 501) (Value.int 46 500)) :: (DictEntry.mk (PyData.keyHash P (Str.ofString "DOUBLESLASH")) (Value.str (Str.ofString "DOUBLESLASH") 503) (Value.int 47 502)) :: (DictEntry.mk (PyData.keyHash P (Str.ofString "DOUBLESLASHEQUAL")) (Value.str (Str.ofString "DOUBLESLASHEQUAL") 505) (Value.int 48 504)) :: (DictEntry.mk (PyData.keyHash P (Str.ofString "AT")) (Value.str (Str.ofString "AT") 507) (Value.int 49 506)) :: (DictEntry.mk (PyData.keyHash P (Str.ofString "ATEQUAL")) (Value.str (Str.ofString "ATEQUAL") 509) (Value.int 50 508)) :: (DictEntry.mk (PyData.keyHash P (Str.ofString "RARROW")) (Value.str (Str.ofString "RARROW") 511) (Value.int 51 510)) :: (DictEntry.mk (PyData.keyHash P (Str.ofString "ELLIPSIS")) (Value.str (Str.ofString "ELLIPSIS") 513) (Value.int 52 512)) :: [])) 65) #[])
noncomputable def ob63 (P : Params) : Obj := (Obj.mk (Value.type "dict") none (Data.dict (List.toArray ((DictEntry.mk (PyData.keyHash P (Str.ofString "__name__")) (Value.str (Str.ofString "__name__") 165) (Value.str (Str.ofString "cpy313.token") 418)) :: (DictEntry.mk (PyData.keyHash P (Str.ofString "__doc__")) (Value.str (Str.ofString "__doc__") 166) Value.none) :: (DictEntry.mk (PyData.keyHash P (Str.ofString "__package__")) (Value.str (Str.ofString "__package__") 167) Value.none) :: (DictEntry.mk (PyData.keyHash P (Str.ofString "__loader__")) (Value.str (Str.ofString "__loader__") 168) (Value.builtin "__main__.__loader__#opaque")) :: (DictEntry.mk (PyData.keyHash P (Str.ofString "__spec__")) (Value.str (Str.ofString "__spec__") 169) Value.none) :: (DictEntry.mk (PyData.keyHash P (Str.ofString "__annotations__")) (Value.str (Str.ofString "__annotations__") 170) (Value.ref 6)) :: (DictEntry.mk (PyData.keyHash P (Str.ofString "__builtins__")) (Value.str (Str.ofString "__builtins__") 171) (Value.ref 4)) :: (DictEntry.mk (PyData.keyHash P (Str.ofString "__file__")) (Value.str (Str.ofString "__file__") 173) (Value.str (Str.ofString "/claim/cut.py") 172)) :: (DictEntry.mk (PyData.keyHash P (Str.ofString "__cached__")) (Value.str (Str.ofString "__cached__") 174) Value.none) :: (DictEntry.mk (PyData.keyHash P (Str.ofString "_sre")) (Value.str (Str.ofString "_sre") 275) (Value.ref 12)) :: (DictEntry.mk (PyData.keyHash P (Str.ofString "compute_powers")) (Value.str (Str.ofString "compute_powers") 303) (Value.ref 39)) :: (DictEntry.mk (PyData.keyHash P (Str.ofString "_int2digits")) (Value.str (Str.ofString "_int2digits") 314) (Value.ref 46)) :: (DictEntry.mk (PyData.keyHash P (Str.ofString "rgb_to_hsv")) (Value.str (Str.ofString "rgb_to_hsv") 334) (Value.ref 53)) :: (DictEntry.mk (PyData.keyHash P (Str.ofString "hsv_to_rgb")) (Value.str (Str.ofString "hsv_to_rgb") 348) (Value.ref 60)) :: (DictEntry.mk (PyData.keyHash P (Str.ofString "_twin_re_1")) (Value.str (Str.ofString "_twin_re_1") 366) (Value.ref 65)) :: (DictEntry.mk (PyData.keyHash P (Str.ofString "_twin_re_2")) (Value.str (Str.ofString "_twin_re_2") 408) (Value.ref 70)) :: (DictEntry.mk (PyData.keyHash P (Str.ofString "CRLF")) (Value.str (Str.ofString "CRLF") 410) (Value.str (Str.ofString "\x0d\n") 409)) :: (DictEntry.mk (PyData.keyHash P (Str.ofString "quotedata")) (Value.str (Str.ofString "quotedata") 417) (Value.ref 77)) :: (DictEntry.mk (PyData.keyHash P (Str.ofString "ENDMARKER")) (Value.str (Str.ofString "ENDMARKER") 421) (Value.int 0 420)) :: (DictEntry.mk (PyData.keyHash P (Str.ofString "LPAR")) (Value.str (Str.ofString "LPAR") 423) (Value.int 7 422)) :: (DictEntry.mk (PyData.keyHash P (Str.ofString "RPAR")) (Value.str (Str.ofString "RPAR") 425) (Value.int 8 424)) :: (DictEntry.mk (PyData.keyHash P (Str.ofString "LSQB")) (Value.str (Str.ofString "LSQB") 427) (Value.int 9 426)) :: (DictEntry.mk (PyData.keyHash P (Str.ofString "RSQB")) (Value.str (Str.ofString "RSQB") 429) (Value.int 10 428)) :: (DictEntry.mk (PyData.keyHash P (Str.ofString "COLON")) (Value.str (Str.ofString "COLON") 431) (Value.int 11 430)) :: (DictEntry.mk (PyData.keyHash P (Str.ofString "COMMA")) (Value.str (Str.ofString "COMMA") 433) (Value.int 12 432)) :: (DictEntry.mk (PyData.keyHash P (Str.ofString "SEMI")) (Value.str (Str.ofString "SEMI") 435) (Value.int 13 434)) :: (DictEntry.mk (PyData.keyHash P (Str.ofString "PLUS")) (Value.str (Str.ofString "PLUS") 437) (Value.int 14 436)) :: (DictEntry.mk (PyData.keyHash P (Str.ofString "MINUS")) (Value.str (Str.ofString "MINUS") 439) (Value.int 15 438)) :: (DictEntry.mk (PyData.keyHash P (Str.ofString "STAR")) (Value.str (Str.ofString "STAR") 441) (Value.int 16 440)) :: (DictEntry.mk (PyData.keyHash P (Str.ofString "SLASH")) (Value.str (Str.ofString "SLASH") 443) (Value.int 17 442)) :: (DictEntry.mk (PyData.keyHash P (Str.ofString "VBAR")) (Value.str (Str.ofString "VBAR") 445) (Value.int 18 444)) :: (DictEntry.mk (PyData.keyHash P (Str.ofString "AMPER")) (Value.str (Str.ofString "AMPER") 447) (Value.int 19 446)) :: (DictEntry.mk (PyData.keyHash P (Str.ofString "LESS")) (Value.str (Str.ofString "LESS") 449) (Value.int 20 448)) :: (DictEntry.mk (PyData.keyHash P (Str.ofString "GREATER")) (Value.str (Str.ofString "GREATER") 451) (Value.int 21 450)) :: (DictEntry.mk (PyData.keyHash P (Str.ofString "EQUAL")) (Value.str (Str.ofString "EQUAL") 453) (Value.int 22 452)) :: (DictEntry.mk (PyData.keyHash P (Str.ofString "DOT")) (Value.str (Str.ofString "DOT") 455) (Value.int 23 454)) :: (DictEntry.mk (PyData.keyHash P (Str.ofString "PERCENT")) (Value.str (Str.ofString "PERCENT") 457) (Value.int 24 456)) :: (DictEntry.mk (PyData.keyHash P (Str.ofString "LBRACE")) (Value.str (Str.ofString "LBRACE") 459) (Value.int 25 458)) :: (DictEntry.mk (PyData.keyHash P (Str.ofString "RBRACE")) (Value.str (Str.ofString "RBRACE") 461) (Value.int 26 460)) :: (DictEntry.mk (PyData.keyHash P (Str.ofString "EQEQUAL")) (Value.str (Str.ofString "EQEQUAL") 463) (Value.int 27 462)) :: (DictEntry.mk (PyData.keyHash P (Str.ofString "NOTEQUAL")) (Value.str (Str.ofString "NOTEQUAL") 465) (Value.int 28 464)) :: (DictEntry.mk (PyData.keyHash P (Str.ofString "LESSEQUAL")) (Value.str (Str.ofString "LESSEQUAL") 467) (Value.int 29 466)) :: (DictEntry.mk (PyData.keyHash P (Str.ofString "GREATEREQUAL")) (Value.str (Str.ofString "GREATEREQUAL") 469) (Value.int 30 468)) :: (DictEntry.mk (PyData.keyHash P (Str.ofString "TILDE")) (Value.str (Str.ofString "TILDE") 471) (Value.int 31 470)) :: (DictEntry.mk (PyData.keyHash P (Str.ofString "CIRCUMFLEX")) (Value.str (Str.ofString "CIRCUMFLEX") 473) (Value.int 32 472)) :: (DictEntry.mk (PyData.keyHash P (Str.ofString "LEFTSHIFT")) (Value.str (Str.ofString "LEFTSHIFT") 475) (Value.int 33 474)) :: (DictEntry.mk (PyData.keyHash P (Str.ofString "RIGHTSHIFT")) (Value.str (Str.ofString "RIGHTSHIFT") 477) (Value.int 34 476)) :: (DictEntry.mk (PyData.keyHash P (Str.ofString "DOUBLESTAR")) (Value.str (Str.ofString "DOUBLESTAR") 479) (Value.int 35 478)) :: (DictEntry.mk (PyData.keyHash P (Str.ofString "PLUSEQUAL")) (Value.str (Str.ofString "PLUSEQUAL") 481) (Value.int 36 480)) :: (DictEntry.mk (PyData.keyHash P (Str.ofString "MINEQUAL")) (Value.str (Str.ofString "MINEQUAL") 483) (Value.int 37 482)) :: (DictEntry.mk (PyData.keyHash P (Str.ofString "STAREQUAL")) (Value.str (Str.ofString "STAREQUAL") 485) (Value.int 38 484)) :: (DictEntry.mk (PyData.keyHash P (Str.ofString "SLASHEQUAL")) (Value.str (Str.ofString "SLASHEQUAL") 487) (Value.int 39 486)) :: (DictEntry.mk (PyData.keyHash P (Str.ofString "PERCENTEQUAL")) (Value.str (Str.ofString "PERCENTEQUAL") 489) (Value.int 40 488)) :: (DictEntry.mk (PyData.keyHash P (Str.ofString "AMPEREQUAL")) (Value.str (Str.ofString "AMPEREQUAL") 491) (Value.int 41 490)) :: (DictEntry.mk (PyData.keyHash P (Str.ofString "VBAREQUAL")) (Value.str (Str.ofString "VBAREQUAL") 493) (Value.int 42 492)) :: (DictEntry.mk (PyData.keyHash P (Str.ofString "CIRCUMFLEXEQUAL")) (Value.str (Str.ofString "CIRCUMFLEXEQUAL") 495) (Value.int 43 494)) :: (DictEntry.mk (PyData.keyHash P (Str.ofString "LEFTSHIFTEQUAL")) (Value.str (Str.ofString "LEFTSHIFTEQUAL") 497) (Value.int 44 496)) :: (DictEntry.mk (PyData.keyHash P (Str.ofString "RIGHTSHIFTEQUAL")) (Value.str (Str.ofString "RIGHTSHIFTEQUAL") 499) (Value.int 45 498)) :: (DictEntry.mk (PyData.keyHash P (Str.ofString "DOUBLESTAREQUAL")) (Value.str (Str.ofString "DOUBLESTAREQUAL") 501) (Value.int 46 500)) :: (DictEntry.mk (PyData.keyHash P (Str.ofString "DOUBLESLASH")) (Value.str (Str.ofString "DOUBLESLASH") 503) (Value.int 47 502)) :: (DictEntry.mk (PyData.keyHash P (Str.ofString "DOUBLESLASHEQUAL")) (Value.str (Str.ofString "DOUBLESLASHEQUAL") 505) (Value.int 48 504)) :: (DictEntry.mk (PyData.keyHash P (Str.ofString "AT")) (Value.str (Str.ofString "AT") 507) (Value.int 49 506)) :: (DictEntry.mk (PyData.keyHash P (Str.ofString "ATEQUAL")) (Value.str (Str.ofString "ATEQUAL") 509) (Value.int 50 508)) :: (DictEntry.mk (PyData.keyHash P (Str.ofString "RARROW")) (Value.str (Str.ofString "RARROW") 511) (Value.int 51 510)) :: (DictEntry.mk (PyData.keyHash P (Str.ofString "ELLIPSIS")) (Value.str (Str.ofString "ELLIPSIS") 513) (Value.int 52 512)) :: (DictEntry.mk (PyData.keyHash P (Str.ofString "COLONEQUAL")) (Value.str (Str.ofString "COLONEQUAL") 515) (Value.int 53 514)) :: (DictEntry.mk (PyData.keyHash P (Str.ofString "EXCLAMATION")) (Value.str (Str.ofString "EXCLAMATION") 517) (Value.int 54 516)) :: [])) 67) #[])
noncomputable def ob64 (P : Params) : Obj := (Obj.mk (Value.type "dict") none (Data.dict (List.toArray ((DictEntry.mk (PyData.keyHash P (Str.ofString "__name__")) (Value.str (Str.ofString "__name__") 165) (Value.str (Str.ofString "cpy313.token") 418)) :: (DictEntry.mk (PyData.keyHash P (Str.ofString "__doc__")) (Value.str (Str.ofString "__doc__") 166) Value.none) :: (DictEntry.mk (PyData.keyHash P (Str.ofString "__package__")) (Value.str (Str.ofString "__package__") 167) Value.none) :: (DictEntry.mk (PyData.keyHash P (Str.ofString "__loader__")) (Value.str (Str.ofString "__loader__") 168) (Value.builtin "__main__.__loader__#opaque")) :: (DictEntry.mk (PyData.keyHash P (Str.ofString "__spec__")) (Value.str (Str.ofString "__spec__") 169) Value.none) :: (DictEntry.mk (PyData.keyHash P (Str.ofString "__annotations__")) (Value.str (Str.ofString "__annotations__") 170) (Value.ref 6)) :: (DictEntry.mk (PyData.keyHash P (Str.ofString "__builtins__")) (Value.str (Str.ofString "__builtins__") 171) (Value.ref 4)) :: (DictEntry.mk (PyData.keyHash P (Str.ofString "__file__")) (Value.str (Str.ofString "__file__") 173) (Value.str (Str.ofString "/claim/cut.py") 172)) :: (DictEntry.mk (PyData.keyHash P (Str.ofString "__cached__")) (Value.str (Str.ofString "__cached__") 174) Value.none) :: (DictEntry.mk (PyData.keyHash P (Str.ofString "_sre")) (Value.str (Str.ofString "_sre") 275) (Value.ref 12)) :: (DictEntry.mk (PyData.keyHash P (Str.ofString "compute_powers")) (Value.str (Str.ofString "compute_powers") 303) (Value.ref 39)) :: (DictEntry.mk (PyData.keyHash P (Str.ofString "_int2digits")) (Value.str (Str.ofString "_int2digits") 314) (Value.ref 46)) :: (DictEntry.mk (PyData.keyHash P (Str.ofString "rgb_to_hsv")) (Value.str (Str.ofString "rgb_to_hsv") 334) (Value.ref 53)) :: (DictEntry.mk (PyData.keyHash P (Str.ofString "hsv_to_rgb")) (Value.str (Str.ofString "hsv_to_rgb") 348) (Value.ref 60)) :: (DictEntry.mk (PyData.keyHash P (Str.ofString "_twin_re_1")) (Value.str (Str.ofString "_twin_re_1") 366) (Value.ref 65)) :: (DictEntry.mk (PyData.keyHash P (Str.ofString "_twin_re_2")) (Value.str (Str.ofString "_twin_re_2") 408) (Value.ref 70)) :: (DictEntry.mk (PyData.keyHash P (Str.ofString "CRLF")) (Value.str (Str.ofString "CRLF") 410) (Value.str (Str.ofString "\x0d\n") 409)) :: (DictEntry.mk (PyData.keyHash P (Str.ofString "quotedata")) (Value.str (Str.ofString "quotedata") 417) (Value.ref 77)) :: (DictEntry.mk (PyData.keyHash P (Str.ofString "ENDMARKER")) (Value.str (Str.ofString "ENDMARKER") 421) (Value.int 0 420)) :: (DictEntry.mk (PyData.keyHash P (Str.ofString "LPAR")) (Value.str (Str.ofString "LPAR") 423) (Value.int 7 422)) :: (DictEntry.mk (PyData.keyHash P (Str.ofString "RPAR")) (Value.str (Str.ofString "RPAR") 425) (Value.int 8 424)) :: (DictEntry.mk (PyData.keyHash P (Str.ofString "LSQB")) (Value.str (Str.ofString "LSQB") 427) (Value.int 9 426)) :: (DictEntry.mk (PyData.keyHash P (Str.ofString "RSQB")) (Value.str (Str.ofString "RSQB") 429) (Value.int 10 428)) :: (DictEntry.mk (PyData.keyHash P (Str.ofString "COLON")) (Value.str (Str.ofString "COLON") 431) (Value.int 11 430)) :: (DictEntry.mk (PyData.keyHash P (Str.ofString "COMMA")) (Value.str (Str.ofString "COMMA") 433) (Value.int 12 432)) :: (DictEntry.mk (PyData.keyHash P (Str.ofString "SEMI")) (Value.str (Str.ofString "SEMI") 435) (Value.int 13 434)) :: (DictEntry.mk (PyData.keyHash P (Str.ofString "PLUS")) (Value.str (Str.ofString "PLUS") 437) (Value.int 14 436)) :: (DictEntry.mk (PyData.keyHash P (Str.ofString "MINUS")) (Value.str (Str.ofString "MINUS") 439) (Value.int 15 438)) :: (DictEntry.mk (PyData.keyHash P (Str.ofString "STAR")) (Value.str (Str.ofString "STAR") 441) (Value.int 16 440)) :: (DictEntry.mk (PyData.keyHash P (Str.ofString "SLASH")) (Value.str (Str.ofString "SLASH") 443) (Value.int 17 442)) :: (DictEntry.mk (PyData.keyHash P (Str.ofString "VBAR")) (Value.str (Str.ofString "VBAR") 445) (Value.int 18 444)) :: (DictEntry.mk (PyData.keyHash P (Str.ofString "AMPER")) (Value.str (Str.ofString "AMPER") 447) (Value.int 19 446)) :: (DictEntry.mk (PyData.keyHash P (Str.ofString "LESS")) (Value.str (Str.ofString "LESS") 449) (Value.int 20 448)) :: (DictEntry.mk (PyData.keyHash P (Str.ofString "GREATER")) (Value.str (Str.ofString "GREATER") 451) (Value.int 21 450)) :: (DictEntry.mk (PyData.keyHash P (Str.ofString "EQUAL")) (Value.str (Str.ofString "EQUAL") 453) (Value.int 22 452)) :: (DictEntry.mk (PyData.keyHash P (Str.ofString "DOT")) (Value.str (Str.ofString "DOT") 455) (Value.int 23 454)) :: (DictEntry.mk (PyData.keyHash P (Str.ofString "PERCENT")) (Value.str (Str.ofString "PERCENT") 457) (Value.int 24 456)) :: (DictEntry.mk (PyData.keyHash P (Str.ofString "LBRACE")) (Value.str (Str.ofString "LBRACE") 459) (Value.int 25 458)) :: (DictEntry.mk (PyData.keyHash P (Str.ofString "RBRACE")) (Value.str (Str.ofString "RBRACE") 461) (Value.int 26 460)) :: (DictEntry.mk (PyData.keyHash P (Str.ofString "EQEQUAL")) (Value.str (Str.ofString "EQEQUAL") 463) (Value.int 27 462)) :: (DictEntry.mk (PyData.keyHash P (Str.ofString "NOTEQUAL")) (Value.str (Str.ofString "NOTEQUAL") 465) (Value.int 28 464)) :: (DictEntry.mk (PyData.keyHash P (Str.ofString "LESSEQUAL")) (Value.str (Str.ofString "LESSEQUAL") 467) (Value.int 29 466)) :: (DictEntry.mk (PyData.keyHash P (Str.ofString "GREATEREQUAL")) (Value.str (Str.ofString "GREATEREQUAL") 469) (Value.int 30 468)) :: (DictEntry.mk (PyData.keyHash P (Str.ofString "TILDE")) (Value.str (Str.ofString "TILDE") 471) (Value.int 31 470)) :: (DictEntry.mk (PyData.keyHash P (Str.ofString "CIRCUMFLEX")) (Value.str (Str.ofString "CIRCUMFLEX") 473) (Value.int 32 472)) :: (DictEntry.mk (PyData.keyHash P (Str.ofString "LEFTSHIFT")) (Value.str (Str.ofString "LEFTSHIFT") 475) (Value.int 33 474)) :: (DictEntry.mk (PyData.keyHash P (Str.ofString "RIGHTSHIFT")) (Value.str (Str.ofString "RIGHTSHIFT") 477) (Value.int 34 476)) :: (DictEntry.mk (PyData.keyHash P (Str.ofString "DOUBLESTAR")) (Value.str (Str.ofString "DOUBLESTAR") 479) (Value.int 35 478)) :: (DictEntry.mk (PyData.keyHash P (Str.ofString "PLUSEQUAL")) (Value.str (Str.ofString "PLUSEQUAL") 481) (Value.int 36 480)) :: (DictEntry.mk (PyData.keyHash P (Str.ofString "MINEQUAL")) (Value.str (Str.ofString "MINEQUAL") 483) (Value.int 37 482)) :: (DictEntry.mk (PyData.keyHash P (Str.ofString "STAREQUAL")) (Value.str (Str.ofString "STAREQUAL") 485) (Value.int 38 484)) :: (DictEntry.mk (PyData.keyHash P (Str.ofString "SLASHEQUAL")) (Value.str (Str.ofString "SLASHEQUAL") 487) (Value.int 39 486)) :: (DictEntry.mk (PyData.keyHash P (Str.ofString "PERCENTEQUAL")) (Value.str (Str.ofString "PERCENTEQUAL") 489) (Value.int 40 488)) :: (DictEntry.mk (PyData.keyHash P (Str.ofString "AMPEREQUAL")) (Value.str (Str.ofString "AMPEREQUAL") 491) (Value.int 41 490)) :: (DictEntry.mk (PyData.keyHash P (Str.ofString "VBAREQUAL")) (Value.str (Str.ofString "VBAREQUAL") 493) (Value.int 42 492)) :: (DictEntry.mk (PyData.keyHash P (Str.ofString "CIRCUMFLEXEQUAL")) (Value.str (Str.ofString "CIRCUMFLEXEQUAL") 495) (Value.int 43 494)) :: (DictEntry.mk (PyData.keyHash P (Str.ofString "LEFTSHIFTEQUAL")) (Value.str (Str.ofString "LEFTSHIFTEQUAL") 497) (Value.int 44 496)) :: (DictEntry.mk (PyData.keyHash P (Str.ofString "RIGHTSHIFTEQUAL")) (Value.str (Str.ofString "RIGHTSHIFTEQUAL") 499) (Value.int 45 498)) :: (DictEntry.mk (PyData.keyHash P (Str.ofString "DOUBLESTAREQUAL")) (Value.str (Str.ofString "DOUBLESTAREQUAL") 501) (Value.int 46 500)) :: (DictEntry.mk (PyData.keyHash P (Str.ofString "DOUBLESLASH")) (Value.str (Str.ofString "DOUBLESLASH") 503) (Value.int 47 502)) :: (DictEntry.mk (PyData.keyHash P (Str.ofString "DOUBLESLASHEQUAL")) (Value.str (Str.ofString "DOUBLESLASHEQUAL") 505) (Value.int 48 504)) :: (DictEntry.mk (PyData.keyHash P (Str.ofString "AT")) (Value.str (Str.ofString "AT") 507) (Value.int 49 506)) :: (DictEntry.mk (PyData.keyHash P (Str.ofString "ATEQUAL")) (Value.str (Str.ofString "ATEQUAL") 509) (Value.int 50 508)) :: (DictEntry.mk (PyData.keyHash P (Str.ofString "RARROW")) (Value.str (Str.ofString "RARROW") 511) (Value.int 51 510)) :: (DictEntry.mk (PyData.keyHash P (Str.ofString "ELLIPSIS")) (Value.str (Str.ofString "ELLIPSIS") 513) (Value.int 52 512)) :: (DictEntry.mk (PyData.keyHash P (Str.ofString "COLONEQUAL")) (Value.str (Str.ofString "COLONEQUAL") 515) (Value.int 53 514)) :: (DictEntry.mk (PyData.keyHash P (Str.ofString "EXCLAMATION")) (Value.str (Str.ofString "EXCLAMATION") 517) (Value.int 54 516)) :: (DictEntry.mk (PyData.keyHash P (Str.ofString "EXACT_TOKEN_TYPES")) (Value.str (Str.ofString "EXACT_TOKEN_TYPES") 614) (Value.ref 78)) :: [])) 68) #[])
noncomputable def ob65 (P : Params) : Obj := (Obj.mk (Value.type "dict") none (Data.dict #[(DictEntry.mk (PyData.keyHash P (Str.ofString "->")) (Value.str (Str.ofString "->") 552) (Value.int 51 510)), (DictEntry.mk (PyData.keyHash P (Str.ofString ".")) (Value.str (Str.ofString ".") 554) (Value.int 23 454)), (DictEntry.mk (PyData.keyHash P (Str.ofString "...")) (Value.str (Str.ofString "...") 556) (Value.int 52 512)), (DictEntry.mk (PyData.keyHash P (Str.ofString "/")) (Value.str (Str.ofString "/") 558) (Value.int 17 442)), (DictEntry.mk (PyData.keyHash P (Str.ofString "//")) (Value.str (Str.ofString "//") 560) (Value.int 47 502)), (DictEntry.mk (PyData.keyHash P (Str.ofString "//=")) (Value.str (Str.ofString "//=") 562) (Value.int 48 504)), (DictEntry.mk (PyData.keyHash P (Str.ofString "/=")) (Value.str (Str.ofString "/=") 564) (Value.int 39 486)), (DictEntry.mk (PyData.keyHash P (Str.ofString ":")) (Value.str (Str.ofString ":") 566) (Value.int 11 430)), (DictEntry.mk (PyData.keyHash P (Str.ofString ":=")) (Value.str (Str.ofString ":=") 568) (Value.int 53 514)), (DictEntry.mk (PyData.keyHash P (Str.ofString ";")) (Value.str (Str.ofString ";") 570) (Value.int 13 434)), (DictEntry.mk (PyData.keyHash P (Str.ofString "<")) (Value.str (Str.ofString "<") 572) (Value.int 20 448)), (DictEntry.mk (PyData.keyHash P (Str.ofString "<<")) (Value.str (Str.ofString "<<") 574) (Value.int 33 474)), (DictEntry.mk (PyData.keyHash P (Str.ofString "<<=")) (Value.str (Str.ofString "<<=") 576) (Value.int 44 496)), (DictEntry.mk (PyData.keyHash P (Str.ofString "<=")) (Value.str (Str.ofString "<=") 578) (Value.int 29 466)), (DictEntry.mk (PyData.keyHash P (Str.ofString "=")) (Value.str (Str.ofString "=") 580) (Value.int 22 452)), (DictEntry.mk (PyData.keyHash P (Str.ofString "==")) (Value.str (Str.ofString "==") 582) (Value.int 27 462)), (DictEntry.mk (PyData.keyHash P (Str.ofString ">")) (Value.str (Str.ofString ">") 584) (Value.int 21 450))] 17) #[])
noncomputable def ob66 (P : Params) : Obj := (Obj.mk (Value.type "dict") none (Data.dict #[(DictEntry.mk (PyData.keyHash P (Str.ofString ">=")) (Value.str (Str.ofString ">=") 586) (Value.int 30 468)), (DictEntry.mk (PyData.keyHash P (Str.ofString ">>")) (Value.str (Str.ofString ">>") 587) (Value.int 34 476)), (DictEntry.mk (PyData.keyHash P (Str.ofString ">>=")) (Value.str (Str.ofString ">>=") 588) (Value.int 45 498)), (DictEntry.mk (PyData.keyHash P (Str.ofString "@")) (Value.str (Str.ofString "@") 589) (Value.int 49 506)), (DictEntry.mk (PyData.keyHash P (Str.ofString "@=")) (Value.str (Str.ofString "@=") 590) (Value.int 50 508)), (DictEntry.mk (PyData.keyHash P (Str.ofString "[")) (Value.str (Str.ofString "[") 591) (Value.int 9 426)), (DictEntry.mk (PyData.keyHash P (Str.ofString "]")) (Value.str (Str.ofString "]") 592) (Value.int 10 428)), (DictEntry.mk (PyData.keyHash P (Str.ofString "^")) (Value.str (Str.ofString "^") 593) (Value.int 32 472)), (DictEntry.mk (PyData.keyHash P (Str.ofString "^=")) (Value.str (Str.ofString "^=") 594) (Value.int 43 494)), (DictEntry.mk (PyData.keyHash P (Str.ofString "{")) (Value.str (Str.ofString "{") 595) (Value.int 25 458)), (DictEntry.mk (PyData.keyHash P (Str.ofString "|")) (Value.str (Str.ofString "|") 596) (Value.int 18 444)), (DictEntry.mk (PyData.keyHash P (Str.ofString "|=")) (Value.str (Str.ofString "|=") 597) (Value.int 42 492)), (DictEntry.mk (PyData.keyHash P (Str.ofString "}")) (Value.str (Str.ofString "}") 598) (Value.int 26 460)), (DictEntry.mk (PyData.keyHash P (Str.ofString "~")) (Value.str (Str.ofString "~") 599) (Value.int 31 470))] 14) #[])
noncomputable def ob67 (P : Params) : Obj := (Obj.mk (Value.type "dict") none (Data.dict (List.toArray ((DictEntry.mk (PyData.keyHash P (Str.ofString "!")) (Value.str (Str.ofString "!") 518) (Value.int 54 516)) :: (DictEntry.mk (PyData.keyHash P (Str.ofString "!=")) (Value.str (Str.ofString "!=") 520) (Value.int 28 464)) :: (DictEntry.mk (PyData.keyHash P (Str.ofString "%")) (Value.str (Str.ofString "%") 522) (Value.int 24 456)) :: (DictEntry.mk (PyData.keyHash P (Str.ofString "%=")) (Value.str (Str.ofString "%=") 524) (Value.int 40 488)) :: (DictEntry.mk (PyData.keyHash P (Str.ofString "&")) (Value.str (Str.ofString "&") 526) (Value.int 19 446)) :: (DictEntry.mk (PyData.keyHash P (Str.ofString "&=")) (Value.str (Str.ofString "&=") 528) (Value.int 41 490)) :: (DictEntry.mk (PyData.keyHash P (Str.ofString "(")) (Value.str (Str.ofString "(") 530) (Value.int 7 422)) :: (DictEntry.mk (PyData.keyHash P (Str.ofString ")")) (Value.str (Str.ofString ")") 532) (Value.int 8 424)) :: (DictEntry.mk (PyData.keyHash P (Str.ofString "*")) (Value.str (Str.ofString "*") 534) (Value.int 16 440)) :: (DictEntry.mk (PyData.keyHash P (Str.ofString "**")) (Value.str (Str.ofString "**") 536) (Value.int 35 478)) :: (DictEntry.mk (PyData.keyHash P (Str.ofString "**=")) (Value.str (Str.ofString "**=") 538) (Value.int 46 500)) :: (DictEntry.mk (PyData.keyHash P (Str.ofString "*=")) (Value.str (Str.ofString "*=") 540) (Value.int 38 484)) :: (DictEntry.mk (PyData.keyHash P (Str.ofString "+")) (Value.str (Str.ofString "+") 542) (Value.int 14 436)) :: (DictEntry.mk (PyData.keyHash P (Str.ofString "+=")) (Value.str (Str.ofString "+=") 544) (Value.int 36 480)) :: (DictEntry.mk (PyData.keyHash P (Str.ofString ",")) (Value.str (Str.ofString ",") 546) (Value.int 12 432)) :: (DictEntry.mk (PyData.keyHash P (Str.ofString "-")) (Value.str (Str.ofString "-") 548) (Value.int 15 438)) :: (DictEntry.mk (PyData.keyHash P (Str.ofString "-=")) (Value.str (Str.ofString "-=") 550) (Value.int 37 482)) :: (DictEntry.mk (PyData.keyHash P (Str.ofString "->")) (Value.str (Str.ofString "->") 552) (Value.int 51 510)) :: (DictEntry.mk (PyData.keyHash P (Str.ofString ".")) (Value.str (Str.ofString ".") 554) (Value.int 23 454)) :: (DictEntry.mk (PyData.keyHash P (Str.ofString "...")) (Value.str (Str.ofString "...") 556) (Value.int 52 512)) :: (DictEntry.mk (PyData.keyHash P (Str.ofString "/")) (Value.str (Str.ofString "/") 558) (Value.int 17 442)) :: (DictEntry.mk (PyData.keyHash P (Str.ofString "//")) (Value.str (Str.ofString "//") 560) (Value.int 47 502)) :: (DictEntry.mk (PyData.keyHash P (Str.ofString "//=")) (Value.str (Str.ofString "//=") 562) (Value.int 48 504)) :: (DictEntry.mk (PyData.keyHash P (Str.ofString "/=")) (Value.str (Str.ofString "/=") 564) (Value.int 39 486)) :: (DictEntry.mk (PyData.keyHash P (Str.ofString ":")) (Value.str (Str.ofString ":") 566) (Value.int 11 430)) :: (DictEntry.mk (PyData.keyHash P (Str.ofString ":=")) (Value.str (Str.ofString ":=") 568) (Value.int 53 514)) :: (DictEntry.mk (PyData.keyHash P (Str.ofString ";")) (Value.str (Str.ofString ";") 570) (Value.int 13 434)) :: (DictEntry.mk (PyData.keyHash P (Str.ofString "<")) (Value.str (Str.ofString "<") 572) (Value.int 20 448)) :: (DictEntry.mk (PyData.keyHash P (Str.ofString "<<")) (Value.str (Str.ofString "<<") 574) (Value.int 33 474)) :: (DictEntry.mk (PyData.keyHash P (Str.ofString "<<=")) (Value.str (Str.ofString "<<=") 576) (Value.int 44 496)) :: (DictEntry.mk (PyData.keyHash P (Str.ofString "<=")) (Value.str (Str.ofString "<=") 578) (Value.int 29 466)) :: (DictEntry.mk (PyData.keyHash P (Str.ofString "=")) (Value.str (Str.ofString "=") 580) (Value.int 22 452)) :: (DictEntry.mk (PyData.keyHash P (Str.ofString "==")) (Value.str (Str.ofString "==") 582) (Value.int 27 462)) :: (DictEntry.mk (PyData.keyHash P (Str.ofString ">")) (Value.str (Str.ofString ">") 584) (Value.int 21 450)) :: (DictEntry.mk (PyData.keyHash P (Str.ofString ">=")) (Value.str (Str.ofString ">=") 586) (Value.int 30 468)) :: (DictEntry.mk (PyData.keyHash P (Str.ofString ">>")) (Value.str (Str.ofString ">>") 587) (Value.int 34 476)) :: (DictEntry.mk (PyData.keyHash P (Str.ofString ">>=")) (Value.str (Str.ofString ">>=") 588) (Value.int 45 498)) :: (DictEntry.mk (PyData.keyHash P (Str.ofString "@")) (Value.str (Str.ofString "@") 589) (Value.int 49 506)) :: (DictEntry.mk (PyData.keyHash P (Str.ofString "@=")) (Value.str (Str.ofString "@=") 590) (Value.int 50 508)) :: (DictEntry.mk (PyData.keyHash P (Str.ofString "[")) (Value.str (Str.ofString "[") 591) (Value.int 9 426)) :: (DictEntry.mk (PyData.keyHash P (Str.ofString "]")) (Value.str (Str.ofString "]") 592) (Value.int 10 428)) :: (DictEntry.mk (PyData.keyHash P (Str.ofString "^")) (Value.str (Str.ofString "^") 593) (Value.int 32 472)) :: (DictEntry.mk (PyData.keyHash P (Str.ofString "^=")) (Value.str (Str.ofString "^=") 594) (Value.int 43 494)) :: (DictEntry.mk (PyData.keyHash P (Str.ofString "{")) (Value.str (Str.ofString "{") 595) (Value.int 25 458)) :: (DictEntry.mk (PyData.keyHash P (Str.ofString "|")) (Value.str (Str.ofString "|") 596) (Value.int 18 444)) :: (DictEntry.mk (PyData.keyHash P (Str.ofString "|=")) (Value.str (Str.ofString "|=") 597) (Value.int 42 492)) :: (DictEntry.mk (PyData.keyHash P (Str.ofString "}")) (Value.str (Str.ofString "}") 598) (Value.int 26 460)) :: (DictEntry.mk (PyData.keyHash P (Str.ofString "~")) (Value.str (Str.ofString "~") 599) (Value.int 31 470)) :: [])) 48) #[])
noncomputable def ob68 (P : Params) : Obj := (Obj.mk (Value.type "dict") none (Data.dict (List.toArray ((DictEntry.mk (PyData.keyHash P (Str.ofString "__name__")) (Value.str (Str.ofString "__name__") 165) (Value.str (Str.ofString "law_tl0025_01") 622)) :: (DictEntry.mk (PyData.keyHash P (Str.ofString "__doc__")) (Value.str (Str.ofString "__doc__") 166) Value.none) :: (DictEntry.mk (PyData.keyHash P (Str.ofString "__package__")) (Value.str (Str.ofString "__package__") 167) Value.none) :: (DictEntry.mk (PyData.keyHash P (Str.ofString "__loader__")) (Value.str (Str.ofString "__loader__") 168) (Value.builtin "__main__.__loader__#opaque")) :: (DictEntry.mk (PyData.keyHash P (Str.ofString "__spec__")) (Value.str (Str.ofString "__spec__") 169) Value.none) :: (DictEntry.mk (PyData.keyHash P (Str.ofString "__annotations__")) (Value.str (Str.ofString "__annotations__") 170) (Value.ref 6)) :: (DictEntry.mk (PyData.keyHash P (Str.ofString "__builtins__")) (Value.str (Str.ofString "__builtins__") 171) (Value.ref 4)) :: (DictEntry.mk (PyData.keyHash P (Str.ofString "__file__")) (Value.str (Str.ofString "__file__") 173) (Value.str (Str.ofString "/claim/cut.py") 172)) :: (DictEntry.mk (PyData.keyHash P (Str.ofString "__cached__")) (Value.str (Str.ofString "__cached__") 174) Value.none) :: (DictEntry.mk (PyData.keyHash P (Str.ofString "_sre")) (Value.str (Str.ofString "_sre") 275) (Value.ref 12)) :: (DictEntry.mk (PyData.keyHash P (Str.ofString "compute_powers")) (Value.str (Str.ofString "compute_powers") 303) (Value.ref 39)) :: (DictEntry.mk (PyData.keyHash P (Str.ofString "_int2digits")) (Value.str (Str.ofString "_int2digits") 314) (Value.ref 46)) :: (DictEntry.mk (PyData.keyHash P (Str.ofString "rgb_to_hsv")) (Value.str (Str.ofString "rgb_to_hsv") 334) (Value.ref 53)) :: (DictEntry.mk (PyData.keyHash P (Str.ofString "hsv_to_rgb")) (Value.str (Str.ofString "hsv_to_rgb") 348) (Value.ref 60)) :: (DictEntry.mk (PyData.keyHash P (Str.ofString "_twin_re_1")) (Value.str (Str.ofString "_twin_re_1") 366) (Value.ref 65)) :: (DictEntry.mk (PyData.keyHash P (Str.ofString "_twin_re_2")) (Value.str (Str.ofString "_twin_re_2") 408) (Value.ref 70)) :: (DictEntry.mk (PyData.keyHash P (Str.ofString "CRLF")) (Value.str (Str.ofString "CRLF") 410) (Value.str (Str.ofString "\x0d\n") 409)) :: (DictEntry.mk (PyData.keyHash P (Str.ofString "quotedata")) (Value.str (Str.ofString "quotedata") 417) (Value.ref 77)) :: (DictEntry.mk (PyData.keyHash P (Str.ofString "ENDMARKER")) (Value.str (Str.ofString "ENDMARKER") 421) (Value.int 0 420)) :: (DictEntry.mk (PyData.keyHash P (Str.ofString "LPAR")) (Value.str (Str.ofString "LPAR") 423) (Value.int 7 422)) :: (DictEntry.mk (PyData.keyHash P (Str.ofString "RPAR")) (Value.str (Str.ofString "RPAR") 425) (Value.int 8 424)) :: (DictEntry.mk (PyData.keyHash P (Str.ofString "LSQB")) (Value.str (Str.ofString "LSQB") 427) (Value.int 9 426)) :: (DictEntry.mk (PyData.keyHash P (Str.ofString "RSQB")) (Value.str (Str.ofString "RSQB") 429) (Value.int 10 428)) :: (DictEntry.mk (PyData.keyHash P (Str.ofString "COLON")) (Value.str (Str.ofString "COLON") 431) (Value.int 11 430)) :: (DictEntry.mk (PyData.keyHash P (Str.ofString "COMMA")) (Value.str (Str.ofString "COMMA") 433) (Value.int 12 432)) :: (DictEntry.mk (PyData.keyHash P (Str.ofString "SEMI")) (Value.str (Str.ofString "SEMI") 435) (Value.int 13 434)) :: (DictEntry.mk (PyData.keyHash P (Str.ofString "PLUS")) (Value.str (Str.ofString "PLUS") 437) (Value.int 14 436)) :: (DictEntry.mk (PyData.keyHash P (Str.ofString "MINUS")) (Value.str (Str.ofString "MINUS") 439) (Value.int 15 438)) :: (DictEntry.mk (PyData.keyHash P (Str.ofString "STAR")) (Value.str (Str.ofString "STAR") 441) (Value.int 16 440)) :: (DictEntry.mk (PyData.keyHash P (Str.ofString "SLASH")) (Value.str (Str.ofString "SLASH") 443) (Value.int 17 442)) :: (DictEntry.mk (PyData.keyHash P (Str.ofString "VBAR")) (Value.str (Str.ofString "VBAR") 445) (Value.int 18 444)) :: (DictEntry.mk (PyData.keyHash P (Str.ofString "AMPER")) (Value.str (Str.ofString "AMPER") 447) (Value.int 19 446)) :: (DictEntry.mk (PyData.keyHash P (Str.ofString "LESS")) (Value.str (Str.ofString "LESS") 449) (Value.int 20 448)) :: (DictEntry.mk (PyData.keyHash P (Str.ofString "GREATER")) (Value.str (Str.ofString "GREATER") 451) (Value.int 21 450)) :: (DictEntry.mk (PyData.keyHash P (Str.ofString "EQUAL")) (Value.str (Str.ofString "EQUAL") 453) (Value.int 22 452)) :: (DictEntry.mk (PyData.keyHash P (Str.ofString "DOT")) (Value.str (Str.ofString "DOT") 455) (Value.int 23 454)) :: (DictEntry.mk (PyData.keyHash P (Str.ofString "PERCENT")) (Value.str (Str.ofString "PERCENT") 457) (Value.int 24 456)) :: (DictEntry.mk (PyData.keyHash P (Str.ofString "LBRACE")) (Value.str (Str.ofString "LBRACE") 459) (Value.int 25 458)) :: (DictEntry.mk (PyData.keyHash P (Str.ofString "RBRACE")) (Value.str (Str.ofString "RBRACE") 461) (Value.int 26 460)) :: (DictEntry.mk (PyData.keyHash P (Str.ofString "EQEQUAL")) (Value.str (Str.ofString "EQEQUAL") 463) (Value.int 27 462)) :: (DictEntry.mk (PyData.keyHash P (Str.ofString "NOTEQUAL")) (Value.str (Str.ofString "NOTEQUAL") 465) (Value.int 28 464)) :: (DictEntry.mk (PyData.keyHash P (Str.ofString "LESSEQUAL")) (Value.str (Str.ofString "LESSEQUAL") 467) (Value.int 29 466)) :: (DictEntry.mk (PyData.keyHash P (Str.ofString "GREATEREQUAL")) (Value.str (Str.ofString "GREATEREQUAL") 469) (Value.int 30 468)) :: (DictEntry.mk (PyData.keyHash P (Str.ofString "TILDE")) (Value.str (Str.ofString "TILDE") 471) (Value.int 31 470)) :: (DictEntry.mk (PyData.keyHash P (Str.ofString "CIRCUMFLEX")) (Value.str (Str.ofString "CIRCUMFLEX") 473) (Value.int 32 472)) :: (DictEntry.mk (PyData.keyHash P (Str.ofString "LEFTSHIFT")) (Value.str (Str.ofString "LEFTSHIFT") 475) (Value.int 33 474)) :: (DictEntry.mk (PyData.keyHash P (Str.ofString "RIGHTSHIFT")) (Value.str (Str.ofString "RIGHTSHIFT") 477) (Value.int 34 476)) :: (DictEntry.mk (PyData.keyHash P (Str.ofString "DOUBLESTAR")) (Value.str (Str.ofString "DOUBLESTAR") 479) (Value.int 35 478)) :: (DictEntry.mk (PyData.keyHash P (Str.ofString "PLUSEQUAL")) (Value.str (Str.ofString "PLUSEQUAL") 481) (Value.int 36 480)) :: (DictEntry.mk (PyData.keyHash P (Str.ofString "MINEQUAL")) (Value.str (Str.ofString "MINEQUAL") 483) (Value.int 37 482)) :: (DictEntry.mk (PyData.keyHash P (Str.ofString "STAREQUAL")) (Value.str (Str.ofString "STAREQUAL") 485) (Value.int 38 484)) :: (DictEntry.mk (PyData.keyHash P (Str.ofString "SLASHEQUAL")) (Value.str (Str.ofString "SLASHEQUAL") 487) (Value.int 39 486)) :: (DictEntry.mk (PyData.keyHash P (Str.ofString "PERCENTEQUAL")) (Value.str (Str.ofString "PERCENTEQUAL") 489) (Value.int 40 488)) :: (DictEntry.mk (PyData.keyHash P (Str.ofString "AMPEREQUAL")) (Value.str (Str.ofString "AMPEREQUAL") 491) (Value.int 41 490)) :: (DictEntry.mk (PyData.keyHash P (Str.ofString "VBAREQUAL")) (Value.str (Str.ofString "VBAREQUAL") 493) (Value.int 42 492)) :: (DictEntry.mk (PyData.keyHash P (Str.ofString "CIRCUMFLEXEQUAL")) (Value.str (Str.ofString "CIRCUMFLEXEQUAL") 495) (Value.int 43 494)) :: (DictEntry.mk (PyData.keyHash P (Str.ofString "LEFTSHIFTEQUAL")) (Value.str (Str.ofString "LEFTSHIFTEQUAL") 497) (Value.int 44 496)) :: (DictEntry.mk (PyData.keyHash P (Str.ofString "RIGHTSHIFTEQUAL")) (Value.str (Str.ofString "RIGHTSHIFTEQUAL") 499) (Value.int 45 498)) :: (DictEntry.mk (PyData.keyHash P (Str.ofString "DOUBLESTAREQUAL")) (Value.str (Str.ofString "DOUBLESTAREQUAL") 501) (Value.int 46 500)) :: (DictEntry.mk (PyData.keyHash P (Str.ofString "DOUBLESLASH")) (Value.str (Str.ofString "DOUBLESLASH") 503) (Value.int 47 502)) :: (DictEntry.mk (PyData.keyHash P (Str.ofString "DOUBLESLASHEQUAL")) (Value.str (Str.ofString "DOUBLESLASHEQUAL") 505) (Value.int 48 504)) :: (DictEntry.mk (PyData.keyHash P (Str.ofString "AT")) (Value.str (Str.ofString "AT") 507) (Value.int 49 506)) :: (DictEntry.mk (PyData.keyHash P (Str.ofString "ATEQUAL")) (Value.str (Str.ofString "ATEQUAL") 509) (Value.int 50 508)) :: (DictEntry.mk (PyData.keyHash P (Str.ofString "RARROW")) (Value.str (Str.ofString "RARROW") 511) (Value.int 51 510)) :: (DictEntry.mk (PyData.keyHash P (Str.ofString "ELLIPSIS")) (Value.str (Str.ofString "ELLIPSIS") 513) (Value.int 52 512)) :: (DictEntry.mk (PyData.keyHash P (Str.ofString "COLONEQUAL")) (Value.str (Str.ofString "COLONEQUAL") 515) (Value.int 53 514)) :: (DictEntry.mk (PyData.keyHash P (Str.ofString "EXCLAMATION")) (Value.str (Str.ofString "EXCLAMATION") 517) (Value.int 54 516)) :: (DictEntry.mk (PyData.keyHash P (Str.ofString "EXACT_TOKEN_TYPES")) (Value.str (Str.ofString "EXACT_TOKEN_TYPES") 614) (Value.ref 78)) :: (DictEntry.mk (PyData.keyHash P (Str.ofString "ISEOF")) (Value.str (Str.ofString "ISEOF") 621) (Value.ref 87)) :: (DictEntry.mk (PyData.keyHash P (Str.ofString "_law_hues")) (Value.str (Str.ofString "_law_hues") 629) (Value.ref 92)) :: (DictEntry.mk (PyData.keyHash P (Str.ofString "_law_arcs")) (Value.str (Str.ofString "_law_arcs") 635) (Value.ref 97)) :: (DictEntry.mk (PyData.keyHash P (Str.ofString "_law_number")) (Value.str (Str.ofString "_law_number") 646) (Value.ref 104)) :: (DictEntry.mk (PyData.keyHash P (Str.ofString "_law_next")) (Value.str (Str.ofString "_law_next") 662) (Value.ref 111)) :: (DictEntry.mk (PyData.keyHash P (Str.ofString "_law_trees")) (Value.str (Str.ofString "_law_trees") 679) (Value.ref 118)) :: (DictEntry.mk (PyData.keyHash P (Str.ofString "_law_heard")) (Value.str (Str.ofString "_law_heard") 685) (Value.ref 123)) :: (DictEntry.mk (PyData.keyHash P (Str.ofString "_law_tokens")) (Value.str (Str.ofString "_law_tokens") 691) (Value.ref 128)) :: (DictEntry.mk (PyData.keyHash P (Str.ofString "law")) (Value.str (Str.ofString "law") 697) (Value.ref 133)) :: [])) 77) #[])
noncomputable def ob69 (P : Params) : Obj := (Obj.mk (Value.type "code") none (Data.fields #[(Value.str (Str.ofString "_law_tokens") 686), (Value.str (Str.ofString "_law_tokens") 687), (Value.str (Str.ofString "/claim/cut.py") 688), (Value.int 216 0), (Value.int 1 0), (Value.int 0 0), (Value.int 0 0), (Value.int 3 0), (Value.ref 124), (Value.bool Bool.true), (Value.int 276 0), (Value.ref 125), Value.none, Value.none, Value.none, (Value.ref 126), (Value.int 689 0), (Value.int 216 0), (Value.str (Str.ofString "/claim/cut.py") 690)]) #[])
noncomputable def ob70 (P : Params) : Obj := (Obj.mk Value.none none (Data.func (FuncData.mk (Str.ofString "_law_arcs") (Str.ofString "_law_arcs") (fa 66) (FuncBody.stmts (fb 66)) (fs 66) 0 [] Value.none Value.none Value.none Value.none none Value.none Value.none 0)) #[])
noncomputable def ob71 (P : Params) : Obj := (Obj.mk (Value.type "function") none (Data.func (FuncData.mk (Str.ofString "_law_next") (Str.ofString "_law_next") (fa 68) (FuncBody.stmts (fb 68)) (fs 68) 3 [] Value.none Value.none Value.none (Value.str (Str.ofString "law_tl0025_01") 622) none (Value.ref 110) Value.none 0)) #[])
noncomputable def ob72 (P : Params) : Obj := (Obj.mk (Value.type "code") none (Data.fields #[(Value.str (Str.ofString "_law_number") 636), (Value.str (Str.ofString "_law_number") 637), (Value.str (Str.ofString "/claim/cut.py") 638), (Value.int 179 0), (Value.int 3 0), (Value.int 0 0), (Value.int 0 0), (Value.int 3 0), (Value.ref 98), (Value.bool Bool.true), (Value.int 276 0), (Value.ref 99), Value.none, (Value.ref 100), (Value.ref 101), (Value.ref 102), (Value.int 644 0), (Value.int 179 0), (Value.str (Str.ofString "/claim/cut.py") 645)]) #[])
noncomputable def ob73 (P : Params) : Obj := (Obj.mk (Value.type "function") none (Data.func (FuncData.mk (Str.ofString "ISEOF") (Str.ofString "ISEOF") (fa 63) (FuncBody.stmts (fb 63)) (fs 63) 3 [] Value.none Value.none Value.none (Value.str (Str.ofString "cpy313.token") 418) none (Value.ref 86) Value.none 0)) #[])
noncomputable def ob74 (P : Params) : Obj := (Obj.mk Value.none none (Data.func (FuncData.mk (Str.ofString "law") (Str.ofString "law") (fa 72) (FuncBody.stmts (fb 72)) (fs 72) 0 [] Value.none Value.none Value.none Value.none none Value.none Value.none 0)) #[])
noncomputable def ob75 (P : Params) : Obj := (Obj.mk (Value.type "tuple") none (Data.seq #[(Value.str (Str.ofString "x") 618)] 0) #[])
noncomputable def ob76 (P : Params) : Obj := (Obj.mk (Value.type "tuple") none (Data.seq #[(Value.str (Str.ofString "arcs") 650), (Value.str (Str.ofString "numbers") 651), (Value.str (Str.ofString "used") 652), (Value.str (Str.ofString "reached") 653), (Value.str (Str.ofString "spare") 654), (Value.str (Str.ofString "bars") 655), (Value.str (Str.ofString "k") 656), (Value.str (Str.ofString "rank") 657), (Value.str (Str.ofString "tail") 658), (Value.str (Str.ofString "head") 659)] 0) #[])
noncomputable def ob77 (P : Params) : Obj := (Obj.mk (Value.type "code") none (Data.fields #[(Value.str (Str.ofString "_law_hues") 624), (Value.str (Str.ofString "_law_hues") 625), (Value.str (Str.ofString "/claim/cut.py") 626), (Value.int 161 0), (Value.int 1 0), (Value.int 0 0), (Value.int 0 0), (Value.int 3 0), (Value.ref 88), (Value.bool Bool.true), (Value.int 276 0), (Value.ref 89), Value.none, Value.none, Value.none, (Value.ref 90), (Value.int 627 0), (Value.int 161 0), (Value.str (Str.ofString "/claim/cut.py") 628)]) #[])
noncomputable def ob78 (P : Params) : Obj := (Obj.mk (Value.type "function") none (Data.func (FuncData.mk (Str.ofString "_law_heard") (Str.ofString "_law_heard") (fa 70) (FuncBody.stmts (fb 70)) (fs 70) 3 [] Value.none Value.none Value.none (Value.str (Str.ofString "law_tl0025_01") 622) none (Value.ref 122) Value.none 0)) #[])
noncomputable def ob79 (P : Params) : Obj := (Obj.mk (Value.type "function") none (Data.func (FuncData.mk (Str.ofString "_law_arcs") (Str.ofString "_law_arcs") (fa 66) (FuncBody.stmts (fb 66)) (fs 66) 3 [] Value.none Value.none Value.none (Value.str (Str.ofString "law_tl0025_01") 622) none (Value.ref 96) Value.none 0)) #[])
noncomputable def ob80 (P : Params) : Obj := (Obj.mk Value.none none (Data.func (FuncData.mk (Str.ofString "_law_heard") (Str.ofString "_law_heard") (fa 70) (FuncBody.stmts (fb 70)) (fs 70) 0 [] Value.none Value.none Value.none Value.none none Value.none Value.none 0)) #[])
noncomputable def ob81 (P : Params) : Obj := (Obj.mk (Value.type "function") none (Data.func (FuncData.mk (Str.ofString "law") (Str.ofString "law") (fa 72) (FuncBody.stmts (fb 72)) (fs 72) 3 [] Value.none Value.none Value.none (Value.str (Str.ofString "law_tl0025_01") 622) none (Value.ref 132) Value.none 0)) #[])
noncomputable def ob82 (P : Params) : Obj := (Obj.mk Value.none none (Data.func (FuncData.mk (Str.ofString "ISEOF") (Str.ofString "ISEOF") (fa 63) (FuncBody.stmts (fb 63)) (fs 63) 0 [] Value.none Value.none Value.none Value.none none Value.none Value.none 0)) #[])
noncomputable def ob83 (P : Params) : Obj := (Obj.mk (Value.type "code") none (Data.fields #[(Value.str (Str.ofString "_law_trees") 663), (Value.str (Str.ofString "_law_trees") 664), (Value.str (Str.ofString "/claim/cut.py") 665), (Value.int 192 0), (Value.int 4 0), (Value.int 0 0), (Value.int 0 0), (Value.int 3 0), (Value.ref 112), (Value.bool Bool.true), (Value.int 276 0), (Value.ref 113), Value.none, (Value.ref 114), (Value.ref 115), (Value.ref 116), (Value.int 677 0), (Value.int 192 0), (Value.str (Str.ofString "/claim/cut.py") 678)]) #[])
noncomputable def ob84 (P : Params) : Obj := (Obj.mk Value.none none (Data.fields (List.toArray ((Value.int 3 0) :: (Value.int 0 0) :: (Value.ref 38) :: (Value.int 44 0) :: (Value.int 0 0) :: (Value.ref 45) :: (Value.int 61 0) :: (Value.int 0 0) :: (Value.ref 52) :: (Value.int 80 0) :: (Value.int 0 0) :: (Value.ref 59) :: (Value.int 105 0) :: (Value.int 0 0) :: (Value.ref 76) :: (Value.int 158 0) :: (Value.int 0 0) :: (Value.ref 86) :: (Value.int 161 0) :: (Value.int 0 0) :: (Value.ref 91) :: (Value.int 165 0) :: (Value.int 0 0) :: (Value.ref 96) :: (Value.int 179 0) :: (Value.int 0 0) :: (Value.ref 103) :: (Value.int 185 0) :: (Value.int 0 0) :: (Value.ref 110) :: (Value.int 192 0) :: (Value.int 0 0) :: (Value.ref 117) :: (Value.int 209 0) :: (Value.int 0 0) :: (Value.ref 122) :: (Value.int 216 0) :: (Value.int 0 0) :: (Value.ref 127) :: (Value.int 224 0) :: (Value.int 0 0) :: (Value.ref 132) :: []))) #[])
noncomputable def ob85 (P : Params) : Obj := (Obj.mk Value.none none (Data.func (FuncData.mk (Str.ofString "_law_next") (Str.ofString "_law_next") (fa 68) (FuncBody.stmts (fb 68)) (fs 68) 0 [] Value.none Value.none Value.none Value.none none Value.none Value.none 0)) #[])
noncomputable def ob86 (P : Params) : Obj := (Obj.mk (Value.type "function") none (Data.func (FuncData.mk (Str.ofString "_law_tokens") (Str.ofString "_law_tokens") (fa 71) (FuncBody.stmts (fb 71)) (fs 71) 3 [] Value.none Value.none Value.none (Value.str (Str.ofString "law_tl0025_01") 622) none (Value.ref 127) Value.none 0)) #[])
noncomputable def ob87 (P : Params) : Obj := (Obj.mk (Value.type "code") none (Data.fields #[(Value.str (Str.ofString "_law_arcs") 630), (Value.str (Str.ofString "_law_arcs") 631), (Value.str (Str.ofString "/claim/cut.py") 632), (Value.int 165 0), (Value.int 2 0), (Value.int 0 0), (Value.int 0 0), (Value.int 3 0), (Value.ref 93), (Value.bool Bool.true), (Value.int 276 0), (Value.ref 94), Value.none, Value.none, Value.none, (Value.ref 95), (Value.int 633 0), (Value.int 165 0), (Value.str (Str.ofString "/claim/cut.py") 634)]) #[])
noncomputable def ob88 (P : Params) : Obj := (Obj.mk (Value.type "function") none (Data.func (FuncData.mk (Str.ofString "_law_number") (Str.ofString "_law_number") (fa 67) (FuncBody.stmts (fb 67)) (fs 67) 3 [] Value.none Value.none Value.none (Value.str (Str.ofString "law_tl0025_01") 622) none (Value.ref 103) Value.none 0)) #[])
noncomputable def ob89 (P : Params) : Obj := (Obj.mk (Value.type "code") none (Data.fields #[(Value.str (Str.ofString "law") 692), (Value.str (Str.ofString "law") 693), (Value.str (Str.ofString "/claim/cut.py") 694), (Value.int 224 0), (Value.int 1 0), (Value.int 0 0), (Value.int 0 0), (Value.int 3 0), (Value.ref 129), (Value.bool Bool.true), (Value.int 276 0), (Value.ref 130), Value.none, Value.none, Value.none, (Value.ref 131), (Value.int 695 0), (Value.int 224 0), (Value.str (Str.ofString "/claim/cut.py") 696)]) #[])
noncomputable def ob90 (P : Params) : Obj := (Obj.mk (Value.type "tuple") none (Data.seq #[(Value.str (Str.ofString "powers") 639), (Value.str (Str.ofString "tail") 640), (Value.str (Str.ofString "head") 641), (Value.str (Str.ofString "number") 642), (Value.str (Str.ofString "other") 643)] 0) #[])
noncomputable def ob91 (P : Params) : Obj := (Obj.mk Value.none none (Data.func (FuncData.mk (Str.ofString "_law_trees") (Str.ofString "_law_trees") (fa 69) (FuncBody.stmts (fb 69)) (fs 69) 0 [] Value.none Value.none Value.none Value.none none Value.none Value.none 0)) #[])
noncomputable def ob92 (P : Params) : Obj := (Obj.mk (Value.type "function") none (Data.func (FuncData.mk (Str.ofString "_law_hues") (Str.ofString "_law_hues") (fa 65) (FuncBody.stmts (fb 65)) (fs 65) 3 [] Value.none Value.none Value.none (Value.str (Str.ofString "law_tl0025_01") 622) none (Value.ref 91) Value.none 0)) #[])
noncomputable def ob93 (P : Params) : Obj := (Obj.mk (Value.type "tuple") none (Data.seq #[(Value.str (Str.ofString "arcs") 666), (Value.str (Str.ofString "numbers") 667), (Value.str (Str.ofString "ones") 668), (Value.str (Str.ofString "most") 669), (Value.str (Str.ofString "left") 670), (Value.str (Str.ofString "used") 671), (Value.str (Str.ofString "trees") 672), (Value.str (Str.ofString "still") 673), (Value.str (Str.ofString "tree") 674), (Value.str (Str.ofString "reached") 675), (Value.str (Str.ofString "k") 676)] 0) #[])
noncomputable def ob94 (P : Params) : Obj := (Obj.mk Value.none none (Data.func (FuncData.mk (Str.ofString "_law_hues") (Str.ofString "_law_hues") (fa 65) (FuncBody.stmts (fb 65)) (fs 65) 0 [] Value.none Value.none Value.none Value.none none Value.none Value.none 0)) #[])
noncomputable def ob95 (P : Params) : Obj := (Obj.mk (Value.type "code") none (Data.fields #[(Value.str (Str.ofString "_law_heard") 680), (Value.str (Str.ofString "_law_heard") 681), (Value.str (Str.ofString "/claim/cut.py") 682), (Value.int 209 0), (Value.int 2 0), (Value.int 0 0), (Value.int 0 0), (Value.int 3 0), (Value.ref 119), (Value.bool Bool.true), (Value.int 276 0), (Value.ref 120), Value.none, Value.none, Value.none, (Value.ref 121), (Value.int 683 0), (Value.int 209 0), (Value.str (Str.ofString "/claim/cut.py") 684)]) #[])
noncomputable def ob96 (P : Params) : Obj := (Obj.mk Value.none none (Data.func (FuncData.mk (Str.ofString "_law_number") (Str.ofString "_law_number") (fa 67) (FuncBody.stmts (fb 67)) (fs 67) 0 [] Value.none Value.none Value.none Value.none none Value.none Value.none 0)) #[])
noncomputable def ob97 (P : Params) : Obj := (Obj.mk (Value.type "code") none (Data.fields #[(Value.str (Str.ofString "ISEOF") 615), (Value.str (Str.ofString "ISEOF") 616), (Value.str (Str.ofString "/claim/cut.py") 617), (Value.int 158 0), (Value.int 1 0), (Value.int 0 0), (Value.int 0 0), (Value.int 3 0), (Value.ref 81), (Value.bool Bool.true), (Value.int 276 0), (Value.ref 82), Value.none, (Value.ref 83), (Value.ref 84), (Value.ref 85), (Value.int 619 0), (Value.int 158 0), (Value.str (Str.ofString "/claim/cut.py") 620)]) #[])
noncomputable def ob98 (P : Params) : Obj := (Obj.mk (Value.type "function") none (Data.func (FuncData.mk (Str.ofString "_law_trees") (Str.ofString "_law_trees") (fa 69) (FuncBody.stmts (fb 69)) (fs 69) 3 [] Value.none Value.none Value.none (Value.str (Str.ofString "law_tl0025_01") 622) none (Value.ref 117) Value.none 0)) #[])
noncomputable def ob99 (P : Params) : Obj := (Obj.mk (Value.type "code") none (Data.fields #[(Value.str (Str.ofString "_law_next") 647), (Value.str (Str.ofString "_law_next") 648), (Value.str (Str.ofString "/claim/cut.py") 649), (Value.int 185 0), (Value.int 6 0), (Value.int 0 0), (Value.int 0 0), (Value.int 3 0), (Value.ref 105), (Value.bool Bool.true), (Value.int 276 0), (Value.ref 106), Value.none, (Value.ref 107), (Value.ref 108), (Value.ref 109), (Value.int 660 0), (Value.int 185 0), (Value.str (Str.ofString "/claim/cut.py") 661)]) #[])
noncomputable def ob100 (P : Params) : Obj := (Obj.mk Value.none none (Data.func (FuncData.mk (Str.ofString "_law_tokens") (Str.ofString "_law_tokens") (fa 71) (FuncBody.stmts (fb 71)) (fs 71) 0 [] Value.none Value.none Value.none Value.none none Value.none Value.none 0)) #[])
noncomputable def tr254 (P : Params) : BT := (BT.node (ob1 P) (BT.node (ob2 P) (BT.node (ob3 P) (BT.node (ob4 P) (BT.node (ob4 P) BT.nil BT.nil) (BT.node (ob5 P) BT.nil BT.nil)) (BT.node (ob6 P) (BT.node (ob7 P) BT.nil BT.nil) (BT.node (ob8 P) BT.nil BT.nil))) (BT.node (ob9 P) (BT.node (ob10 P) (BT.node (ob11 P) BT.nil BT.nil) (BT.node (ob12 P) BT.nil BT.nil)) (BT.node (ob13 P) (BT.node (ob14 P) BT.nil BT.nil) BT.nil))) (BT.node (ob15 P) (BT.node (ob16 P) (BT.node (ob17 P) (BT.node (ob18 P) BT.nil BT.nil) (BT.node (ob19 P) BT.nil BT.nil)) (BT.node (ob20 P) (BT.node (ob21 P) BT.nil BT.nil) BT.nil)) (BT.node (ob22 P) (BT.node (ob23 P) (BT.node (ob24 P) BT.nil BT.nil) (BT.node (ob25 P) BT.nil BT.nil)) (BT.node (ob26 P) (BT.node (ob27 P) BT.nil BT.nil) BT.nil))))
noncomputable def hp68 (P : Params) : Heap := ⟨Array.mk (ob1 P :: ob2 P :: ob15 P :: ob3 P :: ob16 P :: ob9 P :: ob22 P :: ob4 P :: ob17 P :: ob10 P :: ob23 P :: ob28 P :: ob20 P :: ob13 P :: ob26 P :: ob4 P :: ob18 P :: ob11 P :: ob24 P :: ob7 P :: ob21 P :: ob14 P :: ob27 P :: ob5 P :: ob19 P :: ob12 P :: ob25 P :: ob8 P :: []), {}⟩
noncomputable def hp72 (P : Params) : Heap := ⟨Array.mk (ob1 P :: ob2 P :: ob15 P :: ob3 P :: ob16 P :: ob9 P :: ob22 P :: ob4 P :: ob17 P :: ob10 P :: ob23 P :: ob28 P :: ob20 P :: ob13 P :: ob26 P :: ob4 P :: ob18 P :: ob11 P :: ob24 P :: ob7 P :: ob21 P :: ob14 P :: ob27 P :: ob5 P :: ob19 P :: ob12 P :: ob25 P :: ob8 P :: ob4 P :: ob17 P :: ob29 P :: ob30 P :: []), {}⟩
noncomputable def tr73 (P : Params) : BT := (BT.node (ob1 P) (BT.node (ob2 P) (BT.node (ob3 P) (BT.node (ob4 P) (BT.node (ob4 P) (BT.node (ob30 P) BT.nil BT.nil) BT.nil) (BT.node (ob5 P) BT.nil BT.nil)) (BT.node (ob28 P) (BT.node (ob7 P) BT.nil BT.nil) (BT.node (ob8 P) BT.nil BT.nil))) (BT.node (ob9 P) (BT.node (ob10 P) (BT.node (ob11 P) BT.nil BT.nil) (BT.node (ob12 P) BT.nil BT.nil)) (BT.node (ob13 P) (BT.node (ob14 P) BT.nil BT.nil) (BT.node (ob17 P) BT.nil BT.nil)))) (BT.node (ob15 P) (BT.node (ob16 P) (BT.node (ob17 P) (BT.node (ob18 P) BT.nil BT.nil) (BT.node (ob19 P) BT.nil BT.nil)) (BT.node (ob20 P) (BT.node (ob21 P) BT.nil BT.nil) (BT.node (ob4 P) BT.nil BT.nil))) (BT.node (ob22 P) (BT.node (ob23 P) (BT.node (ob24 P) BT.nil BT.nil) (BT.node (ob25 P) BT.nil BT.nil)) (BT.node (ob26 P) (BT.node (ob27 P) BT.nil BT.nil) (BT.node (ob29 P) BT.nil BT.nil)))))
noncomputable def tr122 (P : Params) : BT := (BT.node (ob1 P) (BT.node (ob2 P) (BT.node (ob31 P) (BT.node (ob4 P) (BT.node (ob4 P) (BT.node (ob30 P) (BT.node (ob32 P) BT.nil BT.nil) BT.nil) (BT.node (ob4 P) BT.nil BT.nil)) (BT.node (ob5 P) (BT.node (ob33 P) (BT.node (ob4 P) BT.nil BT.nil) BT.nil) (BT.node (ob17 P) BT.nil BT.nil))) (BT.node (ob28 P) (BT.node (ob7 P) (BT.node (ob34 P) (BT.node (ob22 P) BT.nil BT.nil) BT.nil) (BT.node (ob35 P) BT.nil BT.nil)) (BT.node (ob8 P) (BT.node (ob36 P) (BT.node (ob37 P) BT.nil BT.nil) BT.nil) (BT.node (ob38 P) BT.nil BT.nil)))) (BT.node (ob9 P) (BT.node (ob10 P) (BT.node (ob11 P) (BT.node (ob4 P) (BT.node (ob39 P) BT.nil BT.nil) BT.nil) (BT.node (ob40 P) BT.nil BT.nil)) (BT.node (ob12 P) (BT.node (ob17 P) (BT.node (ob41 P) BT.nil BT.nil) BT.nil) (BT.node (ob4 P) BT.nil BT.nil))) (BT.node (ob13 P) (BT.node (ob14 P) (BT.node (ob42 P) (BT.node (ob43 P) BT.nil BT.nil) BT.nil) (BT.node (ob44 P) BT.nil BT.nil)) (BT.node (ob45 P) (BT.node (ob46 P) (BT.node (ob47 P) BT.nil BT.nil) BT.nil) (BT.node (ob48 P) BT.nil BT.nil))))) (BT.node (ob15 P) (BT.node (ob16 P) (BT.node (ob17 P) (BT.node (ob18 P) (BT.node (ob49 P) (BT.node (ob50 P) BT.nil BT.nil) BT.nil) (BT.node (ob17 P) BT.nil BT.nil)) (BT.node (ob19 P) (BT.node (ob4 P) (BT.node (ob17 P) BT.nil BT.nil) BT.nil) (BT.node (ob51 P) BT.nil BT.nil))) (BT.node (ob20 P) (BT.node (ob21 P) (BT.node (ob4 P) (BT.node (ob32 P) BT.nil BT.nil) BT.nil) (BT.node (ob52 P) BT.nil BT.nil)) (BT.node (ob4 P) (BT.node (ob53 P) (BT.node (ob54 P) BT.nil BT.nil) BT.nil) (BT.node (ob55 P) BT.nil BT.nil)))) (BT.node (ob22 P) (BT.node (ob23 P) (BT.node (ob24 P) (BT.node (ob17 P) (BT.node (ob56 P) BT.nil BT.nil) BT.nil) (BT.node (ob4 P) BT.nil BT.nil)) (BT.node (ob25 P) (BT.node (ob57 P) (BT.node (ob4 P) BT.nil BT.nil) BT.nil) (BT.node (ob58 P) BT.nil BT.nil))) (BT.node (ob26 P) (BT.node (ob27 P) (BT.node (ob59 P) (BT.node (ob60 P) BT.nil BT.nil) BT.nil) (BT.node (ob4 P) BT.nil BT.nil)) (BT.node (ob29 P) (BT.node (ob61 P) BT.nil BT.nil) (BT.node (ob22 P) BT.nil BT.nil))))))
noncomputable def tr123 (P : Params) : BT := (BT.node (ob1 P) (BT.node (ob2 P) (BT.node (ob62 P) (BT.node (ob4 P) (BT.node (ob4 P) (BT.node (ob30 P) (BT.node (ob32 P) BT.nil BT.nil) BT.nil) (BT.node (ob4 P) BT.nil BT.nil)) (BT.node (ob5 P) (BT.node (ob33 P) (BT.node (ob4 P) BT.nil BT.nil) BT.nil) (BT.node (ob17 P) BT.nil BT.nil))) (BT.node (ob28 P) (BT.node (ob7 P) (BT.node (ob34 P) (BT.node (ob22 P) BT.nil BT.nil) BT.nil) (BT.node (ob35 P) BT.nil BT.nil)) (BT.node (ob8 P) (BT.node (ob36 P) (BT.node (ob37 P) BT.nil BT.nil) BT.nil) (BT.node (ob38 P) BT.nil BT.nil)))) (BT.node (ob9 P) (BT.node (ob10 P) (BT.node (ob11 P) (BT.node (ob4 P) (BT.node (ob39 P) BT.nil BT.nil) BT.nil) (BT.node (ob40 P) BT.nil BT.nil)) (BT.node (ob12 P) (BT.node (ob17 P) (BT.node (ob41 P) BT.nil BT.nil) BT.nil) (BT.node (ob4 P) BT.nil BT.nil))) (BT.node (ob13 P) (BT.node (ob14 P) (BT.node (ob42 P) (BT.node (ob43 P) BT.nil BT.nil) BT.nil) (BT.node (ob44 P) BT.nil BT.nil)) (BT.node (ob45 P) (BT.node (ob46 P) (BT.node (ob47 P) BT.nil BT.nil) BT.nil) (BT.node (ob48 P) BT.nil BT.nil))))) (BT.node (ob15 P) (BT.node (ob16 P) (BT.node (ob17 P) (BT.node (ob18 P) (BT.node (ob49 P) (BT.node (ob50 P) BT.nil BT.nil) BT.nil) (BT.node (ob17 P) BT.nil BT.nil)) (BT.node (ob19 P) (BT.node (ob4 P) (BT.node (ob17 P) BT.nil BT.nil) BT.nil) (BT.node (ob51 P) BT.nil BT.nil))) (BT.node (ob20 P) (BT.node (ob21 P) (BT.node (ob4 P) (BT.node (ob32 P) BT.nil BT.nil) BT.nil) (BT.node (ob52 P) BT.nil BT.nil)) (BT.node (ob4 P) (BT.node (ob53 P) (BT.node (ob54 P) BT.nil BT.nil) BT.nil) (BT.node (ob55 P) BT.nil BT.nil)))) (BT.node (ob22 P) (BT.node (ob23 P) (BT.node (ob24 P) (BT.node (ob17 P) (BT.node (ob56 P) BT.nil BT.nil) BT.nil) (BT.node (ob4 P) BT.nil BT.nil)) (BT.node (ob25 P) (BT.node (ob57 P) (BT.node (ob4 P) BT.nil BT.nil) BT.nil) (BT.node (ob58 P) BT.nil BT.nil))) (BT.node (ob26 P) (BT.node (ob27 P) (BT.node (ob59 P) (BT.node (ob60 P) BT.nil BT.nil) BT.nil) (BT.node (ob4 P) BT.nil BT.nil)) (BT.node (ob29 P) (BT.node (ob61 P) BT.nil BT.nil) (BT.node (ob22 P) BT.nil BT.nil))))))
noncomputable def tr125 (P : Params) : BT := (BT.node (ob1 P) (BT.node (ob2 P) (BT.node (ob63 P) (BT.node (ob4 P) (BT.node (ob4 P) (BT.node (ob30 P) (BT.node (ob32 P) BT.nil BT.nil) BT.nil) (BT.node (ob4 P) BT.nil BT.nil)) (BT.node (ob5 P) (BT.node (ob33 P) (BT.node (ob4 P) BT.nil BT.nil) BT.nil) (BT.node (ob17 P) BT.nil BT.nil))) (BT.node (ob28 P) (BT.node (ob7 P) (BT.node (ob34 P) (BT.node (ob22 P) BT.nil BT.nil) BT.nil) (BT.node (ob35 P) BT.nil BT.nil)) (BT.node (ob8 P) (BT.node (ob36 P) (BT.node (ob37 P) BT.nil BT.nil) BT.nil) (BT.node (ob38 P) BT.nil BT.nil)))) (BT.node (ob9 P) (BT.node (ob10 P) (BT.node (ob11 P) (BT.node (ob4 P) (BT.node (ob39 P) BT.nil BT.nil) BT.nil) (BT.node (ob40 P) BT.nil BT.nil)) (BT.node (ob12 P) (BT.node (ob17 P) (BT.node (ob41 P) BT.nil BT.nil) BT.nil) (BT.node (ob4 P) BT.nil BT.nil))) (BT.node (ob13 P) (BT.node (ob14 P) (BT.node (ob42 P) (BT.node (ob43 P) BT.nil BT.nil) BT.nil) (BT.node (ob44 P) BT.nil BT.nil)) (BT.node (ob45 P) (BT.node (ob46 P) (BT.node (ob47 P) BT.nil BT.nil) BT.nil) (BT.node (ob48 P) BT.nil BT.nil))))) (BT.node (ob15 P) (BT.node (ob16 P) (BT.node (ob17 P) (BT.node (ob18 P) (BT.node (ob49 P) (BT.node (ob50 P) BT.nil BT.nil) BT.nil) (BT.node (ob17 P) BT.nil BT.nil)) (BT.node (ob19 P) (BT.node (ob4 P) (BT.node (ob17 P) BT.nil BT.nil) BT.nil) (BT.node (ob51 P) BT.nil BT.nil))) (BT.node (ob20 P) (BT.node (ob21 P) (BT.node (ob4 P) (BT.node (ob32 P) BT.nil BT.nil) BT.nil) (BT.node (ob52 P) BT.nil BT.nil)) (BT.node (ob4 P) (BT.node (ob53 P) (BT.node (ob54 P) BT.nil BT.nil) BT.nil) (BT.node (ob55 P) BT.nil BT.nil)))) (BT.node (ob22 P) (BT.node (ob23 P) (BT.node (ob24 P) (BT.node (ob17 P) (BT.node (ob56 P) BT.nil BT.nil) BT.nil) (BT.node (ob4 P) BT.nil BT.nil)) (BT.node (ob25 P) (BT.node (ob57 P) (BT.node (ob4 P) BT.nil BT.nil) BT.nil) (BT.node (ob58 P) BT.nil BT.nil))) (BT.node (ob26 P) (BT.node (ob27 P) (BT.node (ob59 P) (BT.node (ob60 P) BT.nil BT.nil) BT.nil) (BT.node (ob4 P) BT.nil BT.nil)) (BT.node (ob29 P) (BT.node (ob61 P) BT.nil BT.nil) (BT.node (ob22 P) BT.nil BT.nil))))))
noncomputable def tr130 (P : Params) : BT := (BT.node (ob1 P) (BT.node (ob2 P) (BT.node (ob64 P) (BT.node (ob4 P) (BT.node (ob4 P) (BT.node (ob30 P) (BT.node (ob32 P) BT.nil BT.nil) BT.nil) (BT.node (ob4 P) (BT.node (ob65 P) BT.nil BT.nil) BT.nil)) (BT.node (ob5 P) (BT.node (ob33 P) (BT.node (ob4 P) BT.nil BT.nil) BT.nil) (BT.node (ob17 P) BT.nil BT.nil))) (BT.node (ob28 P) (BT.node (ob7 P) (BT.node (ob34 P) (BT.node (ob22 P) BT.nil BT.nil) BT.nil) (BT.node (ob35 P) BT.nil BT.nil)) (BT.node (ob8 P) (BT.node (ob36 P) (BT.node (ob37 P) BT.nil BT.nil) BT.nil) (BT.node (ob38 P) BT.nil BT.nil)))) (BT.node (ob9 P) (BT.node (ob10 P) (BT.node (ob11 P) (BT.node (ob4 P) (BT.node (ob39 P) BT.nil BT.nil) BT.nil) (BT.node (ob40 P) BT.nil BT.nil)) (BT.node (ob12 P) (BT.node (ob17 P) (BT.node (ob41 P) BT.nil BT.nil) BT.nil) (BT.node (ob4 P) BT.nil BT.nil))) (BT.node (ob13 P) (BT.node (ob14 P) (BT.node (ob42 P) (BT.node (ob43 P) BT.nil BT.nil) BT.nil) (BT.node (ob44 P) BT.nil BT.nil)) (BT.node (ob45 P) (BT.node (ob46 P) (BT.node (ob47 P) BT.nil BT.nil) BT.nil) (BT.node (ob48 P) BT.nil BT.nil))))) (BT.node (ob15 P) (BT.node (ob16 P) (BT.node (ob17 P) (BT.node (ob18 P) (BT.node (ob49 P) (BT.node (ob50 P) BT.nil BT.nil) BT.nil) (BT.node (ob17 P) (BT.node (ob66 P) BT.nil BT.nil) BT.nil)) (BT.node (ob19 P) (BT.node (ob4 P) (BT.node (ob17 P) BT.nil BT.nil) BT.nil) (BT.node (ob51 P) BT.nil BT.nil))) (BT.node (ob20 P) (BT.node (ob21 P) (BT.node (ob4 P) (BT.node (ob32 P) BT.nil BT.nil) BT.nil) (BT.node (ob52 P) BT.nil BT.nil)) (BT.node (ob4 P) (BT.node (ob53 P) (BT.node (ob54 P) BT.nil BT.nil) BT.nil) (BT.node (ob55 P) BT.nil BT.nil)))) (BT.node (ob22 P) (BT.node (ob23 P) (BT.node (ob24 P) (BT.node (ob17 P) (BT.node (ob56 P) BT.nil BT.nil) BT.nil) (BT.node (ob4 P) BT.nil BT.nil)) (BT.node (ob25 P) (BT.node (ob57 P) (BT.node (ob4 P) BT.nil BT.nil) BT.nil) (BT.node (ob58 P) BT.nil BT.nil))) (BT.node (ob26 P) (BT.node (ob27 P) (BT.node (ob59 P) (BT.node (ob60 P) BT.nil BT.nil) BT.nil) (BT.node (ob4 P) BT.nil BT.nil)) (BT.node (ob29 P) (BT.node (ob61 P) (BT.node (ob67 P) BT.nil BT.nil) BT.nil) (BT.node (ob22 P) BT.nil BT.nil))))))
noncomputable def tr188 (P : Params) : BT := (BT.node (ob1 P) (BT.node (ob2 P) (BT.node (ob68 P) (BT.node (ob4 P) (BT.node (ob4 P) (BT.node (ob30 P) (BT.node (ob32 P) (BT.node (ob69 P) BT.nil BT.nil) BT.nil) (BT.node (ob70 P) BT.nil BT.nil)) (BT.node (ob4 P) (BT.node (ob65 P) BT.nil BT.nil) (BT.node (ob71 P) BT.nil BT.nil))) (BT.node (ob5 P) (BT.node (ob33 P) (BT.node (ob4 P) BT.nil BT.nil) (BT.node (ob72 P) BT.nil BT.nil)) (BT.node (ob17 P) (BT.node (ob73 P) BT.nil BT.nil) (BT.node (ob4 P) BT.nil BT.nil)))) (BT.node (ob28 P) (BT.node (ob7 P) (BT.node (ob34 P) (BT.node (ob22 P) (BT.node (ob74 P) BT.nil BT.nil) BT.nil) (BT.node (ob17 P) BT.nil BT.nil)) (BT.node (ob35 P) (BT.node (ob75 P) BT.nil BT.nil) (BT.node (ob4 P) BT.nil BT.nil))) (BT.node (ob8 P) (BT.node (ob36 P) (BT.node (ob37 P) BT.nil BT.nil) (BT.node (ob76 P) BT.nil BT.nil)) (BT.node (ob38 P) (BT.node (ob77 P) BT.nil BT.nil) (BT.node (ob78 P) BT.nil BT.nil))))) (BT.node (ob9 P) (BT.node (ob10 P) (BT.node (ob11 P) (BT.node (ob4 P) (BT.node (ob39 P) (BT.node (ob4 P) BT.nil BT.nil) BT.nil) (BT.node (ob79 P) BT.nil BT.nil)) (BT.node (ob40 P) (BT.node (ob4 P) BT.nil BT.nil) (BT.node (ob17 P) BT.nil BT.nil))) (BT.node (ob12 P) (BT.node (ob17 P) (BT.node (ob41 P) BT.nil BT.nil) (BT.node (ob4 P) BT.nil BT.nil)) (BT.node (ob4 P) (BT.node (ob17 P) BT.nil BT.nil) (BT.node (ob80 P) BT.nil BT.nil)))) (BT.node (ob13 P) (BT.node (ob14 P) (BT.node (ob42 P) (BT.node (ob43 P) (BT.node (ob81 P) BT.nil BT.nil) BT.nil) (BT.node (ob4 P) BT.nil BT.nil)) (BT.node (ob44 P) (BT.node (ob82 P) BT.nil BT.nil) (BT.node (ob83 P) BT.nil BT.nil))) (BT.node (ob84 P) (BT.node (ob46 P) (BT.node (ob47 P) BT.nil BT.nil) (BT.node (ob85 P) BT.nil BT.nil)) (BT.node (ob48 P) (BT.node (ob4 P) BT.nil BT.nil) (BT.node (ob17 P) BT.nil BT.nil)))))) (BT.node (ob15 P) (BT.node (ob16 P) (BT.node (ob17 P) (BT.node (ob18 P) (BT.node (ob49 P) (BT.node (ob50 P) (BT.node (ob86 P) BT.nil BT.nil) BT.nil) (BT.node (ob87 P) BT.nil BT.nil)) (BT.node (ob17 P) (BT.node (ob66 P) BT.nil BT.nil) (BT.node (ob4 P) BT.nil BT.nil))) (BT.node (ob19 P) (BT.node (ob4 P) (BT.node (ob17 P) BT.nil BT.nil) (BT.node (ob88 P) BT.nil BT.nil)) (BT.node (ob51 P) (BT.node (ob4 P) BT.nil BT.nil) (BT.node (ob17 P) BT.nil BT.nil)))) (BT.node (ob20 P) (BT.node (ob21 P) (BT.node (ob4 P) (BT.node (ob32 P) (BT.node (ob89 P) BT.nil BT.nil) BT.nil) (BT.node (ob90 P) BT.nil BT.nil)) (BT.node (ob52 P) (BT.node (ob4 P) BT.nil BT.nil) (BT.node (ob91 P) BT.nil BT.nil))) (BT.node (ob4 P) (BT.node (ob53 P) (BT.node (ob54 P) BT.nil BT.nil) (BT.node (ob4 P) BT.nil BT.nil)) (BT.node (ob55 P) (BT.node (ob92 P) BT.nil BT.nil) (BT.node (ob4 P) BT.nil BT.nil))))) (BT.node (ob22 P) (BT.node (ob23 P) (BT.node (ob24 P) (BT.node (ob17 P) (BT.node (ob56 P) (BT.node (ob17 P) BT.nil BT.nil) BT.nil) (BT.node (ob4 P) BT.nil BT.nil)) (BT.node (ob4 P) (BT.node (ob17 P) BT.nil BT.nil) (BT.node (ob93 P) BT.nil BT.nil))) (BT.node (ob25 P) (BT.node (ob57 P) (BT.node (ob4 P) BT.nil BT.nil) (BT.node (ob17 P) BT.nil BT.nil)) (BT.node (ob58 P) (BT.node (ob94 P) BT.nil BT.nil) (BT.node (ob95 P) BT.nil BT.nil)))) (BT.node (ob26 P) (BT.node (ob27 P) (BT.node (ob59 P) (BT.node (ob60 P) BT.nil BT.nil) (BT.node (ob96 P) BT.nil BT.nil)) (BT.node (ob4 P) (BT.node (ob97 P) BT.nil BT.nil) (BT.node (ob98 P) BT.nil BT.nil))) (BT.node (ob29 P) (BT.node (ob61 P) (BT.node (ob67 P) BT.nil BT.nil) (BT.node (ob99 P) BT.nil BT.nil)) (BT.node (ob22 P) (BT.node (ob17 P) BT.nil BT.nil) (BT.node (ob100 P) BT.nil BT.nil)))))))
noncomputable def hp189 (P : Params) : Heap := ⟨Array.mk (ob1 P :: ob2 P :: ob15 P :: ob68 P :: ob16 P :: ob9 P :: ob22 P :: ob4 P :: ob17 P :: ob10 P :: ob23 P :: ob28 P :: ob20 P :: ob13 P :: ob26 P :: ob4 P :: ob18 P :: ob11 P :: ob24 P :: ob7 P :: ob21 P :: ob14 P :: ob27 P :: ob5 P :: ob19 P :: ob12 P :: ob25 P :: ob8 P :: ob4 P :: ob84 P :: ob29 P :: ob30 P :: ob49 P :: ob4 P :: ob17 P :: ob34 P :: ob4 P :: ob42 P :: ob59 P :: ob33 P :: ob4 P :: ob17 P :: ob57 P :: ob36 P :: ob53 P :: ob46 P :: ob61 P :: ob4 P :: ob17 P :: ob40 P :: ob4 P :: ob35 P :: ob52 P :: ob44 P :: ob4 P :: ob17 P :: ob51 P :: ob4 P :: ob58 P :: ob38 P :: ob55 P :: ob48 P :: ob22 P :: ob32 P :: ob50 P :: ob39 P :: ob56 P :: ob22 P :: ob32 P :: ob43 P :: ob60 P :: ob4 P :: ob17 P :: ob41 P :: ob4 P :: ob37 P :: ob54 P :: ob47 P :: ob67 P :: ob65 P :: ob66 P :: ob4 P :: ob17 P :: ob75 P :: ob4 P :: ob82 P :: ob97 P :: ob73 P :: ob4 P :: ob17 P :: ob94 P :: ob77 P :: ob92 P :: ob4 P :: ob17 P :: ob70 P :: ob87 P :: ob79 P :: ob4 P :: ob17 P :: ob90 P :: ob4 P :: ob96 P :: ob72 P :: ob88 P :: ob4 P :: ob17 P :: ob76 P :: ob4 P :: ob85 P :: ob99 P :: ob71 P :: ob4 P :: ob17 P :: ob93 P :: ob4 P :: ob91 P :: ob83 P :: ob98 P :: ob4 P :: ob17 P :: ob80 P :: ob95 P :: ob78 P :: ob4 P :: ob17 P :: ob100 P :: ob69 P :: ob86 P :: ob4 P :: ob17 P :: ob74 P :: ob89 P :: ob81 P :: []), {}⟩
noncomputable abbrev prg : Program := PySem.Challenge.rw_tl0025_01.row.toRowW.1
noncomputable abbrev pos0 : Pos := ⟨0, 0, 0, 0⟩
noncomputable abbrev envM : Env := { scope := prg.main.scope, locals := mainNs, globals := mainNs, cells := [], code := Value.ref 30, frame := some 31 }
noncomputable abbrev codM : Code := .body (behindTheImports prg) envM
noncomputable abbrev rest0 : List Stmt := behindTheImports prg
noncomputable abbrev rest1 : List Stmt := rest0.drop 15
noncomputable abbrev rest2 : List Stmt := rest1.drop 44
noncomputable abbrev rest3 : List Stmt := rest2.drop 2
noncomputable abbrev rest4 : List Stmt := rest3.drop 1
noncomputable abbrev rest5 : List Stmt := rest4.drop 10
noncomputable abbrev stT (t : Params → BT) (n k : Nat) (w : World) (os : OsState) : SharedT := ⟨t w.params, n, {}, Array.mk [], {}, k, os⟩
/-- the run of the imports over a tree -/
noncomputable def impEndT (tb : String → Option Builtin) (p : Program) (w : World) : Nat → SharedT → Thread → Option SharedT
  | 0, _, _ => none
  | n + 1, s, t => match t.atExitBegin with
    | some [] => some s
    | some (_ :: _) => none
    | none => match stepT (denote tb) p w s t with
      | some (s', t') => impEndT tb p w n s' t'
      | none => none
theorem impEnd_of {tb : String → Option Builtin} {p : Program} {w : World} : ∀ {n : Nat} {s r : SharedT} {t : Thread}, impEndT tb p w n s t = some r → importEnds tb p w n s.abs t = some r.abs
  | 0, _, _, _, h => by cases h
  | n + 1, s, r, t, h => by
    unfold impEndT at h
    unfold importEnds
    cases he : t.atExitBegin with
    | some x =>
      rw [he] at h
      cases x with
      | nil => cases h; rfl
      | cons => cases h
    | none =>
      rw [he] at h
      cases hs : stepT (denote tb) p w s t with
      | none => rw [hs] at h; cases h
      | some q => obtain ⟨s₂, t₂⟩ := q; rw [hs] at h; dsimp only; rw [stepT_spec hs]; exact impEnd_of h
theorem imp_run (w : World) (os : OsState) : impEndT treeTable (opening prg) w 800 (stT (fun _ => BT.nil) 0 1 w os) (start (opening prg)).2 = some (stT tr254 28 276 w os) := by kernel_rfl
noncomputable abbrev topF : Frame := topFrame pos0
theorem top_go (w : World) (os : OsState) : topGo treeTable prg w 28 (some (.ref 6)) 12 ⟨hp68 w.params, Array.mk [], {}, 276, os⟩ (topStub prg) = some (⟨hp72 w.params, Array.mk [], {}, 282, os⟩, ⟨denote treeTable codM, codM, pos0, [topF]⟩) := by kernel_rfl
theorem seg_0 (w : World) (os : OsState) : segRun treeTable prg w 28 (some (.ref 6)) 1 1 ⟨hp72 w.params, Array.mk [], {}, 282, os⟩ (blockOf rest0 envM codM pos0 [topF]) = some (.next, (stT tr73 32 282 w os).abs, codM, pos0) := by kernel_rfl
theorem seg_1 (w : World) (os : OsState) : segRunT treeTable prg w 28 (some (.ref 6)) 1 398 (stT tr73 32 282 w os) (piecesOf (rest0.take 15) envM codM pos0 [topF]) = some (.next, stT tr122 78 426 w os, codM, ⟨110, 0, 110, 4⟩) := by kernel_rfl
theorem seg_2 (w : World) (os : OsState) : segRunT treeTable prg w 28 (some (.ref 6)) 1 397 (stT tr122 78 426 w os) (piecesOf (rest1.take 44) envM codM ⟨110, 0, 110, 4⟩ [topF]) = some (.next, stT tr123 78 514 w os, codM, ⟨154, 0, 154, 8⟩) := by kernel_rfl
theorem seg_3 (w : World) (os : OsState) : segRunT treeTable prg w 28 (some (.ref 6)) 1 19 (stT tr123 78 514 w os) (piecesOf (rest2.take 2) envM codM ⟨154, 0, 154, 8⟩ [topF]) = some (.next, stT tr125 78 518 w os, codM, ⟨156, 0, 156, 11⟩) := by kernel_rfl
theorem seg_4f (w : World) (os : OsState) : segRunT treeTable prg (w.withFollow "special-get-raises" false) 28 (some (.ref 6)) 1 979 (stT tr125 78 518 (w.withFollow "special-get-raises" false) os) (piecesOf (rest3.take 1) envM codM ⟨156, 0, 156, 11⟩ [topF]) = some (.next, stT tr130 81 615 (w.withFollow "special-get-raises" false) os, codM, ⟨157, 0, 157, 17⟩) := by kernel_rfl
theorem seg_4t (w : World) (os : OsState) : segRunT treeTable prg (w.withFollow "special-get-raises" true) 28 (some (.ref 6)) 1 979 (stT tr125 78 518 (w.withFollow "special-get-raises" true) os) (piecesOf (rest3.take 1) envM codM ⟨156, 0, 156, 11⟩ [topF]) = some (.next, stT tr130 81 615 (w.withFollow "special-get-raises" true) os, codM, ⟨157, 0, 157, 17⟩) := by kernel_rfl
theorem seg_4 (w : World) (os : OsState) : segRunT treeTable prg w 28 (some (.ref 6)) 1 979 (stT tr125 78 518 w os) (piecesOf (rest3.take 1) envM codM ⟨156, 0, 156, 11⟩ [topF]) = some (.next, stT tr130 81 615 w os, codM, ⟨157, 0, 157, 17⟩) := by
  have e := World.withFollow_self w "special-get-raises"
  cases hb : w.params.followText "special-get-raises" with
  | false => rw [hb] at e; have := seg_4f w os; rwa [e] at this
  | true => rw [hb] at e; have := seg_4t w os; rwa [e] at this
theorem seg_5 (w : World) (os : OsState) : segRunT treeTable prg w 28 (some (.ref 6)) 1 279 (stT tr130 81 615 w os) (piecesOf (rest4.take 10) envM codM ⟨157, 0, 157, 17⟩ [topF]) = some (.next, stT tr188 134 698 w os, codM, ⟨224, 0, 248, 15⟩) := by kernel_rfl
theorem seg_6 (w : World) (os : OsState) : topRun treeTable prg w 28 (some (.ref 6)) 2 (stT tr188 134 698 w os).abs (restOf rest5 envM codM ⟨224, 0, 248, 15⟩ [topF]) = some ⟨hp189 w.params, Array.mk [], {}, 698, os⟩ := by kernel_rfl
theorem piece_take {tb : String → Option Builtin} {p : Program} {w : World} {n₀ : Nat} {ann : Option Value} {env : Env} {q : Pos} {n N : Nat} {s s' r : Shared} (m : Nat) {x : List Stmt} {c : Code} {pos p' : Pos} (h : segRun tb p w n₀ ann 1 n s (piecesOf (x.take m) env c pos [topFrame q]) = some (.next, s', c, p'))
    (k : topRun tb p w n₀ ann N s' (restOf (x.drop m) env c p' [topFrame q]) = some r) : topRun tb p w n₀ ann (n + N) s (restOf x env c pos [topFrame q]) = some r := by
  have := piece_app h k
  rwa [List.take_append_drop] at this
theorem top_run (w : World) (os : OsState) : topRun treeTable prg w 28 (some (.ref 6)) (12 + (1 + (398 + (397 + (19 + (979 + (279 + 2))))))) ⟨hp68 w.params, Array.mk [], {}, 276, os⟩ (topStub prg) = some ⟨hp189 w.params, Array.mk [], {}, 698, os⟩ :=
  go_top (top_go w os) (piece_block (seg_0 w os) (piece_take 15 (segRun_of (seg_1 w os)) (piece_take 44 (segRun_of (seg_2 w os)) (piece_take 2 (segRun_of (seg_3 w os)) (piece_take 1 (segRun_of (seg_4 w os)) (piece_take 10 (segRun_of (seg_5 w os)) (seg_6 w os)))))))
theorem imp_abs (w : World) : importEnds treeTable (opening prg) w 800 (start (opening prg)).1 (start (opening prg)).2 = some ⟨absHeap (tr254 w.params) 28 {}, Array.mk [], {}, 276, (start (opening prg)).1.os⟩ := by
  have e : (stT (fun _ => BT.nil) 0 1 w (start (opening prg)).1.os).abs = (start (opening prg)).1 := by kernel_rfl
  have h := impEnd_of (imp_run w (start (opening prg)).1.os)
  generalize hz : (start (opening prg)).1.os = z at *
  rw [e] at h
  exact h
theorem fenced (w : World) (os : OsState) : (fenceModules? prg ⟨absHeap (tr254 w.params) 28 {}, Array.mk [], {}, 276, os⟩).map (fun s => (s.heap, s.gens, s.drawn, s.toks)) = some (hp68 w.params, Array.mk [], {}, 276) := by kernel_rfl
theorem opened : ∀ w : World, (fencedOpening treeTable prg w 4260).map (fun s => (s.heap, s.gens, s.drawn, s.toks)) = some (hp68 w.params, Array.mk [], {}, 276) :=
  open_cut (He := fun P => absHeap (tr254 P) 28 {}) (ge := Array.mk []) (de := {}) (ke := 276) (M := 800) imp_abs (by decide) (fun w => funext fun os => fenced w os)
end Mine
end

namespace Mine
theorem freshHx : True ∧ True := by
  k_with_none
  w_top off
  first | (walk1; all_goals exact trivial) | exact ⟨trivial, trivial⟩
end Mine
section
open PySem PySem.W PyProof.Rows
set_option Elab.async false
set_option maxRecDepth 100000
set_option maxHeartbeats 4000000
namespace Mine
noncomputable def keepX : List Nat := [0, 3, 5, 6, 8, 9, 10, 11, 13, 14, 15, 16, 17, 18, 19, 20, 21, 22, 23, 24, 25, 26, 27, 28, 29, 30, 31, 32, 33, 34, 35, 36, 37, 38, 39, 40, 41, 42, 43, 44] ++ [45, 46, 47, 48, 49, 50, 51, 52, 53, 54, 55, 56, 57, 58, 59, 60, 61, 62, 63, 65, 66, 67, 68, 69, 70, 71, 72]
noncomputable def viewX : Program := view prg keepX
noncomputable abbrev looseX : List Str := [Str.ofString "compute_powers", Str.ofString "_twin_re_1", Str.ofString "_twin_re_2", Str.ofString "EXACT_TOKEN_TYPES"]
noncomputable abbrev asX : List Addr := 2 :: 3 :: 6 :: 11 :: 12 :: 32 :: 33 :: 35 :: 36 :: 38 :: 39 :: 40 :: 42 :: 43 :: 45 :: 46 :: 47 :: 49 :: 50 :: 52 :: 53 :: 54 :: 56 :: 57 :: 59 :: 60 :: 64 :: 65 :: 69 :: 70 :: 71 :: 73 :: 74 :: 76 :: 77 :: 78 :: 81 :: 83 :: 84 :: 86 :: 87 :: 88 :: 91 :: 92 :: 93 :: 96 :: 97 :: 98 :: 100 :: 101 :: 103 :: 104 :: 105 :: 107 :: 108 :: 110 :: 111 :: 112 :: 114 :: 115 :: 117 :: 118 :: 119 :: 122 :: 123 :: 124 :: 127 :: 128 :: 129 :: 132 :: 133 :: []
theorem asX_eq : ∀ P, asX = (frag P).map (·.1) := fun P => by kernel_rfl
noncomputable abbrev hookX : Hook := kmHook frag asX asX_eq [41]
noncomputable abbrev XtX : Shared → Bool := fun s => xlAt viewX [] s && recOk (RowW.records PySem.Challenge.rw_tl0025_01.row.toRowW) s
noncomputable abbrev endX (w : World) (os : OsState) : Shared := ⟨hp189 w.params, Array.mk [], {}, 698, os⟩
theorem seen_join {q : Program} {loose mods : List Str} {Xt : Shared → Bool} {g0 : Bool} {s : Shared} (h1 : seen ((recsOf q).map (·.name)) (ownsOf q) [] { s with gens := #[] } = expectedOf q) (h2 : s.heap.bltView = bltViewBooted) (h3 : (openSeen q loose mods Xt g0 s).2.2.1 = true) (h4 : tabsOk q s = true)
    (h5 : pinSeenD q (drecsOf q) s = pinGoodD (drecsOf q)) (h6 : plainSeenE q (looseW q loose) s = plainGoodE q (looseW q loose)) (h7 : plainSeenD q loose s = plainGoodD q loose) (h8 : wideSeen q s = wideGood q) (h9 : clsSeenW q loose s = clsGoodW q loose) : openSeen q loose mods Xt g0 s = openGood q loose :=
  Prod.ext h1 (Prod.ext h2 (Prod.ext h3 (Prod.ext h4 (Prod.ext h5 (Prod.ext h6 (Prod.ext h7 (Prod.ext h8 h9)))))))
theorem lk_0 (w : World) (os : OsState) : (staticsOk (importedModules prg.main.body) (hp68 w.params) (hp189 w.params) && namesBound prg (hp189 w.params) && gensDone (endX w os) && laidKept (hp68 w.params) (hp189 w.params)) = true := by kernel_rfl
theorem lk_1 (w : World) (os : OsState) : seen ((recsOf viewX).map (·.name)) (ownsOf viewX) [] { endX w os with gens := #[] } = expectedOf viewX := by kernel_rfl
theorem lk_2 (w : World) (os : OsState) : (endX w os).heap.bltView = bltViewBooted := by kernel_rfl
theorem lk_3a (w : World) (os : OsState) : ((endX w os).heap.keysOk (looseW viewX looseX) ((recsOf viewX).map (·.name)) ((litsOf viewX).map (·.1)) ((clssOf viewX (looseW viewX looseX)).map (·.name))) = true := by kernel_rfl
theorem lk_3b (w : World) (os : OsState) : (endX w os).heap.accountedOkI (importedModules prg.main.body) = true := by kernel_rfl
theorem lk_3c (w : World) (os : OsState) : ((endX w os).heap.isNs mainGlobals && (endX w os).heap.isNs builtinsNs) = true := by kernel_rfl
theorem lk_3d (w : World) (os : OsState) : tablesOk viewX (endX w os).heap = true := by kernel_rfl
theorem lk_3e (w : World) (os : OsState) : (XtX (endX w os) && (if true then (endX w os).gens.size == 0 else !leftWithCleanup (endX w os).gens)) = true := by kernel_rfl
theorem lk_4 (w : World) (os : OsState) : tabsOk viewX (endX w os) = true := by kernel_rfl
theorem lk_5 (w : World) (os : OsState) : pinSeenD viewX (drecsOf viewX) (endX w os) = pinGoodD (drecsOf viewX) := by kernel_rfl
theorem lk_6 (w : World) (os : OsState) : plainSeenE viewX (looseW viewX looseX) (endX w os) = plainGoodE viewX (looseW viewX looseX) := by kernel_rfl
theorem lk_7 (w : World) (os : OsState) : plainSeenD viewX looseX (endX w os) = plainGoodD viewX looseX := by kernel_rfl
theorem lk_8 (w : World) (os : OsState) : wideSeen viewX (endX w os) = wideGood viewX := by kernel_rfl
theorem lk_9 (w : World) (os : OsState) : clsSeenW viewX looseX (endX w os) = clsGoodW viewX looseX := by kernel_rfl
theorem lk_10 (w : World) (os : OsState) : hookX.obs (endX w os) = hookX.val w := by kernel_rfl
end Mine
end

namespace Mine
theorem freshHd2 : True ∧ True := by
  k_with_none
  w_top off
  first | (walk1; all_goals exact trivial) | exact ⟨trivial, trivial⟩
end Mine
section
open PySem PySem.W PyProof.Rows
set_option Elab.async false
set_option maxRecDepth 100000
set_option maxHeartbeats 4000000
namespace Mine
theorem lk_3 (w : World) (os : OsState) : (openSeen viewX looseX (importedModules prg.main.body) XtX true (endX w os)).2.2.1 = true := by
  have a := lk_3a w os
  have b := lk_3b w os
  have c := lk_3c w os
  have d := lk_3d w os
  have e := lk_3e w os
  simp only [Bool.and_eq_true] at c e
  show ((((((_ && _) && _) && _) && _) && _) && _) = true
  simp only [Bool.and_eq_true]
  exact ⟨⟨⟨⟨⟨⟨a, b⟩, c.1⟩, c.2⟩, d⟩, e.1⟩, e.2⟩
theorem seen_ok (w : World) (os : OsState) : openSeen viewX looseX (importedModules prg.main.body) XtX true (endX w os) = openGood viewX looseX :=
  seen_join (lk_1 w os) (lk_2 w os) (lk_3 w os) (lk_4 w os) (lk_5 w os) (lk_6 w os) (lk_7 w os) (lk_8 w os) (lk_9 w os)
theorem size_ok (w : World) : ((hp68 w.params).isNs mainGlobals && (Array.mk [] : Array GenState).size == 0, (hp68 w.params).objs.size, (hp68 w.params).nsMap mainGlobals "__annotations__") = (true, 28, some (Value.ref 6)) := by kernel_rfl
theorem left : LeftO prg viewX looseX XtX hookX.obs hookX.val 4260 :=
  LeftO.of_pieces opened size_ok top_run (by decide) (fun w => funext fun os => Prod.ext (lk_0 w os) (Prod.ext (seen_ok w os) (lk_10 w os)))
theorem said : OpenLaw.wellSaid PySem.Challenge.rw_tl0025_01 = true := by kernel_rfl
end Mine
end

namespace Mine
theorem freshLw : True ∧ True := by
  k_with_none
  w_top off
  first | (walk1; all_goals exact trivial) | exact ⟨trivial, trivial⟩
end Mine
section
open PySem PySem.W PyProof.Rows
set_option Elab.async false
set_option maxRecDepth 100000
set_option maxHeartbeats 4000000
namespace Mine
open PySem.Calls PySem.Spec PySem.Flt
theorem wordsLw0 : True := by
  k_with_none
  (k_with "m execs cons" => refine Hold.mk' ?_)
  (k_with "m execs" => refine Hold.mk' ?_)
  trivial
theorem top : Challenge.rw_tl0025_01.Holds := by
  refine holds_law said fun sd => ?_
  refine holds_open (q := viewX) (loose := looseX) (Xt := XtX) (XP := XL viewX []) (Yf := (kmHook frag asX asX_eq [41]).obs) (Ya := (kmHook frag asX asX_eq [41]).val) (YP := (kmHook frag asX asX_eq [41]).says) (N := 4260) left (kmHook frag asX asX_eq [41]).of (kmHook frag asX asX_eq [41]).keeps (fun s e => xl_of s (Bool.and_eq_true_iff.mp e).1) XL.keeps (by rfl) (by rfl) (by rfl) (fun s e => recFacts_of (Bool.and_eq_true_iff.mp e).2) (by rfl) sd (by decide +kernel) ⟨rfl, rfl, rfl, rfl, rfl, by decide +kernel⟩ ?hw ?_
  case hw => w_witness2
  k_go0
  all_goals (try k_fold)
  k_steps
  unfold Hold
  rename Fr _ _ _ _ => F1
  rename News _ _ _ _ => N1
  rename Below _ _ _ _ => B1
  rename Frag.In _ _ => X1
  rename IntsAre _ _ => I1
  rename Heap.IsList _ _ _ => H1
  rename Top _ _ _ _ _ _ => T1
  rename CodeHd _ _ _ => C1
  refine law_1 (gd := some []) (un := 4) (outer := []) (dp := 1 + claimMargin) ?_ ?_ H1 I1 ?_ F1 ?_ N1 ?_ ?_ ?_ B1 X1 T1 ?_ ?_ C1 ?_
  · with_unfolding_all rfl
  · with_unfolding_all rfl
  · omega
  · with_unfolding_all rfl
  · exact Eq.trans (by assumption) (by with_unfolding_all rfl)
  · exact Eq.trans (by assumption) (by with_unfolding_all rfl)
  · assumption
  · decide
  · decide
  · intro h' tk' d' m' ps F9 N9
    clear F1 N1
    dsimp only
    k_steps
end Mine
end
theorem PySem.Challenge.cw_tl0025_01_holds : PySem.Challenge.rw_tl0025_01.Holds :=
  Mine.top
