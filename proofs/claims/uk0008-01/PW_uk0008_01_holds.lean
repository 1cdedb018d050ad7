import PyProof.Rows.All
import Wide.All
import OpenK.AllK
import Wide.FinOn
import PySem.Challenge.RW_uk0008_01
set_option Elab.async false
set_option linter.unusedVariables false
set_option linter.unusedSimpArgs false
set_option linter.unusedSectionVars false
section
/-! The head: the text's top, run by the kernel at once; what stands behind it. -/
open PySem PySem.W PyProof.Rows
set_option maxRecDepth 1000000
namespace Mine
abbrev pw : Program := PySem.Challenge.pw_uk0008_01
/-- a statement of the text; one of its class -/
noncomputable def stA (i : Nat) : Stmt := match pw.main.body.drop i with
  | s :: _ => s
  | [] => default
noncomputable def stC (i j : Nat) : Stmt := match stA i with
  | .ClassDef _ _ _ b .. => (match b.drop j with
    | s :: _ => s
    | [] => default)
  | _ => default
/-- a def's parameters, body and block -/
noncomputable def prt (s : Stmt) : Arguments × List Stmt × Scope := match s with
  | .FunctionDef _ ps b _ _ _ sc .. => (ps, b, sc)
  | _ => default
/-- the objects behind the top that the law reaches -/
noncomputable def KD (P : Params) : Frag := [
  (3, ⟨(.type "dict"), none, (.dict #[⟨PyData.keyHash P (Str.ofString "__name__"), (.str (Str.ofString "__name__") 165), (.str (Str.ofString "law_uk0008_01") 628)⟩, ⟨PyData.keyHash P (Str.ofString "__doc__"), (.str (Str.ofString "__doc__") 166), .none⟩, ⟨PyData.keyHash P (Str.ofString "__package__"), (.str (Str.ofString "__package__") 167), .none⟩, ⟨PyData.keyHash P (Str.ofString "__loader__"), (.str (Str.ofString "__loader__") 168), (.builtin "__main__.__loader__#opaque")⟩, ⟨PyData.keyHash P (Str.ofString "__spec__"), (.str (Str.ofString "__spec__") 169), .none⟩, ⟨PyData.keyHash P (Str.ofString "__annotations__"), (.str (Str.ofString "__annotations__") 170), (.ref 6)⟩, ⟨PyData.keyHash P (Str.ofString "__builtins__"), (.str (Str.ofString "__builtins__") 171), (.ref 4)⟩, ⟨PyData.keyHash P (Str.ofString "__file__"), (.str (Str.ofString "__file__") 173), (.str (Str.ofString "/claim/cut.py") 172)⟩, ⟨PyData.keyHash P (Str.ofString "__cached__"), (.str (Str.ofString "__cached__") 174), .none⟩, ⟨PyData.keyHash P (Str.ofString "_sre"), (.str (Str.ofString "_sre") 275), (.ref 12)⟩, ⟨PyData.keyHash P (Str.ofString "_wall"), (.str (Str.ofString "_wall") 288), (.ref 38)⟩, ⟨PyData.keyHash P (Str.ofString "bisect_right"), (.str (Str.ofString "bisect_right") 304), (.ref 47)⟩, ⟨PyData.keyHash P (Str.ofString "bisect_left"), (.str (Str.ofString "bisect_left") 318), (.ref 56)⟩, ⟨PyData.keyHash P (Str.ofString "ELLIPSIS_MARKER"), (.str (Str.ofString "ELLIPSIS_MARKER") 322), (.str (Str.ofString "...") 321)⟩, ⟨PyData.keyHash P (Str.ofString "_ellipsis_match"), (.str (Str.ofString "_ellipsis_match") 334), (.ref 63)⟩, ⟨PyData.keyHash P (Str.ofString "ENDMARKER"), (.str (Str.ofString "ENDMARKER") 338), (.int (0) 337)⟩, ⟨PyData.keyHash P (Str.ofString "NT_OFFSET"), (.str (Str.ofString "NT_OFFSET") 340), (.int (256) 339)⟩, ⟨PyData.keyHash P (Str.ofString "ISTERMINAL"), (.str (Str.ofString "ISTERMINAL") 347), (.ref 70)⟩, ⟨PyData.keyHash P (Str.ofString "ISNONTERMINAL"), (.str (Str.ofString "ISNONTERMINAL") 354), (.ref 77)⟩, ⟨PyData.keyHash P (Str.ofString "ISEOF"), (.str (Str.ofString "ISEOF") 361), (.ref 84)⟩, ⟨PyData.keyHash P (Str.ofString "tspecials"), (.str (Str.ofString "tspecials") 397), (.ref 89)⟩, ⟨PyData.keyHash P (Str.ofString "_name_disallowed_re"), (.str (Str.ofString "_name_disallowed_re") 423), (.ref 94)⟩, ⟨PyData.keyHash P (Str.ofString "_value_disallowed_re"), (.str (Str.ofString "_value_disallowed_re") 457), (.ref 99)⟩, ⟨PyData.keyHash P (Str.ofString "_formatparam"), (.str (Str.ofString "_formatparam") 467), (.ref 107)⟩, ⟨PyData.keyHash P (Str.ofString "Headers"), (.str (Str.ofString "Headers") 627), (.ref 230)⟩, ⟨PyData.keyHash P (Str.ofString "_law_cells"), (.str (Str.ofString "_law_cells") 635), (.ref 239)⟩, ⟨PyData.keyHash P (Str.ofString "_law_rules"), (.str (Str.ofString "_law_rules") 641), (.ref 244)⟩, ⟨PyData.keyHash P (Str.ofString "_law_words"), (.str (Str.ofString "_law_words") 647), (.ref 249)⟩, ⟨PyData.keyHash P (Str.ofString "_law_figures"), (.str (Str.ofString "_law_figures") 656), (.ref 256)⟩, ⟨PyData.keyHash P (Str.ofString "_law_name"), (.str (Str.ofString "_law_name") 663), (.ref 263)⟩, ⟨PyData.keyHash P (Str.ofString "_law_led"), (.str (Str.ofString "_law_led") 669), (.ref 268)⟩, ⟨PyData.keyHash P (Str.ofString "_law_asked"), (.str (Str.ofString "_law_asked") 675), (.ref 273)⟩, ⟨PyData.keyHash P (Str.ofString "_law_stands"), (.str (Str.ofString "_law_stands") 685), (.ref 280)⟩, ⟨PyData.keyHash P (Str.ofString "_law_spans"), (.str (Str.ofString "_law_spans") 693), (.ref 287)⟩, ⟨PyData.keyHash P (Str.ofString "_law_walk"), (.str (Str.ofString "_law_walk") 703), (.ref 294)⟩, ⟨PyData.keyHash P (Str.ofString "_law_due"), (.str (Str.ofString "_law_due") 709), (.ref 299)⟩, ⟨PyData.keyHash P (Str.ofString "law"), (.str (Str.ofString "law") 715), (.ref 304)⟩] 37), #[]⟩),
  (39, ⟨(.type "tuple"), none, (.seq #[(.int (0) 291), .none] 0), #[]⟩),
  (40, ⟨(.type "dict"), none, (.dict #[⟨PyData.keyHash P (Str.ofString "key"), (.str (Str.ofString "key") 292), .none⟩] 1), #[]⟩),
  (46, ⟨(.type "code"), none, (.fields #[(.str (Str.ofString "bisect_right") 293), (.str (Str.ofString "bisect_right") 294), (.str (Str.ofString "/claim/cut.py") 295), (.int (6) 0), (.int (4) 0), (.int (0) 0), (.int (1) 0), (.int (3) 0), (.ref 41), (.bool true), (.int (276) 0), (.ref 42), .none, (.ref 43), (.ref 44), (.ref 45), (.int (302) 0), (.int (6) 0), (.str (Str.ofString "/claim/cut.py") 303)]), #[]⟩),
  (47, ⟨(.type "function"), none, (.func { name := (Str.ofString "bisect_right"), qualname := (Str.ofString "bisect_right"), params := (prt (stA 3)).1, body := .stmts (prt (stA 3)).2.1, scope := (prt (stA 3)).2.2, globals := 3, closure := [], defaults := (.ref 39), kwdefaults := (.ref 40), doc := .none, pyModule := (.str (Str.ofString "cpy313.bisect") 289), annotations := none, code := (.ref 46), closureTuple := .none, builtins := 0 }), #[]⟩),
  (48, ⟨(.type "tuple"), none, (.seq #[(.int (0) 305), .none] 0), #[]⟩),
  (49, ⟨(.type "dict"), none, (.dict #[⟨PyData.keyHash P (Str.ofString "key"), (.str (Str.ofString "key") 306), .none⟩] 1), #[]⟩),
  (55, ⟨(.type "code"), none, (.fields #[(.str (Str.ofString "bisect_left") 307), (.str (Str.ofString "bisect_left") 308), (.str (Str.ofString "/claim/cut.py") 309), (.int (26) 0), (.int (4) 0), (.int (0) 0), (.int (1) 0), (.int (3) 0), (.ref 50), (.bool true), (.int (276) 0), (.ref 51), .none, (.ref 52), (.ref 53), (.ref 54), (.int (316) 0), (.int (26) 0), (.str (Str.ofString "/claim/cut.py") 317)]), #[]⟩),
  (56, ⟨(.type "function"), none, (.func { name := (Str.ofString "bisect_left"), qualname := (Str.ofString "bisect_left"), params := (prt (stA 4)).1, body := .stmts (prt (stA 4)).2.1, scope := (prt (stA 4)).2.2, globals := 3, closure := [], defaults := (.ref 48), kwdefaults := (.ref 49), doc := .none, pyModule := (.str (Str.ofString "cpy313.bisect") 289), annotations := none, code := (.ref 55), closureTuple := .none, builtins := 0 }), #[]⟩),
  (62, ⟨(.type "code"), none, (.fields #[(.str (Str.ofString "_ellipsis_match") 323), (.str (Str.ofString "_ellipsis_match") 324), (.str (Str.ofString "/claim/cut.py") 325), (.int (48) 0), (.int (2) 0), (.int (0) 0), (.int (0) 0), (.int (3) 0), (.ref 57), (.bool true), (.int (276) 0), (.ref 58), .none, (.ref 59), (.ref 60), (.ref 61), (.int (332) 0), (.int (48) 0), (.str (Str.ofString "/claim/cut.py") 333)]), #[]⟩),
  (63, ⟨(.type "function"), none, (.func { name := (Str.ofString "_ellipsis_match"), qualname := (Str.ofString "_ellipsis_match"), params := (prt (stA 7)).1, body := .stmts (prt (stA 7)).2.1, scope := (prt (stA 7)).2.2, globals := 3, closure := [], defaults := .none, kwdefaults := .none, doc := .none, pyModule := (.str (Str.ofString "cpy313.doctest") 319), annotations := none, code := (.ref 62), closureTuple := .none, builtins := 0 }), #[]⟩),
  (69, ⟨(.type "code"), none, (.fields #[(.str (Str.ofString "ISTERMINAL") 341), (.str (Str.ofString "ISTERMINAL") 342), (.str (Str.ofString "/claim/cut.py") 343), (.int (79) 0), (.int (1) 0), (.int (0) 0), (.int (0) 0), (.int (3) 0), (.ref 64), (.bool true), (.int (276) 0), (.ref 65), .none, (.ref 66), (.ref 67), (.ref 68), (.int (345) 0), (.int (79) 0), (.str (Str.ofString "/claim/cut.py") 346)]), #[]⟩),
  (70, ⟨(.type "function"), none, (.func { name := (Str.ofString "ISTERMINAL"), qualname := (Str.ofString "ISTERMINAL"), params := (prt (stA 11)).1, body := .stmts (prt (stA 11)).2.1, scope := (prt (stA 11)).2.2, globals := 3, closure := [], defaults := .none, kwdefaults := .none, doc := .none, pyModule := (.str (Str.ofString "cpy313.token") 335), annotations := none, code := (.ref 69), closureTuple := .none, builtins := 0 }), #[]⟩),
  (76, ⟨(.type "code"), none, (.fields #[(.str (Str.ofString "ISNONTERMINAL") 348), (.str (Str.ofString "ISNONTERMINAL") 349), (.str (Str.ofString "/claim/cut.py") 350), (.int (81) 0), (.int (1) 0), (.int (0) 0), (.int (0) 0), (.int (3) 0), (.ref 71), (.bool true), (.int (276) 0), (.ref 72), .none, (.ref 73), (.ref 74), (.ref 75), (.int (352) 0), (.int (81) 0), (.str (Str.ofString "/claim/cut.py") 353)]), #[]⟩),
  (77, ⟨(.type "function"), none, (.func { name := (Str.ofString "ISNONTERMINAL"), qualname := (Str.ofString "ISNONTERMINAL"), params := (prt (stA 12)).1, body := .stmts (prt (stA 12)).2.1, scope := (prt (stA 12)).2.2, globals := 3, closure := [], defaults := .none, kwdefaults := .none, doc := .none, pyModule := (.str (Str.ofString "cpy313.token") 335), annotations := none, code := (.ref 76), closureTuple := .none, builtins := 0 }), #[]⟩),
  (83, ⟨(.type "code"), none, (.fields #[(.str (Str.ofString "ISEOF") 355), (.str (Str.ofString "ISEOF") 356), (.str (Str.ofString "/claim/cut.py") 357), (.int (83) 0), (.int (1) 0), (.int (0) 0), (.int (0) 0), (.int (3) 0), (.ref 78), (.bool true), (.int (276) 0), (.ref 79), .none, (.ref 80), (.ref 81), (.ref 82), (.int (359) 0), (.int (83) 0), (.str (Str.ofString "/claim/cut.py") 360)]), #[]⟩),
  (84, ⟨(.type "function"), none, (.func { name := (Str.ofString "ISEOF"), qualname := (Str.ofString "ISEOF"), params := (prt (stA 13)).1, body := .stmts (prt (stA 13)).2.1, scope := (prt (stA 13)).2.2, globals := 3, closure := [], defaults := .none, kwdefaults := .none, doc := .none, pyModule := (.str (Str.ofString "cpy313.token") 335), annotations := none, code := (.ref 83), closureTuple := .none, builtins := 0 }), #[]⟩),
  (93, ⟨(.type "tuple"), none, (.seq #[(.int (14) 0), (.int (10) 0), (.int (4) 0), (.int (1) 0), (.int (1) 0), (.int (22) 0), (.int (0) 0), (.int (31) 0), (.int (16) 0), (.int (127) 0), (.int (0) 0), (.int (13) 0), (.int (7) 0), (.int (22) 0), (.int (0) 0), (.int (31) 0), (.int (16) 0), (.int (127) 0), (.int (0) 0), (.int (1) 0)] 0), #[]⟩),
  (94, ⟨(.type "re.Pattern"), none, (.fields #[(.str (Str.ofString "[\\x00-\\x1F\\x7F]") 399), (.int (32) 422), (.int (0) 0), .none, .none, (.ref 93), (.int (0) 0)]), #[]⟩),
  (98, ⟨(.type "tuple"), none, (.seq #[(.int (14) 0), (.int (14) 0), (.int (4) 0), (.int (1) 0), (.int (1) 0), (.int (9) 0), (.int (4294966783) 0), (.int (0) 0), (.int (0) 0), (.int (2147483648) 0), (.int (0) 0), (.int (0) 0), (.int (0) 0), (.int (0) 0), (.int (0) 0), (.int (13) 0), (.int (11) 0), (.int (9) 0), (.int (4294966783) 0), (.int (0) 0), (.int (0) 0), (.int (2147483648) 0), (.int (0) 0), (.int (0) 0), (.int (0) 0), (.int (0) 0), (.int (0) 0), (.int (1) 0)] 0), #[]⟩),
  (99, ⟨(.type "re.Pattern"), none, (.fields #[(.str (Str.ofString "[\\x00-\\x08\\x0A-\\x1F\\x7F]") 425), (.int (32) 456), (.int (0) 0), .none, .none, (.ref 98), (.int (0) 0)]), #[]⟩),
  (115, ⟨(.type "tuple"), none, (.seq #[.none] 0), #[]⟩),
  (121, ⟨(.type "code"), none, (.fields #[(.str (Str.ofString "__init__") 480), (.str (Str.ofString "Headers.__init__") 481), (.str (Str.ofString "/claim/cut.py") 482), (.int (100) 0), (.int (2) 0), (.int (0) 0), (.int (0) 0), (.int (3) 0), (.ref 116), (.bool true), (.int (276) 0), (.ref 117), .none, (.ref 118), (.ref 119), (.ref 120), (.int (487) 0), (.int (100) 0), (.str (Str.ofString "/claim/cut.py") 488)]), #[]⟩),
  (122, ⟨(.type "function"), none, (.func { name := (Str.ofString "__init__"), qualname := (Str.ofString "Headers.__init__"), params := (prt (stC 19 0)).1, body := .stmts (prt (stC 19 0)).2.1, scope := (prt (stC 19 0)).2.2, globals := 3, closure := [], defaults := (.ref 115), kwdefaults := .none, doc := .none, pyModule := (.str (Str.ofString "cpy313.wsgiref.headers") 362), annotations := none, code := (.ref 121), closureTuple := .none, builtins := 0 }), #[]⟩),
  (128, ⟨(.type "code"), none, (.fields #[(.str (Str.ofString "_convert_string_type") 490), (.str (Str.ofString "Headers._convert_string_type") 491), (.str (Str.ofString "/claim/cut.py") 492), (.int (110) 0), (.int (2) 0), (.int (0) 0), (.int (1) 0), (.int (3) 0), (.ref 123), (.bool true), (.int (276) 0), (.ref 124), .none, (.ref 125), (.ref 126), (.ref 127), (.int (497) 0), (.int (110) 0), (.str (Str.ofString "/claim/cut.py") 498)]), #[]⟩),
  (129, ⟨(.type "function"), none, (.func { name := (Str.ofString "_convert_string_type"), qualname := (Str.ofString "Headers._convert_string_type"), params := (prt (stC 19 1)).1, body := .stmts (prt (stC 19 1)).2.1, scope := (prt (stC 19 1)).2.2, globals := 3, closure := [], defaults := .none, kwdefaults := .none, doc := .none, pyModule := (.str (Str.ofString "cpy313.wsgiref.headers") 362), annotations := none, code := (.ref 128), closureTuple := .none, builtins := 0 }), #[]⟩),
  (170, ⟨(.type "tuple"), none, (.seq #[.none] 0), #[]⟩),
  (176, ⟨(.type "code"), none, (.fields #[(.str (Str.ofString "get") 546), (.str (Str.ofString "Headers.get") 547), (.str (Str.ofString "/claim/cut.py") 548), (.int (138) 0), (.int (3) 0), (.int (0) 0), (.int (0) 0), (.int (3) 0), (.ref 171), (.bool true), (.int (276) 0), (.ref 172), .none, (.ref 173), (.ref 174), (.ref 175), (.int (554) 0), (.int (138) 0), (.str (Str.ofString "/claim/cut.py") 555)]), #[]⟩),
  (177, ⟨(.type "function"), none, (.func { name := (Str.ofString "get"), qualname := (Str.ofString "Headers.get"), params := (prt (stC 19 8)).1, body := .stmts (prt (stC 19 8)).2.1, scope := (prt (stC 19 8)).2.2, globals := 3, closure := [], defaults := (.ref 170), kwdefaults := .none, doc := .none, pyModule := (.str (Str.ofString "cpy313.wsgiref.headers") 362), annotations := none, code := (.ref 176), closureTuple := .none, builtins := 0 }), #[]⟩),
  (193, ⟨(.type "code"), none, (.fields #[(.str (Str.ofString "items") 569), (.str (Str.ofString "Headers.items") 570), (.str (Str.ofString "/claim/cut.py") 571), (.int (151) 0), (.int (1) 0), (.int (0) 0), (.int (0) 0), (.int (3) 0), (.ref 188), (.bool true), (.int (276) 0), (.ref 189), .none, (.ref 190), (.ref 191), (.ref 192), (.int (573) 0), (.int (151) 0), (.str (Str.ofString "/claim/cut.py") 574)]), #[]⟩),
  (194, ⟨(.type "function"), none, (.func { name := (Str.ofString "items"), qualname := (Str.ofString "Headers.items"), params := (prt (stC 19 11)).1, body := .stmts (prt (stC 19 11)).2.1, scope := (prt (stC 19 11)).2.2, globals := 3, closure := [], defaults := .none, kwdefaults := .none, doc := .none, pyModule := (.str (Str.ofString "cpy313.wsgiref.headers") 362), annotations := none, code := (.ref 193), closureTuple := .none, builtins := 0 }), #[]⟩),
  (219, ⟨(.type "code"), none, (.fields #[(.str (Str.ofString "setdefault") 596), (.str (Str.ofString "Headers.setdefault") 597), (.str (Str.ofString "/claim/cut.py") 598), (.int (163) 0), (.int (3) 0), (.int (0) 0), (.int (0) 0), (.int (3) 0), (.ref 214), (.bool true), (.int (276) 0), (.ref 215), .none, (.ref 216), (.ref 217), (.ref 218), (.int (603) 0), (.int (163) 0), (.str (Str.ofString "/claim/cut.py") 604)]), #[]⟩),
  (220, ⟨(.type "function"), none, (.func { name := (Str.ofString "setdefault"), qualname := (Str.ofString "Headers.setdefault"), params := (prt (stC 19 15)).1, body := .stmts (prt (stC 19 15)).2.1, scope := (prt (stC 19 15)).2.2, globals := 3, closure := [], defaults := .none, kwdefaults := .none, doc := .none, pyModule := (.str (Str.ofString "cpy313.wsgiref.headers") 362), annotations := none, code := (.ref 219), closureTuple := .none, builtins := 0 }), #[]⟩),
  (226, ⟨(.type "code"), none, (.fields #[(.str (Str.ofString "add_header") 606), (.str (Str.ofString "Headers.add_header") 607), (.str (Str.ofString "/claim/cut.py") 608), (.int (171) 0), (.int (3) 0), (.int (0) 0), (.int (0) 0), (.int (11) 0), (.ref 221), (.bool true), (.int (276) 0), (.ref 222), .none, (.ref 223), (.ref 224), (.ref 225), (.int (616) 0), (.int (171) 0), (.str (Str.ofString "/claim/cut.py") 617)]), #[]⟩),
  (227, ⟨(.type "function"), none, (.func { name := (Str.ofString "add_header"), qualname := (Str.ofString "Headers.add_header"), params := (prt (stC 19 16)).1, body := .stmts (prt (stC 19 16)).2.1, scope := (prt (stC 19 16)).2.2, globals := 3, closure := [], defaults := .none, kwdefaults := .none, doc := .none, pyModule := (.str (Str.ofString "cpy313.wsgiref.headers") 362), annotations := none, code := (.ref 226), closureTuple := .none, builtins := 0 }), #[]⟩),
  (229, ⟨(.type "dict"), none, (.dict #[⟨PyData.keyHash P (Str.ofString "__module__"), (.str (Str.ofString "__module__") 475), (.str (Str.ofString "cpy313.wsgiref.headers") 362)⟩, ⟨PyData.keyHash P (Str.ofString "__firstlineno__"), (.str (Str.ofString "__firstlineno__") 479), (.int (98) 478)⟩, ⟨PyData.keyHash P (Str.ofString "__init__"), (.str (Str.ofString "__init__") 489), (.ref 122)⟩, ⟨PyData.keyHash P (Str.ofString "_convert_string_type"), (.str (Str.ofString "_convert_string_type") 499), (.ref 129)⟩, ⟨PyData.keyHash P (Str.ofString "__len__"), (.str (Str.ofString "__len__") 506), (.ref 136)⟩, ⟨PyData.keyHash P (Str.ofString "__setitem__"), (.str (Str.ofString "__setitem__") 515), (.ref 143)⟩, ⟨PyData.keyHash P (Str.ofString "__delitem__"), (.str (Str.ofString "__delitem__") 521), (.ref 148)⟩, ⟨PyData.keyHash P (Str.ofString "__getitem__"), (.str (Str.ofString "__getitem__") 529), (.ref 155)⟩, ⟨PyData.keyHash P (Str.ofString "__contains__"), (.str (Str.ofString "__contains__") 537), (.ref 162)⟩, ⟨PyData.keyHash P (Str.ofString "get_all"), (.str (Str.ofString "get_all") 545), (.ref 169)⟩, ⟨PyData.keyHash P (Str.ofString "get"), (.str (Str.ofString "get") 556), (.ref 177)⟩, ⟨PyData.keyHash P (Str.ofString "keys"), (.str (Str.ofString "keys") 562), (.ref 182)⟩, ⟨PyData.keyHash P (Str.ofString "values"), (.str (Str.ofString "values") 568), (.ref 187)⟩, ⟨PyData.keyHash P (Str.ofString "items"), (.str (Str.ofString "items") 575), (.ref 194)⟩, ⟨PyData.keyHash P (Str.ofString "__repr__"), (.str (Str.ofString "__repr__") 582), (.ref 201)⟩, ⟨PyData.keyHash P (Str.ofString "__str__"), (.str (Str.ofString "__str__") 588), (.ref 206)⟩, ⟨PyData.keyHash P (Str.ofString "__bytes__"), (.str (Str.ofString "__bytes__") 595), (.ref 213)⟩, ⟨PyData.keyHash P (Str.ofString "setdefault"), (.str (Str.ofString "setdefault") 605), (.ref 220)⟩, ⟨PyData.keyHash P (Str.ofString "add_header"), (.str (Str.ofString "add_header") 618), (.ref 227)⟩, ⟨PyData.keyHash P (Str.ofString "__static_attributes__"), (.str (Str.ofString "__static_attributes__") 620), (.ref 228)⟩, ⟨PyData.keyHash P (Str.ofString "__dict__"), (.str (Str.ofString "__dict__") 622), (.ref 231)⟩, ⟨PyData.keyHash P (Str.ofString "__weakref__"), (.str (Str.ofString "__weakref__") 624), (.ref 232)⟩, ⟨PyData.keyHash P (Str.ofString "__doc__"), (.str (Str.ofString "__doc__") 625), .none⟩] 4), #[]⟩),
  (230, ⟨(.type "type"), none, (.cls { name := (Str.ofString "Headers"), bases := [(.type "object")], mro := [(.ref 230), (.type "object")], ns := 229, qualname := (Str.ofString "Headers"), hasDict := true, slotNames := [], subclasses := [], abstract := false, collection := none, hasDel := false }), #[none, none, (some (.str (Str.ofString "Headers") 468)), (some (.str (Str.ofString "Headers") 476)), (some (.builtin "object.__new__")), (some (.bool true))]⟩),
  (238, ⟨(.type "code"), none, (.fields #[(.str (Str.ofString "_law_cells") 630), (.str (Str.ofString "_law_cells") 631), (.str (Str.ofString "/claim/cut.py") 632), (.int (185) 0), (.int (1) 0), (.int (0) 0), (.int (0) 0), (.int (3) 0), (.ref 235), (.bool true), (.int (276) 0), (.ref 236), .none, .none, .none, (.ref 237), (.int (633) 0), (.int (185) 0), (.str (Str.ofString "/claim/cut.py") 634)]), #[]⟩),
  (239, ⟨(.type "function"), none, (.func { name := (Str.ofString "_law_cells"), qualname := (Str.ofString "_law_cells"), params := (prt (stA 21)).1, body := .stmts (prt (stA 21)).2.1, scope := (prt (stA 21)).2.2, globals := 3, closure := [], defaults := .none, kwdefaults := .none, doc := .none, pyModule := (.str (Str.ofString "law_uk0008_01") 628), annotations := none, code := (.ref 238), closureTuple := .none, builtins := 0 }), #[]⟩),
  (243, ⟨(.type "code"), none, (.fields #[(.str (Str.ofString "_law_rules") 636), (.str (Str.ofString "_law_rules") 637), (.str (Str.ofString "/claim/cut.py") 638), (.int (188) 0), (.int (1) 0), (.int (0) 0), (.int (0) 0), (.int (3) 0), (.ref 240), (.bool true), (.int (276) 0), (.ref 241), .none, .none, .none, (.ref 242), (.int (639) 0), (.int (188) 0), (.str (Str.ofString "/claim/cut.py") 640)]), #[]⟩),
  (244, ⟨(.type "function"), none, (.func { name := (Str.ofString "_law_rules"), qualname := (Str.ofString "_law_rules"), params := (prt (stA 22)).1, body := .stmts (prt (stA 22)).2.1, scope := (prt (stA 22)).2.2, globals := 3, closure := [], defaults := .none, kwdefaults := .none, doc := .none, pyModule := (.str (Str.ofString "law_uk0008_01") 628), annotations := none, code := (.ref 243), closureTuple := .none, builtins := 0 }), #[]⟩),
  (248, ⟨(.type "code"), none, (.fields #[(.str (Str.ofString "_law_words") 642), (.str (Str.ofString "_law_words") 643), (.str (Str.ofString "/claim/cut.py") 644), (.int (192) 0), (.int (1) 0), (.int (0) 0), (.int (0) 0), (.int (3) 0), (.ref 245), (.bool true), (.int (276) 0), (.ref 246), .none, .none, .none, (.ref 247), (.int (645) 0), (.int (192) 0), (.str (Str.ofString "/claim/cut.py") 646)]), #[]⟩),
  (249, ⟨(.type "function"), none, (.func { name := (Str.ofString "_law_words"), qualname := (Str.ofString "_law_words"), params := (prt (stA 23)).1, body := .stmts (prt (stA 23)).2.1, scope := (prt (stA 23)).2.2, globals := 3, closure := [], defaults := .none, kwdefaults := .none, doc := .none, pyModule := (.str (Str.ofString "law_uk0008_01") 628), annotations := none, code := (.ref 248), closureTuple := .none, builtins := 0 }), #[]⟩),
  (255, ⟨(.type "code"), none, (.fields #[(.str (Str.ofString "_law_figures") 648), (.str (Str.ofString "_law_figures") 649), (.str (Str.ofString "/claim/cut.py") 650), (.int (198) 0), (.int (1) 0), (.int (0) 0), (.int (0) 0), (.int (3) 0), (.ref 250), (.bool true), (.int (276) 0), (.ref 251), .none, (.ref 252), (.ref 253), (.ref 254), (.int (654) 0), (.int (198) 0), (.str (Str.ofString "/claim/cut.py") 655)]), #[]⟩),
  (256, ⟨(.type "function"), none, (.func { name := (Str.ofString "_law_figures"), qualname := (Str.ofString "_law_figures"), params := (prt (stA 24)).1, body := .stmts (prt (stA 24)).2.1, scope := (prt (stA 24)).2.2, globals := 3, closure := [], defaults := .none, kwdefaults := .none, doc := .none, pyModule := (.str (Str.ofString "law_uk0008_01") 628), annotations := none, code := (.ref 255), closureTuple := .none, builtins := 0 }), #[]⟩),
  (262, ⟨(.type "code"), none, (.fields #[(.str (Str.ofString "_law_name") 657), (.str (Str.ofString "_law_name") 658), (.str (Str.ofString "/claim/cut.py") 659), (.int (202) 0), (.int (1) 0), (.int (0) 0), (.int (0) 0), (.int (3) 0), (.ref 257), (.bool true), (.int (276) 0), (.ref 258), .none, (.ref 259), (.ref 260), (.ref 261), (.int (661) 0), (.int (202) 0), (.str (Str.ofString "/claim/cut.py") 662)]), #[]⟩),
  (263, ⟨(.type "function"), none, (.func { name := (Str.ofString "_law_name"), qualname := (Str.ofString "_law_name"), params := (prt (stA 25)).1, body := .stmts (prt (stA 25)).2.1, scope := (prt (stA 25)).2.2, globals := 3, closure := [], defaults := .none, kwdefaults := .none, doc := .none, pyModule := (.str (Str.ofString "law_uk0008_01") 628), annotations := none, code := (.ref 262), closureTuple := .none, builtins := 0 }), #[]⟩),
  (267, ⟨(.type "code"), none, (.fields #[(.str (Str.ofString "_law_led") 664), (.str (Str.ofString "_law_led") 665), (.str (Str.ofString "/claim/cut.py") 666), (.int (206) 0), (.int (3) 0), (.int (0) 0), (.int (0) 0), (.int (3) 0), (.ref 264), (.bool true), (.int (276) 0), (.ref 265), .none, .none, .none, (.ref 266), (.int (667) 0), (.int (206) 0), (.str (Str.ofString "/claim/cut.py") 668)]), #[]⟩),
  (268, ⟨(.type "function"), none, (.func { name := (Str.ofString "_law_led"), qualname := (Str.ofString "_law_led"), params := (prt (stA 26)).1, body := .stmts (prt (stA 26)).2.1, scope := (prt (stA 26)).2.2, globals := 3, closure := [], defaults := .none, kwdefaults := .none, doc := .none, pyModule := (.str (Str.ofString "law_uk0008_01") 628), annotations := none, code := (.ref 267), closureTuple := .none, builtins := 0 }), #[]⟩),
  (272, ⟨(.type "code"), none, (.fields #[(.str (Str.ofString "_law_asked") 670), (.str (Str.ofString "_law_asked") 671), (.str (Str.ofString "/claim/cut.py") 672), (.int (231) 0), (.int (0) 0), (.int (0) 0), (.int (0) 0), (.int (3) 0), (.ref 269), (.bool true), (.int (276) 0), (.ref 270), .none, .none, .none, (.ref 271), (.int (673) 0), (.int (231) 0), (.str (Str.ofString "/claim/cut.py") 674)]), #[]⟩),
  (273, ⟨(.type "function"), none, (.func { name := (Str.ofString "_law_asked"), qualname := (Str.ofString "_law_asked"), params := (prt (stA 27)).1, body := .stmts (prt (stA 27)).2.1, scope := (prt (stA 27)).2.2, globals := 3, closure := [], defaults := .none, kwdefaults := .none, doc := .none, pyModule := (.str (Str.ofString "law_uk0008_01") 628), annotations := none, code := (.ref 272), closureTuple := .none, builtins := 0 }), #[]⟩),
  (279, ⟨(.type "code"), none, (.fields #[(.str (Str.ofString "_law_stands") 676), (.str (Str.ofString "_law_stands") 677), (.str (Str.ofString "/claim/cut.py") 678), (.int (236) 0), (.int (2) 0), (.int (0) 0), (.int (0) 0), (.int (3) 0), (.ref 274), (.bool true), (.int (276) 0), (.ref 275), .none, (.ref 276), (.ref 277), (.ref 278), (.int (683) 0), (.int (236) 0), (.str (Str.ofString "/claim/cut.py") 684)]), #[]⟩),
  (280, ⟨(.type "function"), none, (.func { name := (Str.ofString "_law_stands"), qualname := (Str.ofString "_law_stands"), params := (prt (stA 28)).1, body := .stmts (prt (stA 28)).2.1, scope := (prt (stA 28)).2.2, globals := 3, closure := [], defaults := .none, kwdefaults := .none, doc := .none, pyModule := (.str (Str.ofString "law_uk0008_01") 628), annotations := none, code := (.ref 279), closureTuple := .none, builtins := 0 }), #[]⟩),
  (286, ⟨(.type "code"), none, (.fields #[(.str (Str.ofString "_law_spans") 686), (.str (Str.ofString "_law_spans") 687), (.str (Str.ofString "/claim/cut.py") 688), (.int (242) 0), (.int (2) 0), (.int (0) 0), (.int (0) 0), (.int (3) 0), (.ref 281), (.bool true), (.int (276) 0), (.ref 282), .none, (.ref 283), (.ref 284), (.ref 285), (.int (691) 0), (.int (242) 0), (.str (Str.ofString "/claim/cut.py") 692)]), #[]⟩),
  (287, ⟨(.type "function"), none, (.func { name := (Str.ofString "_law_spans"), qualname := (Str.ofString "_law_spans"), params := (prt (stA 29)).1, body := .stmts (prt (stA 29)).2.1, scope := (prt (stA 29)).2.2, globals := 3, closure := [], defaults := .none, kwdefaults := .none, doc := .none, pyModule := (.str (Str.ofString "law_uk0008_01") 628), annotations := none, code := (.ref 286), closureTuple := .none, builtins := 0 }), #[]⟩),
  (293, ⟨(.type "code"), none, (.fields #[(.str (Str.ofString "_law_walk") 694), (.str (Str.ofString "_law_walk") 695), (.str (Str.ofString "/claim/cut.py") 696), (.int (246) 0), (.int (3) 0), (.int (0) 0), (.int (0) 0), (.int (3) 0), (.ref 288), (.bool true), (.int (276) 0), (.ref 289), .none, (.ref 290), (.ref 291), (.ref 292), (.int (701) 0), (.int (246) 0), (.str (Str.ofString "/claim/cut.py") 702)]), #[]⟩),
  (294, ⟨(.type "function"), none, (.func { name := (Str.ofString "_law_walk"), qualname := (Str.ofString "_law_walk"), params := (prt (stA 30)).1, body := .stmts (prt (stA 30)).2.1, scope := (prt (stA 30)).2.2, globals := 3, closure := [], defaults := .none, kwdefaults := .none, doc := .none, pyModule := (.str (Str.ofString "law_uk0008_01") 628), annotations := none, code := (.ref 293), closureTuple := .none, builtins := 0 }), #[]⟩),
  (298, ⟨(.type "code"), none, (.fields #[(.str (Str.ofString "_law_due") 704), (.str (Str.ofString "_law_due") 705), (.str (Str.ofString "/claim/cut.py") 706), (.int (250) 0), (.int (5) 0), (.int (0) 0), (.int (0) 0), (.int (3) 0), (.ref 295), (.bool true), (.int (276) 0), (.ref 296), .none, .none, .none, (.ref 297), (.int (707) 0), (.int (250) 0), (.str (Str.ofString "/claim/cut.py") 708)]), #[]⟩),
  (299, ⟨(.type "function"), none, (.func { name := (Str.ofString "_law_due"), qualname := (Str.ofString "_law_due"), params := (prt (stA 31)).1, body := .stmts (prt (stA 31)).2.1, scope := (prt (stA 31)).2.2, globals := 3, closure := [], defaults := .none, kwdefaults := .none, doc := .none, pyModule := (.str (Str.ofString "law_uk0008_01") 628), annotations := none, code := (.ref 298), closureTuple := .none, builtins := 0 }), #[]⟩),
  (303, ⟨(.type "code"), none, (.fields #[(.str (Str.ofString "law") 710), (.str (Str.ofString "law") 711), (.str (Str.ofString "/claim/cut.py") 712), (.int (261) 0), (.int (1) 0), (.int (0) 0), (.int (0) 0), (.int (3) 0), (.ref 300), (.bool true), (.int (276) 0), (.ref 301), .none, .none, .none, (.ref 302), (.int (713) 0), (.int (261) 0), (.str (Str.ofString "/claim/cut.py") 714)]), #[]⟩),
  (304, ⟨(.type "function"), none, (.func { name := (Str.ofString "law"), qualname := (Str.ofString "law"), params := (prt (stA 32)).1, body := .stmts (prt (stA 32)).2.1, scope := (prt (stA 32)).2.2, globals := 3, closure := [], defaults := .none, kwdefaults := .none, doc := .none, pyModule := (.str (Str.ofString "law_uk0008_01") 628), annotations := none, code := (.ref 303), closureTuple := .none, builtins := 0 }), #[]⟩)]
def KA : List Addr := [3, 39, 40, 46, 47, 48, 49, 55, 56, 62, 63, 69, 70, 76, 77, 83, 84, 93, 94, 98, 99, 115, 121, 122, 128, 129, 170, 176, 177, 193, 194, 219, 220, 226, 227, 229, 230, 238, 239, 243, 244, 248, 249, 255, 256, 262, 263, 267, 268, 272, 273, 279, 280, 286, 287, 293, 294, 298, 299, 303, 304]
noncomputable def qv : Program := { pw with main := { pw.main with body := pw.main.body.drop 32 } }
def lo_ : List Str := ["_sre", "_wall", "bisect_right", "bisect_left", "ELLIPSIS_MARKER", "_ellipsis_match", "ENDMARKER", "NT_OFFSET", "ISTERMINAL", "ISNONTERMINAL", "ISEOF", "tspecials", "_name_disallowed_re", "_value_disallowed_re", "_formatparam", "Headers", "_law_cells", "_law_rules", "_law_words", "_law_figures", "_law_name", "_law_led", "_law_asked", "_law_stands", "_law_spans", "_law_walk", "_law_due"]
noncomputable abbrev HK : Hook := kHook KD KA (fun _ => by kernel_rfl)
end Mine
end
section
/-! The head's evaluation in parts: the opening, the top over a tree, the looks behind it; what the law's row says of itself, statement by statement.
The lists of objects were printed by UGenT.lean and gent.py. -/
open PySem PySem.W PyProof.Rows
set_option maxRecDepth 1000000
namespace Mine.Top
/-- an object that KD holds -/
noncomputable def kd (P : Params) (a : Addr) : Obj := ((KD P).lookup a).getD default
/-- the objects ahead of the top -/
noncomputable def q0 (P : Params) : Obj := ⟨(.type "dict"), none, (.dict #[⟨PyData.keyHash P "__name__", .str "__name__" 1, .str "builtins" 160⟩, ⟨PyData.keyHash P "__doc__", .str "__doc__" 2, (.builtin "builtins.__doc__:str#opaque")⟩, ⟨PyData.keyHash P "__package__", .str "__package__" 3, (.builtin "builtins.__package__:str#opaque")⟩, ⟨PyData.keyHash P "__loader__", .str "__loader__" 4, (.builtin "builtins.__loader__:shared#opaque")⟩, ⟨PyData.keyHash P "__spec__", .str "__spec__" 5, (.builtin "builtins.__spec__#opaque")⟩, ⟨PyData.keyHash P "__build_class__", .str "__build_class__" 6, (.builtin "__build_class__")⟩, ⟨PyData.keyHash P "__import__", .str "__import__" 7, (.builtin "__import__")⟩, ⟨PyData.keyHash P "abs", .str "abs" 8, (.builtin "abs")⟩, ⟨PyData.keyHash P "all", .str "all" 9, (.builtin "all")⟩, ⟨PyData.keyHash P "any", .str "any" 10, (.builtin "any")⟩, ⟨PyData.keyHash P "ascii", .str "ascii" 11, (.builtin "ascii")⟩, ⟨PyData.keyHash P "bin", .str "bin" 12, (.builtin "bin")⟩, ⟨PyData.keyHash P "breakpoint", .str "breakpoint" 13, (.builtin "breakpoint")⟩, ⟨PyData.keyHash P "callable", .str "callable" 14, (.builtin "callable")⟩, ⟨PyData.keyHash P "chr", .str "chr" 15, (.builtin "chr")⟩, ⟨PyData.keyHash P "compile", .str "compile" 16, (.builtin "compile")⟩, ⟨PyData.keyHash P "delattr", .str "delattr" 17, (.builtin "delattr")⟩, ⟨PyData.keyHash P "dir", .str "dir" 18, (.builtin "dir")⟩, ⟨PyData.keyHash P "divmod", .str "divmod" 19, (.builtin "divmod")⟩, ⟨PyData.keyHash P "eval", .str "eval" 20, (.builtin "eval")⟩, ⟨PyData.keyHash P "exec", .str "exec" 21, (.builtin "exec")⟩, ⟨PyData.keyHash P "format", .str "format" 22, (.builtin "format")⟩, ⟨PyData.keyHash P "getattr", .str "getattr" 23, (.builtin "getattr")⟩, ⟨PyData.keyHash P "globals", .str "globals" 24, (.builtin "globals")⟩, ⟨PyData.keyHash P "hasattr", .str "hasattr" 25, (.builtin "hasattr")⟩, ⟨PyData.keyHash P "hash", .str "hash" 26, (.builtin "hash")⟩, ⟨PyData.keyHash P "hex", .str "hex" 27, (.builtin "hex")⟩, ⟨PyData.keyHash P "id", .str "id" 28, (.builtin "id")⟩, ⟨PyData.keyHash P "input", .str "input" 29, (.builtin "input")⟩, ⟨PyData.keyHash P "isinstance", .str "isinstance" 30, (.builtin "isinstance")⟩, ⟨PyData.keyHash P "issubclass", .str "issubclass" 31, (.builtin "issubclass")⟩, ⟨PyData.keyHash P "iter", .str "iter" 32, (.builtin "iter")⟩, ⟨PyData.keyHash P "aiter", .str "aiter" 33, (.builtin "aiter")⟩, ⟨PyData.keyHash P "len", .str "len" 34, (.builtin "len")⟩, ⟨PyData.keyHash P "locals", .str "locals" 35, (.builtin "locals")⟩, ⟨PyData.keyHash P "max", .str "max" 36, (.builtin "max")⟩, ⟨PyData.keyHash P "min", .str "min" 37, (.builtin "min")⟩, ⟨PyData.keyHash P "next", .str "next" 38, (.builtin "next")⟩, ⟨PyData.keyHash P "anext", .str "anext" 39, (.builtin "anext")⟩, ⟨PyData.keyHash P "oct", .str "oct" 40, (.builtin "oct")⟩, ⟨PyData.keyHash P "ord", .str "ord" 41, (.builtin "ord")⟩, ⟨PyData.keyHash P "pow", .str "pow" 42, (.builtin "pow")⟩, ⟨PyData.keyHash P "print", .str "print" 43, (.builtin "print")⟩, ⟨PyData.keyHash P "repr", .str "repr" 44, (.builtin "repr")⟩, ⟨PyData.keyHash P "round", .str "round" 45, (.builtin "round")⟩, ⟨PyData.keyHash P "setattr", .str "setattr" 46, (.builtin "setattr")⟩, ⟨PyData.keyHash P "sorted", .str "sorted" 47, (.builtin "sorted")⟩, ⟨PyData.keyHash P "sum", .str "sum" 48, (.builtin "sum")⟩, ⟨PyData.keyHash P "vars", .str "vars" 49, (.builtin "vars")⟩, ⟨PyData.keyHash P "None", .str "None" 50, .none⟩, ⟨PyData.keyHash P "Ellipsis", .str "Ellipsis" 51, .ellipsis⟩, ⟨PyData.keyHash P "NotImplemented", .str "NotImplemented" 52, .notImplemented⟩, ⟨PyData.keyHash P "False", .str "False" 53, (.bool false)⟩, ⟨PyData.keyHash P "True", .str "True" 54, (.bool true)⟩, ⟨PyData.keyHash P "bool", .str "bool" 55, (.type "bool")⟩, ⟨PyData.keyHash P "memoryview", .str "memoryview" 56, (.type "memoryview")⟩, ⟨PyData.keyHash P "bytearray", .str "bytearray" 57, (.type "bytearray")⟩, ⟨PyData.keyHash P "bytes", .str "bytes" 58, (.type "bytes")⟩, ⟨PyData.keyHash P "classmethod", .str "classmethod" 59, (.type "classmethod")⟩, ⟨PyData.keyHash P "complex", .str "complex" 60, (.type "complex")⟩, ⟨PyData.keyHash P "dict", .str "dict" 61, (.type "dict")⟩, ⟨PyData.keyHash P "enumerate", .str "enumerate" 62, (.type "enumerate")⟩, ⟨PyData.keyHash P "filter", .str "filter" 63, (.type "filter")⟩, ⟨PyData.keyHash P "float", .str "float" 64, (.type "float")⟩, ⟨PyData.keyHash P "frozenset", .str "frozenset" 65, (.type "frozenset")⟩, ⟨PyData.keyHash P "property", .str "property" 66, (.type "property")⟩, ⟨PyData.keyHash P "int", .str "int" 67, (.type "int")⟩, ⟨PyData.keyHash P "list", .str "list" 68, (.type "list")⟩, ⟨PyData.keyHash P "map", .str "map" 69, (.type "map")⟩, ⟨PyData.keyHash P "object", .str "object" 70, (.type "object")⟩, ⟨PyData.keyHash P "range", .str "range" 71, (.type "range")⟩, ⟨PyData.keyHash P "reversed", .str "reversed" 72, (.type "reversed")⟩, ⟨PyData.keyHash P "set", .str "set" 73, (.type "set")⟩, ⟨PyData.keyHash P "slice", .str "slice" 74, (.type "slice")⟩, ⟨PyData.keyHash P "staticmethod", .str "staticmethod" 75, (.type "staticmethod")⟩, ⟨PyData.keyHash P "str", .str "str" 76, (.type "str")⟩, ⟨PyData.keyHash P "super", .str "super" 77, (.type "super")⟩, ⟨PyData.keyHash P "tuple", .str "tuple" 78, (.type "tuple")⟩, ⟨PyData.keyHash P "type", .str "type" 79, (.type "type")⟩, ⟨PyData.keyHash P "zip", .str "zip" 80, (.type "zip")⟩, ⟨PyData.keyHash P "__debug__", .str "__debug__" 81, (.bool true)⟩, ⟨PyData.keyHash P "BaseException", .str "BaseException" 82, (.type "BaseException")⟩, ⟨PyData.keyHash P "BaseExceptionGroup", .str "BaseExceptionGroup" 83, (.type "BaseExceptionGroup")⟩, ⟨PyData.keyHash P "Exception", .str "Exception" 84, (.type "Exception")⟩, ⟨PyData.keyHash P "GeneratorExit", .str "GeneratorExit" 85, (.type "GeneratorExit")⟩, ⟨PyData.keyHash P "KeyboardInterrupt", .str "KeyboardInterrupt" 86, (.type "KeyboardInterrupt")⟩, ⟨PyData.keyHash P "SystemExit", .str "SystemExit" 87, (.type "SystemExit")⟩, ⟨PyData.keyHash P "ArithmeticError", .str "ArithmeticError" 88, (.type "ArithmeticError")⟩, ⟨PyData.keyHash P "AssertionError", .str "AssertionError" 89, (.type "AssertionError")⟩, ⟨PyData.keyHash P "AttributeError", .str "AttributeError" 90, (.type "AttributeError")⟩, ⟨PyData.keyHash P "BufferError", .str "BufferError" 91, (.type "BufferError")⟩, ⟨PyData.keyHash P "EOFError", .str "EOFError" 92, (.type "EOFError")⟩, ⟨PyData.keyHash P "ImportError", .str "ImportError" 93, (.type "ImportError")⟩, ⟨PyData.keyHash P "LookupError", .str "LookupError" 94, (.type "LookupError")⟩, ⟨PyData.keyHash P "MemoryError", .str "MemoryError" 95, (.type "MemoryError")⟩, ⟨PyData.keyHash P "NameError", .str "NameError" 96, (.type "NameError")⟩, ⟨PyData.keyHash P "OSError", .str "OSError" 97, (.type "OSError")⟩, ⟨PyData.keyHash P "ReferenceError", .str "ReferenceError" 98, (.type "ReferenceError")⟩, ⟨PyData.keyHash P "RuntimeError", .str "RuntimeError" 99, (.type "RuntimeError")⟩, ⟨PyData.keyHash P "StopAsyncIteration", .str "StopAsyncIteration" 100, (.type "StopAsyncIteration")⟩, ⟨PyData.keyHash P "StopIteration", .str "StopIteration" 101, (.type "StopIteration")⟩, ⟨PyData.keyHash P "SyntaxError", .str "SyntaxError" 102, (.type "SyntaxError")⟩, ⟨PyData.keyHash P "SystemError", .str "SystemError" 103, (.type "SystemError")⟩, ⟨PyData.keyHash P "TypeError", .str "TypeError" 104, (.type "TypeError")⟩, ⟨PyData.keyHash P "ValueError", .str "ValueError" 105, (.type "ValueError")⟩, ⟨PyData.keyHash P "Warning", .str "Warning" 106, (.type "Warning")⟩, ⟨PyData.keyHash P "FloatingPointError", .str "FloatingPointError" 107, (.type "FloatingPointError")⟩, ⟨PyData.keyHash P "OverflowError", .str "OverflowError" 108, (.type "OverflowError")⟩, ⟨PyData.keyHash P "ZeroDivisionError", .str "ZeroDivisionError" 109, (.type "ZeroDivisionError")⟩, ⟨PyData.keyHash P "BytesWarning", .str "BytesWarning" 110, (.type "BytesWarning")⟩, ⟨PyData.keyHash P "DeprecationWarning", .str "DeprecationWarning" 111, (.type "DeprecationWarning")⟩, ⟨PyData.keyHash P "EncodingWarning", .str "EncodingWarning" 112, (.type "EncodingWarning")⟩, ⟨PyData.keyHash P "FutureWarning", .str "FutureWarning" 113, (.type "FutureWarning")⟩, ⟨PyData.keyHash P "ImportWarning", .str "ImportWarning" 114, (.type "ImportWarning")⟩, ⟨PyData.keyHash P "PendingDeprecationWarning", .str "PendingDeprecationWarning" 115, (.type "PendingDeprecationWarning")⟩, ⟨PyData.keyHash P "ResourceWarning", .str "ResourceWarning" 116, (.type "ResourceWarning")⟩, ⟨PyData.keyHash P "RuntimeWarning", .str "RuntimeWarning" 117, (.type "RuntimeWarning")⟩, ⟨PyData.keyHash P "SyntaxWarning", .str "SyntaxWarning" 118, (.type "SyntaxWarning")⟩, ⟨PyData.keyHash P "UnicodeWarning", .str "UnicodeWarning" 119, (.type "UnicodeWarning")⟩, ⟨PyData.keyHash P "UserWarning", .str "UserWarning" 120, (.type "UserWarning")⟩, ⟨PyData.keyHash P "BlockingIOError", .str "BlockingIOError" 121, (.type "BlockingIOError")⟩, ⟨PyData.keyHash P "ChildProcessError", .str "ChildProcessError" 122, (.type "ChildProcessError")⟩, ⟨PyData.keyHash P "ConnectionError", .str "ConnectionError" 123, (.type "ConnectionError")⟩, ⟨PyData.keyHash P "FileExistsError", .str "FileExistsError" 124, (.type "FileExistsError")⟩, ⟨PyData.keyHash P "FileNotFoundError", .str "FileNotFoundError" 125, (.type "FileNotFoundError")⟩, ⟨PyData.keyHash P "InterruptedError", .str "InterruptedError" 126, (.type "InterruptedError")⟩, ⟨PyData.keyHash P "IsADirectoryError", .str "IsADirectoryError" 127, (.type "IsADirectoryError")⟩, ⟨PyData.keyHash P "NotADirectoryError", .str "NotADirectoryError" 128, (.type "NotADirectoryError")⟩, ⟨PyData.keyHash P "PermissionError", .str "PermissionError" 129, (.type "PermissionError")⟩, ⟨PyData.keyHash P "ProcessLookupError", .str "ProcessLookupError" 130, (.type "ProcessLookupError")⟩, ⟨PyData.keyHash P "TimeoutError", .str "TimeoutError" 131, (.type "TimeoutError")⟩, ⟨PyData.keyHash P "IndentationError", .str "IndentationError" 132, (.type "IndentationError")⟩, ⟨PyData.keyHash P "_IncompleteInputError", .str "_IncompleteInputError" 133, (.type "_IncompleteInputError")⟩, ⟨PyData.keyHash P "IndexError", .str "IndexError" 134, (.type "IndexError")⟩, ⟨PyData.keyHash P "KeyError", .str "KeyError" 135, (.type "KeyError")⟩, ⟨PyData.keyHash P "ModuleNotFoundError", .str "ModuleNotFoundError" 136, (.type "ModuleNotFoundError")⟩, ⟨PyData.keyHash P "NotImplementedError", .str "NotImplementedError" 137, (.type "NotImplementedError")⟩, ⟨PyData.keyHash P "PythonFinalizationError", .str "PythonFinalizationError" 138, (.type "PythonFinalizationError")⟩, ⟨PyData.keyHash P "RecursionError", .str "RecursionError" 139, (.type "RecursionError")⟩, ⟨PyData.keyHash P "UnboundLocalError", .str "UnboundLocalError" 140, (.type "UnboundLocalError")⟩, ⟨PyData.keyHash P "UnicodeError", .str "UnicodeError" 141, (.type "UnicodeError")⟩, ⟨PyData.keyHash P "BrokenPipeError", .str "BrokenPipeError" 142, (.type "BrokenPipeError")⟩, ⟨PyData.keyHash P "ConnectionAbortedError", .str "ConnectionAbortedError" 143, (.type "ConnectionAbortedError")⟩, ⟨PyData.keyHash P "ConnectionRefusedError", .str "ConnectionRefusedError" 144, (.type "ConnectionRefusedError")⟩, ⟨PyData.keyHash P "ConnectionResetError", .str "ConnectionResetError" 145, (.type "ConnectionResetError")⟩, ⟨PyData.keyHash P "TabError", .str "TabError" 146, (.type "TabError")⟩, ⟨PyData.keyHash P "UnicodeDecodeError", .str "UnicodeDecodeError" 147, (.type "UnicodeDecodeError")⟩, ⟨PyData.keyHash P "UnicodeEncodeError", .str "UnicodeEncodeError" 148, (.type "UnicodeEncodeError")⟩, ⟨PyData.keyHash P "UnicodeTranslateError", .str "UnicodeTranslateError" 149, (.type "UnicodeTranslateError")⟩, ⟨PyData.keyHash P "ExceptionGroup", .str "ExceptionGroup" 150, (.type "ExceptionGroup")⟩, ⟨PyData.keyHash P "EnvironmentError", .str "EnvironmentError" 151, (.type "OSError")⟩, ⟨PyData.keyHash P "IOError", .str "IOError" 152, (.type "OSError")⟩, ⟨PyData.keyHash P "open", .str "open" 153, (.builtin "open")⟩, ⟨PyData.keyHash P "quit", .str "quit" 154, (.builtin "builtins.quit#opaque")⟩, ⟨PyData.keyHash P "exit", .str "exit" 155, (.builtin "builtins.exit#opaque")⟩, ⟨PyData.keyHash P "copyright", .str "copyright" 156, (.builtin "builtins.copyright#opaque")⟩, ⟨PyData.keyHash P "credits", .str "credits" 157, (.builtin "builtins.credits#opaque")⟩, ⟨PyData.keyHash P "license", .str "license" 158, (.builtin "builtins.license#opaque")⟩, ⟨PyData.keyHash P "help", .str "help" 159, (.builtin "builtins.help#opaque")⟩] 159), #[]⟩
noncomputable def q1 (P : Params) : Obj := ⟨(.type "dict"), none, (.dict #[⟨PyData.keyHash P "builtins", .str "builtins" 162, .ref 4⟩, ⟨PyData.keyHash P "__main__", .str "__main__" 163, .ref 5⟩, ⟨PyData.keyHash P "_sre", .str "_sre" 244, .ref 12⟩] 3), #[]⟩
noncomputable def q2 (P : Params) : Obj := ⟨.none, none, (.dict #[⟨PyData.keyHash P "\x69mport.loaded._sre", .str "\x69mport.loaded._sre" 183, (.bool true)⟩, ⟨PyData.keyHash P "class._frozen_importlib.BuiltinImporter", .str "class._frozen_importlib.BuiltinImporter" 185, .ref 14⟩, ⟨PyData.keyHash P "watched.\x69mport", .str "watched.\x69mport" 206, .ref 18⟩, ⟨PyData.keyHash P "class._frozen_importlib.ModuleSpec", .str "class._frozen_importlib.ModuleSpec" 216, .ref 22⟩, ⟨PyData.keyHash P "sys.modules.booked-epoch", .str "sys.modules.booked-epoch" 245, .int 3 0⟩, ⟨PyData.keyHash P "\x69mport.later-laid._sre", .str "\x69mport.later-laid._sre" 270, (.bool true)⟩, ⟨PyData.keyHash P "watched.library", .str "watched.library" 272, .ref 27⟩, ⟨PyData.keyHash P "watched.library-objects", .str "watched.library-objects" 0, (.str (Str.mk #[12]) 0)⟩, ⟨PyData.keyHash P "watched.library-deep._sre", .str "watched.library-deep._sre" 273, (.str (Str.mk #[4, 0, 0, 11, 4, 0, 0, 11, 4, 0, 0, 3, 4, 0, 0, 11, 8, 4, 100, 105, 99, 116, 2]) 0)⟩] 9), #[]⟩
noncomputable def q3 (P : Params) : Obj := ⟨(.type "dict"), none, (.dict #[⟨PyData.keyHash P "__name__", .str "__name__" 165, .str "__main__" 164⟩, ⟨PyData.keyHash P "__doc__", .str "__doc__" 166, .none⟩, ⟨PyData.keyHash P "__package__", .str "__package__" 167, .none⟩, ⟨PyData.keyHash P "__loader__", .str "__loader__" 168, (.builtin "__main__.__loader__#opaque")⟩, ⟨PyData.keyHash P "__spec__", .str "__spec__" 169, .none⟩, ⟨PyData.keyHash P "__annotations__", .str "__annotations__" 170, .ref 6⟩, ⟨PyData.keyHash P "__builtins__", .str "__builtins__" 171, .ref 4⟩, ⟨PyData.keyHash P "__file__", .str "__file__" 173, .str "/claim/cut.py" 172⟩, ⟨PyData.keyHash P "__cached__", .str "__cached__" 174, .none⟩, ⟨PyData.keyHash P "_sre", .str "_sre" 275, .ref 12⟩] 10), #[]⟩
noncomputable def q4 (P : Params) : Obj := ⟨(.type "module"), (some 0), .plain, #[]⟩
noncomputable def q5 (P : Params) : Obj := ⟨(.type "module"), (some 3), .plain, #[]⟩
noncomputable def q6 (P : Params) : Obj := ⟨(.type "dict"), none, (.dict #[] 0), #[]⟩
noncomputable def q7 (P : Params) : Obj := ⟨(.type "tuple"), none, (.seq #[] 0), #[]⟩
noncomputable def q8 (P : Params) : Obj := ⟨.none, none, (.fields #[]), #[]⟩
noncomputable def q9 (P : Params) : Obj := ⟨(.type "code"), none, (.fields #[.str "<module>" 176, .str "<module>" 177, .str "/claim/cut.py" 178, .int 1 0, .int 0 0, .int 0 0, .int 0 0, .int 0 0, .ref 7, (.bool false), .int 175 0, .ref 8, .none, .none, .none, .none, .int 179 0, .int 1 0, .str "/claim/cut.py" 180]), #[]⟩
noncomputable def q10 (P : Params) : Obj := ⟨(.type "frame"), none, .plain, #[(some (.ref 9)), (some (.ref 3)), (some (.ref 3)), none, (some (.str "__main__" 164)), none, (some (.ref 0))]⟩
noncomputable def q11 (P : Params) : Obj := ⟨(.type "dict"), none, (.dict #[⟨PyData.keyHash P "__name__", .str "__name__" 247, .str "_sre" 246⟩, ⟨PyData.keyHash P "__doc__", .str "__doc__" 248, .none⟩, ⟨PyData.keyHash P "__package__", .str "__package__" 250, .str "" 249⟩, ⟨PyData.keyHash P "__loader__", .str "__loader__" 251, (.builtin "off-the-table:_sre.__loader__:shared#opaque")⟩, ⟨PyData.keyHash P "__spec__", .str "__spec__" 252, (.builtin "off-the-table:_sre.__spec__:shared#opaque")⟩, ⟨PyData.keyHash P "compile", .str "compile" 253, (.builtin "_sre.compile")⟩, ⟨PyData.keyHash P "template", .str "template" 254, (.builtin "off-the-table:_sre.template:shared#opaque")⟩, ⟨PyData.keyHash P "getcodesize", .str "getcodesize" 255, (.builtin "off-the-table:_sre.getcodesize:shared#opaque")⟩, ⟨PyData.keyHash P "ascii_iscased", .str "ascii_iscased" 256, (.builtin "off-the-table:_sre.ascii_iscased:shared#opaque")⟩, ⟨PyData.keyHash P "unicode_iscased", .str "unicode_iscased" 257, (.builtin "off-the-table:_sre.unicode_iscased:shared#opaque")⟩, ⟨PyData.keyHash P "ascii_tolower", .str "ascii_tolower" 258, (.builtin "off-the-table:_sre.ascii_tolower:shared#opaque")⟩, ⟨PyData.keyHash P "unicode_tolower", .str "unicode_tolower" 259, (.builtin "off-the-table:_sre.unicode_tolower:shared#opaque")⟩, ⟨PyData.keyHash P "MAGIC", .str "MAGIC" 261, (.int (20230612) 260)⟩, ⟨PyData.keyHash P "CODESIZE", .str "CODESIZE" 263, (.int (4) 262)⟩, ⟨PyData.keyHash P "MAXREPEAT", .str "MAXREPEAT" 265, (.int (4294967295) 264)⟩, ⟨PyData.keyHash P "MAXGROUPS", .str "MAXGROUPS" 267, (.int (1073741823) 266)⟩, ⟨PyData.keyHash P "copyright", .str "copyright" 269, .str " SRE 2.2.2 Copyright (c) 1997-2002 by Secret Labs AB " 268⟩] 17), #[]⟩
noncomputable def q12 (P : Params) : Obj := ⟨(.type "module"), (some 11), .plain, #[]⟩
noncomputable def q13 (P : Params) : Obj := ⟨(.type "dict"), none, (.dict #[⟨PyData.keyHash P "__module__", .str "__module__" 189, .str "_frozen_importlib" 186⟩, ⟨PyData.keyHash P "__firstlineno__", .str "__firstlineno__" 190, (.int (971) 187)⟩, ⟨PyData.keyHash P "__doc__", .str "__doc__" 191, (.builtin "_frozen_importlib.BuiltinImporter.__doc__:str#opaque")⟩, ⟨PyData.keyHash P "_ORIGIN", .str "_ORIGIN" 192, .str "built-in" 188⟩, ⟨PyData.keyHash P "find_spec", .str "find_spec" 193, (.builtin "_frozen_importlib.BuiltinImporter.find_spec#opaque")⟩, ⟨PyData.keyHash P "create_module", .str "create_module" 194, (.builtin "_frozen_importlib.BuiltinImporter.create_module#opaque")⟩, ⟨PyData.keyHash P "exec_module", .str "exec_module" 195, (.builtin "_frozen_importlib.BuiltinImporter.exec_module#opaque")⟩, ⟨PyData.keyHash P "get_code", .str "get_code" 196, (.builtin "_frozen_importlib.BuiltinImporter.get_code#opaque")⟩, ⟨PyData.keyHash P "get_source", .str "get_source" 197, (.builtin "_frozen_importlib.BuiltinImporter.get_source#opaque")⟩, ⟨PyData.keyHash P "is_package", .str "is_package" 198, (.builtin "_frozen_importlib.BuiltinImporter.is_package#opaque")⟩, ⟨PyData.keyHash P "load_module", .str "load_module" 199, (.builtin "_frozen_importlib.BuiltinImporter.load_module#opaque")⟩, ⟨PyData.keyHash P "__static_attributes__", .str "__static_attributes__" 200, .ref 15⟩, ⟨PyData.keyHash P "__dict__", .str "__dict__" 202, .ref 16⟩, ⟨PyData.keyHash P "__weakref__", .str "__weakref__" 204, .ref 17⟩] 14), #[]⟩
noncomputable def q14 (P : Params) : Obj := ⟨(.type "type"), none, (.cls { name := "BuiltinImporter", bases := [(.type "object")], mro := [.ref 14, (.type "object")], ns := 13, qualname := "BuiltinImporter", hasDict := true, slotNames := [], subclasses := [], abstract := false, collection := none, hasDel := false }), #[]⟩
noncomputable def q15 (P : Params) : Obj := ⟨(.type "tuple"), none, (.seq #[] 0), #[]⟩
noncomputable def q16 (P : Params) : Obj := ⟨(.type "getset_descriptor"), none, (.fields #[.str "__dict__" 201, .ref 14, (.builtin "function.__dict__"), (.builtin "function.__dict__#set")]), #[]⟩
noncomputable def q17 (P : Params) : Obj := ⟨(.type "getset_descriptor"), none, (.fields #[.str "__weakref__" 203, .ref 14, (.builtin "ExceptionGroup.__weakref__"), .none]), #[]⟩
noncomputable def q18 (P : Params) : Obj := ⟨.none, none, (.seq #[.int 13 0, (.str (Str.mk #[6, 189, 10, 95, 95, 109, 111, 100, 117, 108, 101, 95, 95, 6, 186, 17, 95, 102, 114, 111, 122, 101, 110, 95, 105, 109, 112, 111, 114, 116, 108, 105, 98, 6, 190, 15, 95, 95, 102, 105, 114, 115, 116, 108, 105, 110, 101, 110, 111, 95, 95, 4, 187, 0, 971, 6, 191, 7, 95, 95, 100, 111, 99, 95, 95, 9, 52, 95, 102, 114, 111, 122, 101, 110, 95, 105, 109, 112, 111, 114, 116, 108, 105, 98, 46, 66, 117, 105, 108, 116, 105, 110, 73, 109, 112, 111, 114, 116, 101, 114, 46, 95, 95, 100, 111, 99, 95, 95, 58, 115, 116, 114, 35, 111, 112, 97, 113, 117, 101, 6, 192, 7, 95, 79, 82, 73, 71, 73, 78, 6, 188, 8, 98, 117, 105, 108, 116, 45, 105, 110, 6, 193, 9, 102, 105, 110, 100, 95, 115, 112, 101, 99, 9, 50, 95, 102, 114, 111, 122, 101, 110, 95, 105, 109, 112, 111, 114, 116, 108, 105, 98, 46, 66, 117, 105, 108, 116, 105, 110, 73, 109, 112, 111, 114, 116, 101, 114, 46, 102, 105, 110, 100, 95, 115, 112, 101, 99, 35, 111, 112, 97, 113, 117, 101, 6, 194, 13, 99, 114, 101, 97, 116, 101, 95, 109, 111, 100, 117, 108, 101, 9, 54, 95, 102, 114, 111, 122, 101, 110, 95, 105, 109, 112, 111, 114, 116, 108, 105, 98, 46, 66, 117, 105, 108, 116, 105, 110, 73, 109, 112, 111, 114, 116, 101, 114, 46, 99, 114, 101, 97, 116, 101, 95, 109, 111, 100, 117, 108, 101, 35, 111, 112, 97, 113, 117, 101, 6, 195, 11, 101, 120, 101, 99, 95, 109, 111, 100, 117, 108, 101, 9, 52, 95, 102, 114, 111, 122, 101, 110, 95, 105, 109, 112, 111, 114, 116, 108, 105, 98, 46, 66, 117, 105, 108, 116, 105, 110, 73, 109, 112, 111, 114, 116, 101, 114, 46, 101, 120, 101, 99, 95, 109, 111, 100, 117, 108, 101, 35, 111, 112, 97, 113, 117, 101, 6, 196, 8, 103, 101, 116, 95, 99, 111, 100, 101, 9, 49, 95, 102, 114, 111, 122, 101, 110, 95, 105, 109, 112, 111, 114, 116, 108, 105, 98, 46, 66, 117, 105, 108, 116, 105, 110, 73, 109, 112, 111, 114, 116, 101, 114, 46, 103, 101, 116, 95, 99, 111, 100, 101, 35, 111, 112, 97, 113, 117, 101, 6, 197, 10, 103, 101, 116, 95, 115, 111, 117, 114, 99, 101, 9, 51, 95, 102, 114, 111, 122, 101, 110, 95, 105, 109, 112, 111, 114, 116, 108, 105, 98, 46, 66, 117, 105, 108, 116, 105, 110, 73, 109, 112, 111, 114, 116, 101, 114, 46, 103, 101, 116, 95, 115, 111, 117, 114, 99, 101, 35, 111, 112, 97, 113, 117, 101, 6, 198, 10, 105, 115, 95, 112, 97, 99, 107, 97, 103, 101, 9, 51, 95, 102, 114, 111, 122, 101, 110, 95, 105, 109, 112, 111, 114, 116, 108, 105, 98, 46, 66, 117, 105, 108, 116, 105, 110, 73, 109, 112, 111, 114, 116, 101, 114, 46, 105, 115, 95, 112, 97, 99, 107, 97, 103, 101, 35, 111, 112, 97, 113, 117, 101, 6, 199, 11, 108, 111, 97, 100, 95, 109, 111, 100, 117, 108, 101, 9, 52, 95, 102, 114, 111, 122, 101, 110, 95, 105, 109, 112, 111, 114, 116, 108, 105, 98, 46, 66, 117, 105, 108, 116, 105, 110, 73, 109, 112, 111, 114, 116, 101, 114, 46, 108, 111, 97, 100, 95, 109, 111, 100, 117, 108, 101, 35, 111, 112, 97, 113, 117, 101, 6, 200, 21, 95, 95, 115, 116, 97, 116, 105, 99, 95, 97, 116, 116, 114, 105, 98, 117, 116, 101, 115, 95, 95, 4, 0, 0, 15, 6, 202, 8, 95, 95, 100, 105, 99, 116, 95, 95, 4, 0, 0, 16, 6, 204, 11, 95, 95, 119, 101, 97, 107, 114, 101, 102, 95, 95, 4, 0, 0, 17]) 0), (.bool true), (.bool true), .str "" 205, .int 21 0, (.str (Str.mk #[6, 227, 10, 95, 95, 109, 111, 100, 117, 108, 101, 95, 95, 6, 217, 17, 95, 102, 114, 111, 122, 101, 110, 95, 105, 109, 112, 111, 114, 116, 108, 105, 98, 6, 228, 15, 95, 95, 102, 105, 114, 115, 116, 108, 105, 110, 101, 110, 111, 95, 95, 4, 218, 0, 562, 6, 229, 7, 95, 95, 100, 111, 99, 95, 95, 9, 47, 95, 102, 114, 111, 122, 101, 110, 95, 105, 109, 112, 111, 114, 116, 108, 105, 98, 46, 77, 111, 100, 117, 108, 101, 83, 112, 101, 99, 46, 95, 95, 100, 111, 99, 95, 95, 58, 115, 116, 114, 35, 111, 112, 97, 113, 117, 101, 6, 230, 8, 95, 95, 105, 110, 105, 116, 95, 95, 9, 44, 95, 102, 114, 111, 122, 101, 110, 95, 105, 109, 112, 111, 114, 116, 108, 105, 98, 46, 77, 111, 100, 117, 108, 101, 83, 112, 101, 99, 46, 95, 95, 105, 110, 105, 116, 95, 95, 35, 111, 112, 97, 113, 117, 101, 6, 231, 8, 95, 95, 114, 101, 112, 114, 95, 95, 9, 44, 95, 102, 114, 111, 122, 101, 110, 95, 105, 109, 112, 111, 114, 116, 108, 105, 98, 46, 77, 111, 100, 117, 108, 101, 83, 112, 101, 99, 46, 95, 95, 114, 101, 112, 114, 95, 95, 35, 111, 112, 97, 113, 117, 101, 6, 232, 6, 95, 95, 101, 113, 95, 95, 9, 42, 95, 102, 114, 111, 122, 101, 110, 95, 105, 109, 112, 111, 114, 116, 108, 105, 98, 46, 77, 111, 100, 117, 108, 101, 83, 112, 101, 99, 46, 95, 95, 101, 113, 95, 95, 35, 111, 112, 97, 113, 117, 101, 6, 233, 6, 99, 97, 99, 104, 101, 100, 9, 42, 95, 102, 114, 111, 122, 101, 110, 95, 105, 109, 112, 111, 114, 116, 108, 105, 98, 46, 77, 111, 100, 117, 108, 101, 83, 112, 101, 99, 46, 99, 97, 99, 104, 101, 100, 35, 111, 112, 97, 113, 117, 101, 6, 234, 6, 112, 97, 114, 101, 110, 116, 9, 42, 95, 102, 114, 111, 122, 101, 110, 95, 105, 109, 112, 111, 114, 116, 108, 105, 98, 46, 77, 111, 100, 117, 108, 101, 83, 112, 101, 99, 46, 112, 97, 114, 101, 110, 116, 35, 111, 112, 97, 113, 117, 101, 6, 235, 12, 104, 97, 115, 95, 108, 111, 99, 97, 116, 105, 111, 110, 9, 48, 95, 102, 114, 111, 122, 101, 110, 95, 105, 109, 112, 111, 114, 116, 108, 105, 98, 46, 77, 111, 100, 117, 108, 101, 83, 112, 101, 99, 46, 104, 97, 115, 95, 108, 111, 99, 97, 116, 105, 111, 110, 35, 111, 112, 97, 113, 117, 101, 6, 236, 21, 95, 95, 115, 116, 97, 116, 105, 99, 95, 97, 116, 116, 114, 105, 98, 117, 116, 101, 115, 95, 95, 4, 0, 0, 23, 6, 238, 8, 95, 95, 100, 105, 99, 116, 95, 95, 4, 0, 0, 24, 6, 240, 11, 95, 95, 119, 101, 97, 107, 114, 101, 102, 95, 95, 4, 0, 0, 25, 6, 241, 8, 95, 95, 104, 97, 115, 104, 95, 95, 0]) 0), (.bool true), (.bool true), .str "" 242] 1), #[]⟩
noncomputable def q19 (P : Params) : Obj := ⟨(.type "list"), none, (.seq #[] 0), #[]⟩
noncomputable def q20 (P : Params) : Obj := ⟨(.type "dict"), none, (.dict #[⟨PyData.keyHash P "name", .str "name" 208, .str "_sre" 207⟩, ⟨PyData.keyHash P "loader", .str "loader" 209, .ref 14⟩, ⟨PyData.keyHash P "origin", .str "origin" 210, .str "built-in" 184⟩, ⟨PyData.keyHash P "loader_state", .str "loader_state" 211, .none⟩, ⟨PyData.keyHash P "submodule_search_locations", .str "submodule_search_locations" 212, .none⟩, ⟨PyData.keyHash P "_uninitialized_submodules", .str "_uninitialized_submodules" 213, .ref 19⟩, ⟨PyData.keyHash P "_set_fileattr", .str "_set_fileattr" 214, (.bool false)⟩, ⟨PyData.keyHash P "_cached", .str "_cached" 215, .none⟩, ⟨PyData.keyHash P "_initializing", .str "_initializing" 243, (.bool false)⟩] 9), #[]⟩
noncomputable def q21 (P : Params) : Obj := ⟨(.type "dict"), none, (.dict #[⟨PyData.keyHash P "__module__", .str "__module__" 227, .str "_frozen_importlib" 217⟩, ⟨PyData.keyHash P "__firstlineno__", .str "__firstlineno__" 228, (.int (562) 218)⟩, ⟨PyData.keyHash P "__doc__", .str "__doc__" 229, (.builtin "_frozen_importlib.ModuleSpec.__doc__:str#opaque")⟩, ⟨PyData.keyHash P "__init__", .str "__init__" 230, (.builtin "_frozen_importlib.ModuleSpec.__init__#opaque")⟩, ⟨PyData.keyHash P "__repr__", .str "__repr__" 231, (.builtin "_frozen_importlib.ModuleSpec.__repr__#opaque")⟩, ⟨PyData.keyHash P "__eq__", .str "__eq__" 232, (.builtin "_frozen_importlib.ModuleSpec.__eq__#opaque")⟩, ⟨PyData.keyHash P "cached", .str "cached" 233, (.builtin "_frozen_importlib.ModuleSpec.cached#opaque")⟩, ⟨PyData.keyHash P "parent", .str "parent" 234, (.builtin "_frozen_importlib.ModuleSpec.parent#opaque")⟩, ⟨PyData.keyHash P "has_location", .str "has_location" 235, (.builtin "_frozen_importlib.ModuleSpec.has_location#opaque")⟩, ⟨PyData.keyHash P "__static_attributes__", .str "__static_attributes__" 236, .ref 23⟩, ⟨PyData.keyHash P "__dict__", .str "__dict__" 238, .ref 24⟩, ⟨PyData.keyHash P "__weakref__", .str "__weakref__" 240, .ref 25⟩, ⟨PyData.keyHash P "__hash__", .str "__hash__" 241, .none⟩] 13), #[]⟩
noncomputable def q22 (P : Params) : Obj := ⟨(.type "type"), none, (.cls { name := "ModuleSpec", bases := [(.type "object")], mro := [.ref 22, (.type "object")], ns := 21, qualname := "ModuleSpec", hasDict := true, slotNames := [], subclasses := [], abstract := false, collection := none, hasDel := false }), #[]⟩
noncomputable def q23 (P : Params) : Obj := ⟨(.type "tuple"), none, (.seq #[.str "_cached" 219, .str "_set_fileattr" 220, .str "_uninitialized_submodules" 221, .str "loader" 222, .str "loader_state" 223, .str "name" 224, .str "origin" 225, .str "submodule_search_locations" 226] 0), #[]⟩
noncomputable def q24 (P : Params) : Obj := ⟨(.type "getset_descriptor"), none, (.fields #[.str "__dict__" 237, .ref 22, (.builtin "function.__dict__"), (.builtin "function.__dict__#set")]), #[]⟩
noncomputable def q25 (P : Params) : Obj := ⟨(.type "getset_descriptor"), none, (.fields #[.str "__weakref__" 239, .ref 22, (.builtin "ExceptionGroup.__weakref__"), .none]), #[]⟩
noncomputable def q26 (P : Params) : Obj := ⟨.ref 22, (some 20), .plain, #[]⟩
noncomputable def q27 (P : Params) : Obj := ⟨.none, none, (.seq #[.int 11 0, (.str (Str.mk #[6, 247, 8, 95, 95, 110, 97, 109, 101, 95, 95, 6, 246, 4, 95, 115, 114, 101, 6, 248, 7, 95, 95, 100, 111, 99, 95, 95, 0, 6, 250, 11, 95, 95, 112, 97, 99, 107, 97, 103, 101, 95, 95, 6, 249, 0, 6, 251, 10, 95, 95, 108, 111, 97, 100, 101, 114, 95, 95, 4, 0, 0, 14, 6, 252, 8, 95, 95, 115, 112, 101, 99, 95, 95, 4, 0, 0, 26, 6, 253, 7, 99, 111, 109, 112, 105, 108, 101, 9, 12, 95, 115, 114, 101, 46, 99, 111, 109, 112, 105, 108, 101, 6, 254, 8, 116, 101, 109, 112, 108, 97, 116, 101, 9, 13, 95, 115, 114, 101, 46, 116, 101, 109, 112, 108, 97, 116, 101, 6, 255, 11, 103, 101, 116, 99, 111, 100, 101, 115, 105, 122, 101, 9, 16, 95, 115, 114, 101, 46, 103, 101, 116, 99, 111, 100, 101, 115, 105, 122, 101, 6, 256, 13, 97, 115, 99, 105, 105, 95, 105, 115, 99, 97, 115, 101, 100, 9, 18, 95, 115, 114, 101, 46, 97, 115, 99, 105, 105, 95, 105, 115, 99, 97, 115, 101, 100, 6, 257, 15, 117, 110, 105, 99, 111, 100, 101, 95, 105, 115, 99, 97, 115, 101, 100, 9, 20, 95, 115, 114, 101, 46, 117, 110, 105, 99, 111, 100, 101, 95, 105, 115, 99, 97, 115, 101, 100, 6, 258, 13, 97, 115, 99, 105, 105, 95, 116, 111, 108, 111, 119, 101, 114, 9, 18, 95, 115, 114, 101, 46, 97, 115, 99, 105, 105, 95, 116, 111, 108, 111, 119, 101, 114, 6, 259, 15, 117, 110, 105, 99, 111, 100, 101, 95, 116, 111, 108, 111, 119, 101, 114, 9, 20, 95, 115, 114, 101, 46, 117, 110, 105, 99, 111, 100, 101, 95, 116, 111, 108, 111, 119, 101, 114, 6, 261, 5, 77, 65, 71, 73, 67, 4, 260, 0, 20230612, 6, 263, 8, 67, 79, 68, 69, 83, 73, 90, 69, 4, 262, 0, 4, 6, 265, 9, 77, 65, 88, 82, 69, 80, 69, 65, 84, 4, 264, 0, 4294967295, 6, 267, 9, 77, 65, 88, 71, 82, 79, 85, 80, 83, 4, 266, 0, 1073741823, 6, 269, 9, 99, 111, 112, 121, 114, 105, 103, 104, 116, 6, 268, 53, 32, 83, 82, 69, 32, 50, 46, 50, 46, 50, 32, 67, 111, 112, 121, 114, 105, 103, 104, 116, 32, 40, 99, 41, 32, 49, 57, 57, 55, 45, 50, 48, 48, 50, 32, 98, 121, 32, 83, 101, 99, 114, 101, 116, 32, 76, 97, 98, 115, 32, 65, 66, 32]) 0), (.bool true), (.bool false), .str "_sre" 271] 0), #[]⟩
noncomputable def olS (P : Params) : List Obj := [q0 P, q1 P, q2 P, q3 P, q4 P, q5 P, q6 P, q7 P, q8 P, q9 P, q10 P, q11 P, q12 P, q13 P, q14 P, q15 P, q16 P, q17 P, q18 P, q19 P, q20 P, q21 P, q22 P, q23 P, q24 P, q25 P, q26 P, q27 P]
/-- the objects behind the top -/
noncomputable def ol0 (P : Params) : List Obj := [
  q0 P,
  q1 P,
  q2 P,
  kd P 3,
  q4 P,
  q5 P,
  q6 P,
  q7 P,
  q8 P,
  q9 P,
  q10 P,
  q11 P,
  q12 P,
  q13 P,
  q14 P,
  q15 P,
  q16 P,
  q17 P,
  q18 P,
  q19 P,
  q20 P,
  q21 P,
  q22 P,
  q23 P,
  q24 P,
  q25 P,
  q26 P,
  q27 P,
  ⟨(.type "tuple"), none, (.seq #[] 0), #[]⟩,
  ⟨.none, none, (.fields #[.int 2 0, .int 0 0, .ref 37, .int 6 0, .int 0 0, .ref 46, .int 26 0, .int 0 0, .ref 55, .int 48 0, .int 0 0, .ref 62, .int 79 0, .int 0 0, .ref 69, .int 81 0, .int 0 0, .ref 76, .int 83 0, .int 0 0, .ref 83, .int 89 0, .int 0 0, .ref 106, .int 98 0, .int 0 0, .ref 113, .int 185 0, .int 0 0, .ref 238, .int 188 0, .int 0 0, .ref 243, .int 192 0, .int 0 0, .ref 248, .int 198 0, .int 0 0, .ref 255, .int 202 0, .int 0 0, .ref 262, .int 206 0, .int 0 0, .ref 267, .int 231 0, .int 0 0, .ref 272, .int 236 0, .int 0 0, .ref 279, .int 242 0, .int 0 0, .ref 286, .int 246 0, .int 0 0, .ref 293, .int 250 0, .int 0 0, .ref 298, .int 261 0, .int 0 0, .ref 303]), #[]⟩,
  ⟨(.type "code"), none, (.fields #[.str "<module>" 277, .str "<module>" 278, .str "/claim/cut.py" 279, .int 1 0, .int 0 0, .int 0 0, .int 0 0, .int 0 0, .ref 28, (.bool false), .int 276 0, .ref 29, .none, .none, .none, .none, .int 280 0, .int 1 0, .str "/claim/cut.py" 281]), #[]⟩,
  ⟨(.type "frame"), none, .plain, #[(some (.ref 30)), (some (.ref 3)), (some (.ref 3)), none, (some (.str "__main__" 164)), none, (some (.ref 0))]⟩,
  ⟨(.type "tuple"), none, (.seq #[] 0), #[]⟩,
  ⟨.none, none, (.fields #[]), #[]⟩,
  ⟨(.type "tuple"), none, (.seq #[.str "k" 285] 0), #[]⟩,
  ⟨(.type "tuple"), none, (.seq #[] 0), #[]⟩,
  ⟨.none, none, (.func { name := "_wall", qualname := "_wall", params := (prt (stA 1)).1, body := .stmts (prt (stA 1)).2.1, scope := (prt (stA 1)).2.2, globals := 0, closure := [], defaults := .none, kwdefaults := .none, doc := .none, pyModule := .none, annotations := none, code := .none, closureTuple := .none, builtins := 0 }), #[]⟩,
  ⟨(.type "code"), none, (.fields #[.str "_wall" 282, .str "_wall" 283, .str "/claim/cut.py" 284, .int 2 0, .int 1 0, .int 0 0, .int 0 0, .int 3 0, .ref 32, (.bool true), .int 276 0, .ref 33, .none, .ref 34, .ref 35, .ref 36, .int 286 0, .int 2 0, .str "/claim/cut.py" 287]), #[]⟩,
  ⟨(.type "function"), none, (.func { name := "_wall", qualname := "_wall", params := (prt (stA 1)).1, body := .stmts (prt (stA 1)).2.1, scope := (prt (stA 1)).2.2, globals := 3, closure := [], defaults := .none, kwdefaults := .none, doc := .none, pyModule := .str "__main__" 164, annotations := none, code := .ref 37, closureTuple := .none, builtins := 0 }), #[]⟩,
  kd P 39]
noncomputable def ol1 (P : Params) : List Obj := [
  kd P 40,
  ⟨(.type "tuple"), none, (.seq #[] 0), #[]⟩,
  ⟨.none, none, (.fields #[]), #[]⟩,
  ⟨(.type "tuple"), none, (.seq #[.str "a" 296, .str "x" 297, .str "lo" 298, .str "hi" 299, .str "key" 300, .str "mid" 301] 0), #[]⟩,
  ⟨(.type "tuple"), none, (.seq #[] 0), #[]⟩,
  ⟨.none, none, (.func { name := "bisect_right", qualname := "bisect_right", params := (prt (stA 3)).1, body := .stmts (prt (stA 3)).2.1, scope := (prt (stA 3)).2.2, globals := 0, closure := [], defaults := .none, kwdefaults := .none, doc := .none, pyModule := .none, annotations := none, code := .none, closureTuple := .none, builtins := 0 }), #[]⟩,
  kd P 46,
  kd P 47,
  kd P 48,
  kd P 49,
  ⟨(.type "tuple"), none, (.seq #[] 0), #[]⟩,
  ⟨.none, none, (.fields #[]), #[]⟩,
  ⟨(.type "tuple"), none, (.seq #[.str "a" 310, .str "x" 311, .str "lo" 312, .str "hi" 313, .str "key" 314, .str "mid" 315] 0), #[]⟩,
  ⟨(.type "tuple"), none, (.seq #[] 0), #[]⟩,
  ⟨.none, none, (.func { name := "bisect_left", qualname := "bisect_left", params := (prt (stA 4)).1, body := .stmts (prt (stA 4)).2.1, scope := (prt (stA 4)).2.2, globals := 0, closure := [], defaults := .none, kwdefaults := .none, doc := .none, pyModule := .none, annotations := none, code := .none, closureTuple := .none, builtins := 0 }), #[]⟩,
  kd P 55,
  kd P 56,
  ⟨(.type "tuple"), none, (.seq #[] 0), #[]⟩,
  ⟨.none, none, (.fields #[]), #[]⟩,
  ⟨(.type "tuple"), none, (.seq #[.str "want" 326, .str "got" 327, .str "ws" 328, .str "startpos" 329, .str "endpos" 330, .str "w" 331] 0), #[]⟩,
  ⟨(.type "tuple"), none, (.seq #[] 0), #[]⟩,
  ⟨.none, none, (.func { name := "_ellipsis_match", qualname := "_ellipsis_match", params := (prt (stA 7)).1, body := .stmts (prt (stA 7)).2.1, scope := (prt (stA 7)).2.2, globals := 0, closure := [], defaults := .none, kwdefaults := .none, doc := .none, pyModule := .none, annotations := none, code := .none, closureTuple := .none, builtins := 0 }), #[]⟩,
  kd P 62,
  kd P 63,
  ⟨(.type "tuple"), none, (.seq #[] 0), #[]⟩,
  ⟨.none, none, (.fields #[]), #[]⟩,
  ⟨(.type "tuple"), none, (.seq #[.str "x" 344] 0), #[]⟩,
  ⟨(.type "tuple"), none, (.seq #[] 0), #[]⟩,
  ⟨.none, none, (.func { name := "ISTERMINAL", qualname := "ISTERMINAL", params := (prt (stA 11)).1, body := .stmts (prt (stA 11)).2.1, scope := (prt (stA 11)).2.2, globals := 0, closure := [], defaults := .none, kwdefaults := .none, doc := .none, pyModule := .none, annotations := none, code := .none, closureTuple := .none, builtins := 0 }), #[]⟩,
  kd P 69,
  kd P 70,
  ⟨(.type "tuple"), none, (.seq #[] 0), #[]⟩,
  ⟨.none, none, (.fields #[]), #[]⟩,
  ⟨(.type "tuple"), none, (.seq #[.str "x" 351] 0), #[]⟩,
  ⟨(.type "tuple"), none, (.seq #[] 0), #[]⟩,
  ⟨.none, none, (.func { name := "ISNONTERMINAL", qualname := "ISNONTERMINAL", params := (prt (stA 12)).1, body := .stmts (prt (stA 12)).2.1, scope := (prt (stA 12)).2.2, globals := 0, closure := [], defaults := .none, kwdefaults := .none, doc := .none, pyModule := .none, annotations := none, code := .none, closureTuple := .none, builtins := 0 }), #[]⟩,
  kd P 76,
  kd P 77,
  ⟨(.type "tuple"), none, (.seq #[] 0), #[]⟩,
  ⟨.none, none, (.fields #[]), #[]⟩]
noncomputable def ol2 (P : Params) : List Obj := [
  ⟨(.type "tuple"), none, (.seq #[.str "x" 358] 0), #[]⟩,
  ⟨(.type "tuple"), none, (.seq #[] 0), #[]⟩,
  ⟨.none, none, (.func { name := "ISEOF", qualname := "ISEOF", params := (prt (stA 13)).1, body := .stmts (prt (stA 13)).2.1, scope := (prt (stA 13)).2.2, globals := 0, closure := [], defaults := .none, kwdefaults := .none, doc := .none, pyModule := .none, annotations := none, code := .none, closureTuple := .none, builtins := 0 }), #[]⟩,
  kd P 83,
  kd P 84,
  ⟨(.type "list"), none, (.seq #[(.int (14) 367), (.int (14) 368), (.int (4) 369), (.int (1) 370), (.int (1) 371), (.int (9) 372), (.int (0) 373), (.int (4227896069) 374), (.int (939524097) 375), (.int (0) 376), (.int (0) 377), (.int (0) 378), (.int (0) 379), (.int (0) 380), (.int (0) 381), (.int (13) 382), (.int (11) 383), (.int (9) 384), (.int (0) 385), (.int (4227896069) 386), (.int (939524097) 387), (.int (0) 388), (.int (0) 389), (.int (0) 390), (.int (0) 391), (.int (0) 392), (.int (0) 393), (.int (1) 394)] 0), #[]⟩,
  ⟨(.type "dict"), none, (.dict #[] 0), #[]⟩,
  ⟨(.type "tuple"), none, (.seq #[.none] 0), #[]⟩,
  ⟨(.type "tuple"), none, (.seq #[.int 14 0, .int 14 0, .int 4 0, .int 1 0, .int 1 0, .int 9 0, .int 0 0, .int 4227896069 0, .int 939524097 0, .int 0 0, .int 0 0, .int 0 0, .int 0 0, .int 0 0, .int 0 0, .int 13 0, .int 11 0, .int 9 0, .int 0 0, .int 4227896069 0, .int 939524097 0, .int 0 0, .int 0 0, .int 0 0, .int 0 0, .int 0 0, .int 0 0, .int 1 0] 0), #[]⟩,
  ⟨(.type "re.Pattern"), none, (.fields #[.str "[ \\(\\)<>@,;:\\\\\"/\\[\\]\\?=]" 365, (.int (32) 396), .int 0 0, .none, .none, .ref 88, .int 0 0]), #[]⟩,
  ⟨(.type "list"), none, (.seq #[(.int (14) 401), (.int (10) 402), (.int (4) 403), (.int (1) 404), (.int (1) 405), (.int (22) 406), (.int (0) 407), (.int (31) 408), (.int (16) 409), (.int (127) 410), (.int (0) 411), (.int (13) 412), (.int (7) 413), (.int (22) 414), (.int (0) 415), (.int (31) 416), (.int (16) 417), (.int (127) 418), (.int (0) 419), (.int (1) 420)] 0), #[]⟩,
  ⟨(.type "dict"), none, (.dict #[] 0), #[]⟩,
  ⟨(.type "tuple"), none, (.seq #[.none] 0), #[]⟩,
  kd P 93,
  kd P 94,
  ⟨(.type "list"), none, (.seq #[(.int (14) 427), (.int (14) 428), (.int (4) 429), (.int (1) 430), (.int (1) 431), (.int (9) 432), (.int (4294966783) 433), (.int (0) 434), (.int (0) 435), (.int (2147483648) 436), (.int (0) 437), (.int (0) 438), (.int (0) 439), (.int (0) 440), (.int (0) 441), (.int (13) 442), (.int (11) 443), (.int (9) 444), (.int (4294966783) 445), (.int (0) 446), (.int (0) 447), (.int (2147483648) 448), (.int (0) 449), (.int (0) 450), (.int (0) 451), (.int (0) 452), (.int (0) 453), (.int (1) 454)] 0), #[]⟩,
  ⟨(.type "dict"), none, (.dict #[] 0), #[]⟩,
  ⟨(.type "tuple"), none, (.seq #[.none] 0), #[]⟩,
  kd P 98,
  kd P 99,
  ⟨(.type "tuple"), none, (.seq #[.none, (.int (1) 458)] 0), #[]⟩,
  ⟨(.type "tuple"), none, (.seq #[] 0), #[]⟩,
  ⟨.none, none, (.fields #[]), #[]⟩,
  ⟨(.type "tuple"), none, (.seq #[.str "param" 462, .str "value" 463, .str "quote" 464] 0), #[]⟩,
  ⟨(.type "tuple"), none, (.seq #[] 0), #[]⟩,
  ⟨.none, none, (.func { name := "_formatparam", qualname := "_formatparam", params := (prt (stA 18)).1, body := .stmts (prt (stA 18)).2.1, scope := (prt (stA 18)).2.2, globals := 0, closure := [], defaults := .none, kwdefaults := .none, doc := .none, pyModule := .none, annotations := none, code := .none, closureTuple := .none, builtins := 0 }), #[]⟩,
  ⟨(.type "code"), none, (.fields #[.str "_formatparam" 459, .str "_formatparam" 460, .str "/claim/cut.py" 461, .int 89 0, .int 3 0, .int 0 0, .int 0 0, .int 3 0, .ref 101, (.bool true), .int 276 0, .ref 102, .none, .ref 103, .ref 104, .ref 105, .int 465 0, .int 89 0, .str "/claim/cut.py" 466]), #[]⟩,
  ⟨(.type "function"), none, (.func { name := "_formatparam", qualname := "_formatparam", params := (prt (stA 18)).1, body := .stmts (prt (stA 18)).2.1, scope := (prt (stA 18)).2.2, globals := 3, closure := [], defaults := .ref 100, kwdefaults := .none, doc := .none, pyModule := .str "cpy313.wsgiref.headers" 362, annotations := none, code := .ref 106, closureTuple := .none, builtins := 0 }), #[]⟩,
  ⟨(.type "tuple"), none, (.seq #[] 0), #[]⟩,
  ⟨(.type "builtin_function_or_method"), none, (.fields #[(.builtin "type.__prepare__"), (.type "type")]), #[]⟩,
  ⟨(.type "dict"), none, (.dict #[⟨PyData.keyHash P "__module__", .str "__module__" 475, .str "cpy313.wsgiref.headers" 362⟩, ⟨PyData.keyHash P "__qualname__", .str "__qualname__" 477, .str "Headers" 476⟩, ⟨PyData.keyHash P "__firstlineno__", .str "__firstlineno__" 479, (.int (98) 478)⟩, ⟨PyData.keyHash P "__init__", .str "__init__" 489, .ref 122⟩, ⟨PyData.keyHash P "_convert_string_type", .str "_convert_string_type" 499, .ref 129⟩, ⟨PyData.keyHash P "__len__", .str "__len__" 506, .ref 136⟩, ⟨PyData.keyHash P "__setitem__", .str "__setitem__" 515, .ref 143⟩, ⟨PyData.keyHash P "__delitem__", .str "__delitem__" 521, .ref 148⟩, ⟨PyData.keyHash P "__getitem__", .str "__getitem__" 529, .ref 155⟩, ⟨PyData.keyHash P "__contains__", .str "__contains__" 537, .ref 162⟩, ⟨PyData.keyHash P "get_all", .str "get_all" 545, .ref 169⟩, ⟨PyData.keyHash P "get", .str "get" 556, .ref 177⟩, ⟨PyData.keyHash P "keys", .str "keys" 562, .ref 182⟩, ⟨PyData.keyHash P "values", .str "values" 568, .ref 187⟩, ⟨PyData.keyHash P "items", .str "items" 575, .ref 194⟩, ⟨PyData.keyHash P "__repr__", .str "__repr__" 582, .ref 201⟩, ⟨PyData.keyHash P "__str__", .str "__str__" 588, .ref 206⟩, ⟨PyData.keyHash P "__bytes__", .str "__bytes__" 595, .ref 213⟩, ⟨PyData.keyHash P "setdefault", .str "setdefault" 605, .ref 220⟩, ⟨PyData.keyHash P "add_header", .str "add_header" 618, .ref 227⟩, ⟨PyData.keyHash P "__static_attributes__", .str "__static_attributes__" 620, .ref 228⟩] 21), #[]⟩,
  ⟨(.type "tuple"), none, (.seq #[] 0), #[]⟩,
  ⟨.none, none, (.fields #[.int 100 0, .int 4 0, .ref 121, .int 110 0, .int 4 0, .ref 128, .int 118 0, .int 4 0, .ref 135, .int 121 0, .int 4 0, .ref 142, .int 125 0, .int 4 0, .ref 147, .int 129 0, .int 4 0, .ref 154, .int 132 0, .int 4 0, .ref 161, .int 135 0, .int 4 0, .ref 168, .int 138 0, .int 4 0, .ref 176, .int 145 0, .int 4 0, .ref 181, .int 148 0, .int 4 0, .ref 186, .int 151 0, .int 4 0, .ref 193, .int 154 0, .int 4 0, .ref 200, .int 157 0, .int 4 0, .ref 205, .int 160 0, .int 4 0, .ref 212, .int 163 0, .int 4 0, .ref 219, .int 171 0, .int 4 0, .ref 226]), #[]⟩,
  ⟨(.type "code"), none, (.fields #[.str "Headers" 470, .str "Headers" 471, .str "/claim/cut.py" 472, .int 98 0, .int 0 0, .int 0 0, .int 0 0, .int 0 0, .ref 111, (.bool false), .int 276 0, .ref 112, .none, .none, .none, .none, .int 473 0, .int 98 0, .str "/claim/cut.py" 474]), #[]⟩,
  ⟨(.type "frame"), none, .plain, #[(some (.ref 113)), (some (.ref 3)), (some (.ref 110)), none, (some (.str "cpy313.wsgiref.headers" 362)), none, (some (.ref 0))]⟩,
  kd P 115,
  ⟨(.type "tuple"), none, (.seq #[] 0), #[]⟩,
  ⟨.none, none, (.fields #[]), #[]⟩,
  ⟨(.type "tuple"), none, (.seq #[.str "self" 483, .str "headers" 484, .str "k" 485, .str "v" 486] 0), #[]⟩,
  ⟨(.type "tuple"), none, (.seq #[] 0), #[]⟩]
noncomputable def ol3 (P : Params) : List Obj := [
  ⟨.none, none, (.func { name := "__init__", qualname := "Headers.__init__", params := (prt (stC 19 0)).1, body := .stmts (prt (stC 19 0)).2.1, scope := (prt (stC 19 0)).2.2, globals := 0, closure := [], defaults := .none, kwdefaults := .none, doc := .none, pyModule := .none, annotations := none, code := .none, closureTuple := .none, builtins := 0 }), #[]⟩,
  kd P 121,
  kd P 122,
  ⟨(.type "tuple"), none, (.seq #[] 0), #[]⟩,
  ⟨.none, none, (.fields #[]), #[]⟩,
  ⟨(.type "tuple"), none, (.seq #[.str "self" 493, .str "value" 494, .str "name" 495, .str "regex" 496] 0), #[]⟩,
  ⟨(.type "tuple"), none, (.seq #[] 0), #[]⟩,
  ⟨.none, none, (.func { name := "_convert_string_type", qualname := "Headers._convert_string_type", params := (prt (stC 19 1)).1, body := .stmts (prt (stC 19 1)).2.1, scope := (prt (stC 19 1)).2.2, globals := 0, closure := [], defaults := .none, kwdefaults := .none, doc := .none, pyModule := .none, annotations := none, code := .none, closureTuple := .none, builtins := 0 }), #[]⟩,
  kd P 128,
  kd P 129,
  ⟨(.type "tuple"), none, (.seq #[] 0), #[]⟩,
  ⟨.none, none, (.fields #[]), #[]⟩,
  ⟨(.type "tuple"), none, (.seq #[.str "self" 503] 0), #[]⟩,
  ⟨(.type "tuple"), none, (.seq #[] 0), #[]⟩,
  ⟨.none, none, (.func { name := "__len__", qualname := "Headers.__len__", params := (prt (stC 19 2)).1, body := .stmts (prt (stC 19 2)).2.1, scope := (prt (stC 19 2)).2.2, globals := 0, closure := [], defaults := .none, kwdefaults := .none, doc := .none, pyModule := .none, annotations := none, code := .none, closureTuple := .none, builtins := 0 }), #[]⟩,
  ⟨(.type "code"), none, (.fields #[.str "__len__" 500, .str "Headers.__len__" 501, .str "/claim/cut.py" 502, .int 118 0, .int 1 0, .int 0 0, .int 0 0, .int 3 0, .ref 130, (.bool true), .int 276 0, .ref 131, .none, .ref 132, .ref 133, .ref 134, .int 504 0, .int 118 0, .str "/claim/cut.py" 505]), #[]⟩,
  ⟨(.type "function"), none, (.func { name := "__len__", qualname := "Headers.__len__", params := (prt (stC 19 2)).1, body := .stmts (prt (stC 19 2)).2.1, scope := (prt (stC 19 2)).2.2, globals := 3, closure := [], defaults := .none, kwdefaults := .none, doc := .none, pyModule := .str "cpy313.wsgiref.headers" 362, annotations := none, code := .ref 135, closureTuple := .none, builtins := 0 }), #[]⟩,
  ⟨(.type "tuple"), none, (.seq #[] 0), #[]⟩,
  ⟨.none, none, (.fields #[]), #[]⟩,
  ⟨(.type "tuple"), none, (.seq #[.str "self" 510, .str "name" 511, .str "val" 512] 0), #[]⟩,
  ⟨(.type "tuple"), none, (.seq #[] 0), #[]⟩,
  ⟨.none, none, (.func { name := "__setitem__", qualname := "Headers.__setitem__", params := (prt (stC 19 3)).1, body := .stmts (prt (stC 19 3)).2.1, scope := (prt (stC 19 3)).2.2, globals := 0, closure := [], defaults := .none, kwdefaults := .none, doc := .none, pyModule := .none, annotations := none, code := .none, closureTuple := .none, builtins := 0 }), #[]⟩,
  ⟨(.type "code"), none, (.fields #[.str "__setitem__" 507, .str "Headers.__setitem__" 508, .str "/claim/cut.py" 509, .int 121 0, .int 3 0, .int 0 0, .int 0 0, .int 3 0, .ref 137, (.bool true), .int 276 0, .ref 138, .none, .ref 139, .ref 140, .ref 141, .int 513 0, .int 121 0, .str "/claim/cut.py" 514]), #[]⟩,
  ⟨(.type "function"), none, (.func { name := "__setitem__", qualname := "Headers.__setitem__", params := (prt (stC 19 3)).1, body := .stmts (prt (stC 19 3)).2.1, scope := (prt (stC 19 3)).2.2, globals := 3, closure := [], defaults := .none, kwdefaults := .none, doc := .none, pyModule := .str "cpy313.wsgiref.headers" 362, annotations := none, code := .ref 142, closureTuple := .none, builtins := 0 }), #[]⟩,
  ⟨(.type "tuple"), none, (.seq #[] 0), #[]⟩,
  ⟨.none, none, (.fields #[]), #[]⟩,
  ⟨.none, none, (.func { name := "__delitem__", qualname := "Headers.__delitem__", params := (prt (stC 19 4)).1, body := .stmts (prt (stC 19 4)).2.1, scope := (prt (stC 19 4)).2.2, globals := 0, closure := [], defaults := .none, kwdefaults := .none, doc := .none, pyModule := .none, annotations := none, code := .none, closureTuple := .none, builtins := 0 }), #[]⟩,
  ⟨(.type "code"), none, (.fields #[.str "__delitem__" 516, .str "Headers.__delitem__" 517, .str "/claim/cut.py" 518, .int 125 0, .int 2 0, .int 0 0, .int 0 0, .int 3 0, .ref 144, (.bool true), .int 276 0, .ref 145, .none, .none, .none, .ref 146, .int 519 0, .int 125 0, .str "/claim/cut.py" 520]), #[]⟩,
  ⟨(.type "function"), none, (.func { name := "__delitem__", qualname := "Headers.__delitem__", params := (prt (stC 19 4)).1, body := .stmts (prt (stC 19 4)).2.1, scope := (prt (stC 19 4)).2.2, globals := 3, closure := [], defaults := .none, kwdefaults := .none, doc := .none, pyModule := .str "cpy313.wsgiref.headers" 362, annotations := none, code := .ref 147, closureTuple := .none, builtins := 0 }), #[]⟩,
  ⟨(.type "tuple"), none, (.seq #[] 0), #[]⟩,
  ⟨.none, none, (.fields #[]), #[]⟩,
  ⟨(.type "tuple"), none, (.seq #[.str "self" 525, .str "name" 526] 0), #[]⟩,
  ⟨(.type "tuple"), none, (.seq #[] 0), #[]⟩,
  ⟨.none, none, (.func { name := "__getitem__", qualname := "Headers.__getitem__", params := (prt (stC 19 5)).1, body := .stmts (prt (stC 19 5)).2.1, scope := (prt (stC 19 5)).2.2, globals := 0, closure := [], defaults := .none, kwdefaults := .none, doc := .none, pyModule := .none, annotations := none, code := .none, closureTuple := .none, builtins := 0 }), #[]⟩,
  ⟨(.type "code"), none, (.fields #[.str "__getitem__" 522, .str "Headers.__getitem__" 523, .str "/claim/cut.py" 524, .int 129 0, .int 2 0, .int 0 0, .int 0 0, .int 3 0, .ref 149, (.bool true), .int 276 0, .ref 150, .none, .ref 151, .ref 152, .ref 153, .int 527 0, .int 129 0, .str "/claim/cut.py" 528]), #[]⟩,
  ⟨(.type "function"), none, (.func { name := "__getitem__", qualname := "Headers.__getitem__", params := (prt (stC 19 5)).1, body := .stmts (prt (stC 19 5)).2.1, scope := (prt (stC 19 5)).2.2, globals := 3, closure := [], defaults := .none, kwdefaults := .none, doc := .none, pyModule := .str "cpy313.wsgiref.headers" 362, annotations := none, code := .ref 154, closureTuple := .none, builtins := 0 }), #[]⟩,
  ⟨(.type "tuple"), none, (.seq #[] 0), #[]⟩,
  ⟨.none, none, (.fields #[]), #[]⟩,
  ⟨(.type "tuple"), none, (.seq #[.str "self" 533, .str "name" 534] 0), #[]⟩,
  ⟨(.type "tuple"), none, (.seq #[] 0), #[]⟩]
noncomputable def ol4 (P : Params) : List Obj := [
  ⟨.none, none, (.func { name := "__contains__", qualname := "Headers.__contains__", params := (prt (stC 19 6)).1, body := .stmts (prt (stC 19 6)).2.1, scope := (prt (stC 19 6)).2.2, globals := 0, closure := [], defaults := .none, kwdefaults := .none, doc := .none, pyModule := .none, annotations := none, code := .none, closureTuple := .none, builtins := 0 }), #[]⟩,
  ⟨(.type "code"), none, (.fields #[.str "__contains__" 530, .str "Headers.__contains__" 531, .str "/claim/cut.py" 532, .int 132 0, .int 2 0, .int 0 0, .int 0 0, .int 3 0, .ref 156, (.bool true), .int 276 0, .ref 157, .none, .ref 158, .ref 159, .ref 160, .int 535 0, .int 132 0, .str "/claim/cut.py" 536]), #[]⟩,
  ⟨(.type "function"), none, (.func { name := "__contains__", qualname := "Headers.__contains__", params := (prt (stC 19 6)).1, body := .stmts (prt (stC 19 6)).2.1, scope := (prt (stC 19 6)).2.2, globals := 3, closure := [], defaults := .none, kwdefaults := .none, doc := .none, pyModule := .str "cpy313.wsgiref.headers" 362, annotations := none, code := .ref 161, closureTuple := .none, builtins := 0 }), #[]⟩,
  ⟨(.type "tuple"), none, (.seq #[] 0), #[]⟩,
  ⟨.none, none, (.fields #[]), #[]⟩,
  ⟨(.type "tuple"), none, (.seq #[.str "self" 541, .str "name" 542] 0), #[]⟩,
  ⟨(.type "tuple"), none, (.seq #[] 0), #[]⟩,
  ⟨.none, none, (.func { name := "get_all", qualname := "Headers.get_all", params := (prt (stC 19 7)).1, body := .stmts (prt (stC 19 7)).2.1, scope := (prt (stC 19 7)).2.2, globals := 0, closure := [], defaults := .none, kwdefaults := .none, doc := .none, pyModule := .none, annotations := none, code := .none, closureTuple := .none, builtins := 0 }), #[]⟩,
  ⟨(.type "code"), none, (.fields #[.str "get_all" 538, .str "Headers.get_all" 539, .str "/claim/cut.py" 540, .int 135 0, .int 2 0, .int 0 0, .int 0 0, .int 3 0, .ref 163, (.bool true), .int 276 0, .ref 164, .none, .ref 165, .ref 166, .ref 167, .int 543 0, .int 135 0, .str "/claim/cut.py" 544]), #[]⟩,
  ⟨(.type "function"), none, (.func { name := "get_all", qualname := "Headers.get_all", params := (prt (stC 19 7)).1, body := .stmts (prt (stC 19 7)).2.1, scope := (prt (stC 19 7)).2.2, globals := 3, closure := [], defaults := .none, kwdefaults := .none, doc := .none, pyModule := .str "cpy313.wsgiref.headers" 362, annotations := none, code := .ref 168, closureTuple := .none, builtins := 0 }), #[]⟩,
  kd P 170,
  ⟨(.type "tuple"), none, (.seq #[] 0), #[]⟩,
  ⟨.none, none, (.fields #[]), #[]⟩,
  ⟨(.type "tuple"), none, (.seq #[.str "self" 549, .str "name" 550, .str "default" 551, .str "k" 552, .str "v" 553] 0), #[]⟩,
  ⟨(.type "tuple"), none, (.seq #[] 0), #[]⟩,
  ⟨.none, none, (.func { name := "get", qualname := "Headers.get", params := (prt (stC 19 8)).1, body := .stmts (prt (stC 19 8)).2.1, scope := (prt (stC 19 8)).2.2, globals := 0, closure := [], defaults := .none, kwdefaults := .none, doc := .none, pyModule := .none, annotations := none, code := .none, closureTuple := .none, builtins := 0 }), #[]⟩,
  kd P 176,
  kd P 177,
  ⟨(.type "tuple"), none, (.seq #[] 0), #[]⟩,
  ⟨.none, none, (.fields #[]), #[]⟩,
  ⟨.none, none, (.func { name := "keys", qualname := "Headers.keys", params := (prt (stC 19 9)).1, body := .stmts (prt (stC 19 9)).2.1, scope := (prt (stC 19 9)).2.2, globals := 0, closure := [], defaults := .none, kwdefaults := .none, doc := .none, pyModule := .none, annotations := none, code := .none, closureTuple := .none, builtins := 0 }), #[]⟩,
  ⟨(.type "code"), none, (.fields #[.str "keys" 557, .str "Headers.keys" 558, .str "/claim/cut.py" 559, .int 145 0, .int 1 0, .int 0 0, .int 0 0, .int 3 0, .ref 178, (.bool true), .int 276 0, .ref 179, .none, .none, .none, .ref 180, .int 560 0, .int 145 0, .str "/claim/cut.py" 561]), #[]⟩,
  ⟨(.type "function"), none, (.func { name := "keys", qualname := "Headers.keys", params := (prt (stC 19 9)).1, body := .stmts (prt (stC 19 9)).2.1, scope := (prt (stC 19 9)).2.2, globals := 3, closure := [], defaults := .none, kwdefaults := .none, doc := .none, pyModule := .str "cpy313.wsgiref.headers" 362, annotations := none, code := .ref 181, closureTuple := .none, builtins := 0 }), #[]⟩,
  ⟨(.type "tuple"), none, (.seq #[] 0), #[]⟩,
  ⟨.none, none, (.fields #[]), #[]⟩,
  ⟨.none, none, (.func { name := "values", qualname := "Headers.values", params := (prt (stC 19 10)).1, body := .stmts (prt (stC 19 10)).2.1, scope := (prt (stC 19 10)).2.2, globals := 0, closure := [], defaults := .none, kwdefaults := .none, doc := .none, pyModule := .none, annotations := none, code := .none, closureTuple := .none, builtins := 0 }), #[]⟩,
  ⟨(.type "code"), none, (.fields #[.str "values" 563, .str "Headers.values" 564, .str "/claim/cut.py" 565, .int 148 0, .int 1 0, .int 0 0, .int 0 0, .int 3 0, .ref 183, (.bool true), .int 276 0, .ref 184, .none, .none, .none, .ref 185, .int 566 0, .int 148 0, .str "/claim/cut.py" 567]), #[]⟩,
  ⟨(.type "function"), none, (.func { name := "values", qualname := "Headers.values", params := (prt (stC 19 10)).1, body := .stmts (prt (stC 19 10)).2.1, scope := (prt (stC 19 10)).2.2, globals := 3, closure := [], defaults := .none, kwdefaults := .none, doc := .none, pyModule := .str "cpy313.wsgiref.headers" 362, annotations := none, code := .ref 186, closureTuple := .none, builtins := 0 }), #[]⟩,
  ⟨(.type "tuple"), none, (.seq #[] 0), #[]⟩,
  ⟨.none, none, (.fields #[]), #[]⟩,
  ⟨(.type "tuple"), none, (.seq #[.str "self" 572] 0), #[]⟩,
  ⟨(.type "tuple"), none, (.seq #[] 0), #[]⟩,
  ⟨.none, none, (.func { name := "items", qualname := "Headers.items", params := (prt (stC 19 11)).1, body := .stmts (prt (stC 19 11)).2.1, scope := (prt (stC 19 11)).2.2, globals := 0, closure := [], defaults := .none, kwdefaults := .none, doc := .none, pyModule := .none, annotations := none, code := .none, closureTuple := .none, builtins := 0 }), #[]⟩,
  kd P 193,
  kd P 194,
  ⟨(.type "tuple"), none, (.seq #[] 0), #[]⟩,
  ⟨.none, none, (.fields #[]), #[]⟩,
  ⟨(.type "tuple"), none, (.seq #[.str "self" 579] 0), #[]⟩,
  ⟨(.type "tuple"), none, (.seq #[] 0), #[]⟩,
  ⟨.none, none, (.func { name := "__repr__", qualname := "Headers.__repr__", params := (prt (stC 19 12)).1, body := .stmts (prt (stC 19 12)).2.1, scope := (prt (stC 19 12)).2.2, globals := 0, closure := [], defaults := .none, kwdefaults := .none, doc := .none, pyModule := .none, annotations := none, code := .none, closureTuple := .none, builtins := 0 }), #[]⟩]
noncomputable def ol5 (P : Params) : List Obj := [
  ⟨(.type "code"), none, (.fields #[.str "__repr__" 576, .str "Headers.__repr__" 577, .str "/claim/cut.py" 578, .int 154 0, .int 1 0, .int 0 0, .int 0 0, .int 3 0, .ref 195, (.bool true), .int 276 0, .ref 196, .none, .ref 197, .ref 198, .ref 199, .int 580 0, .int 154 0, .str "/claim/cut.py" 581]), #[]⟩,
  ⟨(.type "function"), none, (.func { name := "__repr__", qualname := "Headers.__repr__", params := (prt (stC 19 12)).1, body := .stmts (prt (stC 19 12)).2.1, scope := (prt (stC 19 12)).2.2, globals := 3, closure := [], defaults := .none, kwdefaults := .none, doc := .none, pyModule := .str "cpy313.wsgiref.headers" 362, annotations := none, code := .ref 200, closureTuple := .none, builtins := 0 }), #[]⟩,
  ⟨(.type "tuple"), none, (.seq #[] 0), #[]⟩,
  ⟨.none, none, (.fields #[]), #[]⟩,
  ⟨.none, none, (.func { name := "__str__", qualname := "Headers.__str__", params := (prt (stC 19 13)).1, body := .stmts (prt (stC 19 13)).2.1, scope := (prt (stC 19 13)).2.2, globals := 0, closure := [], defaults := .none, kwdefaults := .none, doc := .none, pyModule := .none, annotations := none, code := .none, closureTuple := .none, builtins := 0 }), #[]⟩,
  ⟨(.type "code"), none, (.fields #[.str "__str__" 583, .str "Headers.__str__" 584, .str "/claim/cut.py" 585, .int 157 0, .int 1 0, .int 0 0, .int 0 0, .int 3 0, .ref 202, (.bool true), .int 276 0, .ref 203, .none, .none, .none, .ref 204, .int 586 0, .int 157 0, .str "/claim/cut.py" 587]), #[]⟩,
  ⟨(.type "function"), none, (.func { name := "__str__", qualname := "Headers.__str__", params := (prt (stC 19 13)).1, body := .stmts (prt (stC 19 13)).2.1, scope := (prt (stC 19 13)).2.2, globals := 3, closure := [], defaults := .none, kwdefaults := .none, doc := .none, pyModule := .str "cpy313.wsgiref.headers" 362, annotations := none, code := .ref 205, closureTuple := .none, builtins := 0 }), #[]⟩,
  ⟨(.type "tuple"), none, (.seq #[] 0), #[]⟩,
  ⟨.none, none, (.fields #[]), #[]⟩,
  ⟨(.type "tuple"), none, (.seq #[.str "self" 592] 0), #[]⟩,
  ⟨(.type "tuple"), none, (.seq #[] 0), #[]⟩,
  ⟨.none, none, (.func { name := "__bytes__", qualname := "Headers.__bytes__", params := (prt (stC 19 14)).1, body := .stmts (prt (stC 19 14)).2.1, scope := (prt (stC 19 14)).2.2, globals := 0, closure := [], defaults := .none, kwdefaults := .none, doc := .none, pyModule := .none, annotations := none, code := .none, closureTuple := .none, builtins := 0 }), #[]⟩,
  ⟨(.type "code"), none, (.fields #[.str "__bytes__" 589, .str "Headers.__bytes__" 590, .str "/claim/cut.py" 591, .int 160 0, .int 1 0, .int 0 0, .int 0 0, .int 3 0, .ref 207, (.bool true), .int 276 0, .ref 208, .none, .ref 209, .ref 210, .ref 211, .int 593 0, .int 160 0, .str "/claim/cut.py" 594]), #[]⟩,
  ⟨(.type "function"), none, (.func { name := "__bytes__", qualname := "Headers.__bytes__", params := (prt (stC 19 14)).1, body := .stmts (prt (stC 19 14)).2.1, scope := (prt (stC 19 14)).2.2, globals := 3, closure := [], defaults := .none, kwdefaults := .none, doc := .none, pyModule := .str "cpy313.wsgiref.headers" 362, annotations := none, code := .ref 212, closureTuple := .none, builtins := 0 }), #[]⟩,
  ⟨(.type "tuple"), none, (.seq #[] 0), #[]⟩,
  ⟨.none, none, (.fields #[]), #[]⟩,
  ⟨(.type "tuple"), none, (.seq #[.str "self" 599, .str "name" 600, .str "value" 601, .str "result" 602] 0), #[]⟩,
  ⟨(.type "tuple"), none, (.seq #[] 0), #[]⟩,
  ⟨.none, none, (.func { name := "setdefault", qualname := "Headers.setdefault", params := (prt (stC 19 15)).1, body := .stmts (prt (stC 19 15)).2.1, scope := (prt (stC 19 15)).2.2, globals := 0, closure := [], defaults := .none, kwdefaults := .none, doc := .none, pyModule := .none, annotations := none, code := .none, closureTuple := .none, builtins := 0 }), #[]⟩,
  kd P 219,
  kd P 220,
  ⟨(.type "tuple"), none, (.seq #[] 0), #[]⟩,
  ⟨.none, none, (.fields #[]), #[]⟩,
  ⟨(.type "tuple"), none, (.seq #[.str "self" 609, .str "_name" 610, .str "_value" 611, .str "_params" 612, .str "parts" 613, .str "k" 614, .str "v" 615] 0), #[]⟩,
  ⟨(.type "tuple"), none, (.seq #[] 0), #[]⟩,
  ⟨.none, none, (.func { name := "add_header", qualname := "Headers.add_header", params := (prt (stC 19 16)).1, body := .stmts (prt (stC 19 16)).2.1, scope := (prt (stC 19 16)).2.2, globals := 0, closure := [], defaults := .none, kwdefaults := .none, doc := .none, pyModule := .none, annotations := none, code := .none, closureTuple := .none, builtins := 0 }), #[]⟩,
  kd P 226,
  kd P 227,
  ⟨(.type "tuple"), none, (.seq #[.str "_headers" 619] 0), #[]⟩,
  kd P 229,
  kd P 230,
  ⟨(.type "getset_descriptor"), none, (.fields #[.str "__dict__" 621, .ref 230, (.builtin "function.__dict__"), (.builtin "function.__dict__#set")]), #[]⟩,
  ⟨(.type "getset_descriptor"), none, (.fields #[.str "__weakref__" 623, .ref 230, (.builtin "ExceptionGroup.__weakref__"), .none]), #[]⟩,
  ⟨(.type "super"), none, (.fields #[.ref 230, .ref 230, .ref 230]), #[]⟩,
  ⟨(.type "builtin_function_or_method"), none, (.fields #[(.builtin "object.__init_subclass__"), .ref 230]), #[]⟩,
  ⟨(.type "tuple"), none, (.seq #[] 0), #[]⟩,
  ⟨.none, none, (.fields #[]), #[]⟩,
  ⟨.none, none, (.func { name := "_law_cells", qualname := "_law_cells", params := (prt (stA 21)).1, body := .stmts (prt (stA 21)).2.1, scope := (prt (stA 21)).2.2, globals := 0, closure := [], defaults := .none, kwdefaults := .none, doc := .none, pyModule := .none, annotations := none, code := .none, closureTuple := .none, builtins := 0 }), #[]⟩,
  kd P 238,
  kd P 239]
noncomputable def ol6 (P : Params) : List Obj := [
  ⟨(.type "tuple"), none, (.seq #[] 0), #[]⟩,
  ⟨.none, none, (.fields #[]), #[]⟩,
  ⟨.none, none, (.func { name := "_law_rules", qualname := "_law_rules", params := (prt (stA 22)).1, body := .stmts (prt (stA 22)).2.1, scope := (prt (stA 22)).2.2, globals := 0, closure := [], defaults := .none, kwdefaults := .none, doc := .none, pyModule := .none, annotations := none, code := .none, closureTuple := .none, builtins := 0 }), #[]⟩,
  kd P 243,
  kd P 244,
  ⟨(.type "tuple"), none, (.seq #[] 0), #[]⟩,
  ⟨.none, none, (.fields #[]), #[]⟩,
  ⟨.none, none, (.func { name := "_law_words", qualname := "_law_words", params := (prt (stA 23)).1, body := .stmts (prt (stA 23)).2.1, scope := (prt (stA 23)).2.2, globals := 0, closure := [], defaults := .none, kwdefaults := .none, doc := .none, pyModule := .none, annotations := none, code := .none, closureTuple := .none, builtins := 0 }), #[]⟩,
  kd P 248,
  kd P 249,
  ⟨(.type "tuple"), none, (.seq #[] 0), #[]⟩,
  ⟨.none, none, (.fields #[]), #[]⟩,
  ⟨(.type "tuple"), none, (.seq #[.str "x" 651, .str "first" 652, .str "second" 653] 0), #[]⟩,
  ⟨(.type "tuple"), none, (.seq #[] 0), #[]⟩,
  ⟨.none, none, (.func { name := "_law_figures", qualname := "_law_figures", params := (prt (stA 24)).1, body := .stmts (prt (stA 24)).2.1, scope := (prt (stA 24)).2.2, globals := 0, closure := [], defaults := .none, kwdefaults := .none, doc := .none, pyModule := .none, annotations := none, code := .none, closureTuple := .none, builtins := 0 }), #[]⟩,
  kd P 255,
  kd P 256,
  ⟨(.type "tuple"), none, (.seq #[] 0), #[]⟩,
  ⟨.none, none, (.fields #[]), #[]⟩,
  ⟨(.type "tuple"), none, (.seq #[.str "symbol" 660] 0), #[]⟩,
  ⟨(.type "tuple"), none, (.seq #[] 0), #[]⟩,
  ⟨.none, none, (.func { name := "_law_name", qualname := "_law_name", params := (prt (stA 25)).1, body := .stmts (prt (stA 25)).2.1, scope := (prt (stA 25)).2.2, globals := 0, closure := [], defaults := .none, kwdefaults := .none, doc := .none, pyModule := .none, annotations := none, code := .none, closureTuple := .none, builtins := 0 }), #[]⟩,
  kd P 262,
  kd P 263,
  ⟨(.type "tuple"), none, (.seq #[] 0), #[]⟩,
  ⟨.none, none, (.fields #[]), #[]⟩,
  ⟨.none, none, (.func { name := "_law_led", qualname := "_law_led", params := (prt (stA 26)).1, body := .stmts (prt (stA 26)).2.1, scope := (prt (stA 26)).2.2, globals := 0, closure := [], defaults := .none, kwdefaults := .none, doc := .none, pyModule := .none, annotations := none, code := .none, closureTuple := .none, builtins := 0 }), #[]⟩,
  kd P 267,
  kd P 268,
  ⟨(.type "tuple"), none, (.seq #[] 0), #[]⟩,
  ⟨.none, none, (.fields #[]), #[]⟩,
  ⟨.none, none, (.func { name := "_law_asked", qualname := "_law_asked", params := (prt (stA 27)).1, body := .stmts (prt (stA 27)).2.1, scope := (prt (stA 27)).2.2, globals := 0, closure := [], defaults := .none, kwdefaults := .none, doc := .none, pyModule := .none, annotations := none, code := .none, closureTuple := .none, builtins := 0 }), #[]⟩,
  kd P 272,
  kd P 273,
  ⟨(.type "tuple"), none, (.seq #[] 0), #[]⟩,
  ⟨.none, none, (.fields #[]), #[]⟩,
  ⟨(.type "tuple"), none, (.seq #[.str "text" 679, .str "word" 680, .str "place" 681, .str "letter" 682] 0), #[]⟩,
  ⟨(.type "tuple"), none, (.seq #[] 0), #[]⟩,
  ⟨.none, none, (.func { name := "_law_stands", qualname := "_law_stands", params := (prt (stA 28)).1, body := .stmts (prt (stA 28)).2.1, scope := (prt (stA 28)).2.2, globals := 0, closure := [], defaults := .none, kwdefaults := .none, doc := .none, pyModule := .none, annotations := none, code := .none, closureTuple := .none, builtins := 0 }), #[]⟩,
  kd P 279]
noncomputable def ol7 (P : Params) : List Obj := [
  kd P 280,
  ⟨(.type "tuple"), none, (.seq #[] 0), #[]⟩,
  ⟨.none, none, (.fields #[]), #[]⟩,
  ⟨(.type "tuple"), none, (.seq #[.str "text" 689, .str "word" 690] 0), #[]⟩,
  ⟨(.type "tuple"), none, (.seq #[] 0), #[]⟩,
  ⟨.none, none, (.func { name := "_law_spans", qualname := "_law_spans", params := (prt (stA 29)).1, body := .stmts (prt (stA 29)).2.1, scope := (prt (stA 29)).2.2, globals := 0, closure := [], defaults := .none, kwdefaults := .none, doc := .none, pyModule := .none, annotations := none, code := .none, closureTuple := .none, builtins := 0 }), #[]⟩,
  kd P 286,
  kd P 287,
  ⟨(.type "tuple"), none, (.seq #[] 0), #[]⟩,
  ⟨.none, none, (.fields #[]), #[]⟩,
  ⟨(.type "tuple"), none, (.seq #[.str "x" 697, .str "word" 698, .str "maps" 699, .str "letter" 700] 0), #[]⟩,
  ⟨(.type "tuple"), none, (.seq #[] 0), #[]⟩,
  ⟨.none, none, (.func { name := "_law_walk", qualname := "_law_walk", params := (prt (stA 30)).1, body := .stmts (prt (stA 30)).2.1, scope := (prt (stA 30)).2.2, globals := 0, closure := [], defaults := .none, kwdefaults := .none, doc := .none, pyModule := .none, annotations := none, code := .none, closureTuple := .none, builtins := 0 }), #[]⟩,
  kd P 293,
  kd P 294,
  ⟨(.type "tuple"), none, (.seq #[] 0), #[]⟩,
  ⟨.none, none, (.fields #[]), #[]⟩,
  ⟨.none, none, (.func { name := "_law_due", qualname := "_law_due", params := (prt (stA 31)).1, body := .stmts (prt (stA 31)).2.1, scope := (prt (stA 31)).2.2, globals := 0, closure := [], defaults := .none, kwdefaults := .none, doc := .none, pyModule := .none, annotations := none, code := .none, closureTuple := .none, builtins := 0 }), #[]⟩,
  kd P 298,
  kd P 299,
  ⟨(.type "tuple"), none, (.seq #[] 0), #[]⟩,
  ⟨.none, none, (.fields #[]), #[]⟩,
  ⟨.none, none, (.func { name := "law", qualname := "law", params := (prt (stA 32)).1, body := .stmts (prt (stA 32)).2.1, scope := (prt (stA 32)).2.2, globals := 0, closure := [], defaults := .none, kwdefaults := .none, doc := .none, pyModule := .none, annotations := none, code := .none, closureTuple := .none, builtins := 0 }), #[]⟩,
  kd P 303,
  kd P 304]
noncomputable def ol (P : Params) : List Obj := ol0 P ++ ol1 P ++ ol2 P ++ ol3 P ++ ol4 P ++ ol5 P ++ ol6 P ++ ol7 P
noncomputable def t0 (P : Params) : BT := (.node (q0 P) (.node (q1 P) (.node (q3 P) (.node (q7 P) (.node (q15 P) .nil .nil) (.node (q23 P) .nil .nil)) (.node (q11 P) (.node (q19 P) .nil .nil) (.node (q27 P) .nil .nil))) (.node (q5 P) (.node (q9 P) (.node (q17 P) .nil .nil) (.node (q25 P) .nil .nil)) (.node (q13 P) (.node (q21 P) .nil .nil) .nil))) (.node (q2 P) (.node (q4 P) (.node (q8 P) (.node (q16 P) .nil .nil) (.node (q24 P) .nil .nil)) (.node (q12 P) (.node (q20 P) .nil .nil) .nil)) (.node (q6 P) (.node (q10 P) (.node (q18 P) .nil .nil) (.node (q26 P) .nil .nil)) (.node (q14 P) (.node (q22 P) .nil .nil) .nil))))
/-- the top over a heap kept as a tree; the step, the meaning and the look ahead of it may be any -/
noncomputable def topG (sf : (Code → Sem Fin) → Program → World → SharedT → Thread → Option (SharedT × Thread)) (dn : (String → Option Builtin) → Code → Sem Fin) (ok : Nat → Option Value → Thread → Bool)
    (tb : String → Option Builtin) (p : Program) (w : World) (n₀ : Nat) (ann : Option Value) : Nat → SharedT → Thread → Option SharedT
  | 0, _, _ => none
  | n + 1, s, t => match through t with
    | true => some s
    | false => match ok n₀ ann t with
      | false => none
      | true => match sf (dn tb) p w s t with
        | some (s', t') => topG sf dn ok tb p w n₀ ann n s' t'
        | none => none
theorem topG_of {tb : String → Option Builtin} {p : Program} {w : World} {n₀ : Nat} {ann : Option Value} : ∀ {n : Nat} {s s' : SharedT} {t : Thread}, topG stepT denote stepOk tb p w n₀ ann n s t = some s' → topRun tb p w n₀ ann n s.abs t = some s'.abs
  | 0, _, _, _, h => by cases h
  | n + 1, s, s', t, h => by
    unfold topG at h
    unfold topRun
    cases hu : through t with
    | true => rw [hu] at h; cases h; rfl
    | false =>
      rw [hu] at h
      cases hk : stepOk n₀ ann t with
      | false => rw [hk] at h; cases h
      | true =>
        rw [hk] at h
        cases hs : stepT (denote tb) p w s t with
        | none => rw [hs] at h; cases h
        | some r => obtain ⟨s₂, t₂⟩ := r; rw [hs] at h; rw [stepT_spec hs]; exact topG_of h
noncomputable def H0 (P : Params) : Heap := ⟨⟨olS P⟩, {}⟩
noncomputable def H1 (P : Params) : Heap := ⟨⟨ol P⟩, {}⟩
noncomputable def S1 (w : World) (os : OsState) : Shared := ⟨H1 w.params, #[], {}, 716, os⟩
noncomputable abbrev xt : Shared → Bool := fun s => xlAt qv [] s && recOk (RowW.records PySem.Challenge.rw_uk0008_01.row.toRowW) s
theorem t_tree (P : Params) : absHeap (t0 P) 28 {} = H0 P := by kernel_rfl
theorem t_open (w : World) : (fencedOpening treeTable pw w 3380).map (fun s => (s.heap, s.gens, s.drawn, s.toks)) = some (H0 w.params, #[], {}, 276) := by
  unfold fencedOpening
  first
    | (rw [PySem.W.Fast.te14364793385576792824, PySem.W.Fast.te10274390034422433532, PySem.W.Fast.te1435165496053646825, PySem.W.Fast.te14289696077712309145]; kernel_rfl)
    | kernel_rfl
theorem t_size (w : World) : ((H0 w.params).isNs mainGlobals && (#[] : Array GenState).size == 0, (H0 w.params).objs.size, (H0 w.params).nsMap mainGlobals "__annotations__") = (true, 28, some (.ref 6)) := by kernel_rfl
theorem t_top (w : World) (os : OsState) : (topG stepT denote stepOk treeTable pw w 28 (some (.ref 6)) 3380 ⟨t0 w.params, 28, {}, #[], {}, 276, os⟩ (topStub pw)).map SharedT.abs = some (S1 w os) := by
  first
    | (rw [PySem.W.Fast.te14364793385576792824, PySem.W.Fast.te10156331382660048174, PySem.W.Fast.te11892475500146522536, PySem.W.Fast.te6613529449190102663]; kernel_rfl)
    | kernel_rfl
theorem t_run (w : World) (os : OsState) : topRun treeTable pw w 28 (some (.ref 6)) 3380 ⟨H0 w.params, #[], {}, 276, os⟩ (topStub pw) = some (S1 w os) := by
  obtain ⟨s, h, e⟩ := Option.map_eq_some_iff.mp (t_top w os)
  have r := topG_of h
  rw [e] at r
  exact t_tree w.params ▸ r
theorem t_base (w : World) (os : OsState) : (staticsOk (importedModules pw.main.body) (H0 w.params) (H1 w.params) && namesBound pw (H1 w.params) && gensDone (S1 w os) && laidKept (H0 w.params) (H1 w.params)) = true := by kernel_rfl
theorem t_seen (w : World) (os : OsState) : openSeen qv lo_ (importedModules pw.main.body) xt true (S1 w os) = openGood qv lo_ := by kernel_rfl
theorem t_obs (w : World) (os : OsState) : Hook.obs HK (S1 w os) = Hook.val HK w := by kernel_rfl
theorem t_left : LeftO pw qv lo_ xt (Hook.obs HK) (Hook.val HK) 3380 :=
  LeftO.of_pieces (H₀ := H0) (H₁ := H1) (gs₀ := #[]) (gs₁ := #[]) (d₀ := {}) (d₁ := {}) (k₀ := 276) (k₁ := 716) (m₀ := 28) (ann := some (.ref 6)) (M := 3380)
    t_open t_size t_run (Nat.ble_self_eq_true 3380) fun w => funext fun os => looks_pair (t_base w os) (looks_pair (t_seen w os) (t_obs w os))

/-! What the row says of itself. -/
abbrev lw : OpenLaw := PySem.Challenge.rw_uk0008_01
noncomputable abbrev lk : Look := { strict := !(importedModules pw.main.body).all cThrough.contains, foot := none, bare := (["vars", "dir", "locals"] : List Str).filter (readsOut pw pw.main.body) }
theorem k_lk : lk = { strict := false, foot := none, bare := [] } := by kernel_rfl
/-- the rest of what a row's part says -/
noncomputable def restSaid (r : OpenRow) : Bool :=
  (r.loose.isEmpty && r.makers.isEmpty) &&
  ((r.records.isEmpty || r.raises.all fun ct => ct.1 != .builtin "AttributeError" && ct.1 != .builtin "TypeError") &&
  (r.raises.all fun ct => match ct.1 with | .builtin n => !r.prog.boundNames.contains (Str.ofString n) && !ofTheWorld.contains n | .own _ => true)) &&
  (decide (r.records.map (·.1)).Nodup && (r.records.all fun x => !x.1.opensWith "__" && !builtinNamed x.1 && r.prog.boundNames.contains x.1 && x.2.all fun f => !f.1.opensWith "__")) &&
  (r.toRowW.solid && r.pre.litsOk && r.post.litsOk && r.raises.all (·.2.litsOk)) &&
  (r.mutates.all (fun i => match r.args[i]? with
    | some sh => !sh.arms.any WShape.isObj
    | none => false) &&
  r.within.all (fun i => decide (i < r.args.length)) && r.same.all (fun i => decide (i < r.args.length)))
theorem part_said {r : OpenRow} (a : looksOpen r.prog = true) (b : restSaid r = true) : r.partSaid = true := by
  unfold OpenRow.partSaid
  unfold restSaid at b
  rw [a]
  rw [Bool.true_and]
  simp only [Bool.and_assoc] at b ⊢
  exact b
theorem k_1 : (sreFenced pw.main && ((moduleNames pw.main.body).isEmpty || lookedIntoSs (moduleNames pw.main.body) pw.main.body)) = true := by kernel_rfl
theorem k_2 : namesResolve pw = true := by
  first
    | (rw [PySem.W.Fast.te8377067652309620493]; kernel_rfl)
    | kernel_rfl
theorem k_3 : pw.boundNames.all (fun n => !worldNames.contains n) = true := by kernel_rfl
theorem k_4 : noRoadLSs { strict := false, foot := none, bare := [] } pw.main.body = true := by kernel_rfl
theorem k_5 : noRoadLSs lk pw.main.body = true := k_lk ▸ k_4
theorem k_7 : (namesMeet pw pw.main.body fun _ n => attrL n) = true := by kernel_rfl
theorem k_open : looksOpen pw = true := look_both (look_both (look_both (look_both k_1 k_2) k_3) k_5) k_7
theorem k_rest : restSaid lw.row = true := by kernel_rfl
theorem k_row : lw.row.wellSaid = true := look_both (look_both (part_said k_open k_rest) (by kernel_rfl)) (by kernel_rfl)
theorem s_1 : (decide (lw.foot ≤ (behindTheImports lw.prog).length)) = true := by kernel_rfl
theorem s_2 : lw.footing.all footLine = true := by kernel_rfl
theorem s_3 : noClassBlock lw.prog lw.footing = true := by kernel_rfl
theorem s_4 : noRoadLSs { strict := true, foot := some lw.bound', writes := lw.writes, may := lw.may } lw.footing = true := by kernel_rfl
theorem s_5 : defStands lw.about lw.above = true := by kernel_rfl
theorem s_6 : lw.namesIt = true := by kernel_rfl
theorem s_7 : lw.bound'.all (fun n => !builtinNamed n || lw.about == [n] || !lw.reads n) = true := by kernel_rfl
theorem s_8 : (lw.prog.main.body.flatMap importedNames).all (fun n => !lw.reads n || (drawsOf n lw.prog.main.body).all fun mn => mn.2 != ("attrgetter" : Str) && mn.2 != ("methodcaller" : Str)) = true := by kernel_rfl
theorem s_9 : namesMeet lw.prog lw.footing (fun sc n => (!(["type", "isinstance", "issubclass", "getattr", "hasattr"] : List Str).contains n || sc.names.lookup n == some .globalImplicit) &&
    (lw.may != some n || sc.kind == .module || sc.names.lookup n == some .globalImplicit)) = true := by kernel_rfl
theorem s_10 : lw.own.all (fun n => !builtinNamed n) = true := by kernel_rfl
theorem s_11 : namesMeet lw.prog lw.above (fun _ n => !lw.own.contains n) = true := by kernel_rfl
theorem s_12 : (namesMeet lw.prog lw.footing fun sc n => sc.kind == .module || sc.names.lookup n != some .globalExplicit) = true := by kernel_rfl
theorem t_said : OpenLaw.wellSaid PySem.Challenge.rw_uk0008_01 = true :=
  look_both (look_both (look_both (look_both (look_both (look_both (look_both (look_both (look_both (look_both (look_both (look_both (look_both (look_both (look_both (look_both (look_both (look_both
    k_row s_1) s_2) s_3) (by kernel_rfl)) (by kernel_rfl)) s_4) s_5) s_6) (by kernel_rfl)) s_7) (by kernel_rfl)) s_8) s_9) (by kernel_rfl)) (by kernel_rfl)) s_10) s_11) s_12
end Mine.Top
end
section
open PySem PySem.W PyProof.Rows
set_option maxRecDepth 1000000
namespace Mine
abbrev rwL : OpenLaw := PySem.Challenge.rw_uk0008_01
theorem dk_some : (defOf qv rwL.row.name).isSome = true := by kernel_rfl
noncomputable def dk : DefRec × List (Str × Expr) := (defOf qv rwL.row.name).get dk_some
theorem dk_def : defOf qv rwL.row.name = some (dk.1, dk.2) := by
  show _ = some dk
  exact (Option.some_get dk_some).symm
theorem dk_name : dk.1.name = ("law" : Str) := by kernel_rfl
theorem dk_the : rwL.row.prog.theDef rwL.row.name = some (dk.1.params, dk.1.body, dk.1.scope) := by kernel_rfl
theorem dk_kw : kwWritten? dk.1.params.kwonlyargs dk.1.params.kw_defaults = some dk.2 := by kernel_rfl
theorem t_ok : (chainsOk qv && opensWell rwL.row.prog && (frees rwL.row.toRowW && rwL.row.within.isEmpty)) = true := by kernel_rfl
theorem t_bare : rwL.row.prog.bare := ⟨rfl, rfl, rfl, rfl, rfl, by decide +kernel⟩
theorem t_prom : rwL.row.toRowW.promised := by w_witness2
theorem hd (call : WalkO qv lo_ (XL qv []) (Hook.says HK) rwL.row.toRowW dk.1 dk.2 fun f vs => PySem.call f vs) : PySem.Challenge.rw_uk0008_01.Holds :=
  holds_law Top.t_said fun said => holds_open (q := qv) (loose := lo_) (XP := XL qv []) (YP := Hook.says HK) Top.t_left (Hook.of HK) (Hook.keeps HK) (fun s e => xl_of s (Bool.and_eq_true_iff.mp e).1) XL.keeps dk_def dk_the dk_kw (fun s e => recFacts_of (Bool.and_eq_true_iff.mp e).2) (by rfl) said t_ok t_bare t_prom call
end Mine
end
section
/-! The small language: what the law's text says, compiled from the model's syntax (positions forgotten), and its plain evaluator. -/
namespace Mine
open PySem PySem.Calls PyProof.Rows PySem.W PySem.Spec

inductive Op2 where | add | sub | fdiv | fmod
  deriving DecidableEq
inductive Cp where | lt | le | gt | ge | eq | ne | is | isNot | isIn | notIn
  deriving DecidableEq
inductive BI where | len | sum | range | max | list | chr
  deriving DecidableEq
inductive MT where | join | lower | upper | startswith | endswith | find | index | get
  deriving DecidableEq

/-- expressions -/
inductive E where
  | none | bool (b : Bool) | int (i : Int) | str (s : Str)
  | var (i : Nat) | con (x : Str)
  | bin (o : Op2) (a b : E) | neg (a : E) | not (a : E)
  | cmp (o : Cp) (a b : E)
  | andl (a : E) (l : List E) | orl (a : E) (l : List E)
  | ite (c a b : E)
  | idx (a i : E) | slc (a : E) (lo hi : Option E)
  | lst (l : List E) | tup (l : List E)
  | call (f : Str) (l : List E)
  | bi (f : BI) (l : List E)
  | mth (m : MT) (o : E) (l : List E)
  | comp (caps : List (Option Nat)) (elt : E) (t : Nat) (it : E) (ifs : List E) (more : Option (Nat × E × List E))

inductive S where
  | asg (i : Nat) (e : E)
  | asgNew (i : Nat) (l : List E)
  | asgDict (i : Nat)
  | asgSplit (i : Nat) (o sep : E)
  | asg2 (i j : Nat) (a b : E)
  | aug (i : Nat) (o : Op2) (e : E)
  | app (i : Nat) (e : E) | ext (i : Nat) (e : E)
  | seti (i : Nat) (k v : E)
  | del (i : Nat) (last : Bool)
  | ifs (c : E) (a b : List S)
  | for1 (i : Nat) (it : E) (body : List S)
  | for2 (i j : Nat) (it : E) (body : List S)
  | while (c : E) (body : List S)
  | ret (e : E)
  | asrt (c : E)
  | raise
  | newBook (i : Nat)
  | addHdr (i : Nat) (a b : E) (body : List S)
  | setDef (i : Nat) (a b rhs : E) (body : List S)
  | retItems (i : Nat)

/-! ### the compiler -/
noncomputable abbrev Names := List (Str × NameKind)
noncomputable def isVar (k : NameKind) : Bool := k == .local || k == .cell || k == .free
noncomputable def nmOf (ns : Names) : List Str := (ns.filter fun p => isVar p.2).map (·.1)
noncomputable def varIx (ns : Names) (x : Str) : Option Nat := (nmOf ns).findIdx? (· == x)
noncomputable def relabelN (fn : Bool) (outer inner : Names) : Names :=
  inner.map fun (n, k) => if (k == .free && fn && outer.lookup n == some .cell) then (n, .cell) else (n, k)

/-- the names of the text's own defs, and its constants -/
structure Gl where
  defs : List Str
  cons : List Str

noncomputable def cBI (x : Str) : Option BI :=
  if x == "len" then some .len else if x == "sum" then some .sum else if x == "range" then some .range
  else if x == "max" then some .max else if x == "list" then some .list else if x == "chr" then some .chr else none
noncomputable def cMT (x : Str) : Option MT :=
  if x == "join" then some .join else if x == "lower" then some .lower else if x == "upper" then some .upper
  else if x == "startswith" then some .startswith else if x == "endswith" then some .endswith
  else if x == "find" then some .find else if x == "index" then some .index else if x == "get" then some .get else none
noncomputable def cOp : Operator → Option Op2
  | .Add => some .add | .Sub => some .sub | .FloorDiv => some .fdiv | .Mod => some .fmod | _ => none
noncomputable def cCp : CmpOp → Cp
  | .Eq => .eq | .NotEq => .ne | .Lt => .lt | .LtE => .le | .Gt => .gt | .GtE => .ge | .Is => .is | .IsNot => .isNot | .In => .isIn | .NotIn => .notIn
noncomputable def isGlob (ns : Names) (x : Str) : Bool := ns.lookup x == some .globalImplicit

noncomputable def wfN (ns : Names) : Bool := decide (List.map (fun p : Str × NameKind => p.1) ns).Nodup
/-- a comprehension's block whose free names the frame has -/
noncomputable def okSc (ns : Names) (sc : Scope) : Bool := wfN sc.names && (match sc.kind with | .function => true | _ => false) &&
  sc.names.all fun p => match p.2 with | .free => (match ns.lookup p.1 with | some .cell => true | some .free => true | _ => false) | _ => true
noncomputable def ownIn (sc : Scope) (x : Str) : Bool := match sc.names.lookup x with | some .local => true | some .cell => true | _ => false
/-! one form each: the parts are handed on -/
noncomputable def onConst (k : Const → Bool) (e : PySem.Expr) : Bool := if h : e.ctorIdx = 19 then PySem.Expr.Constant.elim (motive_1 := fun _ => Bool) e h (fun c _ _ => k c) else false
noncomputable def onName (k : Str → Pos → Bool) (e : PySem.Expr) : Bool := if h : e.ctorIdx = 23 then PySem.Expr.Name.elim (motive_1 := fun _ => Bool) e h (fun x p => k x p) else false
noncomputable def onBin (k : PySem.Expr → Operator → PySem.Expr → Bool) (e : PySem.Expr) : Bool := if h : e.ctorIdx = 2 then PySem.Expr.BinOp.elim (motive_1 := fun _ => Bool) e h (fun a o b _ => k a o b) else false
noncomputable def onUn (k : UnaryOp → PySem.Expr → Bool) (e : PySem.Expr) : Bool := if h : e.ctorIdx = 3 then PySem.Expr.UnaryOp.elim (motive_1 := fun _ => Bool) e h (fun o a _ => k o a) else false
noncomputable def onCmp (k : PySem.Expr → List CmpOp → List PySem.Expr → Bool) (e : PySem.Expr) : Bool := if h : e.ctorIdx = 15 then PySem.Expr.Compare.elim (motive_1 := fun _ => Bool) e h (fun a o b _ => k a o b) else false
noncomputable def onBool (k : BoolOp → List PySem.Expr → Bool) (e : PySem.Expr) : Bool := if h : e.ctorIdx = 0 then PySem.Expr.BoolOp.elim (motive_1 := fun _ => Bool) e h (fun o l _ => k o l) else false
noncomputable def onIfE (k : PySem.Expr → PySem.Expr → PySem.Expr → Bool) (e : PySem.Expr) : Bool := if h : e.ctorIdx = 5 then PySem.Expr.IfExp.elim (motive_1 := fun _ => Bool) e h (fun c a b _ => k c a b) else false
noncomputable def onSub (k : PySem.Expr → PySem.Expr → Bool) (e : PySem.Expr) : Bool := if h : e.ctorIdx = 21 then PySem.Expr.Subscript.elim (motive_1 := fun _ => Bool) e h (fun a i _ => k a i) else false
noncomputable def onSlice (k : Option PySem.Expr → Option PySem.Expr → Option PySem.Expr → Bool) (e : PySem.Expr) : Bool := if h : e.ctorIdx = 26 then PySem.Expr.Slice.elim (motive_1 := fun _ => Bool) e h (fun a b c _ => k a b c) else false
noncomputable def onList (k : List PySem.Expr → Bool) (e : PySem.Expr) : Bool := if h : e.ctorIdx = 24 then PySem.Expr.List.elim (motive_1 := fun _ => Bool) e h (fun l _ => k l) else false
noncomputable def onTup (k : List PySem.Expr → Bool) (e : PySem.Expr) : Bool := if h : e.ctorIdx = 25 then PySem.Expr.Tuple.elim (motive_1 := fun _ => Bool) e h (fun l _ _ => k l) else false
noncomputable def onCall (k : PySem.Expr → List PySem.Expr → List Keyword → Pos → Bool) (e : PySem.Expr) : Bool := if h : e.ctorIdx = 16 then PySem.Expr.Call.elim (motive_1 := fun _ => Bool) e h (fun f l w p => k f l w p) else false
noncomputable def onAttr (k : PySem.Expr → Str → Pos → Bool) (e : PySem.Expr) : Bool := if h : e.ctorIdx = 20 then PySem.Expr.Attribute.elim (motive_1 := fun _ => Bool) e h (fun o m p => k o m p) else false
noncomputable def onComp (k : PySem.Expr → List Comprehension → Scope → Bool) (e : PySem.Expr) : Bool := if h : e.ctorIdx = 8 then PySem.Expr.ListComp.elim (motive_1 := fun _ => Bool) e h (fun e l s _ => k e l s) else false
noncomputable def onDict (k : List (Option PySem.Expr) → List PySem.Expr → Bool) (e : PySem.Expr) : Bool := if h : e.ctorIdx = 6 then PySem.Expr.Dict.elim (motive_1 := fun _ => Bool) e h (fun a b _ => k a b) else false
noncomputable def onAssign (k : List PySem.Expr → PySem.Expr → Bool) (e : PySem.Stmt) : Bool := if h : e.ctorIdx = 5 then PySem.Stmt.Assign.elim (motive_2 := fun _ => Bool) e h (fun l v _ => k l v) else false
noncomputable def onAug (k : PySem.Expr → Operator → PySem.Expr → Bool) (e : PySem.Stmt) : Bool := if h : e.ctorIdx = 7 then PySem.Stmt.AugAssign.elim (motive_2 := fun _ => Bool) e h (fun a o v _ => k a o v) else false
noncomputable def onExprS (k : PySem.Expr → Bool) (e : PySem.Stmt) : Bool := if h : e.ctorIdx = 24 then PySem.Stmt.Expr.elim (motive_2 := fun _ => Bool) e h (fun e _ => k e) else false
noncomputable def onDel (k : List PySem.Expr → Bool) (e : PySem.Stmt) : Bool := if h : e.ctorIdx = 4 then PySem.Stmt.Delete.elim (motive_2 := fun _ => Bool) e h (fun l _ => k l) else false
noncomputable def onIfS (k : PySem.Expr → List PySem.Stmt → List PySem.Stmt → Bool) (e : PySem.Stmt) : Bool := if h : e.ctorIdx = 12 then PySem.Stmt.If.elim (motive_2 := fun _ => Bool) e h (fun c a b _ => k c a b) else false
noncomputable def onFor (k : PySem.Expr → PySem.Expr → List PySem.Stmt → List PySem.Stmt → Bool) (e : PySem.Stmt) : Bool := if h : e.ctorIdx = 9 then PySem.Stmt.For.elim (motive_2 := fun _ => Bool) e h (fun a b c d _ => k a b c d) else false
noncomputable def onWhile (k : PySem.Expr → List PySem.Stmt → List PySem.Stmt → Bool) (e : PySem.Stmt) : Bool := if h : e.ctorIdx = 11 then PySem.Stmt.While.elim (motive_2 := fun _ => Bool) e h (fun c a b _ => k c a b) else false
noncomputable def onRet (k : Option PySem.Expr → Bool) (e : PySem.Stmt) : Bool := if h : e.ctorIdx = 3 then PySem.Stmt.Return.elim (motive_2 := fun _ => Bool) e h (fun e _ => k e) else false
noncomputable def onAsrt (k : PySem.Expr → Option PySem.Expr → Bool) (e : PySem.Stmt) : Bool := if h : e.ctorIdx = 19 then PySem.Stmt.Assert.elim (motive_2 := fun _ => Bool) e h (fun e m _ => k e m) else false
noncomputable def onO {α : Type} (k : α → Bool) : Option α → Bool | some a => k a | none => false
noncomputable def onNo {α : Type} : Option α → Bool | some _ => false | none => true
noncomputable def on0 {α : Type} : List α → Bool | [] => true | _ :: _ => false
/-- no super() -/
noncomputable def plainBase (e : PySem.Expr) : Bool := !(onCall (fun f l w _ => onName (fun _ _ => true) f && (on0 l && on0 w)) e)
noncomputable def onC {α : Type} (k : α → List α → Bool) : List α → Bool | a :: l => k a l | [] => false
noncomputable def on1 {α : Type} (k : α → Bool) : List α → Bool := onC fun a l => on0 l && k a
noncomputable def on2 {α : Type} (k : α → α → Bool) : List α → Bool := onC fun a l => on1 (k a) l
noncomputable def chkL (r : PySem.Expr → E → Bool) : List PySem.Expr → List E → Bool
  | [] => fun l => on0 l
  | a :: l => onC fun b m => r a b && chkL r l m
noncomputable def chkO (r : PySem.Expr → E → Bool) : Option PySem.Expr → Option E → Bool
  | none => fun e => onNo e
  | some a => onO (r a)
noncomputable abbrev Chk := Names → PySem.Expr → E → Bool
noncomputable def capNs (ns : Names) (sc : Scope) : List (Option Nat) := (nmOf (relabelN true ns sc.names)).map fun y => if sc.names.lookup y == some .free then varIx ns y else none
noncomputable def chkGen (r : Chk) (ns inner : Names) (sc : Scope) (t : Nat) (it : E) (ifs : List E) (c : Comprehension) (k : Str → Bool) : Bool :=
  onName (fun x _ => ownIn sc x && (decide (varIx inner x = some t) && (r ns c.iter it && (chkL (r inner) c.ifs ifs && (decide (c.is_async = 0) && k x))))) c.target
noncomputable def chkMore (r : Chk) (inner : Names) (sc : Scope) (x : Str) (l : List Comprehension) : Option (Nat × E × List E) → Bool
  | none => on0 l
  | some (t, it, ifs) => on1 (fun c => chkGen r inner inner sc t it ifs c fun y => decide (x ≠ y)) l
noncomputable def chkE (g : Gl) (r : Chk) (ns : Names) (pe : PySem.Expr) : E → Bool
  | .none => onConst (fun c => decide (c = .none)) pe
  | .bool b => onConst (fun c => decide (c = .bool b)) pe
  | .int b => onConst (fun c => decide (c = .int b)) pe
  | .str b => onConst (fun c => decide (c = .str b)) pe
  | .var i => onName (fun x _ => !(x == "__debug__") && (!(x == "__classdict__") && decide (varIx ns x = some i))) pe
  | .con y => onName (fun x _ => decide (x = y) && (!(x == "__debug__") && (isGlob ns x && g.cons.contains x))) pe
  | .bin o a b => onBin (fun a' o' b' => decide (cOp o' = some o) && (r ns a' a && r ns b' b)) pe
  | .neg a => onUn (fun o a' => decide (o = .USub) && r ns a' a) pe
  | .not a => onUn (fun o a' => decide (o = .Not) && r ns a' a) pe
  | .cmp o a b => onCmp (fun a' os bs => on1 (fun o' => on1 (fun b' => decide (cCp o' = o) && (r ns a' a && r ns b' b)) bs) os) pe
  | .andl a l => onBool (fun o vs => decide (o = .And) && onC (fun a' l' => r ns a' a && chkL (r ns) l' l) vs) pe
  | .orl a l => onBool (fun o vs => decide (o = .Or) && onC (fun a' l' => r ns a' a && chkL (r ns) l' l) vs) pe
  | .ite c a b => onIfE (fun c' a' b' => r ns c' c && (r ns a' a && r ns b' b)) pe
  | .idx a i => onSub (fun a' i' => r ns a' a && r ns i' i) pe
  | .slc a lo hi => onSub (fun a' s => onSlice (fun lo' hi' st => onNo st && (r ns a' a && (chkO (r ns) lo' lo && chkO (r ns) hi' hi))) s) pe
  | .lst l => onList (fun l' => decide (l'.length < 1000) && chkL (r ns) l' l) pe
  | .tup l => onTup (fun l' => decide (l'.length < 1000) && chkL (r ns) l' l) pe
  | .call f l => onCall (fun h l' w _ => on0 w && onName (fun x _ => decide (x = f) && (isGlob ns x && (g.defs.contains x && chkL (r ns) l' l))) h) pe
  | .bi f l => onCall (fun h l' w _ => on0 w && onName (fun x _ => isGlob ns x && (!(g.defs.contains x) && (decide (cBI x = some f) && chkL (r ns) l' l))) h) pe
  | .mth m o l => onCall (fun h l' w p => on0 w && onAttr (fun o' x q => (q.endLine == p.line) && (plainBase o' && (decide (l'.length < 20) && (decide (cMT x = some m) && (r ns o' o && chkL (r ns) l' l))))) h) pe
  | .comp caps elt t it ifs more => onComp (fun elt' gs sc => okSc ns sc && (decide (caps = capNs ns sc) && (r (relabelN true ns sc.names) elt' elt &&
      onC (fun c l => chkGen r ns (relabelN true ns sc.names) sc t it ifs c fun x => chkMore r (relabelN true ns sc.names) sc x l more) gs))) pe
noncomputable def chk (g : Gl) : Nat → Chk
  | 0 => fun _ _ _ => false
  | n + 1 => chkE g (chk g n)

noncomputable def cLast (k : PySem.Expr) : Option Bool := if onConst (fun c => decide (c = .int 0)) k = true then some false else if onUn (fun o a => decide (o = .USub) && onConst (fun c => decide (c = .int 1)) a) k = true then some true else none

noncomputable def notComp (e : PySem.Expr) : Bool := !([8, 9, 10].contains e.ctorIdx)
/-- x, y = a, b : the stores are exchanged -/
noncomputable def okTwo (ns : Names) (x : Str) (p : Pos) (y : Str) (q : Pos) (a b : PySem.Expr) : Bool := ns.lookup x == some .local && ns.lookup y == some .local && p.line == q.line && x != y &&
  !(foldedForSure 8 a && foldedForSure 8 b) && !(constantsAlone 8 a && constantsAlone 8 b)
noncomputable def cA (o : Operator) : Option Op2 := match o with
  | .Add => some .add
  | .Sub => some .sub
  | _ => none
noncomputable def chkM (r : PySem.Stmt → S → Bool) : List PySem.Stmt → List S → Bool
  | [] => fun l => on0 l
  | a :: l => onC fun b m => r a b && chkM r l m
/-- name = value -/
noncomputable def onSet (ns : Names) (i : Nat) (k : PySem.Expr → Bool) : PySem.Stmt → Bool := onAssign fun l v => on1 (onName fun x _ => decide (varIx ns x = some i) && k v) l
/-- name.m(..) -/
noncomputable def onMeth (m : Str) (k : PySem.Expr → List PySem.Expr → Bool) : PySem.Expr → Bool := onCall fun h l w p => on0 w && onAttr (fun o x q => decide (x = m) && ((q.endLine == p.line) && k o l)) h
noncomputable def isName (k : Bool) : PySem.Expr → Bool := onName fun _ _ => k
noncomputable def onBk (m : Str) (n u v : PySem.Expr → Bool) (k : CmpOp → PySem.Expr → Bool) (a : List PySem.Stmt → Bool) : PySem.Stmt → Bool :=
  onIfS fun c b e => on0 e && (a b && onCmp (fun h os rs => on1 (fun o => on1 (fun r => k o r) rs) os && onMeth m (fun o l => isName (n o) o && on2 (fun x y => u x && v y) l) h) c)
noncomputable def chkSF (g : Gl) (r : PySem.Expr → E → Bool) (m : PySem.Stmt → S → Bool) (ns : Names) (ps : PySem.Stmt) : S → Bool
  | .asg i e => onSet ns i (fun v => r v e) ps
  | .asgNew i l => onSet ns i (onList fun l' => decide (l'.length < 1000) && chkL r l' l) ps
  | .asgDict i => onSet ns i (onDict fun a b => on0 a && on0 b) ps
  | .newBook i => onSet ns i (onCall fun h l w _ => on0 w && (onName (fun f _ => decide (f = ("Headers" : Str)) && isGlob ns f) h && on1 (onList on0) l)) ps
  | .asgSplit i o sep => onSet ns i (onMeth "split" fun o' l => on1 (fun s => plainBase o' && (r o' o && r s sep)) l) ps
  | .seti i k v => onAssign (fun l v' => on1 (onSub fun n k' => isName (notComp v' && (r n (.var i) && (r k' k && r v' v))) n) l) ps
  | .asg2 i j a b => onAssign (fun l v => on1 (onTup (on2 fun n1 n2 => onName (fun x p => onName (fun y q => onTup (on2 fun a' b' => okTwo ns x p y q a' b' && (decide (varIx ns x = some i) && (decide (varIx ns y = some j) && (r a' a && r b' b)))) v) n2) n1)) l) ps
  | .aug i o e => onAug (fun n o' v => isName (r n (.var i) && (decide (cA o' = some o) && r v e)) n) ps
  | .app i e => onExprS (onMeth "append" fun n l => on1 (fun e' => isName (r n (.var i) && r e' e) n) l) ps
  | .ext i e => onExprS (onMeth "extend" fun n l => on1 (fun e' => isName (r n (.var i) && r e' e) n) l) ps
  | .del i last => onDel (on1 (onSub fun n k => isName (r n (.var i) && decide (cLast k = some last)) n)) ps
  | .addHdr i u v a => onBk "add_header" (fun n => r n (.var i)) (fun x => r x u) (fun x => r x v) (fun o => onConst fun c => decide (o = .IsNot) && decide (c = .none)) (fun b => chkM m b a) ps
  | .setDef i u v e a => onBk "setdefault" (fun n => r n (.var i)) (fun x => r x u) (fun x => r x v) (fun o x => decide (o = .NotEq) && r x e) (fun b => chkM m b a) ps
  | .ifs c a b => onIfS (fun c' a' b' => r c' c && (chkM m a' a && chkM m b' b)) ps
  | .for1 i it body => onFor (fun n it' b e => on0 e && onName (fun x _ => decide (varIx ns x = some i) && (r it' it && chkM m b body)) n) ps
  | .for2 i j it body => onFor (fun n it' b e => on0 e && onTup (on2 fun n1 n2 => onName (fun x _ => onName (fun y _ => decide (x ≠ y) && (decide (varIx ns x = some i) && (decide (varIx ns y = some j) && (r it' it && chkM m b body)))) n2) n1) n) ps
  | .while c body => onWhile (fun c' b e => on0 e && (r c' c && chkM m b body)) ps
  | .ret e => onRet (onO fun e' => r e' e) ps
  | .retItems i => onRet (onO (onMeth "items" fun n l => on0 l && isName (r n (.var i)) n)) ps
  | .asrt c => onAsrt (fun c' x => onNo x && r c' c) ps
  | .raise => true
noncomputable def chkS (g : Gl) : Nat → Names → PySem.Stmt → S → Bool
  | 0 => fun _ _ _ => false
  | n + 1 => fun ns => chkSF g (chk g n ns) (chkS g n ns) ns

/-! ### the evaluator -/
noncomputable abbrev D := PyData
inductive Slot where
  | val (d : D) | own (d : D) | book (l : List (Str × Str))
noncomputable abbrev Sg := List (Option Slot)

structure Fn where
  n : Nat
  params : Nat
  dflts : List D
  body : List S

structure Pg where
  fn : Str → Option Fn
  con : Str → Option D

noncomputable def asI : D → Option Int | .int i => some i | _ => none
noncomputable def asS : D → Option Str | .str i => some i | _ => none
noncomputable def asB : D → Option Bool | .bool i => some i | _ => none
noncomputable def asN : D → Option Unit | .none => some () | _ => none
noncomputable def asL : D → Option (List D) | .list i => some i | _ => none
noncomputable def asM : D → Option (List (D × D)) | .dict i => some i | _ => none
noncomputable def both {α β : Type} (f : D → Option α) (g : α → α → Option β) (x y : D) : Option β := (f x).bind fun a => (f y).bind fun b => g a b
noncomputable def bin2 : Op2 → D → D → Option D
  | .add => fun x y => (both asI (fun a b => some (.int (a + b))) x y).or ((both asS (fun a b => if a.length + b.length ≤ 10000 then some (.str (a ++ b)) else none) x y).or
      (both asL (fun a b => if a.length + b.length ≤ 10000 then some (.list (a ++ b)) else none) x y))
  | .sub => both asI fun a b => some (.int (a - b))
  | .fdiv => both asI fun a b => if 0 < b ∧ b ≤ 1000 then some (.int (a / b)) else none
  | .fmod => both asI fun a b => if 0 < b then some (.int (a % b)) else none

noncomputable def eq2 (x y : D) : Option Bool := (both asI (fun a b => some (a == b)) x y).or ((both asS (fun a b => some (a == b)) x y).or
  (both asL (fun a b => if PyData.canLayAll0 a && PyData.canLayAll0 b && decide (PyData.depthAll a ≤ 50) then some (PyData.eqvAll a b) else none) x y))
noncomputable def hasItem (x : D) (l : List D) : Option Bool :=
  if PyData.canLay0 x && PyData.canLayAll0 l && decide (PyData.depth x ≤ 50) then some (l.any fun y => PyData.eqv y x) else none

noncomputable def keyEq : D → D → Option Bool
  | .int a, .int b => some (a == b)
  | .str a, .str b => some (a == b)
  | _, _ => none
noncomputable def keyOk : D → Bool
  | .int _ => true
  | .str _ => true
  | _ => false
noncomputable def dGet (k : D) : List (D × D) → Option (Option D)
  | [] => some none
  | (a, v) :: r => do
    if ← keyEq k a then some (some v) else dGet k r
noncomputable def dPut (k v : D) : List (D × D) → Option (List (D × D))
  | [] => some [(k, v)]
  | (a, w) :: r => do
    if ← keyEq k a then some ((a, v) :: r) else do return (a, w) :: (← dPut k v r)

noncomputable def isD (x y : D) : Option Bool := (both asB (fun a b => some (a == b)) x y).or ((asN y).bind fun _ => ((asN x).map fun _ => true).or ((asI x).map fun _ => false))
noncomputable def inD (x y : D) : Option Bool := ((asM y).bind fun l => ((asI x).bind fun k => (dGet (.int k) l).map (·.isSome)).or ((asS x).bind fun k => (dGet (.str k) l).map (·.isSome))).or
  ((both asS (fun x y => some (!(Builtin.Str.occurrences y x 0 y.length 1).isEmpty)) x y).or ((asL y).bind fun l => hasItem x l))
noncomputable def cmp2 : Cp → D → D → Option Bool
  | .lt => both asI fun a b => some (decide (a < b))
  | .le => fun x y => (both asI (fun a b => some (decide (a ≤ b))) x y).or (both asS (fun a b => some (!decide (b.cps.toList < a.cps.toList))) x y)
  | .gt => both asI fun a b => some (decide (b < a))
  | .ge => both asI fun a b => some (decide (b ≤ a))
  | .eq => eq2
  | .ne => fun x y => (eq2 x y).map (!·)
  | .is => isD
  | .isNot => fun x y => (isD x y).map (!·)
  | .isIn => inD
  | .notIn => fun x y => (inD x y).map (!·)

noncomputable def wrapIx (k : Int) (n : Nat) : Option Nat :=
  if 0 ≤ k then (if k < n ∧ k < 1000000 then some k.toNat else none) else if 0 ≤ k + n ∧ -1000000 < k then some (k + n).toNat else none
noncomputable def idx2 : D → D → Option D
  | .list l, .int k => do l[← wrapIx k l.length]?
  | .str s, .int k => if -1000000 < k ∧ k < 1000000 then (Txt.charAt s k).map fun c => .str ⟨#[c]⟩ else none
  | .dict l, k => do (← dGet k l)
  | _, _ => none
/-- x[lo:hi] -/
noncomputable def strSl (x : Str) (lo hi : Option Int) : Str :=
  if (Builtin.Str.strSliceIndices lo hi 1 x.length).length == x.length then x else ⟨((Builtin.Str.strSliceIndices lo hi 1 x.length).filterMap (x.cps[·]?)).toArray⟩
noncomputable def slc2 : D → Option Int → Option Int → Option D
  | .list l, lo, hi => if l.length ≤ 100000 then some (.list ((l.drop (lo.elim 0 (clipAt l.length))).take (hi.elim l.length (clipAt l.length) - lo.elim 0 (clipAt l.length)))) else none
  | .str s, lo, hi => if (strSl s lo hi).length ≤ 100000 then some (.str (strSl s lo hi)) else none
  | _, _, _ => none

noncomputable def intsOf : List D → Option (List Int)
  | [] => some []
  | .int i :: r => do return i :: (← intsOf r)
  | _ :: _ => none
noncomputable def strsOf : List D → Option (List Str)
  | [] => some []
  | .str i :: r => do return i :: (← strsOf r)
  | _ :: _ => none
noncomputable def maxL (a : Int) : List Int → Int
  | [] => a
  | b :: r => maxL (if a < b then b else a) r
noncomputable def rangeL (a : Int) (st : Nat) : Nat → List D
  | 0 => []
  | n + 1 => .int a :: rangeL (a + st) st n
/-- range(a, b, st) for st > 0 -/
noncomputable def rangeD (a b : Int) (st : Nat) : List D := rangeL a st ((b - a + (st - 1)) / st).toNat
noncomputable def charsD (s : Str) : List D := s.cps.toList.map fun c => .str ⟨#[c]⟩

noncomputable def maxD : List Int → Option D | [] => none | a :: r => some (.int (maxL a r))
noncomputable def arg0 : List D → Option Unit | [] => some () | _ => none
noncomputable def arg1 : List D → Option D | [d] => some d | _ => none
noncomputable def arg2 : List D → Option (D × D) | [d, e] => some (d, e) | _ => none
noncomputable def arg3 : List D → Option (D × D × D) | [d, e, f] => some (d, e, f) | _ => none
noncomputable def bi2 : BI → List D → Option D
  | .len => fun ds => (arg1 ds).bind fun d => ((asL d).bind fun l => if l.length ≤ 100000 then some (.int l.length) else none).or ((asS d).bind fun s => if s.length ≤ 100000 then some (.int s.length) else none)
  | .sum => fun ds => (arg1 ds).bind fun d => (asL d).bind fun l => (intsOf l).bind fun xs => some (.int xs.sum)
  | .max => fun ds => (arg1 ds).bind fun d => (asL d).bind fun l => (intsOf l).bind maxD
  | .list => fun ds => (arg1 ds).bind fun d => (asS d).bind fun s => if s.length ≤ 100000 then some (.list (charsD s)) else none
  | .chr => fun ds => (arg1 ds).bind fun d => (asI d).bind fun i => if 0 ≤ i ∧ i ≤ 1000 then some (.str ⟨#[i.toNat]⟩) else none
  | .range => fun _ => none

noncomputable def bGet (l : List (Str × Str)) (name : Str) (d : Str) : Str := match l.find? fun p => Txt.lower p.1 == Txt.lower name with
  | some p => p.2
  | none => d
noncomputable def sdL (l : List (Str × Str)) (x y : Str) : List (Str × Str) := match l.find? fun p => Txt.lower p.1 == Txt.lower x with
  | some _ => l
  | none => l ++ [(x, y)]
/-- the short texts that the law hands to a Headers -/
noncomputable def hdrNames : List Str := ["a", "b", "A", "B", "p", "q", "r", "s", "t", "P", "Q", "R", "S", "T"]
noncomputable def figs : List Nat := [48, 49, 50, 51]
noncomputable def hdrVals : List Str := figs.flatMap fun x => figs.flatMap fun y => figs.map fun z => ⟨#[x, y, z]⟩
noncomputable def okHdr (x : Str) : Bool := (hdrNames ++ hdrVals).contains x

noncomputable def mth2 : MT → D → List D → Option D
  | .join => fun x ds => (asS x).bind fun s => (arg1 ds).bind fun d => ((asL d).bind fun l => (strsOf l).bind fun xs => if JoinOk s xs then some (.str (Txt.join s xs)) else none).or
      ((asS d).bind fun y => if JoinOk s (signs y) then some (.str (Txt.join s (signs y))) else none)
  | .lower => fun x ds => (asS x).bind fun s => (arg0 ds).bind fun _ => if Builtin.Str.tooLong (Txt.lower s).length = false then some (.str (Txt.lower s)) else none
  | .upper => fun x ds => (asS x).bind fun s => (arg0 ds).bind fun _ => if Builtin.Str.tooLong (Txt.upper s).length = false then some (.str (Txt.upper s)) else none
  | .startswith => fun x ds => (asS x).bind fun s => (arg1 ds).bind fun d => (asS d).bind fun y => some (.bool (Txt.startswith s y))
  | .endswith => fun x ds => (asS x).bind fun s => (arg1 ds).bind fun d => (asS d).bind fun y => some (.bool (Txt.endswith s y))
  | .find => fun x ds => (asS x).bind fun s => (arg3 ds).bind fun p => (asS p.1).bind fun y => (asI p.2.1).bind fun lo => (asI p.2.2).bind fun hi =>
      if 0 ≤ lo ∧ 0 ≤ hi then some (.int (match Builtin.Str.occurrences s y lo.toNat (min hi.toNat s.length) 1 with | i :: _ => (i : Int) | [] => -1)) else none
  | .index => fun x ds => (asS x).bind fun s => (arg1 ds).bind fun d => (asS d).bind fun y => (match Builtin.Str.occurrences s y 0 s.length 1 with | i :: _ => some (.int i) | [] => none)
  | .get => fun x ds => (asM x).bind fun l => (arg2 ds).bind fun p => ((asI p.1).bind fun k => (dGet (.int k) l).map (·.getD p.2)).or ((asS p.1).bind fun k => (dGet (.str k) l).map (·.getD p.2))

/-! the tables, row by row -/
theorem cmp2_lt (a b : Int) : cmp2 .lt (.int a) (.int b) = some (decide (a < b)) := rfl
theorem cmp2_le (a b : Int) : cmp2 .le (.int a) (.int b) = some (decide (a ≤ b)) := rfl
theorem cmp2_gt (a b : Int) : cmp2 .gt (.int a) (.int b) = some (decide (b < a)) := rfl
theorem cmp2_ge (a b : Int) : cmp2 .ge (.int a) (.int b) = some (decide (b ≤ a)) := rfl
theorem cmp2_eq (a b : D) : cmp2 .eq a b = eq2 a b := rfl
theorem cmp2_ne (a b : D) : cmp2 .ne a b = (eq2 a b).map (!·) := rfl
theorem cmp2_inI (x : Int) (l : List (D × D)) : cmp2 .isIn (.int x) (.dict l) = (dGet (.int x) l).map (·.isSome) := by show ((((dGet (.int x) l).map (·.isSome)).or none).or none) = _; cases dGet (.int x) l <;> rfl
theorem cmp2_notInI (x : Int) (l : List (D × D)) : cmp2 .notIn (.int x) (.dict l) = (dGet (.int x) l).map (!·.isSome) := by show ((((dGet (.int x) l).map (·.isSome)).or none).or none).map _ = _; cases dGet (.int x) l <;> rfl
theorem cmp2_inS (x : Str) (l : List (D × D)) : cmp2 .isIn (.str x) (.dict l) = (dGet (.str x) l).map (·.isSome) := by show ((((dGet (.str x) l).map (·.isSome))).or none) = _; cases dGet (.str x) l <;> rfl
theorem cmp2_notInS (x : Str) (l : List (D × D)) : cmp2 .notIn (.str x) (.dict l) = (dGet (.str x) l).map (!·.isSome) := by show ((((dGet (.str x) l).map (·.isSome))).or none).map _ = _; cases dGet (.str x) l <;> rfl
theorem cmp2_inT (x y : Str) : cmp2 .isIn (.str x) (.str y) = some (!(Builtin.Str.occurrences y x 0 y.length 1).isEmpty) := rfl
theorem cmp2_notInT (x y : Str) : cmp2 .notIn (.str x) (.str y) = some (!!(Builtin.Str.occurrences y x 0 y.length 1).isEmpty) := rfl
theorem cmp2_notInL (x : Int) (l : List D) : cmp2 .notIn (.int x) (.list l) = (hasItem (.int x) l).map (!·) := rfl
theorem eq2_int (a b : Int) : eq2 (.int a) (.int b) = some (a == b) := rfl
theorem eq2_str (a b : Str) : eq2 (.str a) (.str b) = some (a == b) := rfl
theorem eq2_list (a b : List D) : eq2 (.list a) (.list b) = if PyData.canLayAll0 a && PyData.canLayAll0 b && decide (PyData.depthAll a ≤ 50) then some (PyData.eqvAll a b) else none := rfl
theorem bin2_add (a b : Int) : bin2 .add (.int a) (.int b) = some (.int (a + b)) := rfl
theorem bin2_addL (a b : List D) : bin2 .add (.list a) (.list b) = if a.length + b.length ≤ 10000 then some (.list (a ++ b)) else none := rfl
theorem bin2_sub (a b : Int) : bin2 .sub (.int a) (.int b) = some (.int (a - b)) := rfl
theorem bi2_lenL (l : List D) : bi2 .len [.list l] = if l.length ≤ 100000 then some (.int l.length) else none := by show (if l.length ≤ 100000 then some _ else none : Option D).or none = _; split <;> rfl
theorem bi2_lenS (s : Str) : bi2 .len [.str s] = if s.length ≤ 100000 then some (.int s.length) else none := rfl
theorem bi2_sum (l : List D) : bi2 .sum [.list l] = (intsOf l).bind fun xs => some (.int xs.sum) := rfl
theorem bi2_max (l : List D) : bi2 .max [.list l] = (intsOf l).bind maxD := rfl
theorem mth2_join (s : Str) (l : List D) : mth2 .join (.str s) [.list l] = (strsOf l).bind fun xs => if JoinOk s xs then some (.str (Txt.join s xs)) else none := by
  show Option.or _ none = _
  exact Option.or_none
theorem mth2_find (s y : Str) (lo hi : Int) : mth2 .find (.str s) [.str y, .int lo, .int hi] = if 0 ≤ lo ∧ 0 ≤ hi then some (.int (match Builtin.Str.occurrences s y lo.toNat (min hi.toNat s.length) 1 with | i :: _ => (i : Int) | [] => -1)) else none := rfl
theorem mth2_getI (l : List (D × D)) (k : Int) (d : D) : mth2 .get (.dict l) [.int k, d] = (dGet (.int k) l).map (·.getD d) := by
  show Option.or _ none = _
  exact Option.or_none
theorem mth2_getS (l : List (D × D)) (k : Str) (d : D) : mth2 .get (.dict l) [.str k, d] = (dGet (.str k) l).map (·.getD d) := rfl
theorem idx2_list (l : List D) (k : Int) : idx2 (.list l) (.int k) = (wrapIx k l.length).bind fun i => l[i]? := rfl
theorem idx2_str (s : Str) (k : Int) : idx2 (.str s) (.int k) = if -1000000 < k ∧ k < 1000000 then (Txt.charAt s k).map fun c => .str ⟨#[c]⟩ else none := rfl
theorem idx2_dict (l : List (D × D)) (k : D) : idx2 (.dict l) k = (dGet k l).bind fun o => o := rfl
theorem slc2_list (l : List D) (lo hi : Option Int) : slc2 (.list l) lo hi = if l.length ≤ 100000 then some (.list ((l.drop (lo.elim 0 (clipAt l.length))).take (hi.elim l.length (clipAt l.length) - lo.elim 0 (clipAt l.length)))) else none := rfl
theorem slc2_str (s : Str) (lo hi : Option Int) : slc2 (.str s) lo hi = if (strSl s lo hi).length ≤ 100000 then some (.str (strSl s lo hi)) else none := rfl

structure Lo where
  ev : Sg → E → Option D
  pk : Sg → E → Option D
  it : Sg → E → Option (List D)
  tst : Sg → E → Option Bool
  ex : Sg → S → Option (Option D × Sg)
  run : Sg → List S → Option (Option D × Sg)

noncomputable def itemsOf (d : D) : Option (List D) := (asL d).or ((asS d).map charsD)
noncomputable def callF (P : Pg) (L : Lo) (f : Str) (ds : List D) : Option D := do
  let fn ← P.fn f
  if ds.length + fn.dflts.length = fn.params ∧ fn.params ≤ fn.n then do
    let (r, _) ← L.run ((ds ++ fn.dflts).map (fun d => some (.val d)) ++ List.replicate (fn.n - fn.params) none) fn.body
    return r.getD .none
  else none
noncomputable def allT (L : Lo) (σ : Sg) : List E → Option Bool
  | [] => some true
  | c :: r => do if ← L.tst σ c then allT L σ r else some false
noncomputable def compL2 (L : Lo) (elt : E) (t : Nat) (ifs : List E) (σ : Sg) : List D → Option (List D)
  | [] => some []
  | d :: r => do
    let σ1 := σ.set t (some (.val d))
    let here ← (do if ← allT L σ1 ifs then return [← L.ev σ1 elt] else some [])
    return here ++ (← compL2 L elt t ifs σ1 r)
noncomputable def compL1 (L : Lo) (elt : E) (t : Nat) (ifs : List E) (more : Option (Nat × E × List E)) (σ : Sg) : List D → Option (List D)
  | [] => some []
  | d :: r => do
    let σ1 := σ.set t (some (.val d))
    if ← allT L σ1 ifs then
      match more with
      | none => do
        let x ← L.ev σ1 elt
        return x :: (← compL1 L elt t ifs more σ1 r)
      | some (t2, it2, ifs2) => do
        let src ← L.it σ1 it2
        let here ← compL2 L elt t2 ifs2 σ1 src
        return here ++ (← compL1 L elt t ifs more σ r)
    else compL1 L elt t ifs more σ1 r
noncomputable def optInt (L : Lo) (σ : Sg) : Option E → Option (Option Int)
  | none => some none
  | some e => (L.ev σ e).bind fun d => (asI d).bind fun i => some (some i)

/-! what a slot holds -/
noncomputable def valD : Option (Option Slot) → Option D | some (some (.val d)) => some d | _ => none
noncomputable def ownD : Option (Option Slot) → Option D | some (some (.own d)) => some d | _ => none
noncomputable def bookD : Option (Option Slot) → Option (List (Str × Str)) | some (some (.book d)) => some d | _ => none
noncomputable def asV (e : E) : Option Nat := if h : e.ctorIdx = 4 then E.var.elim (motive_1 := fun _ => Option Nat) e h some else none
noncomputable def asR (e : E) : Option (List E) := if h : e.ctorIdx = 18 then E.bi.elim (motive_1 := fun _ => Option (List E)) e h (fun f l => if f = .range then some l else none) else none
noncomputable def isT (e : E) : Bool := [8, 9, 10, 11, 12].contains e.ctorIdx
noncomputable def inOp : Cp → Bool | .isIn => true | .notIn => true | _ => false
noncomputable def rhs (L : Lo) (σ : Sg) (o : Cp) (b : E) : Option D := if inOp o = true then L.pk σ b else L.ev σ b
noncomputable def andE (L : Lo) (σ : Sg) (b : Bool) : List E → Option D
  | [] => some (.bool b)
  | c :: r => if b = true then L.ev σ (.andl c r) else some (.bool false)
noncomputable def orE (L : Lo) (σ : Sg) (b : Bool) : List E → Option D
  | [] => some (.bool b)
  | c :: r => if b = true then some (.bool true) else L.ev σ (.orl c r)
noncomputable def pairE : List E → Option (E × E) | [a, b] => some (a, b) | _ => none
noncomputable def bkOf (σ : Sg) (o : E) : Option (Nat × List (Str × Str)) := (asV o).bind fun i => (bookD σ[i]?).bind fun l => some (i, l)
noncomputable def getF (L : Lo) (σ : Sg) (bk : List (Str × Str)) (m : MT) (l : List E) : Option D :=
  if m = .get then (pairE l).bind fun p => (L.ev σ p.1).bind fun x => (asS x).bind fun x => (L.ev σ p.2).bind fun y => (asS y).bind fun y =>
    if okHdr x ∧ bk.all (fun p => okHdr p.1) then some (.str (bGet bk x y)) else none
  else none
noncomputable def pvOf (L : Lo) (σ : Sg) (o : E) : Option D := (asV o).elim (L.ev σ o) fun _ => L.pk σ o
noncomputable def mthF (L : Lo) (σ : Sg) (m : MT) (o : E) (l : List E) : Option D :=
  (bkOf σ o).elim ((pvOf L σ o).bind fun x => (l.mapM (L.ev σ)).bind fun ds => mth2 m x ds) fun p => getF L σ p.2 m l

noncomputable def evF (P : Pg) (L : Lo) (σ : Sg) : E → Option D
  | .none => some .none | .bool b => some (.bool b) | .int i => some (.int i) | .str s => some (.str s)
  | .var i => valD σ[i]?
  | .con x => P.con x
  | .bin o a b => (L.ev σ a).bind fun x => (L.ev σ b).bind fun y => bin2 o x y
  | .neg a => (L.ev σ a).bind fun x => (asI x).bind fun i => some (.int (-i))
  | .not a => (L.ev σ a).bind fun x => (asB x).bind fun b => some (.bool (!b))
  | .cmp o a b => (L.ev σ a).bind fun x => (rhs L σ o b).bind fun y => (cmp2 o x y).bind fun t => some (.bool t)
  | .andl a l => (L.ev σ a).bind fun x => (asB x).bind fun b => andE L σ b l
  | .orl a l => (L.ev σ a).bind fun x => (asB x).bind fun b => orE L σ b l
  | .ite c a b => (L.tst σ c).bind fun t => if t = true then L.ev σ a else L.ev σ b
  | .idx a i => (L.pk σ a).bind fun x => (L.ev σ i).bind fun y => idx2 x y
  | .slc a lo hi => (L.pk σ a).bind fun x => (optInt L σ lo).bind fun l => (optInt L σ hi).bind fun h => slc2 x l h
  | .lst l => (l.mapM (L.ev σ)).bind fun ds => some (.list ds)
  | .tup l => (l.mapM (L.ev σ)).bind fun ds => some (.tuple ds)
  | .call f l => (l.mapM (L.ev σ)).bind fun ds => callF P L f ds
  | .bi f l => (l.mapM (L.pk σ)).bind fun ds => bi2 f ds
  | .mth m o l => mthF L σ m o l
  | .comp caps elt t it ifs more => do
      let src ← L.it σ it
      let σ' : Sg := caps.map fun c => match c with | some i => (σ[i]?).join | none => none
      let r ← compL1 L elt t ifs more σ' src
      if r.length ≤ 10000 then return .list r else none

noncomputable def pkF (L : Lo) (σ : Sg) (e : E) : Option D := (asV e).elim (L.ev σ e) fun i => (valD σ[i]?).or (ownD σ[i]?)
noncomputable def rangeA (ds : List D) : Option (List D) := ((arg1 ds).bind fun d => (asI d).bind fun b => if -1000000 < b ∧ b < 1000000 then some (rangeD 0 b 1) else none).or
  ((arg3 ds).bind fun p => (asI p.1).bind fun a => (asI p.2.1).bind fun b => (asI p.2.2).bind fun s => if 0 < s ∧ s ≤ 1000 ∧ -1000000 < a ∧ a < 1000000 ∧ -1000000 < b ∧ b < 1000000 then some (rangeD a b s.toNat) else none)
noncomputable def itF (L : Lo) (σ : Sg) (e : E) : Option (List D) :=
  (asV e).elim ((asR e).elim ((L.ev σ e).bind itemsOf) fun l => (l.mapM (L.ev σ)).bind rangeA) fun i => ((valD σ[i]?).bind itemsOf).or ((ownD σ[i]?).bind asL)
noncomputable def boolOf (d : D) : Option Bool := (asB d).or ((asS d).bind fun s => if s.length ≤ 100000 then some (!(s.length == 0)) else none)
noncomputable def andT2 (L : Lo) (σ : Sg) : List E → Option Bool
  | [] => some true
  | c :: r => L.tst σ (.andl c r)
noncomputable def orT2 (L : Lo) (σ : Sg) : List E → Option Bool
  | [] => some false
  | c :: r => L.tst σ (.orl c r)
noncomputable def tstT (L : Lo) (σ : Sg) : E → Option Bool
  | .not a => (L.tst σ a).bind fun t => some (!t)
  | .andl a l => (L.tst σ a).bind fun t => if t = true then andT2 L σ l else some false
  | .orl a l => (L.tst σ a).bind fun t => if t = true then some true else orT2 L σ l
  | .cmp o a b => (L.ev σ a).bind fun x => (rhs L σ o b).bind fun y => cmp2 o x y
  | _ => none
noncomputable def tstF (L : Lo) (σ : Sg) (e : E) : Option Bool := if isT e = true then tstT L σ e else (L.ev σ e).bind boolOf

noncomputable def forL (L : Lo) (i : Nat) (body : List S) : Sg → List D → Option (Option D × Sg)
  | σ, [] => some (none, σ)
  | σ, d :: r => do
    match ← L.run (σ.set i (some (.val d))) body with
    | (some v, σ') => some (some v, σ')
    | (none, σ') => forL L i body σ' r
noncomputable def for2L (L : Lo) (i j : Nat) (body : List S) : Sg → List D → Option (Option D × Sg)
  | σ, [] => some (none, σ)
  | σ, .tuple [x, y] :: r => do
    match ← L.run ((σ.set i (some (.val x))).set j (some (.val y))) body with
    | (some v, σ') => some (some v, σ')
    | (none, σ') => for2L L i j body σ' r
  | _, _ :: _ => none
noncomputable def whileL (L : Lo) (c : E) (body : List S) : Nat → Sg → Option (Option D × Sg)
  | 0, _ => none
  | k + 1, σ => do
      if ← L.tst σ c then
        match ← L.run σ body with
        | (some v, σ') => some (some v, σ')
        | (none, σ') => whileL L c body k σ'
      else some (none, σ)
/-- the name that a loop goes over is not changed any more -/
noncomputable def frz (σ : Sg) (e : E) : Sg := (asV e).elim σ fun i => (ownD σ[i]?).elim σ fun d => σ.set i (some (.val d))

noncomputable def setI (σ : Sg) (i : Nat) (k w : D) : Option (Option D × Sg) := (ownD σ[i]?).bind fun x => (asM x).bind fun l =>
  if l.length ≤ 10000 ∧ keyOk k = true then (dPut k w l).bind fun d => some (none, σ.set i (some (.own (.dict d)))) else none
noncomputable def delL (last : Bool) : List D → Option (List D)
  | [] => none
  | x :: l => if l.length ≤ 10000 then some (if last then (x :: l).dropLast else l) else none
noncomputable def exF (L : Lo) (σ : Sg) : S → Option (Option D × Sg)
  | .asg i e => (L.ev σ e).bind fun d => some (none, σ.set i (some (.val d)))
  | .asgNew i l => (l.mapM (L.ev σ)).bind fun ds => some (none, σ.set i (some (.own (.list ds))))
  | .asgDict i => some (none, σ.set i (some (.own (.dict []))))
  | .asgSplit i o sep => (L.ev σ o).bind fun x => (asS x).bind fun x => (L.ev σ sep).bind fun y => (asS y).bind fun y =>
      if 0 < y.length ∧ x.length ≤ 100000 ∧ (Builtin.Str.partsBetween x (Builtin.Str.occurrences x y 0 x.length (x.length + 1)) y.length).length ≤ 100000 then some (none, σ.set i (some (.own (.list ((Txt.split x y).map .str))))) else none
  | .asg2 i j a b => (L.ev σ a).bind fun x => (L.ev σ b).bind fun y => some (none, (σ.set i (some (.val x))).set j (some (.val y)))
  | .aug i o e => (valD σ[i]?).bind fun x => (asI x).bind fun a => (L.ev σ e).bind fun y => (asI y).bind fun b => (bin2 o (.int a) (.int b)).bind fun d => some (none, σ.set i (some (.val d)))
  | .app i e => (ownD σ[i]?).bind fun x => (asL x).bind fun l => (L.ev σ e).bind fun d => if l.length ≤ 10000 then some (none, σ.set i (some (.own (.list (l ++ [d]))))) else none
  | .ext i e => (ownD σ[i]?).bind fun x => (asL x).bind fun l => (L.ev σ e).bind fun y => (asL y).bind fun k => if l.length + k.length ≤ 10000 then some (none, σ.set i (some (.own (.list (l ++ k))))) else none
  | .seti i k v => (L.ev σ v).bind fun w => (L.ev σ k).bind fun k => setI σ i k w
  | .del i last => (ownD σ[i]?).bind fun x => (asL x).bind fun l => (delL last l).bind fun l => some (none, σ.set i (some (.own (.list l))))
  | .ifs c a b => (L.tst σ c).bind fun t => if t = true then L.run σ a else L.run σ b
  | .for1 i it body => (L.it σ it).bind fun src => forL L i body (frz σ it) src
  | .for2 i j it body => (L.it σ it).bind fun src => for2L L i j body (frz σ it) src
  | .while c body => whileL L c body 100 σ
  | .ret e => (L.pk σ e).bind fun d => some (some d, σ)
  | .asrt c => (L.tst σ c).bind fun t => if t = true then some (none, σ) else none
  | .raise => none
  | .newBook i => some (none, σ.set i (some (.book [])))
  | .addHdr i a b _ => (bookD σ[i]?).bind fun l => (L.ev σ a).bind fun x => (asS x).bind fun x => (L.ev σ b).bind fun y => (asS y).bind fun y =>
      if okHdr x ∧ okHdr y ∧ l.length ≤ 1000 then some (none, σ.set i (some (.book (l ++ [(x, y)])))) else none
  | .setDef i a b rhs _ => (bookD σ[i]?).bind fun l => (L.ev σ a).bind fun x => (asS x).bind fun x => (L.ev σ b).bind fun y => (asS y).bind fun y =>
      if okHdr x ∧ okHdr y ∧ l.all (fun p => okHdr p.1) ∧ l.length ≤ 1000 then (L.ev (σ.set i (some (.book (sdL l x y)))) rhs).bind fun z => (asS z).bind fun z =>
        if bGet l x y = z then some (none, σ.set i (some (.book (sdL l x y)))) else none
      else none
  | .retItems i => (bookD σ[i]?).bind fun l => if l.length ≤ 1000 then some (some (.list (l.map fun p => .tuple [.str p.1, .str p.2])), σ) else none

theorem elimN {α β : Type} {o : Option α} {x : β} {f : α → β} {z : β} (ho : o = none) (h : x = z) : o.elim x f = z := by subst ho; exact h
noncomputable def runF (L : Lo) (σ : Sg) : List S → Option (Option D × Sg)
  | [] => some (none, σ)
  | s :: r => do match ← L.ex σ s with
    | (some v, σ') => some (some v, σ')
    | (none, σ') => L.run σ' r

noncomputable def lo (P : Pg) : Nat → Lo
  | 0 => ⟨fun _ _ => none, fun _ _ => none, fun _ _ => none, fun _ _ => none, fun _ _ => none, fun _ _ => none⟩
  | n + 1 => ⟨evF P (lo P n), pkF (lo P n), itF (lo P n), tstF (lo P n), exF (lo P n), runF (lo P n)⟩

end Mine
end
section
open PySem
namespace Mine
noncomputable def theDefs : List Str := ["bisect_right", "bisect_left", "_ellipsis_match", "ISTERMINAL", "ISNONTERMINAL", "ISEOF", "_law_cells", "_law_rules", "_law_words", "_law_figures", "_law_name", "_law_led", "_law_asked", "_law_stands", "_law_spans", "_law_walk", "_law_due", "law"]
noncomputable def theCons : List Str := ["ELLIPSIS_MARKER", "ENDMARKER", "NT_OFFSET"]
noncomputable def theGl : Gl := ⟨theDefs, theCons⟩
noncomputable def b_bisectright : Fn := ⟨6, 5, [.int 0, .none, .none],
[S.ifs (E.cmp (Cp.lt) (E.var 2) (E.int 0)) [S.raise] [],
 S.ifs
   (E.cmp (Cp.is) (E.var 3) (E.none))
   [S.asg 3 (E.bi (BI.len) [E.var 0])]
   [],
 S.ifs
   (E.cmp (Cp.is) (E.var 4) (E.none))
   [S.while
      (E.cmp (Cp.lt) (E.var 2) (E.var 3))
      [S.asg
         5
         (E.bin (Op2.fdiv) (E.bin (Op2.add) (E.var 2) (E.var 3)) (E.int 2)),
       S.ifs
         (E.cmp (Cp.lt) (E.var 1) (E.idx (E.var 0) (E.var 5)))
         [S.asg 3 (E.var 5)]
         [S.asg 2 (E.bin (Op2.add) (E.var 5) (E.int 1))]]]
   [S.while
      (E.cmp (Cp.lt) (E.var 2) (E.var 3))
      [S.asg
         5
         (E.bin (Op2.fdiv) (E.bin (Op2.add) (E.var 2) (E.var 3)) (E.int 2)),
       S.raise]],
 S.ret (E.var 2)]⟩
noncomputable def b_bisectleft : Fn := ⟨6, 5, [.int 0, .none, .none],
[S.ifs (E.cmp (Cp.lt) (E.var 2) (E.int 0)) [S.raise] [],
 S.ifs
   (E.cmp (Cp.is) (E.var 3) (E.none))
   [S.asg 3 (E.bi (BI.len) [E.var 0])]
   [],
 S.ifs
   (E.cmp (Cp.is) (E.var 4) (E.none))
   [S.while
      (E.cmp (Cp.lt) (E.var 2) (E.var 3))
      [S.asg
         5
         (E.bin (Op2.fdiv) (E.bin (Op2.add) (E.var 2) (E.var 3)) (E.int 2)),
       S.ifs
         (E.cmp (Cp.lt) (E.idx (E.var 0) (E.var 5)) (E.var 1))
         [S.asg 2 (E.bin (Op2.add) (E.var 5) (E.int 1))]
         [S.asg 3 (E.var 5)]]]
   [S.while
      (E.cmp (Cp.lt) (E.var 2) (E.var 3))
      [S.asg
         5
         (E.bin (Op2.fdiv) (E.bin (Op2.add) (E.var 2) (E.var 3)) (E.int 2)),
       S.raise]],
 S.ret (E.var 2)]⟩
noncomputable def b_ellipsismatch : Fn := ⟨6, 2, [],
[S.ifs
   (E.cmp
     (Cp.notIn)
     (E.con { cps := #[69, 76, 76, 73, 80, 83, 73, 83, 95, 77, 65, 82, 75, 69, 82] })
     (E.var 0))
   [S.ret (E.cmp (Cp.eq) (E.var 0) (E.var 1))]
   [],
 S.asgSplit 2 (E.var 0) (E.con { cps := #[69, 76, 76, 73, 80, 83, 73, 83, 95, 77, 65, 82, 75, 69, 82] }),
 S.asrt (E.cmp (Cp.ge) (E.bi (BI.len) [E.var 2]) (E.int 2)),
 S.asg2 3 4 (E.int 0) (E.bi (BI.len) [E.var 1]),
 S.asg 5 (E.idx (E.var 2) (E.int 0)),
 S.ifs
   (E.var 5)
   [S.ifs
      (E.mth (MT.startswith) (E.var 1) [E.var 5])
      [S.asg 3 (E.bi (BI.len) [E.var 5]), S.del 2 false]
      [S.ret (E.bool false)]]
   [],
 S.asg 5 (E.idx (E.var 2) (E.neg (E.int 1))),
 S.ifs
   (E.var 5)
   [S.ifs
      (E.mth (MT.endswith) (E.var 1) [E.var 5])
      [S.aug 4 (Op2.sub) (E.bi (BI.len) [E.var 5]), S.del 2 true]
      [S.ret (E.bool false)]]
   [],
 S.ifs (E.cmp (Cp.gt) (E.var 3) (E.var 4)) [S.ret (E.bool false)] [],
 S.for1
   5
   (E.var 2)
   [S.asg 3 (E.mth (MT.find) (E.var 1) [E.var 5, E.var 3, E.var 4]),
    S.ifs (E.cmp (Cp.lt) (E.var 3) (E.int 0)) [S.ret (E.bool false)] [],
    S.aug 3 (Op2.add) (E.bi (BI.len) [E.var 5])],
 S.ret (E.bool true)]⟩
noncomputable def b_ISTERMINAL : Fn := ⟨1, 1, [],
[S.ret (E.cmp (Cp.lt) (E.var 0) (E.con { cps := #[78, 84, 95, 79, 70, 70, 83, 69, 84] }))]⟩
noncomputable def b_ISNONTERMINAL : Fn := ⟨1, 1, [],
[S.ret (E.cmp (Cp.ge) (E.var 0) (E.con { cps := #[78, 84, 95, 79, 70, 70, 83, 69, 84] }))]⟩
noncomputable def b_ISEOF : Fn := ⟨1, 1, [],
[S.ret (E.cmp (Cp.eq) (E.var 0) (E.con { cps := #[69, 78, 68, 77, 65, 82, 75, 69, 82] }))]⟩
noncomputable def b_lawcells : Fn := ⟨2, 1, [],
[S.asgNew 1 [E.int 68, E.int 9, E.int 176, E.int 219, E.int 382],
 S.ret
   (E.comp
     [none, none, some 1, some 0]
     (E.bin
       (Op2.add)
       (E.idx (E.var 2) (E.var 1))
       (E.bi
         (BI.sum)
         [E.comp
            [none, none, some 3]
            (E.idx (E.var 2) (E.var 1))
            1
            (E.bi (BI.range) [E.var 1, E.bi (BI.len) [E.var 3], E.int 5])
            []
            none]))
     1
     (E.bi (BI.range) [E.int 5])
     []
     none)]⟩
noncomputable def b_lawrules : Fn := ⟨3, 1, [],
[S.asgNew
   1
   [E.int 97,
    E.int 65,
    E.int 98,
    E.int 66,
    E.int 256,
    E.int 257,
    E.int 258,
    E.int 259],
 S.asg
   2
   (E.comp
     [none, none, some 1]
     (E.lst
       [E.bin (Op2.add) (E.int 256) (E.bin (Op2.fmod) (E.var 1) (E.int 4)),
        E.idx
          (E.var 2)
          (E.bin (Op2.fmod) (E.bin (Op2.fdiv) (E.var 1) (E.int 4)) (E.int 8)),
        E.idx
          (E.var 2)
          (E.bin (Op2.fmod) (E.bin (Op2.fdiv) (E.var 1) (E.int 32)) (E.int 8))])
     1
     (E.slc (E.var 0) none (some (E.int 4)))
     []
     none),
 S.ret
   (E.bin
     (Op2.add)
     (E.var 2)
     (E.lst [E.lst [E.int 260, E.int 256, E.int 257, E.int 258, E.int 259]]))]⟩
noncomputable def b_lawwords : Fn := ⟨3, 1, [],
[S.asgDict 1,
 S.for1
   2
   (E.var 0)
   [S.ifs
      (E.cmp (Cp.notIn) (E.idx (E.var 2) (E.int 0)) (E.var 1))
      [S.seti
         1
         (E.idx (E.var 2) (E.int 0))
         (E.mth
           (MT.join)
           (E.str { cps := #[] })
           [E.comp
              [none, none, some 1]
              (E.ite
                (E.cmp (Cp.lt) (E.var 1) (E.int 256))
                (E.mth (MT.lower) (E.bi (BI.chr) [E.var 1]) [])
                (E.mth (MT.get) (E.var 2) [E.var 1, E.str { cps := #[] }]))
              1
              (E.slc (E.var 2) (some (E.int 1)) none)
              []
              none])]
      []],
 S.ret (E.var 1)]⟩
noncomputable def b_lawfigures : Fn := ⟨3, 1, [],
[S.asg 1 (E.bin (Op2.fmod) (E.var 0) (E.int 2)),
 S.asg
   2
   (E.bi
     (BI.max)
     [E.lst
        [E.var 1,
         E.bin (Op2.fmod) (E.bin (Op2.fdiv) (E.var 0) (E.int 2)) (E.int 3)]]),
 S.ret
   (E.bin
     (Op2.add)
     (E.bin
       (Op2.add)
       (E.idx (E.str { cps := #[48, 49, 50, 51] }) (E.var 1))
       (E.idx (E.str { cps := #[48, 49, 50, 51] }) (E.var 2)))
     (E.idx
       (E.str { cps := #[48, 49, 50, 51] })
       (E.bi
         (BI.max)
         [E.lst
            [E.var 2,
             E.bin (Op2.fmod) (E.bin (Op2.fdiv) (E.var 0) (E.int 6)) (E.int 4)]])))]⟩
noncomputable def b_lawname : Fn := ⟨1, 1, [],
[S.ifs
   (E.call { cps := #[73, 83, 78, 79, 78, 84, 69, 82, 77, 73, 78, 65, 76] } [E.var 0])
   [S.ret
      (E.idx
        (E.str { cps := #[112, 113, 114, 115, 116] })
        (E.bin (Op2.sub) (E.var 0) (E.int 256)))]
   [],
 S.ret (E.bi (BI.chr) [E.var 0])]⟩
noncomputable def b_lawled : Fn := ⟨13, 3, [],
[S.newBook 3,
 S.for2
   4
   5
   (E.lst
     [E.tup [E.str { cps := #[97] }, E.var 1],
      E.tup [E.str { cps := #[98] }, E.var 2],
      E.tup [E.str { cps := #[65] }, E.var 2],
      E.tup [E.str { cps := #[66] }, E.var 1]])
   [S.addHdr 3 (E.var 4) (E.var 5) [S.ret (E.lst [])]],
 S.asgDict 6,
 S.asgNew 7 [],
 S.asg 8 (E.bool false),
 S.for1
   9
   (E.var 0)
   [S.ifs
      (E.call { cps := #[73, 83, 69, 79, 70] } [E.var 9])
      [S.asgNew 10 [E.int 0, E.int 1, E.int 2],
       S.for1
         11
         (E.slc (E.var 7) (some (E.int 1)) none)
         [S.asg
            12
            (E.comp
              [none, none]
              (E.mth (MT.index) (E.str { cps := #[48, 49, 50, 51] }) [E.var 1])
              1
              (E.mth
                (MT.get)
                (E.var 3)
                [E.call { cps := #[95, 108, 97, 119, 95, 110, 97, 109, 101] } [E.var 11],
                 E.str { cps := #[49, 50, 51] }])
              []
              none),
          S.asg
            10
            (E.comp
              [none, none, some 12]
              (E.call
                { cps := #[98, 105, 115, 101, 99, 116, 95, 114, 105, 103, 104, 116] }
                [E.var 2, E.var 1])
              1
              (E.var 10)
              []
              none)],
       S.asg
         4
         (E.call { cps := #[95, 108, 97, 119, 95, 110, 97, 109, 101] } [E.idx (E.var 7) (E.int 0)]),
       S.asg
         5
         (E.mth
           (MT.join)
           (E.str { cps := #[] })
           [E.comp
              [none, none, some 10]
              (E.idx
                (E.str { cps := #[48, 49, 50, 51] })
                (E.call
                  { cps := #[98, 105, 115, 101, 99, 116, 95, 108, 101, 102, 116] }
                  [E.var 2, E.bin (Op2.add) (E.var 1) (E.int 1)]))
              1
              (E.bi (BI.range) [E.int 3])
              []
              none]),
       S.ifs
         (E.cmp (Cp.notIn) (E.var 4) (E.var 6))
         [S.seti 6 (E.var 4) (E.var 5)]
         [],
       S.setDef
         3
         (E.ite (E.var 8) (E.mth (MT.upper) (E.var 4) []) (E.var 4))
         (E.var 5)
         (E.idx (E.var 6) (E.var 4))
         [S.ret (E.lst [])],
       S.asg 8 (E.not (E.var 8)),
       S.asgNew 7 []]
      [S.app 7 (E.var 9)]],
 S.retItems 3]⟩
noncomputable def b_lawasked : Fn := ⟨2, 0, [],
[S.asgNew 0 [E.str { cps := #[] }],
 S.for1
   1
   (E.bi (BI.range) [E.int 3])
   [S.ext
      0
      (E.comp
        [none, none, none, some 1]
        (E.bin (Op2.add) (E.var 1) (E.var 2))
        1
        (E.var 0)
        [E.cmp (Cp.eq) (E.bi (BI.len) [E.var 1]) (E.var 3)]
        (some (2, E.str { cps := #[97, 98] }, [])))],
 S.ret (E.var 0)]⟩
noncomputable def b_lawstands : Fn := ⟨4, 2, [],
[S.asg 2 (E.int 0),
 S.for1
   3
   (E.var 1)
   [S.ifs
      (E.andl
        (E.cmp (Cp.lt) (E.var 2) (E.bi (BI.len) [E.var 0]))
        [E.cmp (Cp.eq) (E.idx (E.var 0) (E.var 2)) (E.var 3)])
      [S.aug 2 (Op2.add) (E.int 1)]
      []],
 S.ret (E.cmp (Cp.eq) (E.var 2) (E.bi (BI.len) [E.var 0]))]⟩
noncomputable def b_lawspans : Fn := ⟨2, 2, [],
[S.ifs
   (E.cmp (Cp.lt) (E.bi (BI.len) [E.var 0]) (E.int 2))
   [S.ret (E.cmp (Cp.eq) (E.var 1) (E.var 0))]
   [],
 S.ret
   (E.andl
     (E.cmp (Cp.ge) (E.bi (BI.len) [E.var 1]) (E.bi (BI.len) [E.var 0]))
     [E.cmp (Cp.eq) (E.idx (E.var 1) (E.int 0)) (E.idx (E.var 0) (E.int 0)),
      E.cmp
        (Cp.eq)
        (E.idx (E.var 1) (E.neg (E.int 1)))
        (E.idx (E.var 0) (E.neg (E.int 1))),
      E.cmp
        (Cp.isIn)
        (E.slc (E.var 0) (some (E.int 1)) (some (E.neg (E.int 1))))
        (E.slc (E.var 1) (some (E.int 1)) (some (E.neg (E.int 1))))])]⟩
noncomputable def b_lawwalk : Fn := ⟨4, 3, [],
[S.for1
   3
   (E.var 1)
   [S.asg
      0
      (E.idx
        (E.idx (E.var 2) (E.mth (MT.index) (E.str { cps := #[97, 98] }) [E.var 3]))
        (E.var 0))],
 S.ret (E.var 0)]⟩
noncomputable def b_lawdue : Fn := ⟨12, 5, [],
[S.asg
   5
   (E.comp
     [none, none]
     (E.comp
       [none, none, some 1]
       (E.bi
         (BI.len)
         [E.comp
            [none, none, some 1]
            (E.var 1)
            1
            (E.var 2)
            [E.cmp
               (Cp.le)
               (E.var 1)
               (E.idx (E.str { cps := #[48, 49, 50, 51] }) (E.var 2))]
            none])
       1
       (E.bi (BI.range) [E.int 4])
       []
       none)
     1
     (E.lst [E.var 3, E.var 4])
     []
     none),
 S.asgNew
   6
   [E.tup [E.str { cps := #[97] }, E.var 3],
    E.tup [E.str { cps := #[98] }, E.var 4],
    E.tup [E.str { cps := #[65] }, E.var 4],
    E.tup [E.str { cps := #[66] }, E.var 3]],
 S.for1
   7
   (E.bi (BI.range) [E.bi (BI.len) [E.var 0]])
   [S.ifs
      (E.cmp
        (Cp.notIn)
        (E.idx (E.idx (E.var 0) (E.var 7)) (E.int 0))
        (E.comp
          [none, none]
          (E.idx (E.var 1) (E.int 0))
          1
          (E.slc (E.var 0) none (some (E.var 7)))
          []
          none))
      [S.asg
         8
         (E.ite
           (E.cmp
             (Cp.eq)
             (E.idx (E.idx (E.var 0) (E.var 7)) (E.int 0))
             (E.int 260))
           (E.var 2)
           (E.lst
             [E.idx (E.var 1) (E.idx (E.idx (E.var 0) (E.var 7)) (E.int 0))])),
       S.asg
         9
         (E.comp
           [none, none, some 5, some 8]
           (E.bi
             (BI.max)
             [E.comp
                [none, none, some 2, some 1]
                (E.call
                  { cps := #[95, 108, 97, 119, 95, 119, 97, 108, 107] }
                  [E.var 3, E.var 1, E.var 2])
                1
                (E.var 3)
                []
                none])
           1
           (E.bi (BI.range) [E.int 3])
           []
           none),
       S.asg
         10
         (E.mth
           (MT.join)
           (E.str { cps := #[] })
           [E.comp
              [none, none, some 9]
              (E.idx
                (E.str { cps := #[48, 49, 50, 51] })
                (E.bi
                  (BI.len)
                  [E.comp
                     [none, none, some 1]
                     (E.var 1)
                     1
                     (E.var 2)
                     [E.cmp (Cp.le) (E.var 1) (E.var 2)]
                     none]))
              1
              (E.bi (BI.range) [E.int 3])
              []
              none]),
       S.asg
         11
         (E.idx
           (E.str { cps := #[112, 113, 114, 115, 116] })
           (E.bin
             (Op2.sub)
             (E.idx (E.idx (E.var 0) (E.var 7)) (E.int 0))
             (E.int 256))),
       S.app
         6
         (E.tup
           [E.ite
              (E.cmp (Cp.eq) (E.bin (Op2.fmod) (E.var 7) (E.int 2)) (E.int 1))
              (E.mth (MT.upper) (E.var 11) [])
              (E.var 11),
            E.var 10])]
      []],
 S.ret (E.var 6)]⟩
noncomputable def b_law : Fn := ⟨11, 1, [],
[S.asg 1 (E.call { cps := #[95, 108, 97, 119, 95, 99, 101, 108, 108, 115] } [E.var 0]),
 S.asg 2 (E.call { cps := #[95, 108, 97, 119, 95, 114, 117, 108, 101, 115] } [E.var 1]),
 S.asg 3 (E.call { cps := #[95, 108, 97, 119, 95, 119, 111, 114, 100, 115] } [E.var 2]),
 S.asg
   5
   (E.comp
     [none, none, none]
     (E.var 2)
     1
     (E.var 2)
     []
     (some (2, E.bin (Op2.add) (E.var 1) (E.lst [E.int 0]), []))),
 S.for1
   4
   (E.bin (Op2.add) (E.var 5) (E.lst [E.int 255]))
   [S.ifs
      (E.orl
        (E.cmp
          (Cp.isNot)
          (E.call { cps := #[73, 83, 69, 79, 70] } [E.var 4])
          (E.cmp (Cp.eq) (E.var 4) (E.int 0)))
        [E.cmp
           (Cp.isNot)
           (E.call { cps := #[73, 83, 69, 79, 70] } [E.neg (E.var 4)])
           (E.cmp (Cp.eq) (E.var 4) (E.int 0))])
      [S.ret (E.bool false)]
      [],
    S.ifs
      (E.orl
        (E.cmp
          (Cp.isNot)
          (E.call { cps := #[73, 83, 84, 69, 82, 77, 73, 78, 65, 76] } [E.var 4])
          (E.cmp (Cp.lt) (E.var 4) (E.int 256)))
        [E.cmp
           (Cp.isNot)
           (E.call { cps := #[73, 83, 78, 79, 78, 84, 69, 82, 77, 73, 78, 65, 76] } [E.var 4])
           (E.cmp (Cp.ge) (E.var 4) (E.int 256))])
      [S.ret (E.bool false)]
      []],
 S.asg 6 (E.idx (E.var 3) (E.int 260)),
 S.asg 7 (E.call { cps := #[95, 108, 97, 119, 95, 97, 115, 107, 101, 100] } []),
 S.asg
   8
   (E.comp
     [none, none, some 6]
     (E.var 1)
     1
     (E.var 7)
     [E.cmp
        (Cp.is)
        (E.call
          { cps := #[95, 101, 108, 108, 105, 112, 115, 105, 115, 95, 109, 97, 116, 99, 104] }
          [E.mth
             (MT.join)
             (E.str { cps := #[46, 46, 46] })
             [E.bin
                (Op2.add)
                (E.bin
                  (Op2.add)
                  (E.lst [E.str { cps := #[] }])
                  (E.bi (BI.list) [E.var 1]))
                (E.lst [E.str { cps := #[] }])],
           E.var 2])
        (E.bool true)]
     none),
 S.ifs
   (E.cmp
     (Cp.ne)
     (E.var 8)
     (E.comp
       [none, none, some 6]
       (E.var 1)
       1
       (E.var 7)
       [E.call { cps := #[95, 108, 97, 119, 95, 115, 116, 97, 110, 100, 115] } [E.var 1, E.var 2]]
       none))
   [S.ret (E.bool false)]
   [],
 S.ifs
   (E.cmp
     (Cp.ne)
     (E.comp
       [none, none, some 6]
       (E.var 1)
       1
       (E.var 7)
       [E.cmp
          (Cp.isNot)
          (E.call
            { cps := #[95, 101, 108, 108, 105, 112, 115, 105, 115, 95, 109, 97, 116, 99, 104] }
            [E.mth (MT.join) (E.str { cps := #[46, 46, 46] }) [E.var 1], E.var 2])
          (E.call { cps := #[95, 108, 97, 119, 95, 115, 112, 97, 110, 115] } [E.var 1, E.var 2])]
       none)
     (E.lst []))
   [S.ret (E.bool false)]
   [],
 S.asg
   9
   (E.call
     { cps := #[95, 108, 97, 119, 95, 102, 105, 103, 117, 114, 101, 115] }
     [E.idx (E.var 1) (E.int 4)]),
 S.asg
   10
   (E.call
     { cps := #[95, 108, 97, 119, 95, 102, 105, 103, 117, 114, 101, 115] }
     [E.bin (Op2.fdiv) (E.idx (E.var 1) (E.int 4)) (E.int 24)]),
 S.ret
   (E.cmp
     (Cp.eq)
     (E.call { cps := #[95, 108, 97, 119, 95, 108, 101, 100] } [E.var 5, E.var 9, E.var 10])
     (E.call
       { cps := #[95, 108, 97, 119, 95, 100, 117, 101] }
       [E.var 2, E.var 3, E.var 8, E.var 9, E.var 10]))]⟩
noncomputable def thePg : Pg := ⟨fun f =>
  if f == "bisect_right" then some b_bisectright else
  if f == "bisect_left" then some b_bisectleft else
  if f == "_ellipsis_match" then some b_ellipsismatch else
  if f == "ISTERMINAL" then some b_ISTERMINAL else
  if f == "ISNONTERMINAL" then some b_ISNONTERMINAL else
  if f == "ISEOF" then some b_ISEOF else
  if f == "_law_cells" then some b_lawcells else
  if f == "_law_rules" then some b_lawrules else
  if f == "_law_words" then some b_lawwords else
  if f == "_law_figures" then some b_lawfigures else
  if f == "_law_name" then some b_lawname else
  if f == "_law_led" then some b_lawled else
  if f == "_law_asked" then some b_lawasked else
  if f == "_law_stands" then some b_lawstands else
  if f == "_law_spans" then some b_lawspans else
  if f == "_law_walk" then some b_lawwalk else
  if f == "_law_due" then some b_lawdue else
  if f == "law" then some b_law else
  none, fun x => if x == "ELLIPSIS_MARKER" then some (.str "...") else if x == "ENDMARKER" then some (.int 0) else if x == "NT_OFFSET" then some (.int 256) else none⟩
end Mine
end
section
/-! The plain law: runs of the evaluator, told without fuel. -/
open PySem
namespace Mine
noncomputable abbrev LL (n : Nat) : Lo := lo thePg n
noncomputable abbrev Xp := E
noncomputable def Ev (c : Nat) (σ : Sg) (e : Xp) (d : D) : Prop := ∀ n, c ≤ n → (LL n).ev σ e = some d
noncomputable def Pk (c : Nat) (σ : Sg) (e : Xp) (d : D) : Prop := ∀ n, c ≤ n → (LL n).pk σ e = some d
noncomputable def It (c : Nat) (σ : Sg) (e : Xp) (d : List D) : Prop := ∀ n, c ≤ n → (LL n).it σ e = some d
noncomputable def Ts (c : Nat) (σ : Sg) (e : Xp) (b : Bool) : Prop := ∀ n, c ≤ n → (LL n).tst σ e = some b
noncomputable def Ex1 (c : Nat) (σ : Sg) (s : S) (r : Option D) (σ' : Sg) : Prop := ∀ n, c ≤ n → (LL n).ex σ s = some (r, σ')
noncomputable def Rn (c : Nat) (σ : Sg) (l : List S) (r : Option D) (σ' : Sg) : Prop := ∀ n, c ≤ n → (LL n).run σ l = some (r, σ')
noncomputable def Cl (c : Nat) (f : Str) (ds : List D) (d : D) : Prop := ∀ n, c ≤ n → callF thePg (LL n) f ds = some d
noncomputable def Evs (c : Nat) (σ : Sg) (l : List Xp) (ds : List D) : Prop := ∀ n, c ≤ n → l.mapM ((LL n).ev σ) = some ds
noncomputable def Pks (c : Nat) (σ : Sg) (l : List Xp) (ds : List D) : Prop := ∀ n, c ≤ n → l.mapM ((LL n).pk σ) = some ds

theorem up {c n : Nat} (h : c + 1 ≤ n) : ∃ m, n = m + 1 ∧ c ≤ m := by
  cases n with
  | zero => omega
  | succ m => exact ⟨m, rfl, by omega⟩
theorem Ev.le {c c' : Nat} {σ : Sg} {e : Xp} {d : D} (h : Ev c σ e d) (hc : c ≤ c') : Ev c' σ e d := fun n hn => h n (Nat.le_trans hc hn)
theorem Cl.le {c c' : Nat} {f : Str} {ds : List D} {d : D} (h : Cl c f ds d) (hc : c ≤ c') : Cl c' f ds d := fun n hn => h n (Nat.le_trans hc hn)
theorem Rn.le {c c' : Nat} {σ σ' : Sg} {l : List S} {r : Option D} (h : Rn c σ l r σ') (hc : c ≤ c') : Rn c' σ l r σ' := fun n hn => h n (Nat.le_trans hc hn)
theorem Ex1.le {c c' : Nat} {σ σ' : Sg} {l : S} {r : Option D} (h : Ex1 c σ l r σ') (hc : c ≤ c') : Ex1 c' σ l r σ' := fun n hn => h n (Nat.le_trans hc hn)
theorem Ts.le {c c' : Nat} {σ : Sg} {e : Xp} {d : Bool} (h : Ts c σ e d) (hc : c ≤ c') : Ts c' σ e d := fun n hn => h n (Nat.le_trans hc hn)
theorem It.le {c c' : Nat} {σ : Sg} {e : Xp} {d : List D} (h : It c σ e d) (hc : c ≤ c') : It c' σ e d := fun n hn => h n (Nat.le_trans hc hn)
theorem Pk.le {c c' : Nat} {σ : Sg} {e : Xp} {d : D} (h : Pk c σ e d) (hc : c ≤ c') : Pk c' σ e d := fun n hn => h n (Nat.le_trans hc hn)

/-- one level up: what evF says at every lower level -/
theorem Ev.of {c : Nat} {σ : Sg} {e : Xp} {d : D} (h : ∀ n, c ≤ n → evF thePg (LL n) σ e = some d) : Ev (c + 1) σ e d := fun n hn => by
  obtain ⟨m, rfl, hm⟩ := up hn; exact h m hm
theorem Pk.of' {c : Nat} {σ : Sg} {e : Xp} {d : D} (h : ∀ n, c ≤ n → pkF (LL n) σ e = some d) : Pk (c + 1) σ e d := fun n hn => by
  obtain ⟨m, rfl, hm⟩ := up hn; exact h m hm
theorem It.of' {c : Nat} {σ : Sg} {e : Xp} {d : List D} (h : ∀ n, c ≤ n → itF (LL n) σ e = some d) : It (c + 1) σ e d := fun n hn => by
  obtain ⟨m, rfl, hm⟩ := up hn; exact h m hm
theorem Ts.of' {c : Nat} {σ : Sg} {e : Xp} {d : Bool} (h : ∀ n, c ≤ n → tstF (LL n) σ e = some d) : Ts (c + 1) σ e d := fun n hn => by
  obtain ⟨m, rfl, hm⟩ := up hn; exact h m hm
theorem Ex1.of' {c : Nat} {σ σ' : Sg} {e : S} {d : Option D} (h : ∀ n, c ≤ n → exF (LL n) σ e = some (d, σ')) : Ex1 (c + 1) σ e d σ' := fun n hn => by
  obtain ⟨m, rfl, hm⟩ := up hn; exact h m hm
theorem Rn.of' {c : Nat} {σ σ' : Sg} {e : List S} {d : Option D} (h : ∀ n, c ≤ n → runF (LL n) σ e = some (d, σ')) : Rn (c + 1) σ e d σ' := fun n hn => by
  obtain ⟨m, rfl, hm⟩ := up hn; exact h m hm

variable {c c1 c2 c3 : Nat} {σ σ' σ'' : Sg}
theorem ml {a b n : Nat} (h : max a b ≤ n) : a ≤ n := Nat.le_trans (Nat.le_max_left ..) h
theorem mr {a b n : Nat} (h : max a b ≤ n) : b ≤ n := Nat.le_trans (Nat.le_max_right ..) h

theorem bs {α β : Type} {a : Option α} {f : α → Option β} {x : α} {y : β} (h1 : a = some x) (h2 : f x = some y) : a.bind f = some y := by subst h1; exact h2
theorem orS {α : Type} {a b : Option α} {x : α} (h : a = some x) : a.or b = some x := by subst h; rfl
theorem rhsN {L : Lo} {o : Cp} {b : Xp} {y : D} (ho : inOp o = false) (h : L.ev σ b = some y) : rhs L σ o b = some y := (if_neg (by rw [ho]; exact Bool.false_ne_true)).trans h
theorem rhsY {L : Lo} {o : Cp} {b : Xp} {y : D} (ho : inOp o = true) (h : L.pk σ b = some y) : rhs L σ o b = some y := (if_pos ho).trans h
namespace Ev
theorem none : Ev 1 σ .none .none := .of fun n _ => rfl
theorem bool (b : Bool) : Ev 1 σ (.bool b) (.bool b) := .of fun n _ => rfl
theorem int (i : Int) : Ev 1 σ (.int i) (.int i) := .of fun n _ => rfl
theorem str (x : Str) : Ev 1 σ (.str x) (.str x) := .of fun n _ => rfl
theorem var {i : Nat} {d : D} (h : σ[i]? = some (some (.val d))) : Ev 1 σ (.var i) d := .of fun n _ => congrArg valD h
theorem con {x : Str} {d : D} (h : thePg.con x = some d) : Ev 1 σ (.con x) d := .of fun n _ => h
theorem bin {o : Op2} {a b : Xp} {x y d : D} (ha : Ev c1 σ a x) (hb : Ev c2 σ b y) (h : bin2 o x y = some d) : Ev (max c1 c2 + 1) σ (.bin o a b) d := .of fun n hn => bs (ha n (ml hn)) (bs (hb n (mr hn)) h)
theorem neg {a : Xp} {i : Int} (ha : Ev c σ a (.int i)) : Ev (c + 1) σ (.neg a) (.int (-i)) := .of fun n hn => bs (ha n hn) rfl
theorem not {a : Xp} {b : Bool} (ha : Ev c σ a (.bool b)) : Ev (c + 1) σ (.not a) (.bool (!b)) := .of fun n hn => bs (ha n hn) rfl
theorem cmp {o : Cp} {a b : Xp} {x y : D} {t : Bool} (ho : inOp o = false) (ha : Ev c1 σ a x) (hb : Ev c2 σ b y) (h : cmp2 o x y = some t) : Ev (max c1 c2 + 1) σ (.cmp o a b) (.bool t) := .of fun n hn => bs (ha n (ml hn)) (bs (rhsN ho (hb n (mr hn))) (bs h rfl))
theorem cmpIn {o : Cp} {a b : Xp} {x y : D} {t : Bool} (ho : inOp o = true) (ha : Ev c1 σ a x) (hb : Pk c2 σ b y) (h : cmp2 o x y = some t) : Ev (max c1 c2 + 1) σ (.cmp o a b) (.bool t) := .of fun n hn => bs (ha n (ml hn)) (bs (rhsY ho (hb n (mr hn))) (bs h rfl))
theorem ite {q a b : Xp} {t : Bool} {d : D} (hq : Ts c1 σ q t) (h : if t = true then Ev c2 σ a d else Ev c2 σ b d) : Ev (max c1 c2 + 1) σ (.ite q a b) d := .of fun n hn => by
  cases t
  · exact bs (hq n (ml hn)) (h n (mr hn))
  · exact bs (hq n (ml hn)) (h n (mr hn))
theorem idx {a i : Xp} {x y d : D} (ha : Pk c1 σ a x) (hb : Ev c2 σ i y) (h : idx2 x y = some d) : Ev (max c1 c2 + 1) σ (.idx a i) d := .of fun n hn => bs (ha n (ml hn)) (bs (hb n (mr hn)) h)
theorem lst {l : List Xp} {ds : List D} (h : Evs c σ l ds) : Ev (c + 1) σ (.lst l) (.list ds) := .of fun n hn => bs (h n hn) rfl
theorem tup {l : List Xp} {ds : List D} (h : Evs c σ l ds) : Ev (c + 1) σ (.tup l) (.tuple ds) := .of fun n hn => bs (h n hn) rfl
theorem call {f : Str} {l : List Xp} {ds : List D} {d : D} (h : Evs c1 σ l ds) (hc : Cl c2 f ds d) : Ev (max c1 c2 + 1) σ (.call f l) d := .of fun n hn => bs (h n (ml hn)) (hc n (mr hn))
theorem bi {f : BI} {l : List Xp} {ds : List D} {d : D} (h : Pks c σ l ds) (hb : bi2 f ds = some d) : Ev (c + 1) σ (.bi f l) d := .of fun n hn => bs (h n hn) hb
end Ev
namespace Evs
theorem nil : Evs 0 σ [] [] := fun n _ => rfl
theorem cons {a : Xp} {l : List Xp} {d : D} {ds : List D} (h : Ev c1 σ a d) (r : Evs c2 σ l ds) : Evs (max c1 c2) σ (a :: l) (d :: ds) := fun n hn => by
  rw [List.mapM_cons, h n (ml hn), r n (mr hn)]; rfl
end Evs
namespace Pks
theorem nil : Pks 0 σ [] [] := fun n _ => rfl
theorem cons {a : Xp} {l : List Xp} {d : D} {ds : List D} (h : Pk c1 σ a d) (r : Pks c2 σ l ds) : Pks (max c1 c2) σ (a :: l) (d :: ds) := fun n hn => by
  rw [List.mapM_cons, h n (ml hn), r n (mr hn)]; rfl
end Pks
namespace Pk
theorem ownv {i : Nat} {d : D} (h : σ[i]? = some (some (.own d))) : Pk 1 σ (.var i) d := .of' fun n _ => congrArg (fun s => (valD s).or (ownD s)) h
theorem var {i : Nat} {d : D} (h : σ[i]? = some (some (.val d))) : Pk 1 σ (.var i) d := .of' fun n _ => congrArg (fun s => (valD s).or (ownD s)) h
theorem ev {e : Xp} {d : D} (h : Ev c σ e d) (he : asV e = none) : Pk (c + 1) σ e d := .of' fun n hn => elimN he (h n hn)
end Pk
/-- a call of one of the text's functions -/
theorem Cl.of {f : Str} {fn : Fn} {ds : List D} {r : Option D} {d : D} (hf : thePg.fn f = some fn) (hl : ds.length + fn.dflts.length = fn.params ∧ fn.params ≤ fn.n) (h : Rn c ((ds ++ fn.dflts).map (fun d => some (.val d)) ++ List.replicate (fn.n - fn.params) none) fn.body r σ') (hd : r.getD .none = d) : Cl c f ds d := fun n hn => by
  unfold callF
  rw [hf]
  simp only [Option.bind_eq_bind, Option.bind_some]
  rw [if_pos hl, h n hn]
  simp only [Option.bind_some, pure, hd]
namespace Rn
theorem nil : Rn 1 σ [] .none σ := .of' fun n _ => rfl
theorem cons {s : S} {l : List S} {r : Option D} (h : Ex1 c1 σ s .none σ') (k : Rn c2 σ' l r σ'') : Rn (max c1 c2 + 1) σ (s :: l) r σ'' := .of' fun n hn => by
  simp only [runF, h n (ml hn), Option.bind_eq_bind, Option.bind_some, k n (mr hn)]
theorem stop {s : S} {l : List S} {d : D} (h : Ex1 c σ s (some d) σ') : Rn (c + 1) σ (s :: l) (some d) σ' := .of' fun n hn => by
  simp only [runF, h n hn, Option.bind_eq_bind, Option.bind_some]
end Rn
end Mine
end
section
/-! The plain law: the other forms. -/
open PySem
namespace Mine
variable {c c1 c2 c3 : Nat} {σ σ' σ'' : Sg}
namespace Ev
theorem andT {a : Xp} {r : List Xp} {b : Xp} {d : D} (ha : Ev c1 σ a (.bool true)) (h : Ev c2 σ (.andl b r) d) : Ev (max c1 c2 + 1) σ (.andl a (b :: r)) d := .of fun n hn => bs (ha n (ml hn)) (h n (mr hn))
theorem andF {a : Xp} {r : List Xp} (ha : Ev c1 σ a (.bool false)) : Ev (c1 + 1) σ (.andl a r) (.bool false) := .of fun n hn => by
  cases r <;> exact bs (ha n hn) rfl
theorem and1 {a : Xp} {t : Bool} (ha : Ev c1 σ a (.bool t)) : Ev (c1 + 1) σ (.andl a []) (.bool t) := .of fun n hn => bs (ha n hn) rfl
theorem orT {a : Xp} {r : List Xp} (ha : Ev c1 σ a (.bool true)) : Ev (c1 + 1) σ (.orl a r) (.bool true) := .of fun n hn => by
  cases r <;> exact bs (ha n hn) rfl
theorem orF {a b : Xp} {r : List Xp} {d : D} (ha : Ev c1 σ a (.bool false)) (h : Ev c2 σ (.orl b r) d) : Ev (max c1 c2 + 1) σ (.orl a (b :: r)) d := .of fun n hn => bs (ha n (ml hn)) (h n (mr hn))
theorem or1 {a : Xp} {t : Bool} (ha : Ev c1 σ a (.bool t)) : Ev (c1 + 1) σ (.orl a []) (.bool t) := .of fun n hn => bs (ha n hn) rfl
end Ev
/-- a part of a slice -/
noncomputable def Op (c : Nat) (σ : Sg) (e : Option Xp) (o : Option Int) : Prop := ∀ n, c ≤ n → optInt (LL n) σ e = some o
theorem Op.none : Op 0 σ .none .none := fun n _ => rfl
theorem Op.some {e : Xp} {i : Int} (h : Ev c σ e (.int i)) : Op c σ (.some e) (.some i) := fun n hn => bs (h n hn) rfl
namespace Ev
theorem slc {a : Xp} {lo hi : Option Xp} {x d : D} {l h : Option Int} (ha : Pk c1 σ a x) (hl : Op c2 σ lo l) (hh : Op c3 σ hi h) (hd : slc2 x l h = some d) : Ev (max c1 (max c2 c3) + 1) σ (.slc a lo hi) d := .of fun n hn => bs (ha n (ml hn)) (bs (hl n (ml (mr hn))) (bs (hh n (mr (mr hn))) hd))
theorem mthN {L : Lo} {m : MT} {o : Xp} {l : List Xp} {x d : D} {ds : List D} (hb : bkOf σ o = Option.none) (hp : pvOf L σ o = Option.some x) (h2 : l.mapM (L.ev σ) = Option.some ds) (hd : mth2 m x ds = Option.some d) : mthF L σ m o l = Option.some d :=
  elimN hb (bs hp (bs h2 hd))
/-- a method of something that is no name -/
theorem mth {m : MT} {o : Xp} {l : List Xp} {x d : D} {ds : List D} (ho : asV o = Option.none) (h1 : Ev c1 σ o x) (h2 : Evs c2 σ l ds) (hd : mth2 m x ds = some d) : Ev (max c1 c2 + 1) σ (.mth m o l) d := .of fun n hn => mthN (by unfold bkOf; rw [ho]; rfl) (elimN ho (h1 n (ml hn))) (h2 n (mr hn)) hd
theorem bookD_none : ∀ {s : Option (Option Slot)}, (∀ bk, s ≠ Option.some (Option.some (.book bk))) → bookD s = Option.none
  | Option.none, _ => rfl
  | Option.some Option.none, _ => rfl
  | Option.some (Option.some (.val _)), _ => rfl
  | Option.some (Option.some (.own _)), _ => rfl
  | Option.some (Option.some (.book bk)), h => absurd rfl (h bk)
theorem mthV {m : MT} {i : Nat} {l : List Xp} {x d : D} {ds : List D} (hb : ∀ bk, σ[i]? ≠ some (some (.book bk))) (h1 : Pk c1 σ (.var i) x) (h2 : Evs c2 σ l ds) (hd : mth2 m x ds = some d) : Ev (max c1 c2 + 1) σ (.mth m (.var i) l) d := .of fun n hn => mthN (congrArg (fun o => o.bind fun l => Option.some (i, l)) (bookD_none hb)) (h1 n (ml hn)) (h2 n (mr hn)) hd
theorem bget {i : Nat} {a b : Xp} {bk : List (Str × Str)} {x y : Str} (hs : σ[i]? = some (some (.book bk))) (h1 : Ev c1 σ a (.str x)) (h2 : Ev c2 σ b (.str y)) (ok : okHdr x = true) (okb : (bk.all fun p => okHdr p.1) = true) : Ev (max c1 c2 + 1) σ (.mth .get (.var i) [a, b]) (.str (bGet bk x y)) := .of fun n hn => by
  have e : bkOf σ (.var i) = Option.some (i, bk) := congrArg (fun s => (bookD s).bind fun l => Option.some (i, l)) hs
  show mthF _ _ _ _ _ = _
  unfold mthF
  rw [e]
  have g : getF (LL n) σ bk .get [a, b] = Option.some (.str (bGet bk x y)) := (if_pos rfl).trans (bs (x := (a, b)) rfl (bs (x := .str x) (h1 n (ml hn)) (bs (x := x) rfl (bs (x := .str y) (h2 n (mr hn)) (bs (x := y) rfl (if_pos ⟨ok, okb⟩))))))
  exact g
theorem comp {caps : List (Option Nat)} {elt : Xp} {t : Nat} {it : Xp} {ifs : List Xp} {more : Option (Nat × Xp × List Xp)} {src out : List D} (h1 : It c1 σ it src) (h2 : ∀ n, c2 ≤ n → compL1 (LL n) elt t ifs more (caps.map fun c => match c with | Option.some i => (σ[i]?).join | Option.none => Option.none) src = Option.some out) (hl : out.length ≤ 10000) : Ev (max c1 c2 + 1) σ (.comp caps elt t it ifs more) (.list out) := .of fun n hn => by
  have e2 := h2 n (mr hn)
  show ((LL n).it σ it >>= fun src => _) = _
  rw [h1 n (ml hn)]
  show (compL1 (LL n) elt t ifs more (caps.map fun c => match c with | Option.some i => (σ[i]?).join | Option.none => Option.none) src >>= fun r => if r.length ≤ 10000 then Option.some (PyData.list r) else Option.none) = _
  rw [e2]
  show (if out.length ≤ 10000 then Option.some (PyData.list out) else Option.none) = _
  rw [if_pos hl]
end Ev
/-- the tests of a comprehension -/
noncomputable def Al (c : Nat) (σ : Sg) (l : List Xp) (b : Bool) : Prop := ∀ n, c ≤ n → allT (LL n) σ l = some b
theorem Al.nil : Al 0 σ [] true := fun n _ => rfl
theorem Al.cons {a : Xp} {l : List Xp} {b : Bool} (h : Ts c1 σ a true) (r : Al c2 σ l b) : Al (max c1 c2) σ (a :: l) b := fun n hn => by
  simp only [allT, h n (ml hn), Option.bind_eq_bind, Option.bind_some, if_true, r n (mr hn)]
theorem Al.stop {a : Xp} {l : List Xp} (h : Ts c1 σ a false) : Al c1 σ (a :: l) false := fun n hn => by
  simp only [allT, h n hn, Option.bind_eq_bind, Option.bind_some, Bool.false_eq_true, if_false]
/-- [elt for t in src if ..]: a test and a value for each item -/
theorem cL {elt : Xp} {t : Nat} {ifs : List Xp} (p : D → Bool) (f : D → D) : ∀ (src : List D) (σ : Sg), (∀ d ∈ src, Al c1 (σ.set t (some (.val d))) ifs (p d) ∧ (p d = true → Ev c2 (σ.set t (some (.val d))) elt (f d))) →
    ∀ n, max c1 c2 ≤ n → compL1 (LL n) elt t ifs none σ src = some ((src.filter p).map f)
  | [], σ, _, n, _ => rfl
  | d :: r, σ, h, n, hn => by
    obtain ⟨h1, h2⟩ := h d (.head _)
    have ih := cL p f r (σ.set t (some (.val d))) (fun x hx => by rw [List.set_set]; exact h x (.tail _ hx)) n hn
    simp only [compL1, h1 n (ml hn), Option.bind_eq_bind, Option.bind_some]
    cases hp : p d with
    | false => simp only [Bool.false_eq_true, if_false, ih, List.filter_cons, hp]
    | true => simp only [if_true, h2 hp n (mr hn), Option.bind_some, ih, List.filter_cons, hp, List.map_cons, pure]
theorem cL2 {elt : Xp} {t : Nat} {ifs : List Xp} (p : D → Bool) (f : D → D) : ∀ (src : List D) (σ : Sg), (∀ d ∈ src, Al c1 (σ.set t (some (.val d))) ifs (p d) ∧ (p d = true → Ev c2 (σ.set t (some (.val d))) elt (f d))) →
    ∀ n, max c1 c2 ≤ n → compL2 (LL n) elt t ifs σ src = some ((src.filter p).map f)
  | [], σ, _, n, _ => rfl
  | d :: r, σ, h, n, hn => by
    obtain ⟨h1, h2⟩ := h d (.head _)
    have ih := cL2 p f r (σ.set t (some (.val d))) (fun x hx => by rw [List.set_set]; exact h x (.tail _ hx)) n hn
    simp only [compL2, h1 n (ml hn), Option.bind_eq_bind, Option.bind_some]
    cases hp : p d with
    | false => simp only [Bool.false_eq_true, if_false, Option.bind_some, ih, List.filter_cons, hp, pure, List.nil_append]
    | true => simp only [if_true, h2 hp n (mr hn), Option.bind_some, ih, List.filter_cons, hp, List.map_cons, pure, List.cons_append, List.nil_append]
/-- two generators, the first without tests -/
theorem cLL {elt : Xp} {t t2 : Nat} {i2 : Xp} {ifs : List Xp} {ifs2 : List Xp} (p : D → Bool) (g : D → List D) : ∀ (src : List D) (σ : Sg), (∀ d ∈ src, Al c1 (σ.set t (some (.val d))) ifs (p d) ∧ (p d = true → ∃ s2, It c2 (σ.set t (some (.val d))) i2 s2 ∧ ∀ n, c3 ≤ n → compL2 (LL n) elt t2 ifs2 (σ.set t (some (.val d))) s2 = some (g d))) →
    ∀ n, max c1 (max c2 c3) ≤ n → compL1 (LL n) elt t ifs (some (t2, i2, ifs2)) σ src = some ((src.filter p).flatMap g)
  | [], σ, _, n, _ => rfl
  | d :: r, σ, h, n, hn => by
    obtain ⟨h1, h2⟩ := h d (.head _)
    simp only [compL1, h1 n (ml hn), Option.bind_eq_bind, Option.bind_some]
    cases hp : p d with
    | false =>
      have ih := cLL p g r (σ.set t (some (.val d))) (fun x hx => by rw [List.set_set]; exact h x (.tail _ hx)) n hn
      simp only [Bool.false_eq_true, if_false, ih, List.filter_cons, hp]
    | true =>
      have ih := cLL p g r σ (fun x hx => h x (.tail _ hx)) n hn
      obtain ⟨s2, e1, e2⟩ := h2 hp
      simp only [if_true, e1 n (ml (mr hn)), e2 n (mr (mr hn)), Option.bind_some, ih, List.filter_cons, hp, List.flatMap_cons, pure]
namespace It
theorem val {i : Nat} {d : D} {l : List D} (h : σ[i]? = some (some (.val d))) (hl : itemsOf d = some l) : It 1 σ (.var i) l := .of' fun n _ => (congrArg (fun s => ((valD s).bind itemsOf).or ((ownD s).bind asL)) h).trans (orS hl)
theorem own {i : Nat} {l : List D} (h : σ[i]? = some (some (.own (.list l)))) : It 1 σ (.var i) l := .of' fun n _ => congrArg (fun s => ((valD s).bind itemsOf).or ((ownD s).bind asL)) h
theorem range1 {a : Xp} {b : Int} (h : Ev c σ a (.int b)) (hb : -1000000 < b ∧ b < 1000000) : It (c + 1) σ (.bi .range [a]) (rangeD 0 b 1) := .of' fun n hn => bs (show [a].mapM ((LL n).ev σ) = some [.int b] by rw [List.mapM_cons, h n hn]; rfl) (orS (if_pos hb))
theorem ev {e : Xp} {d : D} {l : List D} (h : Ev c σ e d) (he : ((asV e).isNone && (asR e).isNone) = true) (hl : itemsOf d = some l) : It (c + 1) σ e l := .of' fun n hn => elimN (Option.isNone_iff_eq_none.mp (Bool.and_eq_true_iff.mp he).1) (elimN (Option.isNone_iff_eq_none.mp (Bool.and_eq_true_iff.mp he).2) (bs (h n hn) hl))
end It
namespace Ts
theorem tT {L : Lo} {e : Xp} {t : Option Bool} (ht : isT e = true) (h : tstT L σ e = t) : tstF L σ e = t := (if_pos ht).trans h
theorem not {a : Xp} {b : Bool} (h : Ts c σ a b) : Ts (c + 1) σ (.not a) (!b) := .of' fun n hn => tT rfl (bs (h n hn) rfl)
theorem andT {a b : Xp} {r : List Xp} {t : Bool} (ha : Ts c1 σ a true) (h : Ts c2 σ (.andl b r) t) : Ts (max c1 c2 + 1) σ (.andl a (b :: r)) t := .of' fun n hn => tT rfl (bs (ha n (ml hn)) (h n (mr hn)))
theorem andF {a : Xp} {r : List Xp} (ha : Ts c1 σ a false) : Ts (c1 + 1) σ (.andl a r) false := .of' fun n hn => tT rfl (bs (ha n hn) rfl)
theorem and1 {a : Xp} {t : Bool} (ha : Ts c1 σ a t) : Ts (c1 + 1) σ (.andl a []) t := .of' fun n hn => by
  cases t <;> exact tT rfl (bs (ha n hn) rfl)
theorem orT {a : Xp} {r : List Xp} (ha : Ts c1 σ a true) : Ts (c1 + 1) σ (.orl a r) true := .of' fun n hn => tT rfl (bs (ha n hn) rfl)
theorem orF {a b : Xp} {r : List Xp} {t : Bool} (ha : Ts c1 σ a false) (h : Ts c2 σ (.orl b r) t) : Ts (max c1 c2 + 1) σ (.orl a (b :: r)) t := .of' fun n hn => tT rfl (bs (ha n (ml hn)) (h n (mr hn)))
theorem or1 {a : Xp} {t : Bool} (ha : Ts c1 σ a t) : Ts (c1 + 1) σ (.orl a []) t := .of' fun n hn => by
  cases t <;> exact tT rfl (bs (ha n hn) rfl)
theorem cmp {o : Cp} {a b : Xp} {x y : D} {t : Bool} (ho : inOp o = false) (ha : Ev c1 σ a x) (hb : Ev c2 σ b y) (h : cmp2 o x y = some t) : Ts (max c1 c2 + 1) σ (.cmp o a b) t := .of' fun n hn => tT rfl (bs (ha n (ml hn)) (bs (rhsN ho (hb n (mr hn))) h))
theorem cmpIn {o : Cp} {a b : Xp} {x y : D} {t : Bool} (ho : inOp o = true) (ha : Ev c1 σ a x) (hb : Pk c2 σ b y) (h : cmp2 o x y = some t) : Ts (max c1 c2 + 1) σ (.cmp o a b) t := .of' fun n hn => tT rfl (bs (ha n (ml hn)) (bs (rhsY ho (hb n (mr hn))) h))
theorem bool {e : Xp} {t : Bool} (h : Ev c σ e (.bool t)) (he : isT e = false) : Ts (c + 1) σ e t := .of' fun n hn => (if_neg (by rw [he]; exact Bool.false_ne_true)).trans (bs (h n hn) rfl)
theorem str {e : Xp} {x : Str} (h : Ev c σ e (.str x)) (he : isT e = false) (hx : x.length ≤ 100000) : Ts (c + 1) σ e (!(x.length == 0)) := .of' fun n hn => (if_neg (by rw [he]; exact Bool.false_ne_true)).trans (bs (h n hn) (if_pos hx))
end Ts
namespace Ex1
theorem asg {i : Nat} {e : Xp} {d : D} (h : Ev c σ e d) : Ex1 (c + 1) σ (.asg i e) none (σ.set i (some (.val d))) := .of' fun n hn => bs (h n hn) rfl
theorem asgNew {i : Nat} {l : List Xp} {ds : List D} (h : Evs c σ l ds) : Ex1 (c + 1) σ (.asgNew i l) none (σ.set i (some (.own (.list ds)))) := .of' fun n hn => bs (h n hn) rfl
theorem asgDict {i : Nat} : Ex1 1 σ (.asgDict i) none (σ.set i (some (.own (.dict [])))) := .of' fun n hn => rfl
theorem newBook {i : Nat} : Ex1 1 σ (.newBook i) none (σ.set i (some (.book []))) := .of' fun n hn => rfl
theorem asg2 {i j : Nat} {a b : Xp} {x y : D} (h1 : Ev c1 σ a x) (h2 : Ev c2 σ b y) : Ex1 (max c1 c2 + 1) σ (.asg2 i j a b) none ((σ.set i (some (.val x))).set j (some (.val y))) := .of' fun n hn => bs (h1 n (ml hn)) (bs (h2 n (mr hn)) rfl)
theorem aug {i : Nat} {o : Op2} {e : Xp} {a b : Int} {d : D} (hs : σ[i]? = some (some (.val (.int a)))) (h : Ev c σ e (.int b)) (hd : bin2 o (.int a) (.int b) = some d) : Ex1 (c + 1) σ (.aug i o e) none (σ.set i (some (.val d))) := .of' fun n hn => bs (congrArg valD hs) (bs rfl (bs (h n hn) (bs rfl (bs hd rfl))))
theorem app {i : Nat} {e : Xp} {l : List D} {d : D} (hs : σ[i]? = some (some (.own (.list l)))) (hl : l.length ≤ 10000) (h : Ev c σ e d) : Ex1 (c + 1) σ (.app i e) none (σ.set i (some (.own (.list (l ++ [d]))))) := .of' fun n hn => bs (congrArg ownD hs) (bs rfl (bs (h n hn) (if_pos hl)))
theorem ext {i : Nat} {e : Xp} {l k : List D} (hs : σ[i]? = some (some (.own (.list l)))) (h : Ev c σ e (.list k)) (hl : l.length + k.length ≤ 10000) : Ex1 (c + 1) σ (.ext i e) none (σ.set i (some (.own (.list (l ++ k))))) := .of' fun n hn => bs (congrArg ownD hs) (bs rfl (bs (h n hn) (bs rfl (if_pos hl))))
theorem seti {i : Nat} {k v : Xp} {dk dv : D} {l l' : List (D × D)} (hs : σ[i]? = some (some (.own (.dict l)))) (h1 : Ev c1 σ v dv) (h2 : Ev c2 σ k dk) (hl : l.length ≤ 10000) (hk : keyOk dk = true) (hp : dPut dk dv l = some l') : Ex1 (max c1 c2 + 1) σ (.seti i k v) none (σ.set i (some (.own (.dict l')))) := .of' fun n hn => bs (h1 n (ml hn)) (bs (h2 n (mr hn)) (bs (congrArg ownD hs) (bs rfl ((if_pos ⟨hl, hk⟩).trans (bs hp rfl)))))
theorem ifT {q : Xp} {a b : List S} {r : Option D} (h1 : Ts c1 σ q true) (h2 : Rn c2 σ a r σ') : Ex1 (max c1 c2 + 1) σ (.ifs q a b) r σ' := .of' fun n hn => bs (h1 n (ml hn)) (h2 n (mr hn))
theorem ifF {q : Xp} {a b : List S} {r : Option D} (h1 : Ts c1 σ q false) (h2 : Rn c2 σ b r σ') : Ex1 (max c1 c2 + 1) σ (.ifs q a b) r σ' := .of' fun n hn => bs (h1 n (ml hn)) (h2 n (mr hn))
theorem ret {e : Xp} {d : D} (h : Pk c σ e d) : Ex1 (c + 1) σ (.ret e) (some d) σ := .of' fun n hn => bs (h n hn) rfl
theorem asrt {e : Xp} (h : Ts c σ e true) : Ex1 (c + 1) σ (.asrt e) none σ := .of' fun n hn => bs (h n hn) rfl
theorem addHdr {i : Nat} {a b : Xp} {body : List S} {l : List (Str × Str)} {x y : Str} (hs : σ[i]? = some (some (.book l))) (h1 : Ev c1 σ a (.str x)) (h2 : Ev c2 σ b (.str y)) (ok : okHdr x = true) (ok2 : okHdr y = true) (hl : l.length ≤ 1000) : Ex1 (max c1 c2 + 1) σ (.addHdr i a b body) none (σ.set i (some (.book (l ++ [(x, y)])))) := .of' fun n hn => bs (congrArg bookD hs) (bs (h1 n (ml hn)) (bs rfl (bs (h2 n (mr hn)) (bs rfl (if_pos ⟨ok, ok2, hl⟩)))))
theorem setDef {i : Nat} {a b rhs : Xp} {body : List S} {l : List (Str × Str)} {x y : Str} (hs : σ[i]? = some (some (.book l))) (h1 : Ev c1 σ a (.str x)) (h2 : Ev c2 σ b (.str y)) (ok : okHdr x = true) (ok2 : okHdr y = true) (okb : (l.all fun p => okHdr p.1) = true) (hl : l.length ≤ 1000)
    (h3 : Ev c3 (σ.set i (some (.book (sdL l x y)))) rhs (.str (bGet l x y))) : Ex1 (max c1 (max c2 c3) + 1) σ (.setDef i a b rhs body) none (σ.set i (some (.book (sdL l x y)))) := .of' fun n hn => bs (congrArg bookD hs) (bs (h1 n (ml hn)) (bs rfl (bs (h2 n (ml (mr hn))) (bs rfl ((if_pos ⟨ok, ok2, okb, hl⟩).trans (bs (h3 n (mr (mr hn))) (bs rfl (if_pos rfl))))))))
theorem retItems {i : Nat} {l : List (Str × Str)} (hs : σ[i]? = some (some (.book l))) (hl : l.length ≤ 1000) : Ex1 1 σ (.retItems i) (some (.list (l.map fun p => .tuple [.str p.1, .str p.2]))) σ := .of' fun n hn => bs (congrArg bookD hs) (if_pos hl)
/-- a loop whose body goes on each time: what the state is behind each item -/
theorem for1 {i : Nat} {it : Xp} {body : List S} {src : List D} (h1 : It c1 σ it src) (st : Nat → Sg) (h0 : st 0 = frz σ it) (h2 : ∀ k d, src[k]? = some d → Rn c2 ((st k).set i (some (.val d))) body none (st (k + 1))) : Ex1 (max c1 c2 + 1) σ (.for1 i it body) none (st src.length) := .of' fun n hn => by
  have key : ∀ (l : List D) (k : Nat), k ≤ src.length → src.drop k = l → forL (LL n) i body (st k) l = some (none, st src.length) := by
    intro l
    induction l with
    | nil =>
      intro k hl hk
      have hle : src.length ≤ k := List.drop_eq_nil_iff.mp hk
      have : k = src.length := Nat.le_antisymm hl hle
      rw [this]; rfl
    | cons d r ih =>
      intro k hl hk
      have hd : src[k]? = some d := by
        have := congrArg (·[0]?) hk
        simpa using this
      have hr : src.drop (k + 1) = r := by
        have := congrArg List.tail hk
        simpa using this
      simp only [forL, h2 k d hd n (mr hn), Option.bind_eq_bind, Option.bind_some]
      exact ih (k + 1) (List.getElem?_eq_some_iff.mp hd).1 hr
  exact bs (h1 n (ml hn)) (h0 ▸ key src 0 (Nat.zero_le _) rfl)
end Ex1
end Mine
end
section
/-! The plain law: what the small functions do. -/
open PySem
set_option maxRecDepth 100000
namespace Mine
/-- closed runs -/
theorem Cl.run {c : Nat} {f : Str} {ds : List D} {d : D} (h : ∀ m, callF thePg (LL (m + c)) f ds = some d) : Cl c f ds d := fun n hn => by
  obtain ⟨m, rfl⟩ := Nat.exists_eq_add_of_le' hn
  exact h m
theorem c_ISEOF (x : Int) : Cl 10 "ISEOF" [.int x] (.bool (x == 0)) := .run fun m => by kernel_rfl
theorem c_ISTERMINAL (x : Int) : Cl 10 "ISTERMINAL" [.int x] (.bool (decide (x < 256))) := .run fun m => by kernel_rfl
theorem c_ISNONTERMINAL (x : Int) : Cl 10 "ISNONTERMINAL" [.int x] (.bool (decide (256 ≤ x))) := .run fun m => by kernel_rfl
noncomputable def askedL : List Str := ["", "a", "b", "aa", "ab", "ba", "bb", "aaa", "aab", "aba", "abb", "baa", "bab", "bba", "bbb"]
theorem c_asked : Cl 30 "_law_asked" [] (.list (askedL.map .str)) := .run fun m => by kernel_rfl

/-- the figures: what stands of them when the three remainders are known -/
noncomputable def figR (m : Nat) (x a b c : Int) : Option D := do
  let (r, _) ← (LL (m + 20)).run [some (.val (.int x)), none, none] [S.asg 1 (E.int a), S.asg 2 (E.bi .max [E.lst [E.var 1, E.int b]]),
    S.ret (E.bin .add (E.bin .add (E.idx (E.str ⟨#[48, 49, 50, 51]⟩) (E.var 1)) (E.idx (E.str ⟨#[48, 49, 50, 51]⟩) (E.var 2))) (E.idx (E.str ⟨#[48, 49, 50, 51]⟩) (E.bi .max [E.lst [E.var 2, E.int c]])))]
  return r.getD .none
theorem fig_form (m : Nat) (x : Int) : callF thePg (LL (m + 20)) "_law_figures" [.int x] = figR m x (x % 2) (x / 2 % 3) (x / 6 % 4) := by kernel_rfl
noncomputable def figOf (a b c : Nat) : Str := ⟨#[48 + a, 48 + max a b, 48 + max (max a b) c]⟩
theorem fig_val (m : Nat) (x : Int) (a b c : Nat) (ha : a < 2) (hb : b < 3) (hc : c < 4) : figR m x a b c = some (.str (figOf a b c)) := by
  match a, ha with
  | 0, _ => match b, hb with
    | 0, _ => match c, hc with | 0, _ => kernel_rfl | 1, _ => kernel_rfl | 2, _ => kernel_rfl | 3, _ => kernel_rfl
    | 1, _ => match c, hc with | 0, _ => kernel_rfl | 1, _ => kernel_rfl | 2, _ => kernel_rfl | 3, _ => kernel_rfl
    | 2, _ => match c, hc with | 0, _ => kernel_rfl | 1, _ => kernel_rfl | 2, _ => kernel_rfl | 3, _ => kernel_rfl
  | 1, _ => match b, hb with
    | 0, _ => match c, hc with | 0, _ => kernel_rfl | 1, _ => kernel_rfl | 2, _ => kernel_rfl | 3, _ => kernel_rfl
    | 1, _ => match c, hc with | 0, _ => kernel_rfl | 1, _ => kernel_rfl | 2, _ => kernel_rfl | 3, _ => kernel_rfl
    | 2, _ => match c, hc with | 0, _ => kernel_rfl | 1, _ => kernel_rfl | 2, _ => kernel_rfl | 3, _ => kernel_rfl
theorem c_figures (x : Int) : ∃ a b c, a < 2 ∧ b < 3 ∧ c < 4 ∧ Cl 20 "_law_figures" [.int x] (.str (figOf a b c)) := by
  refine ⟨(x % 2).toNat, (x / 2 % 3).toNat, (x / 6 % 4).toNat, by omega, by omega, by omega, .run fun m => ?_⟩
  rw [fig_form]
  have h1 : x % 2 = ((x % 2).toNat : Int) := by omega
  have h2 : x / 2 % 3 = ((x / 2 % 3).toNat : Int) := by omega
  have h3 : x / 6 % 4 = ((x / 6 % 4).toNat : Int) := by omega
  have := fig_val m x (x % 2).toNat (x / 2 % 3).toNat (x / 6 % 4).toNat (by omega) (by omega) (by omega)
  rwa [← h1, ← h2, ← h3] at this
/-- a symbol's letter -/
theorem c_name : ∀ x ∈ ([97, 65, 98, 66] : List Nat), Cl 20 "_law_name" [.int x] (.str ⟨#[x]⟩) := by
  intro x hx
  simp only [List.mem_cons, List.not_mem_nil, or_false] at hx
  rcases hx with rfl | rfl | rfl | rfl <;> exact .run fun m => by kernel_rfl
theorem c_nameN : ∀ k : Nat, k < 5 → Cl 20 "_law_name" [.int (256 + k)] (.str ⟨#[112 + k]⟩) := by
  intro k hk
  match k, hk with
  | 0, _ => exact .run fun m => by kernel_rfl
  | 1, _ => exact .run fun m => by kernel_rfl
  | 2, _ => exact .run fun m => by kernel_rfl
  | 3, _ => exact .run fun m => by kernel_rfl
  | 4, _ => exact .run fun m => by kernel_rfl
/-- the four figures of a row, all at once -/
noncomputable def fours : List (Nat × Nat × Nat × Nat) := (List.range 4).flatMap fun a => (List.range 4).flatMap fun b => (List.range 4).flatMap fun c => (List.range 4).map fun x => (a, b, c, x)
theorem fours_mem {a b c x : Nat} (ha : a < 4) (hb : b < 4) (hc : c < 4) (hx : x < 4) : (a, b, c, x) ∈ fours := by
  simp only [fours, List.mem_flatMap, List.mem_map, List.mem_range]
  exact ⟨a, ha, b, hb, c, hc, x, hx, rfl⟩
noncomputable def cnt (p : Nat → Bool) (a b c : Nat) : Nat := (if p a then 1 else 0) + (if p b then 1 else 0) + (if p c then 1 else 0)
/-- rows that do not fall -/
noncomputable def up3 (a b c : Nat) : Bool := decide (a ≤ b) && decide (b ≤ c)
theorem right_tab (m : Nat) : (fours.filter fun p => up3 p.1 p.2.1 p.2.2.1).map (fun p => callF thePg (LL (m + 40)) "bisect_right" [.list [.int p.1, .int p.2.1, .int p.2.2.1], .int p.2.2.2]) = (fours.filter fun p => up3 p.1 p.2.1 p.2.2.1).map (fun p => some (.int (cnt (fun y => decide (y ≤ p.2.2.2)) p.1 p.2.1 p.2.2.1))) := by kernel_rfl
theorem left_tab (m : Nat) : (fours.filter fun p => up3 p.1 p.2.1 p.2.2.1).map (fun p => callF thePg (LL (m + 40)) "bisect_left" [.list [.int p.1, .int p.2.1, .int p.2.2.1], .int p.2.2.2]) = (fours.filter fun p => up3 p.1 p.2.1 p.2.2.1).map (fun p => some (.int (cnt (fun y => decide (y < p.2.2.2)) p.1 p.2.1 p.2.2.1))) := by kernel_rfl
theorem c_right {a b c x : Nat} (ha : a ≤ b) (hb : b ≤ c) (hc : c < 4) (hx : x < 4) : Cl 40 "bisect_right" [.list [.int a, .int b, .int c], .int x] (.int (cnt (fun y => decide (y ≤ x)) a b c)) := .run fun m =>
  List.map_inj_left.mp (right_tab m) (a, b, c, x) (List.mem_filter.mpr ⟨fours_mem (by omega) (by omega) hc hx, by simp [up3, ha, hb]⟩)
theorem c_left {a b c x : Nat} (ha : a ≤ b) (hb : b ≤ c) (hc : c < 4) (hx : x < 4) : Cl 40 "bisect_left" [.list [.int a, .int b, .int c], .int x] (.int (cnt (fun y => decide (y < x)) a b c)) := .run fun m =>
  List.map_inj_left.mp (left_tab m) (a, b, c, x) (List.mem_filter.mpr ⟨fours_mem (by omega) (by omega) hc hx, by simp [up3, ha, hb]⟩)
end Mine
end
section
/-! The plain law: the walk over a word. -/
open PySem
set_option maxRecDepth 100000
namespace Mine
/-- a word: true for b -/
noncomputable abbrev Wd := List Bool
noncomputable def sg (b : Bool) : Nat := if b then 98 else 97
noncomputable def wS (w : Wd) : Str := ⟨(w.map sg).toArray⟩
theorem chars_wS (w : Wd) : charsD (wS w) = w.map fun b => .str ⟨#[sg b]⟩ := by simp [charsD, wS]
/-- four steps -/
structure Mp where
  (f0 f1 f2 f3 : Nat)
noncomputable def Mp.at (m : Mp) : Nat → Nat
  | 0 => m.f0 | 1 => m.f1 | 2 => m.f2 | _ => m.f3
noncomputable def Mp.ok (m : Mp) : Prop := m.f0 < 4 ∧ m.f1 < 4 ∧ m.f2 < 4 ∧ m.f3 < 4
noncomputable def Mp.D (m : Mp) : D := .list [.int m.f0, .int m.f1, .int m.f2, .int m.f3]
theorem Mp.lt {m : Mp} (h : m.ok) : ∀ x, m.at x < 4 := fun x => by
  obtain ⟨a, b, c, d⟩ := h
  match x with
  | 0 => exact a
  | 1 => exact b
  | 2 => exact c
  | _ + 3 => exact d
noncomputable def walk (fa fb : Mp) (x : Nat) : Wd → Nat
  | [] => x
  | b :: w => walk fa fb ((if b then fb else fa).at x) w
theorem walk_lt {fa fb : Mp} (ha : fa.ok) (hb : fb.ok) : ∀ (w : Wd) (x : Nat), x < 4 → walk fa fb x w < 4
  | [], x, h => h
  | b :: w, x, h => walk_lt ha hb w _ (by cases b; exact Mp.lt ha x; exact Mp.lt hb x)
theorem idx4 (m : Mp) {x : Nat} (h : x < 4) : idx2 m.D (.int x) = some (.int (m.at x)) := by
  match x, h with
  | 0, _ => rfl
  | 1, _ => rfl
  | 2, _ => rfl
  | 3, _ => rfl
/-- one letter -/
theorem letter_run (fa fb : Mp) (w : Wd) (o : Option Slot) (b : Bool) (x : Nat) (h : x < 4) :
    Rn 10 [some (.val (.int x)), some (.val (.str (wS w))), some (.val (.list [fa.D, fb.D])), some (.val (.str ⟨#[sg b]⟩))] [S.asg 0 (E.idx (E.idx (E.var 2) (E.mth .index (E.str ⟨#[97, 98]⟩) [E.var 3])) (E.var 0))] none
      [some (.val (.int ((if b then fb else fa).at x))), some (.val (.str (wS w))), some (.val (.list [fa.D, fb.D])), some (.val (.str ⟨#[sg b]⟩))] := by
  have hi : mth2 .index (.str ⟨#[97, 98]⟩) [.str ⟨#[sg b]⟩] = some (.int (if b then 1 else 0)) := by cases b <;> kernel_rfl
  have h2 : idx2 (.list [fa.D, fb.D]) (.int (if b then 1 else 0)) = some (if b then fb else fa).D := by cases b <;> rfl
  exact (Rn.cons (Ex1.asg (Ev.idx (Pk.ev (Ev.idx (Pk.var rfl) (Ev.mth rfl (Ev.str _) (Evs.cons (Ev.var rfl) Evs.nil) hi) h2) rfl) (Ev.var rfl) (idx4 _ h))) Rn.nil).le (by decide)
/-- the states of the walk -/
noncomputable def walkSt (fa fb : Mp) (w : Wd) (x : Nat) (k : Nat) : Sg := [some (.val (.int (walk fa fb x (w.take k)))), some (.val (.str (wS w))), some (.val (.list [fa.D, fb.D])), (if k = 0 then none else (w[k - 1]?).map fun b => .val (.str ⟨#[sg b]⟩))]
theorem walk_snoc (fa fb : Mp) (b : Bool) : ∀ (w : Wd) (x : Nat), walk fa fb x (w ++ [b]) = (if b then fb else fa).at (walk fa fb x w)
  | [], x => rfl
  | c :: w, x => walk_snoc fa fb b w _
theorem c_walk {fa fb : Mp} (ha : fa.ok) (hb : fb.ok) (w : Wd) {x : Nat} (hx : x < 4) : Cl 30 "_law_walk" [.int x, .str (wS w), .list [fa.D, fb.D]] (.int (walk fa fb x w)) := by
  refine (Cl.of (fn := b_lawwalk) (by kernel_rfl) ⟨rfl, Nat.le_of_ble_eq_true rfl⟩ (Rn.cons (σ' := walkSt fa fb w x w.length) (?_ : Ex1 20 _ _ _ _) (Rn.stop (Ex1.ret (Pk.var (by rfl))))) ?_).le (by decide)
  · have h := Ex1.for1 (σ := walkSt fa fb w x 0) (i := 3) (it := E.var 1) (src := w.map fun b => .str ⟨#[sg b]⟩) (c1 := 1) (c2 := 10)
      (body := [S.asg 0 (E.idx (E.idx (E.var 2) (E.mth .index (E.str ⟨#[97, 98]⟩) [E.var 3])) (E.var 0))]) (It.val rfl (by rw [← chars_wS]; rfl)) (walkSt fa fb w x) rfl fun k d hd => ?_
    · rw [List.length_map] at h
      exact h.le (by decide)
    · rw [List.getElem?_map] at hd
      obtain ⟨b, hb', rfl⟩ := Option.map_eq_some_iff.mp hd
      have hlt := walk_lt ha hb (w.take k) x hx
      have key := letter_run fa fb w none b _ hlt
      have e : walkSt fa fb w x (k + 1) = [some (.val (.int ((if b then fb else fa).at (walk fa fb x (w.take k))))), some (.val (.str (wS w))), some (.val (.list [fa.D, fb.D])), some (.val (.str ⟨#[sg b]⟩))] := by
        unfold walkSt
        rw [List.take_add_one, hb', ← walk_snoc]
        simp [hb']
      rw [e]
      exact key
  · simp [walkSt]
end Mine
end
section
/-! The plain law: letters read one behind the other. -/
open PySem
set_option maxRecDepth 100000
namespace Mine
theorem len_wS (w : Wd) : (wS w).length = w.length := by simp [wS, Str.length]
theorem charAt_wS {t : Wd} {p : Nat} {b : Bool} (h : t[p]? = some b) : idx2 (.str (wS t)) (.int p) = some (.str ⟨#[sg b]⟩) ∨ 1000000 ≤ p := by
  by_cases hp : p < 1000000
  · left
    have hl : p < t.length := (List.getElem?_eq_some_iff.mp h).1
    have h1 : seqIndex? (p : Int) (wS t).length = some p := by
      unfold seqIndex?
      rw [len_wS]
      have : ¬ ((p : Int) < 0) := by omega
      simp only [this, if_false]
      rw [if_pos (by simp; omega)]
      simp
    simp only [idx2_list, idx2_str, idx2_dict]
    rw [if_pos ⟨by omega, by omega⟩]
    unfold Txt.charAt
    rw [h1]
    simp [wS, h]
  · right; omega
/-- how far a text is read -/
noncomputable def stp (t : Wd) (p : Nat) (b : Bool) : Nat := if t[p]? = some b then p + 1 else p
noncomputable def stands (t : Wd) (p : Nat) : Wd → Nat
  | [] => p
  | b :: w => stands t (stp t p b) w
theorem stands_snoc (t : Wd) (b : Bool) : ∀ (w : Wd) (p : Nat), stands t p (w ++ [b]) = stp t (stands t p w) b
  | [], p => rfl
  | c :: w, p => stands_snoc t b w _
theorem stands_le (t : Wd) : ∀ (w : Wd) (p : Nat), p ≤ t.length → stands t p w ≤ t.length
  | [], p, h => h
  | b :: w, p, h => stands_le t w _ (by
    unfold stp
    split
    · rename_i e; exact (List.getElem?_eq_some_iff.mp e).1
    · exact h)
theorem sg_inj {a b : Bool} : ((⟨#[sg a]⟩ : Str) == ⟨#[sg b]⟩) = (a == b) := by cases a <;> cases b <;> rfl
theorem place_run (t w : Wd) (ht : t.length ≤ 1000) (p : Nat) (b : Bool) (hp : p ≤ t.length) :
    Rn 10 [some (.val (.str (wS t))), some (.val (.str (wS w))), some (.val (.int p)), some (.val (.str ⟨#[sg b]⟩))]
      [S.ifs (E.andl (E.cmp .lt (E.var 2) (E.bi .len [E.var 0])) [E.cmp .eq (E.idx (E.var 0) (E.var 2)) (E.var 3)]) [S.aug 2 .add (E.int 1)] []] none
      [some (.val (.str (wS t))), some (.val (.str (wS w))), some (.val (.int (stp t p b : Nat))), some (.val (.str ⟨#[sg b]⟩))] := by
  have hlen : bi2 .len [.str (wS t)] = some (.int t.length) := by
    simp only [bi2_lenL, bi2_lenS, bi2_sum, bi2_max, len_wS]
    rw [if_pos (by omega)]
  have c1 : ∀ q, cmp2 .lt (.int p) (.int t.length) = some q → Ts 5 [some (.val (.str (wS t))), some (.val (.str (wS w))), some (.val (.int p)), some (.val (.str ⟨#[sg b]⟩))] (E.cmp .lt (E.var 2) (E.bi .len [E.var 0])) q := fun q hq =>
    (Ts.cmp rfl (Ev.var rfl) (Ev.bi (Pks.cons (Pk.var rfl) Pks.nil) hlen) hq).le (by decide)
  cases h : t[p]? with
  | none =>
    have hge : t.length ≤ p := List.getElem?_eq_none_iff.mp h
    have e : stp t p b = p := by simp [stp, h]
    rw [e]
    have f : Ts 5 _ _ false := c1 false (by simp [cmp2_lt, cmp2_le, cmp2_gt, cmp2_ge, cmp2_eq, cmp2_ne, cmp2_inI, cmp2_notInI, cmp2_inS, cmp2_notInS, cmp2_inT, cmp2_notInT, cmp2_notInL]; omega)
    exact (Rn.cons (Ex1.ifF (Ts.andF f) Rn.nil) Rn.nil).le (by decide)
  | some a =>
    have hlt : p < t.length := (List.getElem?_eq_some_iff.mp h).1
    have f : Ts 5 _ _ true := c1 true (by simp [cmp2_lt, cmp2_le, cmp2_gt, cmp2_ge, cmp2_eq, cmp2_ne, cmp2_inI, cmp2_notInI, cmp2_inS, cmp2_notInS, cmp2_inT, cmp2_notInT, cmp2_notInL]; omega)
    have hi := (charAt_wS h).resolve_right (by omega)
    have g : ∀ q, cmp2 .eq (.str ⟨#[sg a]⟩) (.str ⟨#[sg b]⟩) = some q → Ts 5 [some (.val (.str (wS t))), some (.val (.str (wS w))), some (.val (.int p)), some (.val (.str ⟨#[sg b]⟩))] (E.cmp .eq (E.idx (E.var 0) (E.var 2)) (E.var 3)) q := fun q hq =>
      (Ts.cmp rfl (Ev.idx (Pk.var rfl) (Ev.var rfl) hi) (Ev.var rfl) hq).le (by decide)
    have hq : cmp2 .eq (.str ⟨#[sg a]⟩) (.str ⟨#[sg b]⟩) = some (a == b) := by simp only [cmp2_lt, cmp2_le, cmp2_gt, cmp2_ge, cmp2_eq, cmp2_ne, cmp2_inI, cmp2_notInI, cmp2_inS, cmp2_notInS, cmp2_inT, cmp2_notInT, cmp2_notInL, eq2_int, eq2_str, eq2_list, sg_inj]
    by_cases hab : a = b
    · subst hab
      have e : stp t p a = p + 1 := by simp [stp, h]
      rw [e]
      have g' := g true (by rw [hq]; simp)
      exact (Rn.cons (Ex1.ifT (Ts.andT f (Ts.and1 g')) (Rn.cons (Ex1.aug rfl (Ev.int 1) rfl) Rn.nil)) Rn.nil).le (by decide)
    · have e : stp t p b = p := by simp [stp, h, hab]
      rw [e]
      have g' := g false (by rw [hq]; simp [hab])
      exact (Rn.cons (Ex1.ifF (Ts.andT f (Ts.and1 g')) Rn.nil) Rn.nil).le (by decide)
noncomputable def standSt (t w : Wd) (k : Nat) : Sg := [some (.val (.str (wS t))), some (.val (.str (wS w))), some (.val (.int (stands t 0 (w.take k) : Nat))), (if k = 0 then none else (w[k - 1]?).map fun b => .val (.str ⟨#[sg b]⟩))]
theorem c_stands (t w : Wd) (ht : t.length ≤ 1000) : Cl 30 "_law_stands" [.str (wS t), .str (wS w)] (.bool (decide (stands t 0 w = t.length))) := by
  have hlen : bi2 .len [.str (wS t)] = some (.int t.length) := by
    simp only [bi2_lenL, bi2_lenS, bi2_sum, bi2_max, len_wS]
    rw [if_pos (by omega)]
  refine (Cl.of (fn := b_lawstands) (by kernel_rfl) ⟨rfl, Nat.le_of_ble_eq_true rfl⟩ (Rn.cons (Ex1.asg (Ev.int 0)) (Rn.cons (σ' := standSt t w w.length) (?_ : Ex1 20 _ _ _ _) (Rn.stop (Ex1.ret (Pk.ev (Ev.cmp rfl (Ev.var rfl) (Ev.bi (Pks.cons (Pk.var rfl) Pks.nil) hlen) (by rfl)) rfl))))) ?_).le (by decide)
  · have h := Ex1.for1 (σ := standSt t w 0) (i := 3) (it := E.var 1) (src := w.map fun b => .str ⟨#[sg b]⟩) (c1 := 1) (c2 := 10)
      (body := [S.ifs (E.andl (E.cmp .lt (E.var 2) (E.bi .len [E.var 0])) [E.cmp .eq (E.idx (E.var 0) (E.var 2)) (E.var 3)]) [S.aug 2 .add (E.int 1)] []]) (It.val rfl (by rw [← chars_wS]; rfl)) (standSt t w) rfl fun k d hd => ?_
    · rw [List.length_map] at h
      exact h.le (by decide)
    · rw [List.getElem?_map] at hd
      obtain ⟨b, hb', rfl⟩ := Option.map_eq_some_iff.mp hd
      have key := place_run t w ht _ b (stands_le t (w.take k) 0 (Nat.zero_le _))
      have e : standSt t w (k + 1) = [some (.val (.str (wS t))), some (.val (.str (wS w))), some (.val (.int (stp t (stands t 0 (w.take k)) b : Nat))), some (.val (.str ⟨#[sg b]⟩))] := by
        unfold standSt
        rw [List.take_add_one, hb', ← stands_snoc]
        simp [hb']
      rw [e]
      exact key
  · simp only [Option.getD_some, List.take_length]
    congr 1
    rw [Bool.eq_iff_iff]
    simp only [beq_iff_eq, decide_eq_true_eq]
    exact ⟨fun h => by exact_mod_cast h, fun h => by exact_mod_cast h⟩
end Mine
end
section
/-! The plain law: what a search finds. -/
open PySem PySem.Builtin PySem.Builtin.Str PySem.StrLaws
namespace Mine
noncomputable def fnd (s y : Str) (lo hi : Nat) : Int := match occurrences s y lo hi 1 with | i :: _ => (i : Int) | [] => -1
theorem range_split {lo n a : Nat} {pre post : List Nat} (h : List.range' lo n = pre ++ a :: post) : lo ≤ a ∧ ∀ k, lo ≤ k → k < a → k ∈ pre := by
  have hL : n = pre.length + (post.length + 1) := by
    have := congrArg List.length h
    simpa using this
  have hlen : lo + pre.length = a := by
    have h1 : (List.range' lo n)[pre.length]? = some a := by rw [h]; simp
    rw [List.getElem?_range'] at h1
    · simpa using h1
    · omega
  refine ⟨by omega, fun k h1 h2 => ?_⟩
  have h3 : (List.range' lo n)[k - lo]? = pre[k - lo]? := by rw [h, List.getElem?_append_left (by omega)]
  rw [List.getElem?_range'] at h3
  · have h4 : pre[k - lo]? = some k := by rw [← h3]; simp; omega
    exact List.mem_of_getElem? h4
  · omega
theorem fnd_spec (s y : Str) (lo hi : Nat) : (fnd s y lo hi = -1 ∧ ∀ i, lo ≤ i → ¬ At s y hi i) ∨ ∃ i : Nat, fnd s y lo hi = i ∧ lo ≤ i ∧ At s y hi i ∧ ∀ k, lo ≤ k → k < i → ¬ At s y hi k := by
  unfold fnd
  rw [occ_eq]
  rcases occ_first s y hi 1 (Nat.le_refl _) (List.range' lo (hi + 1 - lo)) lo (fun i hi => by simp [List.mem_range'] at hi; omega) with ⟨h0, hn⟩ | ⟨pre, a, post, e, h0, ha, hn⟩
  · refine .inl ⟨by rw [h0], fun i hl hi' => ?_⟩
    have := hi'.1
    exact hn i (List.mem_range'.mpr ⟨i - lo, by omega, by omega⟩) hi'
  · obtain ⟨z1, z2⟩ := range_split e
    refine .inr ⟨a, ?_, z1, ha, fun k hk hk' => hn k (z2 k hk hk')⟩
    generalize (forIn (List.range' lo (hi + 1 - lo)) ((#[] : Array Nat), lo) (occBody s y hi 1)).run.fst = arr at h0
    have h1 : arr.toList[0]? = some a := by simpa using h0
    cases hL : arr.toList with
    | nil => rw [hL] at h1; cases h1
    | cons b r => rw [hL] at h1; cases h1; rfl
theorem mth_find (s y : Str) (lo hi : Nat) : mth2 .find (.str s) [.str y, .int lo, .int hi] = some (.int (fnd s y lo (min hi s.length))) := by
  simp only [mth2_join, mth2_find, mth2_getI, mth2_getS]
  rw [if_pos ⟨by omega, by omega⟩]
  rfl
end Mine
end
section
/-! The plain law: the dotted patterns. -/
open PySem PySem.Builtin PySem.Builtin.Str PySem.StrLaws
set_option maxRecDepth 100000
namespace Mine
/-- the parts, one behind the other -/
noncomputable def mloop (w : Str) (ep : Nat) : List Str → Nat → Option Nat
  | [], sp => some sp
  | p :: r, sp => if fnd w p sp (min ep w.length) < 0 then none else mloop w ep r ((fnd w p sp (min ep w.length)).toNat + p.length)
noncomputable def mBody : List S := [S.asg 3 (E.mth .find (E.var 1) [E.var 5, E.var 3, E.var 4]), S.ifs (E.cmp .lt (E.var 3) (E.int 0)) [S.ret (E.bool false)] [], S.aug 3 .add (E.bi .len [E.var 5])]
theorem mloop_run (w : Str) (ep : Nat) (o0 o2 : Option Slot) : ∀ (ps : List Str) (sp : Nat) (o5 : Option Slot), (∀ p ∈ ps, p.length ≤ 1000) → ∃ σ', ∀ n, 20 ≤ n → forL (LL n) 5 mBody [o0, some (.val (.str w)), o2, some (.val (.int sp)), some (.val (.int ep)), o5] (ps.map .str) = some ((match mloop w ep ps sp with | some _ => none | none => some (.bool false)), σ')
  | [], sp, o5, _ => ⟨_, fun n _ => rfl⟩
  | p :: r, sp, o5, h => by
    have hlen : bi2 .len [.str p] = some (.int p.length) := by
      simp only [bi2_lenL, bi2_lenS, bi2_sum, bi2_max]
      rw [if_pos (by have := h p (.head _); omega)]
    have e1 : Ex1 10 [o0, some (.val (.str w)), o2, some (.val (.int sp)), some (.val (.int ep)), some (.val (.str p))] (S.asg 3 (E.mth .find (E.var 1) [E.var 5, E.var 3, E.var 4])) none
        [o0, some (.val (.str w)), o2, some (.val (.int (fnd w p sp (min ep w.length)))), some (.val (.int ep)), some (.val (.str p))] :=
      (Ex1.asg (Ev.mthV (fun bk q => by cases q) (Pk.var rfl) (Evs.cons (Ev.var rfl) (Evs.cons (Ev.var rfl) (Evs.cons (Ev.var rfl) Evs.nil))) (mth_find w p sp ep))).le (by decide)
    by_cases hneg : fnd w p sp (min ep w.length) < 0
    · have run : Rn 20 [o0, some (.val (.str w)), o2, some (.val (.int sp)), some (.val (.int ep)), some (.val (.str p))] mBody (some (.bool false)) [o0, some (.val (.str w)), o2, some (.val (.int (fnd w p sp (min ep w.length)))), some (.val (.int ep)), some (.val (.str p))] :=
        (Rn.cons e1 (Rn.stop (Ex1.ifT (Ts.cmp rfl (Ev.var rfl) (Ev.int 0) (by show some (decide _) = some true; rw [decide_eq_true hneg])) (Rn.stop (Ex1.ret (Pk.ev (Ev.bool false) rfl)))))).le (by decide)
      refine ⟨[o0, some (.val (.str w)), o2, some (.val (.int (fnd w p sp (min ep w.length)))), some (.val (.int ep)), some (.val (.str p))], fun n hn => ?_⟩
      have := run n hn
      simp only [List.map_cons, forL, mloop, hneg, if_true]
      show ((LL n).run [o0, some (.val (.str w)), o2, some (.val (.int sp)), some (.val (.int ep)), some (.val (.str p))] mBody >>= _) = _
      rw [this]
      rfl
    · have run : Rn 20 [o0, some (.val (.str w)), o2, some (.val (.int sp)), some (.val (.int ep)), some (.val (.str p))] mBody none [o0, some (.val (.str w)), o2, some (.val (.int (fnd w p sp (min ep w.length) + p.length))), some (.val (.int ep)), some (.val (.str p))] :=
        (Rn.cons e1 (Rn.cons (Ex1.ifF (Ts.cmp rfl (Ev.var rfl) (Ev.int 0) (by show some (decide _) = some false; rw [decide_eq_false hneg])) Rn.nil) (Rn.cons (Ex1.aug rfl (Ev.bi (Pks.cons (Pk.var rfl) Pks.nil) hlen) rfl) Rn.nil))).le (by decide)
      obtain ⟨σ', ih⟩ := mloop_run w ep o0 o2 r ((fnd w p sp (min ep w.length)).toNat + p.length) (some (.val (.str p))) fun q hq => h q (.tail _ hq)
      have hcast : (((fnd w p sp (min ep w.length)).toNat + p.length : Nat) : Int) = fnd w p sp (min ep w.length) + p.length := by omega
      refine ⟨σ', fun n hn => ?_⟩
      have h1 := run n hn
      have h2 := ih n hn
      rw [hcast] at h2
      simp only [List.map_cons, forL, mloop, hneg, if_false]
      show ((LL n).run [o0, some (.val (.str w)), o2, some (.val (.int sp)), some (.val (.int ep)), some (.val (.str p))] mBody >>= _) = _
      rw [h1]
      exact h2
end Mine
end
section
/-! The plain law: what the dotted patterns find. -/
open PySem PySem.Builtin PySem.Builtin.Str PySem.StrLaws
set_option maxRecDepth 100000
namespace Mine
theorem sg_map_inj {a b : Wd} : a.map sg = b.map sg ↔ a = b := by
  constructor
  · intro h
    exact (List.map_inj_right (fun x y e => by cases x <;> cases y <;> first | rfl | (simp [sg] at e))).mp h
  · rintro rfl; rfl
theorem subAt_wS (w u : Wd) (i : Nat) : subAt (wS w) (wS u) i = true ↔ (w.drop i).take u.length = u := by
  unfold subAt
  rw [len_wS]
  simp only [wS, beq_iff_eq]
  rw [← Array.toList_inj]
  simp only [Array.toList_extract, List.extract_eq_take_drop]
  rw [show i + u.length - i = u.length by omega, ← List.map_drop, ← List.map_take, sg_map_inj]
theorem at_wS (w u : Wd) (hi i : Nat) : At (wS w) (wS u) hi i ↔ i + u.length ≤ hi ∧ (w.drop i).take u.length = u := by
  unfold At
  rw [subAt_wS, len_wS]
theorem fnd_nil (w : Wd) (sp hi : Nat) (h : sp ≤ hi) : fnd (wS w) (wS []) sp hi = sp := by
  rcases fnd_spec (wS w) (wS []) sp hi with ⟨_, h2⟩ | ⟨i, e, h1, h2, h3⟩
  · exact absurd ((at_wS w [] hi sp).mpr ⟨by simpa using h, by simp⟩) (h2 sp (Nat.le_refl _))
  · rcases Nat.lt_or_ge sp i with hlt | hge
    · exact absurd ((at_wS w [] hi sp).mpr ⟨by simpa using h, by simp⟩) (h3 sp (Nat.le_refl _) hlt)
    · rw [e]; congr 1; omega
/-- the first place of a letter -/
noncomputable def firstAt (b : Bool) : Wd → Option Nat
  | [] => none
  | c :: r => if c == b then some 0 else (firstAt b r).map (· + 1)
theorem sub_cons (b : Bool) (t : Wd) : ∀ (w : Wd), (b :: t).isSublist w = (match firstAt b w with | some k => t.isSublist (w.drop (k + 1)) | none => false)
  | [] => rfl
  | c :: r => by
    by_cases h : c = b
    · subst h; simp [List.isSublist, firstAt]
    · have h' : ¬ b = c := fun e => h e.symm
      have ih := sub_cons b t r
      simp only [List.isSublist, firstAt, beq_iff_eq, h, h', if_false]
      rw [ih]
      cases firstAt b r with
      | none => rfl
      | some k => simp
theorem firstAt_none {b : Bool} : ∀ {w : Wd}, firstAt b w = none → ∀ i : Nat, w[i]? ≠ some b
  | [], _, i => by simp
  | c :: r, h, i => by
    simp only [firstAt] at h
    split at h
    · cases h
    · rename_i hc
      have h' : firstAt b r = none := by simpa using h
      cases i with
      | zero => simpa using hc
      | succ j => simpa using firstAt_none h' j
theorem firstAt_some {b : Bool} : ∀ {w : Wd} {k : Nat}, firstAt b w = some k → w[k]? = some b ∧ ∀ i : Nat, i < k → w[i]? ≠ some b
  | [], k, h => by cases h
  | c :: r, k, h => by
    simp only [firstAt] at h
    split at h
    · rename_i hc
      cases h
      exact ⟨by simpa using hc, fun i hi => absurd hi (Nat.not_lt_zero _)⟩
    · rename_i hc
      obtain ⟨j, hj, rfl⟩ := Option.map_eq_some_iff.mp h
      obtain ⟨h1, h2⟩ := firstAt_some hj
      refine ⟨by simpa using h1, fun i hi => ?_⟩
      cases i with
      | zero => simpa using hc
      | succ i => simpa using h2 i (by omega)
theorem take1 (w : Wd) (b : Bool) (i : Nat) : (w.drop i).take 1 = [b] ↔ w[i]? = some b := by
  rw [List.take_one, List.head?_drop]
  cases w[i]? <;> simp [Option.toList]
theorem fnd_one (w : Wd) (b : Bool) (sp hi : Nat) (hh : hi = w.length) : fnd (wS w) (wS [b]) sp hi = (match firstAt b (w.drop sp) with | some k => ((sp + k : Nat) : Int) | none => -1) := by
  subst hh
  rcases fnd_spec (wS w) (wS [b]) sp w.length with ⟨e, h2⟩ | ⟨i, e, h1, h2, h3⟩
  · rw [e]
    cases hf : firstAt b (w.drop sp) with
    | none => rfl
    | some k =>
      have h := (firstAt_some hf).1
      rw [List.getElem?_drop] at h
      have hl := (List.getElem?_eq_some_iff.mp h).1
      exact absurd ((at_wS w [b] _ (sp + k)).mpr ⟨by simp only [List.length_cons, List.length_nil]; omega, (take1 _ _ _).mpr h⟩) (h2 _ (by omega))
  · rw [e]
    have hi1 := (take1 _ _ _).mp ((at_wS _ _ _ _).mp h2).2
    cases hf : firstAt b (w.drop sp) with
    | none =>
      have := firstAt_none hf (i - sp)
      rw [List.getElem?_drop, show sp + (i - sp) = i by omega] at this
      exact absurd hi1 this
    | some k =>
      obtain ⟨g1, g2⟩ := firstAt_some hf
      rw [List.getElem?_drop] at g1
      have hl := (List.getElem?_eq_some_iff.mp g1).1
      have a1 : ¬ sp + k < i := fun hlt => h3 _ (by omega) hlt ((at_wS w [b] _ (sp + k)).mpr ⟨by simp only [List.length_cons, List.length_nil]; omega, (take1 _ _ _).mpr g1⟩)
      have a2 : ¬ i < sp + k := fun hlt => by
        have := g2 (i - sp) (by omega)
        rw [List.getElem?_drop, show sp + (i - sp) = i by omega] at this
        exact this hi1
      show (i : Int) = ((sp + k : Nat) : Int)
      congr 1; omega
theorem mloop_sub (w : Wd) : ∀ (t : Wd) (sp : Nat), sp ≤ w.length → (mloop (wS w) w.length ((t.map fun b => wS [b]) ++ [wS []]) sp).isSome = t.isSublist (w.drop sp)
  | [], sp, h => by
    simp only [List.map_nil, List.nil_append, mloop, len_wS, Nat.min_self]
    rw [fnd_nil w sp _ h]
    have : ¬ ((sp : Int) < 0) := by omega
    simp [this]
  | b :: t, sp, h => by
    simp only [List.map_cons, List.cons_append, mloop]
    rw [len_wS, Nat.min_self, fnd_one w b sp _ rfl, sub_cons]
    cases hf : firstAt b (w.drop sp) with
    | none => simp
    | some k =>
      obtain ⟨g1, g2⟩ := firstAt_some hf
      rw [List.getElem?_drop] at g1
      have hl := (List.getElem?_eq_some_iff.mp g1).1
      have : ¬ (((sp + k : Nat) : Int) < 0) := by omega
      simp only [this, if_false, Int.toNat_natCast, len_wS, List.length_cons, List.length_nil, Nat.zero_add, List.drop_drop]
      rw [mloop_sub w t (sp + k + 1) (by omega)]
      rfl
theorem stands_sub (t : Wd) : ∀ (w : Wd) (p : Nat), p ≤ t.length → (stands t p w = t.length ↔ (t.drop p).isSublist w = true)
  | [], p, h => by
    show p = t.length ↔ _
    rcases Nat.lt_or_ge p t.length with h1 | h1
    · rw [List.drop_eq_getElem_cons h1]
      exact ⟨fun e => absurd e (by omega), fun e => nomatch e⟩
    · have : p = t.length := by omega
      subst this; simp
  | c :: w, p, h => by
    show stands t (stp t p c) w = t.length ↔ _
    rcases Nat.lt_or_ge p t.length with h1 | h1
    · rw [List.drop_eq_getElem_cons h1]
      by_cases hc : t[p] = c
      · have e : stp t p c = p + 1 := by unfold stp; rw [List.getElem?_eq_getElem h1]; simp [hc]
        rw [e, stands_sub t w (p + 1) h1]
        simp only [hc, List.isSublist, beq_self_eq_true, if_true]
      · have e : stp t p c = p := by unfold stp; rw [List.getElem?_eq_getElem h1]; simp [hc]
        rw [e, stands_sub t w p h, List.drop_eq_getElem_cons h1]
        simp only [List.isSublist, beq_iff_eq, hc, if_false]
    · have hp : p = t.length := by omega
      have e : stp t p c = p := by unfold stp; rw [List.getElem?_eq_none h1]; simp
      rw [e, stands_sub t w p h]
      subst hp
      simp
end Mine
end
section
/-! The plain law: _ellipsis_match for the two kinds of patterns. -/
open PySem PySem.Builtin PySem.Builtin.Str PySem.StrLaws
set_option maxRecDepth 100000
namespace Mine
variable {c c1 c2 c3 : Nat} {σ σ' σ'' : Sg}
/-- a loop over some items that runs through -/
noncomputable def LpR (c : Nat) (i : Nat) (body : List S) (σ : Sg) (xs : List D) (σ' : Sg) : Prop := ∀ n, c ≤ n → forL (LL n) i body σ xs = some (none, σ')
theorem LpR.nil {i : Nat} {body : List S} : LpR 0 i body σ [] σ := fun n _ => rfl
theorem LpR.cons {i : Nat} {body : List S} {d : D} {xs : List D} (h : Rn c1 (σ.set i (some (.val d))) body none σ') (r : LpR c2 i body σ' xs σ'') : LpR (max c1 c2) i body σ (d :: xs) σ'' := fun n hn => by
  simp only [forL, h n (ml hn), Option.bind_eq_bind, Option.bind_some, r n (mr hn)]
theorem LpR.append {i : Nat} {body : List S} {xs ys : List D} (h : LpR c1 i body σ xs σ') (r : LpR c2 i body σ' ys σ'') : LpR (max c1 c2) i body σ (xs ++ ys) σ'' := fun n hn => by
  have h1 := h n (ml hn)
  have h2 := r n (mr hn)
  clear h r
  induction xs generalizing σ with
  | nil => cases h1; exact h2
  | cons d xs ih =>
    simp only [List.cons_append, forL] at h1 ⊢
    cases hr : (LL n).run (σ.set i (some (.val d))) body with
    | none => rw [hr] at h1; cases h1
    | some p =>
      rw [hr] at h1
      obtain ⟨q, s⟩ := p
      cases q with
      | some v => cases h1
      | none => exact ih h1
theorem LpR.le {i : Nat} {body : List S} {xs : List D} (h : LpR c i body σ xs σ') (hc : c ≤ c1) : LpR c1 i body σ xs σ' := fun n hn => h n (Nat.le_trans hc hn)
theorem Ex1.forR {i : Nat} {it : Xp} {body : List S} {src : List D} (h1 : It c1 σ it src) (h2 : LpR c2 i body (frz σ it) src σ') : Ex1 (max c1 c2 + 1) σ (.for1 i it body) none σ' := .of' fun n hn => bs (h1 n (ml hn)) (h2 n (mr hn))
theorem Ex1.forS {i : Nat} {it : Xp} {body : List S} {src : List D} {r : Option D} (h1 : It c1 σ it src) (h2 : ∀ n, c2 ≤ n → forL (LL n) i body (frz σ it) src = some (r, σ')) : Ex1 (max c1 c2 + 1) σ (.for1 i it body) r σ' := .of' fun n hn => bs (h1 n (ml hn)) (h2 n (mr hn))
theorem Ex1.split {i : Nat} {o sep : Xp} {x y : Str} (h1 : Ev c1 σ o (.str x)) (h2 : Ev c2 σ sep (.str y)) (h : 0 < y.length ∧ x.length ≤ 100000 ∧ (Builtin.Str.partsBetween x (Builtin.Str.occurrences x y 0 x.length (x.length + 1)) y.length).length ≤ 100000) : Ex1 (max c1 c2 + 1) σ (.asgSplit i o sep) none (σ.set i (some (.own (.list ((Txt.split x y).map .str))))) := .of' fun n hn => by
  exact bs (h1 n (ml hn)) (bs rfl (bs (h2 n (mr hn)) (bs rfl (if_pos h))))
theorem Ex1.del {i : Nat} {x : D} {l : List D} {last : Bool} (hs : σ[i]? = some (some (.own (.list (x :: l))))) (hl : l.length ≤ 10000) : Ex1 1 σ (.del i last) none (σ.set i (some (.own (.list (if last then (x :: l).dropLast else l))))) := .of' fun n hn => by
  exact bs (congrArg ownD hs) (bs rfl (bs (if_pos hl) rfl))
noncomputable def dots : Str := ⟨#[46, 46, 46]⟩
theorem con_dots : thePg.con "ELLIPSIS_MARKER" = some (.str dots) := by kernel_rfl
/-- what the patterns of the law are made of -/
structure PatOk (pat : Str) (ps : List Str) : Prop where
  inn : cmp2 .notIn (.str dots) (.str pat) = some false
  sp : Txt.split pat dots = ps
  l1 : pat.length ≤ 100000
  l2 : (Builtin.Str.partsBetween pat (Builtin.Str.occurrences pat dots 0 pat.length (pat.length + 1)) dots.length).length ≤ 100000
theorem bi_len_wS {w : Wd} (hw : w.length ≤ 1000) : bi2 .len [.str (wS w)] = some (.int w.length) := by
  simp only [bi2_lenL, bi2_lenS, bi2_sum, bi2_max, len_wS]
  rw [if_pos (by omega)]
theorem bi_len_list {l : List D} (hl : l.length ≤ 1000) : bi2 .len [.list l] = some (.int l.length) := by
  simp only [bi2_lenL, bi2_lenS, bi2_sum, bi2_max]
  rw [if_pos (by omega)]
theorem idx_last (x : D) (l : List D) : idx2 (.list (l ++ [x])) (.int (-1)) = some x := by
  simp only [idx2_list, idx2_str, idx2_dict, wrapIx]
  rw [if_neg (by omega), if_pos ⟨by simp; omega, by omega⟩]
  have : (-1 + ((l ++ [x]).length : Int)).toNat = l.length := by simp; omega
  show (l ++ [x])[(-1 + ((l ++ [x]).length : Int)).toNat]? = some x
  rw [this]; simp
theorem idx_first (x : D) (l : List D) : idx2 (.list (x :: l)) (.int 0) = some x := by
  simp only [idx2_list, idx2_str, idx2_dict, wrapIx]
  rw [if_pos (by omega), if_pos ⟨by simp, by omega⟩]
  rfl
theorem ts_empty {i : Nat} (h : σ[i]? = some (some (.val (.str (wS []))))) : Ts 2 σ (E.var i) false := Ts.str (x := wS []) (Ev.var h) rfl (by decide)
theorem ts_letter {i : Nat} {b : Bool} (h : σ[i]? = some (some (.val (.str (wS [b]))))) : Ts 2 σ (E.var i) true := Ts.str (x := wS [b]) (Ev.var h) rfl (by simp [len_wS])
noncomputable abbrev M0 (pat : Str) (w : Wd) (o2 o3 o4 o5 : Option Slot) : Sg := [some (.val (.str pat)), some (.val (.str (wS w))), o2, o3, o4, o5]
theorem c_match1 {pat : Str} {mid : List Str} {w : Wd} (hp : PatOk pat (wS [] :: mid ++ [wS []])) (hm : ∀ p ∈ mid, p.length ≤ 1000) (hl : mid.length ≤ 900) (hw : w.length ≤ 1000) :
    Cl 60 "_ellipsis_match" [.str pat, .str (wS w)] (.bool (mloop (wS w) w.length (wS [] :: mid ++ [wS []]) 0).isSome) := by
  have hps : (Txt.split pat dots).map PyData.str = .str (wS []) :: (mid.map .str ++ [.str (wS [])]) := by rw [hp.sp]; simp
  have h0 : idx2 (.list (.str (wS []) :: (mid.map .str ++ [.str (wS [])]))) (.int 0) = some (.str (wS [])) := idx_first _ _
  have h1 : idx2 (.list (.str (wS []) :: (mid.map .str ++ [.str (wS [])]))) (.int (-1)) = some (.str (wS [])) := idx_last _ (.str (wS []) :: mid.map .str)
  have hlen : bi2 .len [.list (.str (wS []) :: (mid.map .str ++ [.str (wS [])]))] = some (.int ((mid.length + 2 : Nat) : Int)) := by
    rw [bi_len_list (by simp; omega)]; congr 2; simp; omega
  obtain ⟨σ', hloop⟩ := mloop_run (wS w) w.length (some (.val (.str pat))) (some (.val (.list (.str (wS []) :: (mid.map .str ++ [.str (wS [])]))))) (wS [] :: mid ++ [wS []]) 0 (some (.val (.str (wS [])))) (by
    intro p hp'
    simp only [List.cons_append, List.mem_cons, List.mem_append, List.not_mem_nil, or_false] at hp'
    rcases hp' with rfl | h | rfl
    · simp [len_wS]
    · exact hm p h
    · simp [len_wS])
  have hmap : (wS [] :: mid ++ [wS []]).map PyData.str = .str (wS []) :: (mid.map .str ++ [.str (wS [])]) := by simp
  rw [hmap] at hloop
  have s1 : Ex1 10 (M0 pat w none none none none) (S.ifs (E.cmp (Cp.notIn) (E.con "ELLIPSIS_MARKER") (E.var 0)) [S.ret (E.cmp (Cp.eq) (E.var 0) (E.var 1))] []) none (M0 pat w none none none none) :=
    (Ex1.ifF (Ts.cmpIn rfl (Ev.con con_dots) (Pk.var rfl) hp.inn) Rn.nil).le (by decide)
  have s2 : Ex1 10 (M0 pat w none none none none) (S.asgSplit 2 (E.var 0) (E.con "ELLIPSIS_MARKER")) none (M0 pat w (some (.own (.list (.str (wS []) :: (mid.map .str ++ [.str (wS [])]))))) none none none) := by
    have h := Ex1.split (i := 2) (σ := M0 pat w none none none none) (Ev.var (i := 0) rfl) (Ev.con con_dots) ⟨by decide, hp.l1, hp.l2⟩
    rw [hps] at h
    exact h.le (by decide)
  generalize .str (wS []) :: (mid.map PyData.str ++ [.str (wS [])]) = L at *
  have s3 : Ex1 10 (M0 pat w (some (.own (.list L))) none none none) (S.asrt (E.cmp (Cp.ge) (E.bi (BI.len) [E.var 2]) (E.int 2))) none (M0 pat w (some (.own (.list L))) none none none) :=
    (Ex1.asrt (Ts.cmp rfl (Ev.bi (Pks.cons (Pk.ownv rfl) Pks.nil) hlen) (Ev.int 2) (by simp only [cmp2_lt, cmp2_le, cmp2_gt, cmp2_ge, cmp2_eq, cmp2_ne, cmp2_inI, cmp2_notInI, cmp2_inS, cmp2_notInS, cmp2_inT, cmp2_notInT, cmp2_notInL]; exact congrArg some (decide_eq_true (by omega))))).le (by decide)
  have s4 : Ex1 10 (M0 pat w (some (.own (.list L))) none none none) (S.asg2 3 4 (E.int 0) (E.bi (BI.len) [E.var 1])) none (M0 pat w (some (.own (.list L))) (some (.val (.int 0))) (some (.val (.int w.length))) none) :=
    (Ex1.asg2 (Ev.int 0) (Ev.bi (Pks.cons (Pk.var rfl) Pks.nil) (bi_len_wS hw))).le (by decide)
  have s5 : Ex1 10 (M0 pat w (some (.own (.list L))) (some (.val (.int 0))) (some (.val (.int w.length))) none) (S.asg 5 (E.idx (E.var 2) (E.int 0))) none (M0 pat w (some (.own (.list L))) (some (.val (.int 0))) (some (.val (.int w.length))) (some (.val (.str (wS []))))) :=
    (Ex1.asg (Ev.idx (Pk.ownv rfl) (Ev.int 0) h0)).le (by decide)
  have s6 : ∀ a b, Ex1 10 (M0 pat w (some (.own (.list L))) (some (.val (.int 0))) (some (.val (.int w.length))) (some (.val (.str (wS []))))) (S.ifs (E.var 5) a b) none (M0 pat w (some (.own (.list L))) (some (.val (.int 0))) (some (.val (.int w.length))) (some (.val (.str (wS []))))) ∨ b ≠ [] := fun a b => by
    cases b with
    | nil => exact .inl ((Ex1.ifF (ts_empty rfl) Rn.nil).le (by decide))
    | cons x y => exact .inr (by simp)
  have s7 : Ex1 10 (M0 pat w (some (.own (.list L))) (some (.val (.int 0))) (some (.val (.int w.length))) (some (.val (.str (wS []))))) (S.asg 5 (E.idx (E.var 2) (E.neg (E.int 1)))) none (M0 pat w (some (.own (.list L))) (some (.val (.int 0))) (some (.val (.int w.length))) (some (.val (.str (wS []))))) :=
    (Ex1.asg (Ev.idx (Pk.ownv rfl) (Ev.neg (Ev.int 1)) h1)).le (by decide)
  have s8 : Ex1 10 (M0 pat w (some (.own (.list L))) (some (.val (.int 0))) (some (.val (.int w.length))) (some (.val (.str (wS []))))) (S.ifs (E.cmp (Cp.gt) (E.var 3) (E.var 4)) [S.ret (E.bool false)] []) none (M0 pat w (some (.own (.list L))) (some (.val (.int 0))) (some (.val (.int w.length))) (some (.val (.str (wS []))))) :=
    (Ex1.ifF (Ts.cmp rfl (Ev.var rfl) (Ev.var rfl) (by simp only [cmp2_lt, cmp2_le, cmp2_gt, cmp2_ge, cmp2_eq, cmp2_ne, cmp2_inI, cmp2_notInI, cmp2_inS, cmp2_notInS, cmp2_inT, cmp2_notInT, cmp2_notInL]; exact congrArg some (decide_eq_false (by omega)))) Rn.nil).le (by decide)
  have s9 : Ex1 25 (M0 pat w (some (.own (.list L))) (some (.val (.int 0))) (some (.val (.int w.length))) (some (.val (.str (wS []))))) (S.for1 5 (E.var 2) mBody) (match mloop (wS w) w.length (wS [] :: mid ++ [wS []]) 0 with | some _ => none | none => some (.bool false)) σ' :=
    (Ex1.forS (It.own rfl) hloop).le (by decide)
  have fin : Rn 30 (M0 pat w (some (.own (.list L))) (some (.val (.int 0))) (some (.val (.int w.length))) (some (.val (.str (wS []))))) [S.for1 5 (E.var 2) mBody, S.ret (E.bool true)] (some (.bool (mloop (wS w) w.length (wS [] :: mid ++ [wS []]) 0).isSome)) σ' := by
    cases hm : mloop (wS w) w.length (wS [] :: mid ++ [wS []]) 0 with
    | none => rw [hm] at s9; exact (Rn.stop s9).le (by decide)
    | some k => rw [hm] at s9; exact (Rn.cons s9 (Rn.stop (Ex1.ret (Pk.ev (Ev.bool true) rfl)))).le (by decide)
  exact (Cl.of (fn := b_ellipsismatch) (by kernel_rfl) ⟨rfl, Nat.le_of_ble_eq_true rfl⟩
    (Rn.cons s1 (Rn.cons s2 (Rn.cons s3 (Rn.cons s4 (Rn.cons s5 (Rn.cons ((s6 _ []).resolve_right (by simp)) (Rn.cons s7 (Rn.cons ((s6 _ []).resolve_right (by simp)) (Rn.cons s8 fin))))))))) rfl).le (by decide)
end Mine
end
section
/-! The plain law: the patterns without dots ahead and behind, and what _law_spans says. -/
open PySem PySem.Builtin PySem.Builtin.Str PySem.StrLaws
set_option maxRecDepth 100000
namespace Mine
variable {c c1 c2 c3 : Nat} {σ σ' σ'' : Sg}
theorem Ex1.delF {i : Nat} {x : D} {l : List D} (hs : σ[i]? = some (some (.own (.list (x :: l))))) (hl : l.length ≤ 10000) : Ex1 1 σ (.del i false) none (σ.set i (some (.own (.list l)))) := Ex1.del (last := false) hs hl
/-- the answer for two and three letters -/
noncomputable def ans2 (a b : Bool) (m : Wd) (w : Wd) : Bool := Txt.startswith (wS w) (wS [a]) && (Txt.endswith (wS w) (wS [b]) && (decide (1 ≤ w.length - 1) && (mloop (wS w) (w.length - 1) (m.map fun c => wS [c]) 1).isSome))
theorem starts1 (a : Bool) (w : Wd) : Txt.startswith (wS w) (wS [a]) = decide (w[0]? = some a) := by
  unfold Txt.startswith
  rw [Bool.eq_iff_iff]
  simp only [Bool.and_eq_true, decide_eq_true_eq, subAt_wS, len_wS, List.length_cons, List.length_nil, Nat.zero_add]
  rw [take1]
  constructor
  · exact fun h => h.2
  · exact fun h => ⟨(List.getElem?_eq_some_iff.mp h).1, h⟩
theorem ends1 (b : Bool) (w : Wd) : Txt.endswith (wS w) (wS [b]) = decide (1 ≤ w.length ∧ w[w.length - 1]? = some b) := by
  unfold Txt.endswith
  rw [Bool.eq_iff_iff]
  simp only [Bool.and_eq_true, decide_eq_true_eq, subAt_wS, len_wS, List.length_cons, List.length_nil, Nat.zero_add]
  rw [take1]
theorem c_match2 {pat : Str} {a b : Bool} {m : Wd} {w : Wd} (hp : PatOk pat (wS [a] :: (m.map fun c => wS [c]) ++ [wS [b]])) (hl : m.length ≤ 900) (hw : w.length ≤ 1000) :
    Cl 60 "_ellipsis_match" [.str pat, .str (wS w)] (.bool (ans2 a b m w)) := by
  have hps : (Txt.split pat dots).map PyData.str = .str (wS [a]) :: ((m.map fun c => PyData.str (wS [c])) ++ [PyData.str (wS [b])]) := by rw [hp.sp]; simp
  have hlen : bi2 .len [.list (.str (wS [a]) :: ((m.map fun c => PyData.str (wS [c])) ++ [PyData.str (wS [b])]))] = some (.int ((m.length + 2 : Nat) : Int)) := by
    rw [bi_len_list (by simp; omega)]; congr 2; simp; omega
  have hdl : ((m.map fun c => PyData.str (wS [c])) ++ [PyData.str (wS [b])]).dropLast = m.map fun c => PyData.str (wS [c]) := List.dropLast_concat
  have hll : ((m.map fun c => PyData.str (wS [c])) ++ [PyData.str (wS [b])]).length ≤ 10000 := by simp; omega
  have hcons : ∃ y r, ((m.map fun c => PyData.str (wS [c])) ++ [PyData.str (wS [b])]) = y :: r ∧ r.length ≤ 10000 := by
    cases m with
    | nil => exact ⟨_, _, rfl, by simp⟩
    | cons x y => exact ⟨_, _, rfl, by simp at hl ⊢; omega⟩
  have hlast := idx_last (.str (wS [b])) (m.map fun c => PyData.str (wS [c]))
  have hmm : (m.map fun c => PyData.str (wS [c])) = (m.map fun c => wS [c]).map PyData.str := by simp
  have s1 : Ex1 10 (M0 pat w none none none none) (S.ifs (E.cmp (Cp.notIn) (E.con "ELLIPSIS_MARKER") (E.var 0)) [S.ret (E.cmp (Cp.eq) (E.var 0) (E.var 1))] []) none (M0 pat w none none none none) :=
    (Ex1.ifF (Ts.cmpIn rfl (Ev.con con_dots) (Pk.var rfl) hp.inn) Rn.nil).le (by decide)
  have s2 : Ex1 10 (M0 pat w none none none none) (S.asgSplit 2 (E.var 0) (E.con "ELLIPSIS_MARKER")) none (M0 pat w (some (.own (.list (.str (wS [a]) :: ((m.map fun c => PyData.str (wS [c])) ++ [PyData.str (wS [b])]))))) none none none) := by
    have h := Ex1.split (i := 2) (σ := M0 pat w none none none none) (Ev.var (i := 0) rfl) (Ev.con con_dots) ⟨by decide, hp.l1, hp.l2⟩
    rw [hps] at h
    exact h.le (by decide)
  generalize hL : ((m.map fun c => PyData.str (wS [c])) ++ [PyData.str (wS [b])]) = L at *
  have s3 : Ex1 10 (M0 pat w (some (.own (.list (.str (wS [a]) :: L)))) none none none) (S.asrt (E.cmp (Cp.ge) (E.bi (BI.len) [E.var 2]) (E.int 2))) none (M0 pat w (some (.own (.list (.str (wS [a]) :: L)))) none none none) :=
    (Ex1.asrt (Ts.cmp rfl (Ev.bi (Pks.cons (Pk.ownv rfl) Pks.nil) hlen) (Ev.int 2) (by simp only [cmp2_lt, cmp2_le, cmp2_gt, cmp2_ge, cmp2_eq, cmp2_ne, cmp2_inI, cmp2_notInI, cmp2_inS, cmp2_notInS, cmp2_inT, cmp2_notInT, cmp2_notInL]; exact congrArg some (decide_eq_true (by omega))))).le (by decide)
  have s4 : Ex1 10 (M0 pat w (some (.own (.list (.str (wS [a]) :: L)))) none none none) (S.asg2 3 4 (E.int 0) (E.bi (BI.len) [E.var 1])) none (M0 pat w (some (.own (.list (.str (wS [a]) :: L)))) (some (.val (.int 0))) (some (.val (.int w.length))) none) :=
    (Ex1.asg2 (Ev.int 0) (Ev.bi (Pks.cons (Pk.var rfl) Pks.nil) (bi_len_wS hw))).le (by decide)
  have s5 : Ex1 10 (M0 pat w (some (.own (.list (.str (wS [a]) :: L)))) (some (.val (.int 0))) (some (.val (.int w.length))) none) (S.asg 5 (E.idx (E.var 2) (E.int 0))) none (M0 pat w (some (.own (.list (.str (wS [a]) :: L)))) (some (.val (.int 0))) (some (.val (.int w.length))) (some (.val (.str (wS [a]))))) :=
    (Ex1.asg (Ev.idx (Pk.ownv rfl) (Ev.int 0) (idx_first _ _))).le (by decide)
  have e1 : ∀ σ2 : Option Slot, Ev 5 (M0 pat w σ2 (some (.val (.int 0))) (some (.val (.int w.length))) (some (.val (.str (wS [a]))))) (E.mth (MT.startswith) (E.var 1) [E.var 5]) (.bool (Txt.startswith (wS w) (wS [a]))) := fun σ2 =>
    (Ev.mthV (fun bk q => by cases q) (Pk.var rfl) (Evs.cons (Ev.var rfl) Evs.nil) rfl).le (by decide)
  have e2 : ∀ (σ2 σ3 : Option Slot) (i : Int), Ev 5 (M0 pat w σ2 σ3 (some (.val (.int i))) (some (.val (.str (wS [b]))))) (E.mth (MT.endswith) (E.var 1) [E.var 5]) (.bool (Txt.endswith (wS w) (wS [b]))) := fun σ2 σ3 i =>
    (Ev.mthV (fun bk q => by cases q) (Pk.var rfl) (Evs.cons (Ev.var rfl) Evs.nil) rfl).le (by decide)
  have ret0 : ∀ σ : Sg, Rn 5 σ [S.ret (E.bool false)] (some (.bool false)) σ := fun σ => (Rn.stop (Ex1.ret (Pk.ev (Ev.bool false) rfl))).le (by decide)
  -- the rest, from the first part on
  suffices fin : ∃ σ', Rn 45 (M0 pat w (some (.own (.list (.str (wS [a]) :: L)))) (some (.val (.int 0))) (some (.val (.int w.length))) (some (.val (.str (wS [a])))))
      [S.ifs (E.var 5) [S.ifs (E.mth (MT.startswith) (E.var 1) [E.var 5]) [S.asg 3 (E.bi (BI.len) [E.var 5]), S.del 2 false] [S.ret (E.bool false)]] [],
       S.asg 5 (E.idx (E.var 2) (E.neg (E.int 1))),
       S.ifs (E.var 5) [S.ifs (E.mth (MT.endswith) (E.var 1) [E.var 5]) [S.aug 4 (Op2.sub) (E.bi (BI.len) [E.var 5]), S.del 2 true] [S.ret (E.bool false)]] [],
       S.ifs (E.cmp (Cp.gt) (E.var 3) (E.var 4)) [S.ret (E.bool false)] [],
       S.for1 5 (E.var 2) mBody, S.ret (E.bool true)] (some (.bool (ans2 a b m w))) σ' by
    obtain ⟨σ', fin⟩ := fin
    exact (Cl.of (fn := b_ellipsismatch) (by kernel_rfl) ⟨rfl, Nat.le_of_ble_eq_true rfl⟩ (Rn.cons s1 (Rn.cons s2 (Rn.cons s3 (Rn.cons s4 (Rn.cons s5 fin))))) rfl).le (by decide)
  unfold ans2
  cases hs : Txt.startswith (wS w) (wS [a]) with
  | false =>
    refine ⟨_, (Rn.stop (Ex1.ifT (ts_letter rfl) (Rn.stop (Ex1.ifF (Ts.bool (hs ▸ e1 _) rfl) (ret0 _))))).le (by decide)⟩
  | true =>
    have hw0 : 1 ≤ w.length := by
      rw [starts1, decide_eq_true_eq] at hs
      exact (List.getElem?_eq_some_iff.mp hs).1
    have l1 : bi2 .len [.str (wS [a])] = some (.int 1) := bi_len_wS (w := [a]) (by simp)
    have l2 : bi2 .len [.str (wS [b])] = some (.int 1) := bi_len_wS (w := [b]) (by simp)
    have t1 : Ex1 20 (M0 pat w (some (.own (.list (.str (wS [a]) :: L)))) (some (.val (.int 0))) (some (.val (.int w.length))) (some (.val (.str (wS [a])))))
        (S.ifs (E.var 5) [S.ifs (E.mth (MT.startswith) (E.var 1) [E.var 5]) [S.asg 3 (E.bi (BI.len) [E.var 5]), S.del 2 false] [S.ret (E.bool false)]] []) none
        (M0 pat w (some (.own (.list L))) (some (.val (.int 1))) (some (.val (.int w.length))) (some (.val (.str (wS [a]))))) :=
      (Ex1.ifT (ts_letter rfl) (Rn.cons (Ex1.ifT (Ts.bool (hs ▸ e1 _) rfl) (Rn.cons (Ex1.asg (Ev.bi (Pks.cons (Pk.var rfl) Pks.nil) l1)) (Rn.cons (Ex1.delF rfl hll) Rn.nil))) Rn.nil)).le (by decide)
    have t2 : Ex1 20 (M0 pat w (some (.own (.list L))) (some (.val (.int 1))) (some (.val (.int w.length))) (some (.val (.str (wS [a]))))) (S.asg 5 (E.idx (E.var 2) (E.neg (E.int 1)))) none
        (M0 pat w (some (.own (.list L))) (some (.val (.int 1))) (some (.val (.int w.length))) (some (.val (.str (wS [b]))))) :=
      (Ex1.asg (Ev.idx (Pk.ownv rfl) (Ev.neg (Ev.int 1)) hlast)).le (by decide)
    cases he : Txt.endswith (wS w) (wS [b]) with
    | false =>
      exact ⟨_, (Rn.cons t1 (Rn.cons t2 (Rn.stop (Ex1.ifT (ts_letter rfl) (Rn.stop (Ex1.ifF (Ts.bool (he ▸ e2 _ _ _) rfl) (ret0 _))))))).le (by decide)⟩
    | true =>
      have t3 : Ex1 20 (M0 pat w (some (.own (.list L))) (some (.val (.int 1))) (some (.val (.int w.length))) (some (.val (.str (wS [b])))))
          (S.ifs (E.var 5) [S.ifs (E.mth (MT.endswith) (E.var 1) [E.var 5]) [S.aug 4 (Op2.sub) (E.bi (BI.len) [E.var 5]), S.del 2 true] [S.ret (E.bool false)]] []) none
          (M0 pat w (some (.own (.list (m.map fun c => PyData.str (wS [c]))))) (some (.val (.int 1))) (some (.val (.int (w.length - 1 : Nat)))) (some (.val (.str (wS [b]))))) := by
        obtain ⟨y, r, hyr, hr⟩ := hcons
        have hd : Ex1 1 (M0 pat w (some (.own (.list L))) (some (.val (.int 1))) (some (.val (.int (w.length - 1 : Nat)))) (some (.val (.str (wS [b]))))) (S.del 2 true) none (M0 pat w (some (.own (.list (m.map fun c => PyData.str (wS [c]))))) (some (.val (.int 1))) (some (.val (.int (w.length - 1 : Nat)))) (some (.val (.str (wS [b]))))) := by
          have h := Ex1.del (i := 2) (last := true) (σ := M0 pat w (some (.own (.list L))) (some (.val (.int 1))) (some (.val (.int (w.length - 1 : Nat)))) (some (.val (.str (wS [b])))) ) (x := y) (l := r) (by rw [hyr]; rfl) hr
          rw [if_pos rfl, ← hyr, hdl] at h
          exact h
        have hb : bin2 .sub (.int w.length) (.int 1) = some (.int (w.length - 1 : Nat)) := by simp only [bin2_add, bin2_addL, bin2_sub]; congr 2; omega
        exact (Ex1.ifT (ts_letter rfl) (Rn.cons (Ex1.ifT (Ts.bool (he ▸ e2 _ _ _) rfl) (Rn.cons (Ex1.aug rfl (Ev.bi (Pks.cons (Pk.var rfl) Pks.nil) l2) hb) (Rn.cons hd Rn.nil))) Rn.nil)).le (by decide)
      have c4 : ∀ q, decide (((w.length - 1 : Nat) : Int) < 1) = q → Ts 10 (M0 pat w (some (.own (.list (m.map fun c => PyData.str (wS [c]))))) (some (.val (.int 1))) (some (.val (.int (w.length - 1 : Nat)))) (some (.val (.str (wS [b]))))) (E.cmp (Cp.gt) (E.var 3) (E.var 4)) q := fun q hq =>
        (Ts.cmp rfl (Ev.var rfl) (Ev.var rfl) (by simp only [cmp2_lt, cmp2_le, cmp2_gt, cmp2_ge, cmp2_eq, cmp2_ne, cmp2_inI, cmp2_notInI, cmp2_inS, cmp2_notInS, cmp2_inT, cmp2_notInT, cmp2_notInL]; rw [hq])).le (by decide)
      by_cases h1 : 1 ≤ w.length - 1
      · rw [decide_eq_true h1]
        obtain ⟨σ', hloop⟩ := mloop_run (wS w) (w.length - 1) (some (.val (.str pat))) (some (.val (.list (m.map fun c => PyData.str (wS [c]))))) (m.map fun c => wS [c]) 1 (some (.val (.str (wS [b])))) (by
          intro p hp'
          obtain ⟨c, _, rfl⟩ := List.mem_map.mp hp'
          simp [len_wS])
        rw [← hmm] at hloop
        have s9 : Ex1 25 (M0 pat w (some (.own (.list (m.map fun c => PyData.str (wS [c]))))) (some (.val (.int 1))) (some (.val (.int (w.length - 1 : Nat)))) (some (.val (.str (wS [b]))))) (S.for1 5 (E.var 2) mBody) (match mloop (wS w) (w.length - 1) (m.map fun c => wS [c]) 1 with | some _ => none | none => some (.bool false)) σ' :=
          (Ex1.forS (It.own rfl) hloop).le (by decide)
        have fin : Rn 30 (M0 pat w (some (.own (.list (m.map fun c => PyData.str (wS [c]))))) (some (.val (.int 1))) (some (.val (.int (w.length - 1 : Nat)))) (some (.val (.str (wS [b]))))) [S.for1 5 (E.var 2) mBody, S.ret (E.bool true)] (some (.bool (mloop (wS w) (w.length - 1) (m.map fun c => wS [c]) 1).isSome)) σ' := by
          cases hm : mloop (wS w) (w.length - 1) (m.map fun c => wS [c]) 1 with
          | none => rw [hm] at s9; exact (Rn.stop s9).le (by decide)
          | some k => rw [hm] at s9; exact (Rn.cons s9 (Rn.stop (Ex1.ret (Pk.ev (Ev.bool true) rfl)))).le (by decide)
        exact ⟨σ', (Rn.cons t1 (Rn.cons t2 (Rn.cons t3 (Rn.cons (Ex1.ifF (c4 false (decide_eq_false (by omega))) Rn.nil) fin)))).le (by decide)⟩
      · rw [decide_eq_false h1]
        exact ⟨_, (Rn.cons t1 (Rn.cons t2 (Rn.cons t3 (Rn.stop (Ex1.ifT (c4 true (decide_eq_true (by omega))) (ret0 _)))))).le (by decide)⟩
/-- no dots at all -/
theorem c_match0 {pat : Str} {w : Wd} (hi : cmp2 .notIn (.str dots) (.str pat) = some true) :
    Cl 60 "_ellipsis_match" [.str pat, .str (wS w)] (.bool (pat == wS w)) := by
  exact (Cl.of (fn := b_ellipsismatch) (by kernel_rfl) ⟨rfl, Nat.le_of_ble_eq_true rfl⟩
    (Rn.stop (Ex1.ifT (Ts.cmpIn rfl (Ev.con con_dots) (Pk.var rfl) hi) (Rn.stop (Ex1.ret (Pk.ev (Ev.cmp rfl (Ev.var rfl) (Ev.var rfl) rfl) rfl))))) rfl).le (by decide)
end Mine
end
section
/-! The plain law: what _law_spans says. -/
open PySem PySem.Builtin PySem.Builtin.Str PySem.StrLaws
set_option maxRecDepth 100000
namespace Mine
variable {c c1 c2 c3 : Nat} {σ σ' σ'' : Sg}
theorem charLast {t : Wd} {b : Bool} (hn : 1 ≤ t.length) (h : t[t.length - 1]? = some b) : idx2 (.str (wS t)) (.int (-1)) = some (.str ⟨#[sg b]⟩) := by
  have h1 : seqIndex? (-1) (wS t).length = some (t.length - 1) := by
    unfold seqIndex?
    rw [len_wS]
    simp only [show ((-1 : Int) < 0) from by omega, if_true]
    rw [if_pos (by simp; omega)]
    congr 1; omega
  simp only [idx2_list, idx2_str, idx2_dict]
  rw [if_pos ⟨by omega, by omega⟩]
  unfold Txt.charAt
  rw [h1]
  simp [wS, h]
theorem strSl_mid {w : Wd} (h : 2 ≤ w.length) : strSl (wS w) (some 1) (some (-1)) = wS ((w.drop 1).take (w.length - 2)) := by
  have e := sliceIdx_neg_hi (some 1) (j := -1) w.length (by omega) (by omega)
  have e2 : (-1 + (w.length : Int)) = ((w.length - 1 : Nat) : Int) := by omega
  have p := sliced_plain (wS w) (a := 1) (b := w.length - 1) (by omega) (by rw [len_wS]; omega)
  have q := strSliceIndices_plain (a := 1) (b := w.length - 1) (len := w.length) (by omega) (by omega)
  rw [len_wS] at p
  have e1 : strSliceIndices (some 1) (some (-1)) 1 w.length = strSliceIndices (some ((1 : Nat) : Int)) (some ((w.length - 1 : Nat) : Int)) 1 w.length := by rw [e, e2]; rfl
  unfold strSl
  rw [len_wS, e1, p, q]
  have hne : ¬ (((List.range (w.length - 1 - 1)).map fun k => 1 + k).length == w.length) = true := by simp; omega
  rw [if_neg hne]
  simp only [wS, List.map_take, List.map_drop]
  rw [show w.length - 1 - 1 = w.length - 2 by omega]
theorem slc_mid {w : Wd} (h : 2 ≤ w.length) (h2 : w.length ≤ 1000) : slc2 (.str (wS w)) (some 1) (some (-1)) = some (.str (wS ((w.drop 1).take (w.length - 2)))) := by
  simp only [slc2_list, slc2_str]
  rw [strSl_mid h, if_pos (by rw [len_wS]; simp; omega)]
theorem isIn_fnd (x y : Str) : cmp2 .isIn (.str x) (.str y) = some (decide (0 ≤ fnd y x 0 y.length)) := by
  have key : ∀ l : List Nat, (!l.isEmpty) = decide (0 ≤ (match l with | i :: _ => (i : Int) | [] => -1)) := fun l => by
    cases l with
    | nil => rfl
    | cons a r => exact (decide_eq_true (by show (0 : Int) ≤ (a : Int); omega)).symm
  exact congrArg some (key _)
theorem fnd_iff (s y : Str) (lo hi : Nat) : 0 ≤ fnd s y lo hi ↔ ∃ i, lo ≤ i ∧ At s y hi i := by
  rcases fnd_spec s y lo hi with ⟨e, h⟩ | ⟨i, e, h1, h2, h3⟩
  · rw [e]
    exact ⟨fun h0 => absurd h0 (by omega), fun ⟨i, h1, h2⟩ => absurd h2 (h i h1)⟩
  · rw [e]
    exact ⟨fun _ => ⟨i, h1, h2⟩, fun _ => by omega⟩
theorem mid_same {m w : Wd} (hm : m.length ≤ 1) (hw : m.length + 2 ≤ w.length) :
    decide (0 ≤ fnd (wS ((w.drop 1).take (w.length - 2))) (wS m) 0 (wS ((w.drop 1).take (w.length - 2))).length) = (mloop (wS w) (w.length - 1) (m.map fun c => wS [c]) 1).isSome := by
  match m, hm with
  | [], _ => rw [fnd_nil _ _ _ (Nat.zero_le _)]; rfl
  | [c], _ =>
    rw [Bool.eq_iff_iff, decide_eq_true_eq, fnd_iff]
    have e : (mloop (wS w) (w.length - 1) ([c].map fun c => wS [c]) 1).isSome = true ↔ 0 ≤ fnd (wS w) (wS [c]) 1 (w.length - 1) := by
      simp only [List.map_cons, List.map_nil, mloop, len_wS, show min (w.length - 1) w.length = w.length - 1 by omega]
      split <;> simp_all
    rw [e, fnd_iff]
    simp only [at_wS, len_wS, List.length_cons, List.length_nil, Nat.zero_add, take1, List.length_take, List.length_drop, List.getElem?_take, List.getElem?_drop]
    simp only [List.length_cons, List.length_nil, Nat.zero_add] at hw
    constructor
    · rintro ⟨i, _, h1, h2⟩
      rw [if_pos (by omega)] at h2
      exact ⟨1 + i, by omega, by omega, h2⟩
    · rintro ⟨i, h0, h1, h2⟩
      refine ⟨i - 1, by omega, by omega, ?_⟩
      rw [if_pos (by omega), show 1 + (i - 1) = i by omega]
      exact h2
theorem ans2_short {a b : Bool} {m w : Wd} (hm : m.length ≤ 1) (hw : w.length < m.length + 2) : ans2 a b m w = false := by
  unfold ans2
  rw [starts1, ends1]
  match w, hw with
  | [], _ => rfl
  | [x], _ => simp
  | x :: y :: r, hw =>
    match m, hm with
    | [], _ => simp at hw; omega
    | [c], _ =>
      have hr : r = [] := by cases r with | nil => rfl | cons _ _ => simp at hw; omega
      subst hr
      have : (mloop (wS [x, y]) ([x, y].length - 1) ([c].map fun c => wS [c]) 1).isSome = false := by
        have e : ¬ 0 ≤ fnd (wS [x, y]) (wS [c]) 1 1 := by
          rw [fnd_iff]
          rintro ⟨i, h1, h2⟩
          have := ((at_wS _ _ _ _).mp h2).1
          simp at this
          omega
        simp only [List.map_cons, List.map_nil, mloop, len_wS, List.length_cons, List.length_nil]
        rw [if_pos (show fnd (wS [x, y]) (wS [c]) 1 (min (0 + 1 + 1 - 1) (0 + 1 + 1)) < 0 from Int.not_le.mp e)]
        rfl
      rw [this]
      simp
theorem ans2_long {a b : Bool} {m w : Wd} (hm : m.length ≤ 1) (hw : m.length + 2 ≤ w.length) : ans2 a b m w = (decide (w[0]? = some a) && (decide (w[w.length - 1]? = some b) && decide (0 ≤ fnd (wS ((w.drop 1).take (w.length - 2))) (wS m) 0 (wS ((w.drop 1).take (w.length - 2))).length))) := by
  unfold ans2
  rw [starts1, ends1, mid_same hm hw]
  have h1 : 1 ≤ w.length := by omega
  have h2 : 1 ≤ w.length - 1 := by omega
  simp [h1, h2]
theorem c_spans0 {t w : Wd} (ht : t.length < 2) : Cl 60 "_law_spans" [.str (wS t), .str (wS w)] (.bool (wS w == wS t)) := by
  have hlt : cmp2 .lt (.int (t.length : Int)) (.int 2) = some true := by simp only [cmp2_lt, cmp2_le, cmp2_gt, cmp2_ge, cmp2_eq, cmp2_ne, cmp2_inI, cmp2_notInI, cmp2_inS, cmp2_notInS, cmp2_inT, cmp2_notInT, cmp2_notInL]; exact congrArg some (decide_eq_true (by omega))
  exact (Cl.of (fn := b_lawspans) (by kernel_rfl) ⟨rfl, Nat.le_of_ble_eq_true rfl⟩
    (Rn.stop (Ex1.ifT (Ts.cmp rfl (Ev.bi (Pks.cons (Pk.var rfl) Pks.nil) (bi_len_wS (by omega))) (Ev.int 2) hlt) (Rn.stop (Ex1.ret (Pk.ev (Ev.cmp rfl (Ev.var rfl) (Ev.var rfl) rfl) rfl))))) rfl).le (by decide)
theorem c_spans2 {a b : Bool} {m w : Wd} (hm : m.length ≤ 1) (hw : w.length ≤ 1000) : Cl 60 "_law_spans" [.str (wS (a :: m ++ [b])), .str (wS w)] (.bool (ans2 a b m w)) := by
  have hl : (a :: m ++ [b]).length = m.length + 2 := by simp
  have hlt : cmp2 .lt (.int ((a :: m ++ [b]).length : Int)) (.int 2) = some false := by simp only [cmp2_lt, cmp2_le, cmp2_gt, cmp2_ge, cmp2_eq, cmp2_ne, cmp2_inI, cmp2_notInI, cmp2_inS, cmp2_notInS, cmp2_inT, cmp2_notInT, cmp2_notInL]; exact congrArg some (decide_eq_false (by omega))
  refine (Cl.of (fn := b_lawspans) (by kernel_rfl) ⟨rfl, Nat.le_of_ble_eq_true rfl⟩
    (Rn.cons (Ex1.ifF (Ts.cmp rfl (Ev.bi (Pks.cons (Pk.var rfl) Pks.nil) (bi_len_wS (by omega))) (Ev.int 2) hlt) Rn.nil) (Rn.stop (Ex1.ret (Pk.ev (?_ : Ev 40 _ _ (.bool (ans2 a b m w))) rfl)))) rfl).le (by decide)
  show Ev 40 [some (.val (.str (wS (a :: m ++ [b])))), some (.val (.str (wS w)))] _ _
  have e1 : ∀ q, decide ((m.length + 2 : Nat) ≤ w.length) = q → Ev 10 [some (.val (.str (wS (a :: m ++ [b])))), some (.val (.str (wS w)))] (E.cmp (Cp.ge) (E.bi (BI.len) [E.var 1]) (E.bi (BI.len) [E.var 0])) (.bool q) := fun q hq =>
    (Ev.cmp rfl (Ev.bi (Pks.cons (Pk.var rfl) Pks.nil) (bi_len_wS hw)) (Ev.bi (Pks.cons (Pk.var rfl) Pks.nil) (bi_len_wS (by omega))) (by
      simp only [cmp2_lt, cmp2_le, cmp2_gt, cmp2_ge, cmp2_eq, cmp2_ne, cmp2_inI, cmp2_notInI, cmp2_inS, cmp2_notInS, cmp2_inT, cmp2_notInT, cmp2_notInL, hl]; rw [← hq]; congr 1; rw [decide_eq_decide]; omega)).le (by decide)
  by_cases hlen : m.length + 2 ≤ w.length
  · rw [ans2_long hm hlen]
    have hw0 : ∃ x, w[0]? = some x := ⟨w[0], List.getElem?_eq_getElem (by omega)⟩
    have hw1 : ∃ x, w[w.length - 1]? = some x := ⟨w[w.length - 1], List.getElem?_eq_getElem (by omega)⟩
    obtain ⟨x, hx⟩ := hw0
    obtain ⟨y, hy⟩ := hw1
    have i1 := (charAt_wS hx).resolve_right (by omega)
    have i2 := charLast (by omega) hy
    have i3 : idx2 (.str (wS (a :: m ++ [b]))) (.int 0) = some (.str ⟨#[sg a]⟩) := (charAt_wS (t := a :: m ++ [b]) (p := 0) rfl).resolve_right (by omega)
    have i4 : idx2 (.str (wS (a :: m ++ [b]))) (.int (-1)) = some (.str ⟨#[sg b]⟩) := charLast (by omega) (by simp)
    have hq : ∀ u v : Bool, cmp2 .eq (.str ⟨#[sg u]⟩) (.str ⟨#[sg v]⟩) = some (decide (some u = some v)) := fun u v => by
      simp only [cmp2_lt, cmp2_le, cmp2_gt, cmp2_ge, cmp2_eq, cmp2_ne, cmp2_inI, cmp2_notInI, cmp2_inS, cmp2_notInS, cmp2_inT, cmp2_notInT, cmp2_notInL, eq2_int, eq2_str, eq2_list, sg_inj]; cases u <;> cases v <;> rfl
    have e2 : Ev 10 [some (.val (.str (wS (a :: m ++ [b])))), some (.val (.str (wS w)))] (E.cmp (Cp.eq) (E.idx (E.var 1) (E.int 0)) (E.idx (E.var 0) (E.int 0))) (.bool (decide (w[0]? = some a))) := by
      rw [hx]
      exact (Ev.cmp rfl (Ev.idx (Pk.var rfl) (Ev.int 0) i1) (Ev.idx (Pk.var rfl) (Ev.int 0) i3) (hq x a)).le (by decide)
    have e3 : Ev 10 [some (.val (.str (wS (a :: m ++ [b])))), some (.val (.str (wS w)))] (E.cmp (Cp.eq) (E.idx (E.var 1) (E.neg (E.int 1))) (E.idx (E.var 0) (E.neg (E.int 1)))) (.bool (decide (w[w.length - 1]? = some b))) := by
      rw [hy]
      exact (Ev.cmp rfl (Ev.idx (Pk.var rfl) (Ev.neg (Ev.int 1)) i2) (Ev.idx (Pk.var rfl) (Ev.neg (Ev.int 1)) i4) (hq y b)).le (by decide)
    have sm : slc2 (.str (wS (a :: m ++ [b]))) (some 1) (some (-1)) = some (.str (wS m)) := by
      rw [slc_mid (by omega) (by omega)]
      congr 3
      simp
    have e4 : Ev 15 [some (.val (.str (wS (a :: m ++ [b])))), some (.val (.str (wS w)))] (E.cmp (Cp.isIn) (E.slc (E.var 0) (some (E.int 1)) (some (E.neg (E.int 1)))) (E.slc (E.var 1) (some (E.int 1)) (some (E.neg (E.int 1)))))
        (.bool (decide (0 ≤ fnd (wS ((w.drop 1).take (w.length - 2))) (wS m) 0 (wS ((w.drop 1).take (w.length - 2))).length))) :=
      (Ev.cmpIn rfl (Ev.slc (Pk.var rfl) (Op.some (Ev.int 1)) (Op.some (Ev.neg (Ev.int 1))) sm) (Pk.ev (Ev.slc (Pk.var rfl) (Op.some (Ev.int 1)) (Op.some (Ev.neg (Ev.int 1))) (slc_mid (by omega) hw)) rfl) (isIn_fnd _ _)).le (by decide)
    have e1' := e1 true (decide_eq_true hlen)
    cases h0 : decide (w[0]? = some a) with
    | false => rw [h0] at e2; exact (Ev.andT e1' (Ev.andF e2)).le (by decide)
    | true =>
      rw [h0] at e2
      cases h1 : decide (w[w.length - 1]? = some b) with
      | false => rw [h1] at e3; exact (Ev.andT e1' (Ev.andT e2 (Ev.andF e3))).le (by decide)
      | true => rw [h1] at e3; exact (Ev.andT e1' (Ev.andT e2 (Ev.andT e3 (Ev.and1 e4)))).le (by decide)
  · rw [ans2_short hm (by omega)]
    exact (Ev.andF (e1 false (decide_eq_false hlen))).le (by decide)
end Mine
end
section
/-! The plain law: the words that are asked for. -/
open PySem PySem.Builtin PySem.Builtin.Str PySem.StrLaws
set_option maxRecDepth 100000
namespace Mine
variable {c c1 c2 c3 : Nat} {σ σ' σ'' : Sg}
noncomputable def askedW : List Wd := [[], [false], [true], [false, false], [false, true], [true, false], [true, true], [false, false, false], [false, false, true], [false, true, false], [false, true, true], [true, false, false], [true, false, true], [true, true, false], [true, true, true]]
theorem askedL_eq : askedL.map PyData.str = askedW.map fun t => PyData.str (wS t) := by kernel_rfl
theorem asked_len : ∀ t ∈ askedW, t.length ≤ 3 := by decide
theorem asked_all {t : Wd} (h : t.length ≤ 3) : t ∈ askedW := by
  match t, h with
  | [], _ => decide
  | [a], _ => revert a; decide
  | [a, b], _ => revert a b; decide
  | [a, b, c], _ => revert a b c; decide
noncomputable def d3 : List Nat := [46, 46, 46]
noncomputable def pat1 (t : Wd) : Str := ⟨(d3 ++ t.flatMap fun b => sg b :: d3).toArray⟩
noncomputable def pat2 : Wd → Str
  | [] => ⟨#[]⟩
  | b :: r => ⟨(sg b :: r.flatMap fun c => d3 ++ [sg c]).toArray⟩
noncomputable def jn1 : Xp := E.mth (MT.join) (E.str { cps := #[46, 46, 46] }) [E.bin (Op2.add) (E.bin (Op2.add) (E.lst [E.str { cps := #[] }]) (E.bi (BI.list) [E.var 1])) (E.lst [E.str { cps := #[] }])]
noncomputable def jn2 : Xp := E.mth (MT.join) (E.str { cps := #[46, 46, 46] }) [E.var 1]
theorem jn1_tab (m : Nat) (o : Option Slot) : askedW.map (fun t => (LL (m + 10)).ev [none, some (.val (.str (wS t))), o] jn1) = askedW.map fun t => some (.str (pat1 t)) := by kernel_rfl
theorem jn2_tab (m : Nat) (o : Option Slot) : askedW.map (fun t => (LL (m + 10)).ev [none, some (.val (.str (wS t))), o] jn2) = askedW.map fun t => some (.str (pat2 t)) := by kernel_rfl
theorem Ev.run {e : Xp} {d : D} (h : ∀ m, (LL (m + c)).ev σ e = some d) : Ev c σ e d := fun n hn => by
  obtain ⟨m, rfl⟩ := Nat.exists_eq_add_of_le' hn
  exact h m
theorem e_jn1 {t : Wd} (ht : t ∈ askedW) (o : Option Slot) : Ev 10 [none, some (.val (.str (wS t))), o] jn1 (.str (pat1 t)) := .run fun m => List.map_inj_left.mp (jn1_tab m o) t ht
theorem e_jn2 {t : Wd} (ht : t ∈ askedW) (o : Option Slot) : Ev 10 [none, some (.val (.str (wS t))), o] jn2 (.str (pat2 t)) := .run fun m => List.map_inj_left.mp (jn2_tab m o) t ht
noncomputable def ps1 (t : Wd) : List Str := wS [] :: (t.map fun b => wS [b]) ++ [wS []]
theorem in1_tab : askedW.map (fun t => cmp2 .notIn (.str dots) (.str (pat1 t))) = askedW.map fun _ => some false := by kernel_rfl
theorem sp1_tab : askedW.map (fun t => Txt.split (pat1 t) dots) = askedW.map fun t => ps1 t := by kernel_rfl
theorem l11_tab : askedW.map (fun t => decide ((pat1 t).length ≤ 100000)) = askedW.map fun _ => true := by kernel_rfl
theorem l12_tab : askedW.map (fun t => decide ((Builtin.Str.partsBetween (pat1 t) (Builtin.Str.occurrences (pat1 t) dots 0 (pat1 t).length ((pat1 t).length + 1)) dots.length).length ≤ 100000)) = askedW.map fun _ => true := by kernel_rfl
theorem patOk1 {t : Wd} (ht : t ∈ askedW) : PatOk (pat1 t) (ps1 t) :=
  ⟨List.map_inj_left.mp in1_tab t ht, List.map_inj_left.mp sp1_tab t ht, of_decide_eq_true (List.map_inj_left.mp l11_tab t ht), of_decide_eq_true (List.map_inj_left.mp l12_tab t ht)⟩
/-- two and three letters: the first, the middle, the last -/
noncomputable def longs : List (Bool × Wd × Bool) := [(false, [], false), (false, [], true), (true, [], false), (true, [], true), (false, [false], false), (false, [false], true), (false, [true], false), (false, [true], true), (true, [false], false), (true, [false], true), (true, [true], false), (true, [true], true)]
noncomputable def lgW (p : Bool × Wd × Bool) : Wd := p.1 :: p.2.1 ++ [p.2.2]
noncomputable def ps2 (p : Bool × Wd × Bool) : List Str := wS [p.1] :: (p.2.1.map fun b => wS [b]) ++ [wS [p.2.2]]
theorem in2_tab : longs.map (fun t => cmp2 .notIn (.str dots) (.str (pat2 (lgW t)))) = longs.map fun _ => some false := by kernel_rfl
theorem sp2_tab : longs.map (fun t => Txt.split (pat2 (lgW t)) dots) = longs.map fun t => ps2 t := by kernel_rfl
theorem l21_tab : longs.map (fun t => decide ((pat2 (lgW t)).length ≤ 100000)) = longs.map fun _ => true := by kernel_rfl
theorem l22_tab : longs.map (fun t => decide ((Builtin.Str.partsBetween (pat2 (lgW t)) (Builtin.Str.occurrences (pat2 (lgW t)) dots 0 (pat2 (lgW t)).length ((pat2 (lgW t)).length + 1)) dots.length).length ≤ 100000)) = longs.map fun _ => true := by kernel_rfl
theorem patOk2 {t : Bool × Wd × Bool} (ht : t ∈ longs) : PatOk (pat2 (lgW t)) (ps2 t) :=
  ⟨List.map_inj_left.mp in2_tab t ht, List.map_inj_left.mp sp2_tab t ht, of_decide_eq_true (List.map_inj_left.mp l21_tab t ht), of_decide_eq_true (List.map_inj_left.mp l22_tab t ht)⟩
theorem asked_split {t : Wd} (ht : t ∈ askedW) : (t.length < 2 ∧ pat2 t = wS t) ∨ ∃ p ∈ longs, t = lgW p ∧ p.2.1.length ≤ 1 := by
  revert t
  decide
/-- the pattern with dots all around finds just what can be read letter by letter -/
theorem m1_is {t w : Wd} (ht : t ∈ askedW) (hw : w.length ≤ 1000) : Cl 60 "_ellipsis_match" [.str (pat1 t), .str (wS w)] (.bool (t.isSublist w)) := by
  have h := c_match1 (w := w) (mid := t.map fun b => wS [b]) (patOk1 ht) (by
    intro p hp
    obtain ⟨c, _, rfl⟩ := List.mem_map.mp hp
    simp [len_wS]) (by have := asked_len t ht; simp; omega) hw
  have e : (mloop (wS w) w.length (wS [] :: (t.map fun b => wS [b]) ++ [wS []]) 0).isSome = t.isSublist w := by
    have e0 := mloop_sub w t 0 (Nat.zero_le _)
    rw [List.drop_zero] at e0
    rw [← e0]
    simp only [List.cons_append, mloop, len_wS, Nat.min_self]
    rw [fnd_nil w 0 _ (Nat.zero_le _)]
    rfl
  rw [e] at h
  exact h
theorem stands_is {t w : Wd} (ht : t ∈ askedW) : Cl 30 "_law_stands" [.str (wS t), .str (wS w)] (.bool (t.isSublist w)) := by
  have h := c_stands t w (by have := asked_len t ht; omega)
  have e : decide (stands t 0 w = t.length) = t.isSublist w := by
    rw [Bool.eq_iff_iff, decide_eq_true_eq]
    exact stands_sub t w 0 (Nat.zero_le _)
  rw [e] at h
  exact h
theorem notIn0_tab : ([[], [false], [true]] : List Wd).map (fun t => cmp2 .notIn (.str dots) (.str (wS t))) = ([[], [false], [true]] : List Wd).map fun _ => some true := by kernel_rfl
/-- the pattern without them answers as _law_spans -/
theorem m2_is {t w : Wd} (ht : t ∈ askedW) (hw : w.length ≤ 1000) : ∃ q, Cl 60 "_ellipsis_match" [.str (pat2 t), .str (wS w)] (.bool q) ∧ Cl 60 "_law_spans" [.str (wS t), .str (wS w)] (.bool q) := by
  rcases asked_split ht with ⟨h1, h2⟩ | ⟨⟨a, m, b⟩, hp, rfl, hm⟩
  · refine ⟨wS w == wS t, ?_, c_spans0 h1⟩
    have h := c_match0 (pat := pat2 t) (w := w) (by
      rw [h2]
      refine List.map_inj_left.mp notIn0_tab t ?_
      match t, h1 with
      | [], _ => decide
      | [a], _ => cases a <;> decide)
    rw [h2] at h ⊢
    rw [show (wS w == wS t) = (wS t == wS w) from BEq.comm]
    exact h
  · exact ⟨ans2 a b m w, c_match2 (patOk2 hp) (by simp only at hm; omega) hw, c_spans2 hm hw⟩
end Mine
end
section
/-! The plain law: cells and rules. -/
open PySem PySem.Builtin PySem.Builtin.Str PySem.StrLaws
set_option maxRecDepth 100000
namespace Mine
variable {c c1 c2 c3 : Nat} {σ σ' σ'' : Sg}
/-- a comprehension over items that are told by an index -/
theorem cM {α : Type} {elt : Xp} {t : Nat} (g f : α → D) : ∀ (src : List α) (σ : Sg), (∀ d ∈ src, Ev c (σ.set t (some (.val (g d)))) elt (f d)) →
    ∀ n, c ≤ n → compL1 (LL n) elt t [] none σ (src.map g) = some (src.map f)
  | [], σ, _, n, _ => rfl
  | d :: r, σ, h, n, hn => by
    have ih := cM g f r (σ.set t (some (.val (g d)))) (fun x hx => by rw [List.set_set]; exact h x (.tail _ hx)) n hn
    simp only [List.map_cons, compL1, allT, Option.bind_eq_bind, Option.bind_some, if_true, h d (.head _) n hn, ih, pure]
/-- with one test -/
theorem cF {α : Type} {elt q : Xp} {t : Nat} (g f : α → D) (p : α → Bool) : ∀ (src : List α) (σ : Sg), (∀ d ∈ src, Ts c1 (σ.set t (some (.val (g d)))) q (p d) ∧ (p d = true → Ev c2 (σ.set t (some (.val (g d)))) elt (f d))) →
    ∀ n, max c1 c2 ≤ n → compL1 (LL n) elt t [q] none σ (src.map g) = some ((src.filter p).map f)
  | [], σ, _, n, _ => rfl
  | d :: r, σ, h, n, hn => by
    obtain ⟨h1, h2⟩ := h d (.head _)
    have ih := cF g f p r (σ.set t (some (.val (g d)))) (fun x hx => by rw [List.set_set]; exact h x (.tail _ hx)) n hn
    cases hp : p d with
    | false =>
      rw [hp] at h1
      simp only [List.map_cons, compL1, allT, h1 n (ml hn), Option.bind_eq_bind, Option.bind_some, Bool.false_eq_true, if_false, ih, List.filter_cons, hp]
    | true =>
      rw [hp] at h1
      simp only [List.map_cons, compL1, allT, h1 n (ml hn), Option.bind_eq_bind, Option.bind_some, if_true, h2 hp n (mr hn), ih, List.filter_cons, hp, pure]
/-- only that something comes of each item -/
theorem cX {elt : Xp} {t : Nat} (P : D → Prop) : ∀ (src : List D) (σ : Sg), (∀ d ∈ src, ∃ v, Ev c (σ.set t (some (.val d))) elt v ∧ P v) →
    ∃ out, (∀ n, c ≤ n → compL1 (LL n) elt t [] none σ src = some out) ∧ out.length = src.length ∧ ∀ v ∈ out, P v
  | [], σ, _ => ⟨[], fun n _ => rfl, rfl, fun v hv => nomatch hv⟩
  | d :: r, σ, h => by
    obtain ⟨out, h1, h2, h3⟩ := cX P r (σ.set t (some (.val d))) (fun x hx => by rw [List.set_set]; exact h x (.tail _ hx))
    obtain ⟨v, hv, pv⟩ := h d (.head _)
    refine ⟨v :: out, fun n hn => ?_, by simp [h2], fun u hu => ?_⟩
    · simp only [compL1, allT, Option.bind_eq_bind, Option.bind_some, if_true, hv n hn, h1 n hn, pure]
    · rcases List.mem_cons.mp hu with rfl | hu
      · exact pv
      · exact h3 u hu
theorem It.range3 {a b s : Xp} {x y : Int} {z : Int} (h : Evs c σ [a, b, s] [.int x, .int y, .int z]) (hb : 0 < z ∧ z ≤ 1000 ∧ -1000000 < x ∧ x < 1000000 ∧ -1000000 < y ∧ y < 1000000) : It (c + 1) σ (.bi .range [a, b, s]) (rangeD x y z.toNat) := .of' fun n hn => by
  exact bs (h n hn) (if_pos hb)
noncomputable def isI (d : D) : Prop := ∃ i : Int, d = .int i
theorem vints_of {l : List D} (h : ∀ v ∈ l, isI v) : ∃ is : List Int, l = is.map .int := by
  induction l with
  | nil => exact ⟨[], rfl⟩
  | cons a r ih =>
    obtain ⟨i, rfl⟩ := h a (.head _)
    obtain ⟨is, rfl⟩ := ih fun v hv => h v (.tail _ hv)
    exact ⟨i :: is, rfl⟩
theorem intsOf_map (is : List Int) : intsOf (is.map .int) = some is := by
  induction is with
  | nil => rfl
  | cons a r ih => simp only [List.map_cons, intsOf, ih, Option.bind_eq_bind, Option.bind_some, pure]
theorem mem_rangeL {st : Nat} {d : D} : ∀ {n : Nat} {a : Int}, d ∈ rangeL a st n → ∃ j : Nat, j < n ∧ d = .int (a + st * j)
  | 0, a, h => nomatch h
  | n + 1, a, h => by
    rcases List.mem_cons.mp h with rfl | h
    · exact ⟨0, by omega, by simp⟩
    · obtain ⟨j, hj, rfl⟩ := mem_rangeL h
      exact ⟨j + 1, by omega, by congr 1; push_cast; rw [Int.mul_add]; omega⟩
theorem len_rangeL {st : Nat} : ∀ {n : Nat} {a : Int}, (rangeL a st n).length = n
  | 0, a => rfl
  | n + 1, a => by simp [rangeL, len_rangeL]
theorem idx_int {ns : List Int} {i : Int} (h0 : 0 ≤ i) (h1 : i < ns.length) (hl : ns.length ≤ 1000) : ∃ v, idx2 (.list (ns.map .int)) (.int i) = some (.int v) := by
  have hlt : i.toNat < ns.length := by omega
  refine ⟨ns[i.toNat], ?_⟩
  simp only [idx2_list, idx2_str, idx2_dict, wrapIx]
  rw [if_pos h0, if_pos ⟨by simpa using h1, by omega⟩]
  simp [List.getElem?_eq_getElem hlt]
noncomputable def fst5 : List Int := [68, 9, 176, 219, 382]
/-- one cell -/
theorem cell_run (ns : List Int) (hn : ns.length ≤ 63) (k : Nat) (hk : k < 5) (o : Option Slot) : ∃ v, Ev 40 [o, some (.val (.int k)), some (.own (.list (fst5.map .int))), some (.val (.list (ns.map .int)))]
    (E.bin (Op2.add) (E.idx (E.var 2) (E.var 1)) (E.bi (BI.sum) [E.comp [none, none, some 3] (E.idx (E.var 2) (E.var 1)) 1 (E.bi (BI.range) [E.var 1, E.bi (BI.len) [E.var 3], E.int 5]) [] none])) v ∧ isI v := by
  obtain ⟨u, hu⟩ := idx_int (ns := fst5) (i := k) (by omega) (by simp [fst5]; omega) (by simp [fst5])
  have hlen : bi2 .len [.list (ns.map .int)] = some (.int ns.length) := by rw [bi_len_list (by simp; omega)]; simp
  have hsrc : It 10 [o, some (.val (.int k)), some (.own (.list (fst5.map .int))), some (.val (.list (ns.map .int)))] (E.bi (BI.range) [E.var 1, E.bi (BI.len) [E.var 3], E.int 5]) (rangeD k ns.length 5) :=
    (It.range3 (z := 5) (Evs.cons (Ev.var rfl) (Evs.cons (Ev.bi (Pks.cons (Pk.var rfl) Pks.nil) hlen) (Evs.cons (Ev.int 5) Evs.nil))) ⟨by omega, by omega, by omega, by omega, by omega, by omega⟩).le (by decide)
  have hin : ∀ d ∈ rangeD k ns.length 5, ∃ i : Int, d = .int i ∧ 0 ≤ i ∧ i < ns.length := by
    intro d hd
    obtain ⟨j, hj, rfl⟩ := mem_rangeL hd
    refine ⟨_, rfl, by omega, ?_⟩
    have : (j : Int) < ((ns.length : Int) - k + (5 - 1)) / 5 := by
      have h5 : ((5 : Nat) : Int) = 5 := rfl
      rw [h5] at hj
      omega
    omega
  obtain ⟨out, h1, h2, h3⟩ := cX (c := 10) (elt := E.idx (E.var 2) (E.var 1)) (t := 1) isI (rangeD k ns.length 5) [none, none, some (.val (.list (ns.map .int)))] fun d hd => by
    obtain ⟨i, rfl, hi0, hi1⟩ := hin d hd
    obtain ⟨v, hv⟩ := idx_int hi0 hi1 (by omega)
    exact ⟨.int v, (Ev.idx (Pk.var rfl) (Ev.var rfl) hv).le (by decide), v, rfl⟩
  obtain ⟨is, rfl⟩ := vints_of h3
  have hcomp : Ev 20 [o, some (.val (.int k)), some (.own (.list (fst5.map .int))), some (.val (.list (ns.map .int)))] (E.comp [none, none, some 3] (E.idx (E.var 2) (E.var 1)) 1 (E.bi (BI.range) [E.var 1, E.bi (BI.len) [E.var 3], E.int 5]) [] none) (.list (is.map .int)) :=
    (Ev.comp hsrc h1 (by
      rw [h2]; unfold rangeD; rw [len_rangeL]
      have h5 : ((5 : Nat) : Int) = 5 := rfl
      rw [h5]
      omega)).le (by decide)
  refine ⟨.int (u + is.sum), (Ev.bin (Ev.idx (Pk.ownv rfl) (Ev.var rfl) hu) (Ev.bi (Pks.cons (Pk.ev hcomp rfl) Pks.nil) (d := .int is.sum) ?_) rfl).le (by decide), _, rfl⟩
  simp only [bi2_lenL, bi2_lenS, bi2_sum, bi2_max, intsOf_map, Option.bind_eq_bind, Option.bind_some, pure]
theorem c_cells (ns : List Int) (hn : ns.length ≤ 63) : ∃ is : List Int, is.length = 5 ∧ Cl 60 "_law_cells" [.list (ns.map .int)] (.list (is.map .int)) := by
  have hsrc : It 10 [some (.val (.list (ns.map .int))), some (.own (.list (fst5.map .int)))] (E.bi (BI.range) [E.int 5]) ((List.range 5).map fun k : Nat => .int k) := (It.range1 (Ev.int 5) (by omega)).le (by decide)
  obtain ⟨out, h1, h2, h3⟩ := cX (c := 40) (elt := E.bin (Op2.add) (E.idx (E.var 2) (E.var 1)) (E.bi (BI.sum) [E.comp [none, none, some 3] (E.idx (E.var 2) (E.var 1)) 1 (E.bi (BI.range) [E.var 1, E.bi (BI.len) [E.var 3], E.int 5]) [] none])) (t := 1) isI ((List.range 5).map fun k : Nat => .int k)
    [none, none, some (.own (.list (fst5.map .int))), some (.val (.list (ns.map .int)))] fun d hd => by
      obtain ⟨k, hk, rfl⟩ := List.mem_map.mp hd
      exact cell_run ns hn k (List.mem_range.mp hk) none
  obtain ⟨is, rfl⟩ := vints_of h3
  refine ⟨is, by simpa using h2, (Cl.of (fn := b_lawcells) (by kernel_rfl) ⟨rfl, Nat.le_of_ble_eq_true rfl⟩
    (Rn.cons (Ex1.asgNew (ds := fst5.map .int) (Evs.cons (Ev.int _) (Evs.cons (Ev.int _) (Evs.cons (Ev.int _) (Evs.cons (Ev.int _) (Evs.cons (Ev.int _) Evs.nil))))))
      (Rn.stop (Ex1.ret (Pk.ev (Ev.comp hsrc h1 (by rw [h2]; simp)) rfl)))) rfl).le (by decide)⟩
/-! ### rules -/
noncomputable abbrev Ru := Nat × List Nat
noncomputable def pcI : Nat → Int
  | 0 => 97 | 1 => 65 | 2 => 98 | 3 => 66 | 4 => 256 | 5 => 257 | 6 => 258 | _ => 259
noncomputable def ruD (r : Ru) : D := .list (.int (256 + r.1 : Nat) :: r.2.map fun p => .int (pcI p))
noncomputable def ruOk (r : Ru) : Prop := r.1 < 4 ∧ ∃ p q, p < 8 ∧ q < 8 ∧ r.2 = [p, q]
noncomputable def partsD : List D := (List.range 8).map fun p => .int (pcI p)
theorem idx_part {p : Nat} (h : p < 8) : idx2 (.list partsD) (.int p) = some (.int (pcI p)) := by
  match p, h with
  | 0, _ => rfl
  | 1, _ => rfl
  | 2, _ => rfl
  | 3, _ => rfl
  | 4, _ => rfl
  | 5, _ => rfl
  | 6, _ => rfl
  | 7, _ => rfl
theorem rule_run (x : Int) (o : Option Slot) : ∃ v, Ev 20 [o, some (.val (.int x)), some (.own (.list partsD))]
    (E.lst [E.bin (Op2.add) (E.int 256) (E.bin (Op2.fmod) (E.var 1) (E.int 4)), E.idx (E.var 2) (E.bin (Op2.fmod) (E.bin (Op2.fdiv) (E.var 1) (E.int 4)) (E.int 8)), E.idx (E.var 2) (E.bin (Op2.fmod) (E.bin (Op2.fdiv) (E.var 1) (E.int 32)) (E.int 8))]) v ∧ ∃ r, ruOk r ∧ v = ruD r := by
  have a1 : x / 4 % 8 = ((x / 4 % 8).toNat : Int) := by omega
  have a2 : x / 32 % 8 = ((x / 32 % 8).toNat : Int) := by omega
  have a3 : 256 + x % 4 = ((256 + (x % 4).toNat : Nat) : Int) := by omega
  have i1 := idx_part (p := (x / 4 % 8).toNat) (by omega)
  have i2 := idx_part (p := (x / 32 % 8).toNat) (by omega)
  rw [← a1] at i1
  rw [← a2] at i2
  refine ⟨_, (Ev.lst (Evs.cons (Ev.bin (Ev.int 256) (Ev.bin (Ev.var rfl) (Ev.int 4) rfl) rfl) (Evs.cons (Ev.idx (Pk.ownv rfl) (Ev.bin (Ev.bin (Ev.var rfl) (Ev.int 4) rfl) (Ev.int 8) rfl) i1) (Evs.cons (Ev.idx (Pk.ownv rfl) (Ev.bin (Ev.bin (Ev.var rfl) (Ev.int 32) rfl) (Ev.int 8) rfl) i2) Evs.nil)))).le (by decide),
    ((x % 4).toNat, [(x / 4 % 8).toNat, (x / 32 % 8).toNat]), ⟨by simp only; omega, _, _, by omega, by omega, rfl⟩, ?_⟩
  simp only [ruD, List.map_cons, List.map_nil]
  rw [a3]
theorem rus_of {l : List D} (h : ∀ v ∈ l, ∃ r, ruOk r ∧ v = ruD r) : ∃ rs : List Ru, l = rs.map ruD ∧ ∀ r ∈ rs, ruOk r := by
  induction l with
  | nil => exact ⟨[], rfl, fun r h => nomatch h⟩
  | cons a r ih =>
    obtain ⟨i, hi, rfl⟩ := h a (.head _)
    obtain ⟨is, rfl, his⟩ := ih fun v hv => h v (.tail _ hv)
    exact ⟨i :: is, rfl, fun r hr => by rcases List.mem_cons.mp hr with rfl | hr; exact hi; exact his r hr⟩
noncomputable def lastR : Ru := (4, [4, 5, 6, 7])
theorem c_rules (is : List Int) (h5 : is.length = 5) : ∃ rs : List Ru, rs.length = 4 ∧ (∀ r ∈ rs, ruOk r) ∧ Cl 60 "_law_rules" [.list (is.map .int)] (.list ((rs ++ [lastR]).map ruD)) := by
  match is, h5 with
  | [x0, x1, x2, x3, x4], _ =>
  have hsl : slc2 (.list [.int x0, .int x1, .int x2, .int x3, .int x4]) none (some 4) = some (.list [.int x0, .int x1, .int x2, .int x3]) := by rfl
  have hsrc : It 10 [some (.val (.list [.int x0, .int x1, .int x2, .int x3, .int x4])), some (.own (.list partsD)), none] (E.slc (E.var 0) none (some (E.int 4))) [.int x0, .int x1, .int x2, .int x3] :=
    (It.ev (Ev.slc (Pk.var rfl) Op.none (Op.some (Ev.int 4)) hsl) rfl rfl).le (by decide)
  obtain ⟨out, h1, h2, h3⟩ := cX (c := 20) (t := 1) (elt := E.lst [E.bin (Op2.add) (E.int 256) (E.bin (Op2.fmod) (E.var 1) (E.int 4)), E.idx (E.var 2) (E.bin (Op2.fmod) (E.bin (Op2.fdiv) (E.var 1) (E.int 4)) (E.int 8)), E.idx (E.var 2) (E.bin (Op2.fmod) (E.bin (Op2.fdiv) (E.var 1) (E.int 32)) (E.int 8))])
    (fun v => ∃ r, ruOk r ∧ v = ruD r) [.int x0, .int x1, .int x2, .int x3] [none, none, some (.own (.list partsD))] fun d hd => by
      have : isI d := by
        simp only [List.mem_cons, List.not_mem_nil, or_false] at hd
        rcases hd with rfl | rfl | rfl | rfl <;> exact ⟨_, rfl⟩
      obtain ⟨x, rfl⟩ := this
      exact rule_run x none
  obtain ⟨rs, rfl, hrs⟩ := rus_of h3
  have hl : rs.length = 4 := by simpa using h2
  refine ⟨rs, hl, hrs, ?_⟩
  have hadd : bin2 .add (.list (rs.map ruD)) (.list [.list [.int 260, .int 256, .int 257, .int 258, .int 259]]) = some (.list ((rs ++ [lastR]).map ruD)) := by
    simp only [bin2_add, bin2_addL, bin2_sub]
    rw [if_pos (by simp; omega), List.map_append]
    rfl
  exact (Cl.of (fn := b_lawrules) (by kernel_rfl) ⟨rfl, Nat.le_of_ble_eq_true rfl⟩
    (Rn.cons (Ex1.asgNew (ds := partsD) (Evs.cons (Ev.int _) (Evs.cons (Ev.int _) (Evs.cons (Ev.int _) (Evs.cons (Ev.int _) (Evs.cons (Ev.int _) (Evs.cons (Ev.int _) (Evs.cons (Ev.int _) (Evs.cons (Ev.int _) Evs.nil)))))))))
      (Rn.cons (Ex1.asg (Ev.comp hsrc h1 (by rw [h2]; simp)))
      (Rn.stop (Ex1.ret (Pk.ev (Ev.bin (Ev.var rfl) (Ev.lst (Evs.cons (Ev.lst (Evs.cons (Ev.int _) (Evs.cons (Ev.int _) (Evs.cons (Ev.int _) (Evs.cons (Ev.int _) (Evs.cons (Ev.int _) Evs.nil)))))) Evs.nil)) hadd) rfl))))) rfl).le (by decide)
end Mine
end
section
/-! The plain law: the rules' words. -/
open PySem PySem.Builtin PySem.Builtin.Str PySem.StrLaws
set_option maxRecDepth 100000
namespace Mine
variable {c c1 c2 c3 : Nat} {σ σ' σ'' : Sg}
/-- the first rule of each name: the name, whether its place is odd, its word -/
structure En where
  n : Nat
  odd : Bool
  w : Wd
noncomputable def look (env : List En) (n : Nat) : Option En := env.find? fun e => e.n == n
noncomputable def partW (env : List En) (p : Nat) : Wd := if p < 2 then [false] else if p < 4 then [true] else ((look env (p - 4)).map En.w).getD []
noncomputable def wordOf (env : List En) (ps : List Nat) : Wd := ps.flatMap (partW env)
noncomputable def stepE (env : List En) (k : Nat) (r : Ru) : List En := if (look env r.1).isSome then env else env ++ [⟨r.1, k % 2 == 1, wordOf env r.2⟩]
noncomputable def runE (env : List En) (k : Nat) : List Ru → List En
  | [] => env
  | r :: rs => runE (stepE env k r) (k + 1) rs
noncomputable def wordsD (env : List En) : List (D × D) := env.map fun e => (.int (256 + e.n : Nat), .str (wS e.w))
theorem dGet_words (n : Nat) : ∀ env : List En, dGet (.int (256 + n : Nat)) (wordsD env) = some ((look env n).map fun e => .str (wS e.w))
  | [] => rfl
  | e :: r => by
    have ih := dGet_words n r
    simp only [wordsD, List.map_cons, dGet, keyEq, look, List.find?_cons] at ih ⊢
    by_cases h : e.n = n
    · subst h; simp
    · have h1 : (((256 + n : Nat) : Int) == ((256 + e.n : Nat) : Int)) = false := beq_false_of_ne (by omega)
      have h2 : (e.n == n) = false := beq_false_of_ne h
      rw [h1, h2]
      simpa using ih
theorem dPut_words (n : Nat) (w : Wd) : ∀ env : List En, look env n = none → dPut (.int (256 + n : Nat)) (.str (wS w)) (wordsD env) = some (wordsD env ++ [(.int (256 + n : Nat), .str (wS w))])
  | [], _ => rfl
  | e :: r, h => by
    have hne : ¬ e.n = n := fun he => by simp [look, he] at h
    have h2 : (e.n == n) = false := beq_false_of_ne hne
    have hr : look r n = none := by simpa [look, h2] using h
    have ih := dPut_words n w r hr
    have h1 : (((256 + n : Nat) : Int) == ((256 + e.n : Nat) : Int)) = false := beq_false_of_ne (by omega)
    simp only [wordsD, List.map_cons, dPut, keyEq, h1, Option.bind_eq_bind, Option.bind_some, Bool.false_eq_true, if_false, List.cons_append] at ih ⊢
    rw [ih]; rfl
/-- joined texts -/
theorem join_nil : ∀ xs : List Wd, Txt.join ⟨#[]⟩ (xs.map wS) = wS xs.flatten := by
  intro xs
  show glued _ _ = _
  rw [glued_eq_join]
  have key : ∀ xs : List Wd, (Str.join ⟨#[]⟩ (xs.map wS)).cps.toList = (xs.flatten).map sg := by
    intro xs
    induction xs with
    | nil => rfl
    | cons a r ih =>
      cases r with
      | nil => simp [Str.join, wS]
      | cons b r =>
        have e : Str.join ⟨#[]⟩ ((a :: b :: r).map wS) = wS a ++ ⟨#[]⟩ ++ Str.join ⟨#[]⟩ ((b :: r).map wS) := rfl
        rw [e]
        show ((wS a).cps ++ #[] ++ (Str.join ⟨#[]⟩ ((b :: r).map wS)).cps).toList = _
        simp only [Array.toList_append, ih]
        simp [wS]
  have h := key xs
  generalize Str.join ⟨#[]⟩ (xs.map wS) = s at h
  obtain ⟨a⟩ := s
  simp only at h
  simp only [wS, ← h]
theorem strsOf_map {α : Type} (f : α → Str) (l : List α) : strsOf (l.map fun x => .str (f x)) = some (l.map f) := by
  induction l with
  | nil => rfl
  | cons a r ih => simp only [List.map_cons, strsOf, ih, Option.bind_eq_bind, Option.bind_some, pure]
theorem foldl_len (xs : List Wd) : ∀ acc : Nat, List.foldl (fun (a : Nat) (x : Str) => a + x.length + (⟨#[]⟩ : Str).length) acc (xs.map wS) = acc + xs.flatten.length := by
  induction xs with
  | nil => intro acc; simp
  | cons a r ih =>
    intro acc
    simp only [List.map_cons, List.foldl_cons, ih, len_wS, List.flatten_cons, List.length_append]
    have : (⟨#[]⟩ : Str).length = 0 := rfl
    omega
theorem joinOk_nil (xs : List Wd) (h : xs.flatten.length ≤ 1000) : JoinOk ⟨#[]⟩ (xs.map wS) = true := by
  unfold JoinOk tooLong
  have e : (xs.map wS).toArray.foldl (fun (a : Nat) (x : Str) => a + x.length + (⟨#[]⟩ : Str).length) 0 = xs.flatten.length := by
    have := foldl_len xs 0
    simpa using this
  rw [e]
  have : ¬ xs.flatten.length > sizeLine := by unfold sizeLine; omega
  rw [decide_eq_false this]; rfl
theorem mth_join_nil (xs : List Wd) (h : xs.flatten.length ≤ 1000) : mth2 .join (.str ⟨#[]⟩) [.list (xs.map fun x => .str (wS x))] = some (.str (wS xs.flatten)) := by
  simp only [mth2_join, mth2_find, mth2_getI, mth2_getS, strsOf_map wS, Option.bind_eq_bind, Option.bind_some, joinOk_nil xs h, if_true, join_nil, pure]
theorem low_tab : ([0, 1, 2, 3] : List Nat).map (fun p => (bi2 .chr [.int (pcI p)]).bind fun x => mth2 .lower x []) = ([0, 1, 2, 3] : List Nat).map fun p => some (.str (wS (partW [] p))) := by kernel_rfl
noncomputable def wElt : Xp := E.ite (E.cmp (Cp.lt) (E.var 1) (E.int 256)) (E.mth (MT.lower) (E.bi (BI.chr) [E.var 1]) []) (E.mth (MT.get) (E.var 2) [E.var 1, E.str { cps := #[] }])
theorem word_elt (env : List En) (p : Nat) (hp : p < 8) (o : Option Slot) : Ev 20 [o, some (.val (.int (pcI p))), some (.own (.dict (wordsD env)))] wElt (.str (wS (partW env p))) := by
  by_cases h4 : p < 4
  · have hm : p ∈ ([0, 1, 2, 3] : List Nat) := by simp; omega
    have ht := List.map_inj_left.mp low_tab p hm
    have hw : partW [] p = partW env p := by
      unfold partW; split
      · rfl
      · simp [h4]
    rw [hw] at ht
    obtain ⟨x, e1, e2⟩ := Option.bind_eq_some_iff.mp ht
    have hlt : cmp2 .lt (.int (pcI p)) (.int 256) = some true := by
      simp only [List.mem_cons, List.not_mem_nil, or_false] at hm
      rcases hm with rfl | rfl | rfl | rfl <;> rfl
    refine (Ev.ite (t := true) (c2 := 15) (Ts.cmp rfl (Ev.var rfl) (Ev.int 256) hlt) ?_).le (by decide)
    rw [if_pos rfl]
    exact (Ev.mth rfl (Ev.bi (Pks.cons (Pk.var rfl) Pks.nil) e1) Evs.nil e2).le (by decide)
  · have hq : ∃ k, p = k + 4 ∧ k < 4 := ⟨p - 4, by omega, by omega⟩
    obtain ⟨k, rfl, hk⟩ := hq
    have hpc : pcI (k + 4) = ((256 + k : Nat) : Int) := by
      match k, hk with
      | 0, _ => rfl
      | 1, _ => rfl
      | 2, _ => rfl
      | 3, _ => rfl
    rw [hpc]
    have hlt : cmp2 .lt (.int (256 + k : Nat)) (.int 256) = some false := by simp only [cmp2_lt, cmp2_le, cmp2_gt, cmp2_ge, cmp2_eq, cmp2_ne, cmp2_inI, cmp2_notInI, cmp2_inS, cmp2_notInS, cmp2_inT, cmp2_notInT, cmp2_notInL]; exact congrArg some (decide_eq_false (by omega))
    refine (Ev.ite (t := false) (c2 := 15) (Ts.cmp rfl (Ev.var rfl) (Ev.int 256) hlt) ?_).le (by decide)
    rw [if_neg (by simp)]
    refine (Ev.mthV (fun bk q => by cases q) (Pk.ownv rfl) (Evs.cons (Ev.var rfl) (Evs.cons (Ev.str _) Evs.nil)) ?_).le (by decide)
    simp only [mth2_join, mth2_find, mth2_getI, mth2_getS, dGet_words, Option.bind_eq_bind, Option.bind_some, pure]
    congr 1
    unfold partW
    rw [if_neg (by omega), if_neg (by omega), show k + 4 - 4 = k by omega]
    cases look env k <;> rfl
noncomputable def lenOk (B : Nat) (env : List En) : Prop := ∀ e ∈ env, e.w.length ≤ B
theorem partW_len {B : Nat} {env : List En} (h : lenOk B env) (hB : 1 ≤ B) (p : Nat) : (partW env p).length ≤ B := by
  unfold partW
  split
  · simpa using hB
  · split
    · simpa using hB
    · cases hl : look env (p - 4) with
      | none => simp
      | some e => exact h e (List.mem_of_find?_eq_some hl)
theorem wordOf_len {B : Nat} {env : List En} (h : lenOk B env) (hB : 1 ≤ B) : ∀ ps : List Nat, (wordOf env ps).length ≤ ps.length * B
  | [] => by simp [wordOf]
  | p :: r => by
    have h1 := partW_len h hB p
    have h2 := wordOf_len h hB r
    simp only [wordOf, List.flatMap_cons, List.length_append, List.length_cons, Nat.add_mul, Nat.one_mul] at h2 ⊢
    omega
noncomputable def wBody : List S := [S.ifs (E.cmp (Cp.notIn) (E.idx (E.var 2) (E.int 0)) (E.var 1)) [S.seti 1 (E.idx (E.var 2) (E.int 0)) (E.mth (MT.join) (E.str { cps := #[] }) [E.comp [none, none, some 1] wElt 1 (E.slc (E.var 2) (some (E.int 1)) none) [] none])] []]
theorem slc_tail (x : D) (l : List D) (h : l.length ≤ 1000) : slc2 (.list (x :: l)) (some 1) none = some (.list l) := by
  simp only [slc2_list, slc2_str]
  rw [if_pos (by simp; omega)]
  have e : clipAt (x :: l).length 1 = 1 := by
    unfold clipAt
    rw [if_neg (by omega)]
    simp
    omega
  simp only [Option.elim, e]
  congr 2
  simp
/-- one rule -/
theorem word_run (env : List En) (k : Nat) (r : Ru) (R : D) (o : Option Slot) (hl : env.length ≤ 900) (hp : ∀ p ∈ r.2, p < 8) (hn : r.2.length ≤ 900) (hw : (wordOf env r.2).length ≤ 1000) :
    Rn 60 [some (.val R), some (.own (.dict (wordsD env))), some (.val (ruD r))] wBody none [some (.val R), some (.own (.dict (wordsD (stepE env k r)))), some (.val (ruD r))] := by
  have hi : idx2 (ruD r) (.int 0) = some (.int (256 + r.1 : Nat)) := idx_first _ _
  have hin : cmp2 .notIn (.int (256 + r.1 : Nat)) (.dict (wordsD env)) = some (!(look env r.1).isSome) := by
    simp only [cmp2_lt, cmp2_le, cmp2_gt, cmp2_ge, cmp2_eq, cmp2_ne, cmp2_inI, cmp2_notInI, cmp2_inS, cmp2_notInS, cmp2_inT, cmp2_notInT, cmp2_notInL, dGet_words, Option.map_some, Option.isSome_map]
  unfold stepE
  cases hk : (look env r.1).isSome with
  | true =>
    rw [hk] at hin
    exact (Rn.cons (Ex1.ifF (Ts.cmpIn rfl (Ev.idx (Pk.var rfl) (Ev.int 0) hi) (Pk.ownv rfl) hin) Rn.nil) Rn.nil).le (by decide)
  | false =>
    rw [hk] at hin
    have hnone : look env r.1 = none := by simpa using hk
    have hsrc : It 10 [some (.val R), some (.own (.dict (wordsD env))), some (.val (ruD r))] (E.slc (E.var 2) (some (E.int 1)) none) (r.2.map fun p => .int (pcI p)) :=
      (It.ev (Ev.slc (Pk.var rfl) (Op.some (Ev.int 1)) Op.none (slc_tail _ _ (by simp; omega))) rfl rfl).le (by decide)
    have hcomp := cM (c := 20) (elt := wElt) (t := 1) (fun p => .int (pcI p)) (fun p => .str (wS (partW env p))) r.2 [none, none, some (.own (.dict (wordsD env)))] fun p hp' => word_elt env p (hp p hp') none
    have hj := mth_join_nil (r.2.map (partW env)) (by rw [← List.flatMap_def]; exact hw)
    rw [List.map_map, ← List.flatMap_def] at hj
    have hput := dPut_words r.1 (wordOf env r.2) env hnone
    have hwd : wordsD (env ++ [⟨r.1, k % 2 == 1, wordOf env r.2⟩]) = wordsD env ++ [(.int (256 + r.1 : Nat), .str (wS (wordOf env r.2)))] := by simp [wordsD]
    rw [if_neg (by simp), hwd]
    exact (Rn.cons (Ex1.ifT (Ts.cmpIn rfl (Ev.idx (Pk.var rfl) (Ev.int 0) hi) (Pk.ownv rfl) hin)
      (Rn.cons (Ex1.seti rfl (Ev.mth rfl (Ev.str _) (Evs.cons (Ev.comp hsrc hcomp (by simp; omega)) Evs.nil) hj) (Ev.idx (Pk.var rfl) (Ev.int 0) hi) (by simp [wordsD]; omega) rfl hput) Rn.nil)) Rn.nil).le (by decide)
/-- no word grows beyond the line -/
noncomputable def lenAll (env : List En) (k : Nat) : List Ru → Prop
  | [] => True
  | r :: rs => (wordOf env r.2).length ≤ 1000 ∧ lenAll (stepE env k r) (k + 1) rs
theorem stepE_len (env : List En) (k : Nat) (r : Ru) : (stepE env k r).length ≤ env.length + 1 := by
  unfold stepE; split <;> simp
theorem lenOk_step {B m : Nat} {env : List En} (h : lenOk B env) (hB : 1 ≤ B) (k : Nat) {r : Ru} (hr : r.2.length ≤ m) (hm : 1 ≤ m) : lenOk (m * B) (stepE env k r) := by
  have hb : B ≤ m * B := Nat.le_mul_of_pos_left B hm
  unfold stepE
  split
  · exact fun e he => Nat.le_trans (h e he) hb
  · intro e he
    rcases List.mem_append.mp he with he | he
    · exact Nat.le_trans (h e he) hb
    · rw [List.mem_singleton] at he
      subst he
      exact Nat.le_trans (wordOf_len h hB _) (Nat.mul_le_mul_right B hr)
theorem lenAll_two : ∀ (rs : List Ru) (env : List En) (k B : Nat), lenOk B env → 1 ≤ B → (∀ r ∈ rs, r.2.length = 2) → B * 2 ^ rs.length ≤ 64 → lenAll env k (rs ++ [lastR])
  | [], env, k, B, h, hB, _, hb => ⟨by have := wordOf_len h hB lastR.2; simp [lastR] at this hb ⊢; omega, trivial⟩
  | r :: rs, env, k, B, h, hB, hr, hb => by
    have h2 := hr r (.head _)
    have hp : 1 ≤ 2 ^ rs.length := Nat.one_le_two_pow
    have hb2 : 2 * B * 2 ^ rs.length ≤ 64 := by
      rw [List.length_cons, Nat.pow_succ] at hb
      have : B * (2 ^ rs.length * 2) = 2 * B * 2 ^ rs.length := by rw [Nat.mul_comm (2 ^ rs.length) 2, ← Nat.mul_assoc, Nat.mul_comm B 2]
      omega
    refine ⟨?_, lenAll_two rs _ (k + 1) (2 * B) (lenOk_step h hB k (by omega) (by omega)) (by omega) (fun r' h' => hr r' (.tail _ h')) hb2⟩
    have := wordOf_len h hB r.2
    rw [h2] at this
    have h3 : 2 * B ≤ 2 * B * 2 ^ rs.length := Nat.le_mul_of_pos_right _ hp
    omega
noncomputable def psOk (r : Ru) : Prop := (∀ p ∈ r.2, p < 8) ∧ r.2.length ≤ 900
theorem words_loop (R : D) : ∀ (rs : List Ru) (env : List En) (k : Nat) (o : Option Slot), env.length + rs.length ≤ 900 → (∀ r ∈ rs, psOk r) → lenAll env k rs →
    ∃ o', LpR 60 2 wBody [some (.val R), some (.own (.dict (wordsD env))), o] (rs.map ruD) [some (.val R), some (.own (.dict (wordsD (runE env k rs)))), o']
  | [], env, k, o, _, _, _ => ⟨o, LpR.nil.le (by decide)⟩
  | r :: rs, env, k, o, hl, hp, hw => by
    obtain ⟨o', h⟩ := words_loop R rs (stepE env k r) (k + 1) (some (.val (ruD r))) (by have := stepE_len env k r; simp at hl ⊢; omega) (fun r' h' => hp r' (.tail _ h')) hw.2
    obtain ⟨h1, h2⟩ := hp r (.head _)
    exact ⟨o', (LpR.cons (word_run env k r R o (by simp at hl; omega) h1 h2 hw.1) h).le (by decide)⟩
theorem c_words (rs : List Ru) (hl : rs.length ≤ 900) (hp : ∀ r ∈ rs, psOk r) (hw : lenAll [] 0 rs) : Cl 80 "_law_words" [.list (rs.map ruD)] (.dict (wordsD (runE [] 0 rs))) := by
  obtain ⟨o', h⟩ := words_loop (.list (rs.map ruD)) rs [] 0 none (by simpa using hl) hp hw
  exact (Cl.of (fn := b_lawwords) (by kernel_rfl) ⟨rfl, Nat.le_of_ble_eq_true rfl⟩
    (Rn.cons Ex1.asgDict (Rn.cons (Ex1.forR (It.val rfl rfl) h) (Rn.stop (Ex1.ret (Pk.ownv rfl))))) rfl).le (by decide)
end Mine
end
section
/-! The plain law: figures and the maps that they tell. -/
open PySem PySem.Builtin PySem.Builtin.Str PySem.StrLaws
set_option maxRecDepth 100000
namespace Mine
variable {c c1 c2 c3 : Nat} {σ σ' σ'' : Sg}
noncomputable def fgS (a b c : Nat) : Str := ⟨#[48 + a, 48 + b, 48 + c]⟩
theorem figOf_eq (a b c : Nat) : figOf a b c = fgS a (max a b) (max (max a b) c) := rfl
/-- the figures s tell the map f -/
noncomputable def Tells (s : Str) (f : Nat → Nat) : Prop := ∃ a b c, s = fgS a b c ∧ a ≤ b ∧ b ≤ c ∧ c < 4 ∧ ∀ x, x < 4 → cnt (fun y => decide (y ≤ x)) a b c = f x
theorem hdr_tab : fours.map (fun p => okHdr (fgS p.1 p.2.1 p.2.2.1)) = fours.map fun _ => true := by kernel_rfl
theorem Tells.ok {s : Str} {f : Nat → Nat} (h : Tells s f) : okHdr s = true := by
  obtain ⟨a, b, c, rfl, h1, h2, h3, _⟩ := h
  exact List.map_inj_left.mp hdr_tab (a, b, c, 0) (fours_mem (by omega) (by omega) h3 (by omega))
/-- maps that rise and never lead down -/
structure MpUp (m : Mp) : Prop where
  h01 : m.f0 ≤ m.f1
  h12 : m.f1 ≤ m.f2
  h23 : m.f2 ≤ 3
  h3 : m.f3 = 3
  g1 : 1 ≤ m.f1
  g2 : 2 ≤ m.f2
theorem MpUp.ok {m : Mp} (h : MpUp m) : m.ok := by
  obtain ⟨h1, h2, h3, h4, h5, h6⟩ := h
  exact ⟨by omega, by omega, by omega, by omega⟩
theorem MpUp.mono {m : Mp} (h : MpUp m) {x y : Nat} (hxy : x ≤ y) : m.at x ≤ m.at y := by
  obtain ⟨h1, h2, h3, h4, h5, h6⟩ := h
  have e : ∀ z, m.at z = if z = 0 then m.f0 else if z = 1 then m.f1 else if z = 2 then m.f2 else m.f3 := fun z => by
    match z with
    | 0 => rfl
    | 1 => rfl
    | 2 => rfl
    | z + 3 => rw [if_neg (by omega), if_neg (by omega), if_neg (by omega)]; rfl
  rw [e, e]
  (repeat' split) <;> omega
theorem MpUp.infl {m : Mp} (h : MpUp m) {x : Nat} (hx : x < 4) : x ≤ m.at x := by
  obtain ⟨h1, h2, h3, h4, h5, h6⟩ := h
  match x, hx with
  | 0, _ => exact Nat.zero_le _
  | 1, _ => exact h5
  | 2, _ => exact h6
  | 3, _ => show 3 ≤ m.f3; omega
section
variable {fa fb : Mp}
theorem pick_up (ha : MpUp fa) (hb : MpUp fb) (b : Bool) : MpUp (if b then fb else fa) := by cases b; exact ha; exact hb
theorem walk_mono (ha : MpUp fa) (hb : MpUp fb) : ∀ (w : Wd) {x y : Nat}, x ≤ y → walk fa fb x w ≤ walk fa fb y w
  | [], x, y, h => h
  | b :: w, x, y, h => walk_mono ha hb w ((pick_up ha hb b).mono h)
theorem walk_infl (ha : MpUp fa) (hb : MpUp fb) : ∀ (w : Wd) {x : Nat}, x < 4 → x ≤ walk fa fb x w
  | [], x, h => Nat.le_refl _
  | b :: w, x, h => Nat.le_trans ((pick_up ha hb b).infl h) (walk_infl ha hb w (Mp.lt (pick_up ha hb b).ok x))
theorem walk_app : ∀ (u v : Wd) (x : Nat), walk fa fb x (u ++ v) = walk fa fb (walk fa fb x u) v
  | [], v, x => rfl
  | b :: u, v, x => walk_app u v _
end
theorem one_le {a x y : Nat} (h : x ≤ y) : (if decide (a ≤ x) = true then 1 else 0) ≤ (if decide (a ≤ y) = true then 1 else 0) := by
  by_cases h1 : a ≤ x
  · have : a ≤ y := by omega
    simp [h1, this]
  · simp [h1]
theorem cnt_mono {a b c x y : Nat} (h : x ≤ y) : cnt (fun z => decide (z ≤ x)) a b c ≤ cnt (fun z => decide (z ≤ y)) a b c := by
  have h1 := one_le (a := a) h
  have h2 := one_le (a := b) h
  have h3 := one_le (a := c) h
  simp only [cnt]; omega
theorem cnt_lt (p : Nat → Bool) (a b c : Nat) : cnt p a b c < 4 := by
  unfold cnt
  have h : ∀ q : Bool, (if q = true then 1 else 0) ≤ 1 := fun q => by cases q <;> simp
  have h1 := h (p a)
  have h2 := h (p b)
  have h3 := h (p c)
  omega
/-- the figures of a map, from the three steps -/
noncomputable def fgM (m0 m1 m2 : Nat) : Str := fgS (cnt (fun y => decide (y ≤ 0)) m0 m1 m2) (cnt (fun y => decide (y ≤ 1)) m0 m1 m2) (cnt (fun y => decide (y ≤ 2)) m0 m1 m2)
theorem back_tab : fours.map (fun p => (fun m0 m1 m2 x => if m0 ≤ m1 ∧ m1 ≤ m2 then cnt (fun y => decide (y ≤ x)) (cnt (fun y => decide (y ≤ 0)) m0 m1 m2) (cnt (fun y => decide (y ≤ 1)) m0 m1 m2) (cnt (fun y => decide (y ≤ 2)) m0 m1 m2) else 0) p.1 p.2.1 p.2.2.1 p.2.2.2)
    = fours.map fun p => (fun (m0 m1 m2 x : Nat) => if m0 ≤ m1 ∧ m1 ≤ m2 then (if x = 0 then m0 else if x = 1 then m1 else if x = 2 then m2 else 3) else 0) p.1 p.2.1 p.2.2.1 p.2.2.2 := by decide +kernel
theorem fgM_tells {m0 m1 m2 : Nat} (h1 : m0 ≤ m1) (h2 : m1 ≤ m2) (h3 : m2 < 4) : Tells (fgM m0 m1 m2) (fun x => if x = 0 then m0 else if x = 1 then m1 else if x = 2 then m2 else 3) := by
  refine ⟨_, _, _, rfl, cnt_mono (by omega), cnt_mono (by omega), cnt_lt _ _ _ _, fun x hx => ?_⟩
  · have h := List.map_inj_left.mp back_tab (m0, m1, m2, x) (fours_mem (by omega) (by omega) h3 hx)
    simp only [h1, h2, and_self, if_true] at h
    exact h
noncomputable def fgW (fa fb : Mp) (w : Wd) : Str := fgM (walk fa fb 0 w) (walk fa fb 1 w) (walk fa fb 2 w)
theorem fgW_tells {fa fb : Mp} (ha : MpUp fa) (hb : MpUp fb) (w : Wd) : Tells (fgW fa fb w) (fun x => walk fa fb x w) := by
  obtain ⟨a, b, c, e, h1, h2, h3, h4⟩ := fgM_tells (walk_mono ha hb w (Nat.zero_le 1)) (walk_mono ha hb w (show 1 ≤ 2 by omega)) (walk_lt ha.ok hb.ok w 2 (by omega))
  refine ⟨a, b, c, e, h1, h2, h3, fun x hx => ?_⟩
  rw [h4 x hx]
  match x, hx with
  | 0, _ => rfl
  | 1, _ => rfl
  | 2, _ => rfl
  | 3, _ =>
    have h5 := walk_infl ha hb w (x := 3) (by omega)
    have h6 := walk_lt ha.ok hb.ok w 3 (by omega)
    show 3 = walk fa fb 3 w
    omega
/-- the map that figures tell -/
noncomputable def mpOf (a b c : Nat) : Mp := ⟨cnt (fun y => decide (y ≤ 0)) a b c, cnt (fun y => decide (y ≤ 1)) a b c, cnt (fun y => decide (y ≤ 2)) a b c, cnt (fun y => decide (y ≤ 3)) a b c⟩
theorem fig_tells {a b c : Nat} (ha : a < 2) (hb : b < 3) (hc : c < 4) : MpUp (mpOf a (max a b) (max (max a b) c)) ∧ Tells (figOf a b c) (mpOf a (max a b) (max (max a b) c)).at := by
  constructor
  · refine ⟨cnt_mono (by omega), cnt_mono (by omega), ?_, ?_, ?_, ?_⟩
    · have := cnt_lt (fun y => decide (y ≤ 2)) a (max a b) (max (max a b) c); exact Nat.le_of_lt_succ this
    · simp only [mpOf, cnt, decide_eq_true (show a ≤ 3 by omega), decide_eq_true (show max a b ≤ 3 by omega), decide_eq_true (show max (max a b) c ≤ 3 by omega), if_true]
    · simp only [mpOf, cnt, decide_eq_true (show a ≤ 1 by omega), if_true]; omega
    · simp only [mpOf, cnt, decide_eq_true (show a ≤ 2 by omega), decide_eq_true (show max a b ≤ 2 by omega), if_true]; omega
  · refine ⟨_, _, _, figOf_eq a b c, by omega, by omega, by omega, fun x hx => ?_⟩
    match x, hx with
    | 0, _ => rfl
    | 1, _ => rfl
    | 2, _ => rfl
    | 3, _ => rfl
theorem tells_id : Tells ⟨#[49, 50, 51]⟩ (fun x => x) := ⟨1, 2, 3, rfl, by omega, by omega, by omega, fun x hx => by
  match x, hx with
  | 0, _ => rfl
  | 1, _ => rfl
  | 2, _ => rfl
  | 3, _ => rfl⟩
end Mine
end
section
/-! The plain law: what the Headers hold, and one rule of _law_led. -/
open PySem PySem.Builtin PySem.Builtin.Str PySem.StrLaws
set_option maxRecDepth 100000
namespace Mine
variable {c c1 c2 c3 : Nat} {σ σ' σ'' : Sg}
noncomputable def letter (n : Nat) : Str := ⟨#[112 + n]⟩
noncomputable def enName (n : Nat) (odd : Bool) : Str := ⟨#[(if odd then 80 else 112) + n]⟩
/-- a part's name -/
noncomputable def nmS (p : Nat) : Str := if p < 4 then ⟨#[(pcI p).toNat]⟩ else letter (p - 4)
theorem nm_tab : (List.range 8).map (fun p => Txt.lower (nmS p)) = (List.range 8).map fun p => if p < 2 then ⟨#[97]⟩ else if p < 4 then ⟨#[98]⟩ else letter (p - 4) := by kernel_rfl
theorem nm_ok_tab : (List.range 8).map (fun p => okHdr (nmS p)) = (List.range 8).map fun p => true := by kernel_rfl
theorem en_tab (odd : Bool) : (List.range 5).map (fun n => (Txt.lower (enName n odd), okHdr (enName n odd))) = (List.range 5).map fun n => (letter n, true) := by cases odd <;> kernel_rfl
theorem up_tab : (List.range 5).map (fun n => mth2 .upper (.str (letter n)) []) = (List.range 5).map fun n => some (.str (enName n true)) := by kernel_rfl
theorem low_nm {p : Nat} (h : p < 8) : Txt.lower (nmS p) = if p < 2 then ⟨#[97]⟩ else if p < 4 then ⟨#[98]⟩ else letter (p - 4) := List.map_inj_left.mp nm_tab p (List.mem_range.mpr h)
theorem ok_nm {p : Nat} (h : p < 8) : okHdr (nmS p) = true := List.map_inj_left.mp nm_ok_tab p (List.mem_range.mpr h)
theorem low_en {n : Nat} (h : n < 5) (odd : Bool) : Txt.lower (enName n odd) = letter n := congrArg Prod.fst (List.map_inj_left.mp (en_tab odd) n (List.mem_range.mpr h))
theorem ok_en {n : Nat} (h : n < 5) (odd : Bool) : okHdr (enName n odd) = true := congrArg Prod.snd (List.map_inj_left.mp (en_tab odd) n (List.mem_range.mpr h))
theorem up_en {n : Nat} (h : n < 5) : mth2 .upper (.str (letter n)) [] = some (.str (enName n true)) := List.map_inj_left.mp up_tab n (List.mem_range.mpr h)
theorem letter_eq {m n : Nat} : ((letter m) == (letter n)) = (m == n) := by
  rw [Bool.eq_iff_iff, beq_iff_eq, beq_iff_eq]
  constructor
  · intro h
    have : (#[112 + m] : Array Nat) = #[112 + n] := congrArg Str.cps h
    simp at this
    exact this
  · rintro rfl; rfl
theorem c_nm {p : Nat} (h : p < 8) : Cl 20 "_law_name" [.int (pcI p)] (.str (nmS p)) := by
  match p, h with
  | 0, _ => exact c_name 97 (by simp)
  | 1, _ => exact c_name 65 (by simp)
  | 2, _ => exact c_name 98 (by simp)
  | 3, _ => exact c_name 66 (by simp)
  | 4, _ => exact c_nameN 0 (by omega)
  | 5, _ => exact c_nameN 1 (by omega)
  | 6, _ => exact c_nameN 2 (by omega)
  | 7, _ => exact c_nameN 3 (by omega)
/-- the Headers -/
noncomputable def base (sa sb : Str) : List (Str × Str) := [(⟨#[97]⟩, sa), (⟨#[98]⟩, sb), (⟨#[65]⟩, sb), (⟨#[66]⟩, sa)]
noncomputable def bookOf (fa fb : Mp) (sa sb : Str) (env : List En) : List (Str × Str) := base sa sb ++ env.map fun e => (enName e.n e.odd, fgW fa fb e.w)
noncomputable def nOk (env : List En) : Prop := ∀ e ∈ env, e.n < 5
theorem book_ok {fa fb : Mp} {sa sb : Str} {env : List En} (h : nOk env) : ((bookOf fa fb sa sb env).all fun p => okHdr p.1) = true := by
  simp only [bookOf, List.all_append, List.all_map, Bool.and_eq_true]
  refine ⟨by kernel_rfl, ?_⟩
  rw [List.all_eq_true]
  exact fun e he => ok_en (h e he) e.odd
theorem base_low : (base sa sb).map (fun p => Txt.lower p.1) = [⟨#[97]⟩, ⟨#[98]⟩, ⟨#[97]⟩, ⟨#[98]⟩] := by kernel_rfl
theorem find_base (sa sb : Str) (n : Nat) : (base sa sb).find? (fun p => Txt.lower p.1 == letter n) = none ∨ 5 ≤ n := by
  by_cases h : n < 5
  · left
    match n, h with
    | 0, _ => kernel_rfl
    | 1, _ => kernel_rfl
    | 2, _ => kernel_rfl
    | 3, _ => kernel_rfl
    | 4, _ => kernel_rfl
  · right; omega
theorem find_env {fa fb : Mp} : ∀ {env : List En}, nOk env → ∀ n, (env.map fun e => (enName e.n e.odd, fgW fa fb e.w)).find? (fun p => Txt.lower p.1 == letter n) = (look env n).map fun e => (enName e.n e.odd, fgW fa fb e.w)
  | [], _, n => rfl
  | e :: r, h, n => by
    have ih := find_env (fa := fa) (fb := fb) (env := r) (fun x hx => h x (.tail _ hx)) n
    simp only [List.map_cons, List.find?_cons, low_en (h e (.head _)), letter_eq, look] at ih ⊢
    cases hq : e.n == n with
    | true => rfl
    | false => exact ih
theorem bGet_letter {fa fb : Mp} {sa sb : Str} {env : List En} (h : nOk env) {n : Nat} (hn : n < 5) {x : Str} (hx : Txt.lower x = letter n) (d : Str) :
    bGet (bookOf fa fb sa sb env) x d = ((look env n).map fun e => fgW fa fb e.w).getD d := by
  unfold bGet bookOf
  rw [hx, List.find?_append, (find_base sa sb n).resolve_right (by omega), Option.none_or, find_env h]
  cases look env n <;> rfl
theorem sdL_letter {fa fb : Mp} {sa sb : Str} {env : List En} (h : nOk env) {n : Nat} (hn : n < 5) {x : Str} (hx : Txt.lower x = letter n) (y : Str) :
    sdL (bookOf fa fb sa sb env) x y = if (look env n).isSome then bookOf fa fb sa sb env else bookOf fa fb sa sb env ++ [(x, y)] := by
  unfold sdL
  have e : (bookOf fa fb sa sb env).find? (fun p => Txt.lower p.1 == Txt.lower x) = (look env n).map fun e => (enName e.n e.odd, fgW fa fb e.w) := by
    unfold bookOf
    rw [hx, List.find?_append, (find_base sa sb n).resolve_right (by omega), Option.none_or, find_env h]
  rw [e]
  cases look env n <;> rfl
/-- what get tells of a part -/
theorem get_tells {fa fb : Mp} (ha : MpUp fa) (hb : MpUp fb) {sa sb : Str} (ta : Tells sa fa.at) (tb : Tells sb fb.at) {env : List En} (h : nOk env) {p : Nat} (hp : p < 8) :
    Tells (bGet (bookOf fa fb sa sb env) (nmS p) ⟨#[49, 50, 51]⟩) (fun x => walk fa fb x (partW env p)) := by
  by_cases h4 : p < 4
  · have e : bGet (bookOf fa fb sa sb env) (nmS p) ⟨#[49, 50, 51]⟩ = if p < 2 then sa else sb := by
      unfold bGet bookOf
      rw [low_nm hp, List.find?_append]
      match p, h4 with
      | 0, _ => kernel_rfl
      | 1, _ => kernel_rfl
      | 2, _ => kernel_rfl
      | 3, _ => kernel_rfl
    rw [e]
    unfold partW
    by_cases h2 : p < 2
    · simp only [h2, if_true]; exact ta
    · simp only [h2, if_false, h4, if_true]; exact tb
  · have hl : Txt.lower (nmS p) = letter (p - 4) := by rw [low_nm hp, if_neg (by omega), if_neg (by omega)]
    rw [bGet_letter h (by omega) hl]
    unfold partW
    rw [if_neg (by omega), if_neg (by omega)]
    cases look env (p - 4) with
    | none => exact tells_id
    | some e => exact fgW_tells ha hb e.w
/-! ### one part of a rule -/
noncomputable def three (a b c : Nat) : D := .list [.int a, .int b, .int c]
theorem ix_tab : ([0, 1, 2, 3] : List Nat).map (fun g => mth2 .index (.str ⟨#[48, 49, 50, 51]⟩) [.str ⟨#[48 + g]⟩]) = ([0, 1, 2, 3] : List Nat).map fun g => some (.int g) := by kernel_rfl
theorem ix_fig {g : Nat} (h : g < 4) : mth2 .index (.str ⟨#[48, 49, 50, 51]⟩) [.str ⟨#[48 + g]⟩] = some (.int g) :=
  List.map_inj_left.mp ix_tab g (by simp; omega)
/-- a name that holds three steps, its own or not -/
noncomputable def Thr (o : Option Slot) (a b c : Nat) : Prop := o = some (.own (three a b c)) ∨ o = some (.val (three a b c))
theorem Thr.it {o : Option Slot} {a b d : Nat} (h : Thr o a b d) {i : Nat} (hs : σ[i]? = some o) : It 1 σ (.var i) [.int a, .int b, .int d] := by
  rcases h with rfl | rfl
  · exact .own hs
  · exact .val hs rfl
noncomputable def pBody : List S := [S.asg 12 (E.comp [none, none] (E.mth (MT.index) (E.str { cps := #[48, 49, 50, 51] }) [E.var 1]) 1 (E.mth (MT.get) (E.var 3) [E.call "_law_name" [E.var 11], E.str { cps := #[49, 50, 51] }]) [] none),
  S.asg 10 (E.comp [none, none, some 12] (E.call "bisect_right" [E.var 2, E.var 1]) 1 (E.var 10) [] none)]
theorem part_run {fa fb : Mp} {book : List (Str × Str)} {p : Nat} (hp : p < 8) (hok : (book.all fun p => okHdr p.1) = true) {f : Nat → Nat} (ht : Tells (bGet book (nmS p) ⟨#[49, 50, 51]⟩) f)
    {s0 s1 s2 : Nat} (h0 : s0 < 4) (h1 : s1 < 4) (h2 : s2 < 4) {o0 o1 o2 o4 o5 o6 o7 o8 o9 o10 o12 : Option Slot} (hs : Thr o10 s0 s1 s2) :
    ∃ o12', Rn 70 [o0, o1, o2, some (.book book), o4, o5, o6, o7, o8, o9, o10, some (.val (.int (pcI p))), o12] pBody none
      [o0, o1, o2, some (.book book), o4, o5, o6, o7, o8, o9, some (.val (three (f s0) (f s1) (f s2))), some (.val (.int (pcI p))), o12'] := by
  obtain ⟨a, b, d, e, hab, hbd, hd, hf⟩ := ht
  refine ⟨some (.val (three a b d)), ?_⟩
  have hget : Ev 30 [o0, o1, o2, some (.book book), o4, o5, o6, o7, o8, o9, o10, some (.val (.int (pcI p))), o12] (E.mth (MT.get) (E.var 3) [E.call "_law_name" [E.var 11], E.str { cps := #[49, 50, 51] }]) (.str (fgS a b d)) := by
    have h := Ev.bget (σ := [o0, o1, o2, some (.book book), o4, o5, o6, o7, o8, o9, o10, some (.val (.int (pcI p))), o12]) (i := 3) rfl (Ev.call (Evs.cons (Ev.var (i := 11) rfl) Evs.nil) (c_nm hp)) (Ev.str ⟨#[49, 50, 51]⟩) (ok_nm hp) hok
    rw [e] at h
    exact h.le (by decide)
  have hsrc : It 35 [o0, o1, o2, some (.book book), o4, o5, o6, o7, o8, o9, o10, some (.val (.int (pcI p))), o12] (E.mth (MT.get) (E.var 3) [E.call "_law_name" [E.var 11], E.str { cps := #[49, 50, 51] }]) ([a, b, d].map fun g => .str ⟨#[48 + g]⟩) :=
    (It.ev hget rfl rfl).le (by decide)
  have hc1 := cM (c := 10) (elt := E.mth (MT.index) (E.str { cps := #[48, 49, 50, 51] }) [E.var 1]) (t := 1) (fun g : Nat => .str ⟨#[48 + g]⟩) (fun g : Nat => .int g) [a, b, d] [none, none] fun g hg => by
    have hg4 : g < 4 := by
      simp only [List.mem_cons, List.not_mem_nil, or_false] at hg
      rcases hg with rfl | rfl | rfl <;> omega
    exact (Ev.mth rfl (Ev.str _) (Evs.cons (Ev.var rfl) Evs.nil) (ix_fig hg4)).le (by decide)
  have hc2 := cM (c := 45) (elt := E.call "bisect_right" [E.var 2, E.var 1]) (t := 1) (fun s : Nat => .int s) (fun s : Nat => .int (f s)) [s0, s1, s2] [none, none, some (.val (three a b d))] fun s hs' => by
    have hs4 : s < 4 := by
      simp only [List.mem_cons, List.not_mem_nil, or_false] at hs'
      rcases hs' with rfl | rfl | rfl <;> omega
    have hr := c_right hab hbd hd hs4
    rw [hf s hs4] at hr
    exact (Ev.call (Evs.cons (Ev.var rfl) (Evs.cons (Ev.var rfl) Evs.nil)) hr).le (by decide)
  exact (Rn.cons (Ex1.asg (Ev.comp hsrc hc1 (by simp))) (Rn.cons (Ex1.asg (Ev.comp (hs.it rfl) hc2 (by simp))) Rn.nil)).le (by decide)
/-- the parts of a rule -/
theorem parts_run {fa fb : Mp} (ha : MpUp fa) (hb : MpUp fb) {sa sb : Str} (ta : Tells sa fa.at) (tb : Tells sb fb.at) {env : List En} (h : nOk env) {o0 o1 o2 o4 o5 o6 o7 o8 o9 : Option Slot} :
    ∀ (ps : List Nat) (u : Wd) (o10 o11 o12 : Option Slot), (∀ p ∈ ps, p < 8) → Thr o10 (walk fa fb 0 u) (walk fa fb 1 u) (walk fa fb 2 u) → ps ≠ [] →
    ∃ o11' o12', LpR 70 11 pBody [o0, o1, o2, some (.book (bookOf fa fb sa sb env)), o4, o5, o6, o7, o8, o9, o10, o11, o12] (ps.map fun p => .int (pcI p))
      [o0, o1, o2, some (.book (bookOf fa fb sa sb env)), o4, o5, o6, o7, o8, o9, some (.val (three (walk fa fb 0 (u ++ wordOf env ps)) (walk fa fb 1 (u ++ wordOf env ps)) (walk fa fb 2 (u ++ wordOf env ps)))), o11', o12']
  | [], u, o10, o11, o12, _, _, hne => absurd rfl hne
  | p :: ps, u, o10, o11, o12, hp, ht, _ => by
    have lt : ∀ x, x < 4 → walk fa fb x u < 4 := fun x hx => walk_lt ha.ok hb.ok u x hx
    obtain ⟨o12', h1⟩ := part_run (fa := fa) (fb := fb) (hp p (.head _)) (book_ok h) (get_tells ha hb ta tb h (hp p (.head _))) (lt 0 (by omega)) (lt 1 (by omega)) (lt 2 (by omega)) (o0 := o0) (o1 := o1) (o2 := o2) (o4 := o4) (o5 := o5) (o6 := o6) (o7 := o7) (o8 := o8) (o9 := o9) (o12 := o12) ht
    simp only [← walk_app] at h1
    by_cases hne : ps = []
    · subst hne
      refine ⟨some (.val (.int (pcI p))), o12', ?_⟩
      have hw : wordOf env [p] = partW env p := by simp [wordOf]
      rw [hw]
      exact (LpR.cons h1 LpR.nil).le (by decide)
    · obtain ⟨o11'', o12'', h2⟩ := parts_run ha hb ta tb h ps (u ++ partW env p) _ (some (.val (.int (pcI p)))) o12' (fun q hq => hp q (.tail _ hq)) (.inr rfl) hne
      refine ⟨o11'', o12'', ?_⟩
      have hw : u ++ wordOf env (p :: ps) = u ++ partW env p ++ wordOf env ps := by simp [wordOf]
      rw [hw]
      exact (LpR.cons h1 h2).le (by decide)
end Mine
end
section
/-! The plain law: what _law_led gives. -/
open PySem PySem.Builtin PySem.Builtin.Str PySem.StrLaws
set_option maxRecDepth 100000
namespace Mine
variable {c c1 c2 c3 : Nat} {σ σ' σ'' : Sg}
noncomputable def knownD (fa fb : Mp) (env : List En) : List (D × D) := env.map fun e => (.str (letter e.n), .str (fgW fa fb e.w))
theorem dGet_known {fa fb : Mp} (n : Nat) : ∀ env : List En, dGet (.str (letter n)) (knownD fa fb env) = some ((look env n).map fun e => .str (fgW fa fb e.w))
  | [] => rfl
  | e :: r => by
    have ih := dGet_known (fa := fa) (fb := fb) n r
    have hb : (n == e.n) = (e.n == n) := BEq.comm
    simp only [knownD, List.map_cons, dGet, keyEq, look, List.find?_cons, letter_eq, hb] at ih ⊢
    cases h : e.n == n with
    | true => rfl
    | false => simpa using ih
theorem dPut_known {fa fb : Mp} (n : Nat) (v : Str) : ∀ env : List En, look env n = none → dPut (.str (letter n)) (.str v) (knownD fa fb env) = some (knownD fa fb env ++ [(.str (letter n), .str v)])
  | [], _ => rfl
  | e :: r, h => by
    have hne : ¬ e.n = n := fun he => by simp [look, he] at h
    have h2 : (e.n == n) = false := beq_false_of_ne hne
    have hr : look r n = none := by simpa [look, h2] using h
    have ih := dPut_known (fa := fa) (fb := fb) n v r hr
    have h1 : (n == e.n) = false := beq_false_of_ne fun x => hne x.symm
    simp only [knownD, List.map_cons, dPut, keyEq, letter_eq, h1, Option.bind_eq_bind, Option.bind_some, Bool.false_eq_true, if_false, List.cons_append] at ih ⊢
    rw [ih]; rfl
noncomputable abbrev LS (R : D) (sa sb : Str) (bk : List (Str × Str)) (o4 o5 : Option Slot) (kn : List (D × D)) (ln : List D) (gr : Bool) (o9 o10 o11 o12 : Option Slot) : Sg :=
  [some (.val R), some (.val (.str sa)), some (.val (.str sb)), some (.book bk), o4, o5, some (.own (.dict kn)), some (.own (.list ln)), some (.val (.bool gr)), o9, o10, o11, o12]
noncomputable def toldX : Xp := E.mth (MT.join) (E.str { cps := #[] }) [E.comp [none, none, some 10] (E.idx (E.str { cps := #[48, 49, 50, 51] }) (E.call "bisect_left" [E.var 2, E.bin (Op2.add) (E.var 1) (E.int 1)])) 1 (E.bi (BI.range) [E.int 3]) [] none]
noncomputable def bA : List S := [S.asgNew 10 [E.int 0, E.int 1, E.int 2], S.for1 11 (E.slc (E.var 7) (some (E.int 1)) none) pBody, S.asg 4 (E.call "_law_name" [E.idx (E.var 7) (E.int 0)]), S.asg 5 toldX,
  S.ifs (E.cmp (Cp.notIn) (E.var 4) (E.var 6)) [S.seti 6 (E.var 4) (E.var 5)] [],
  S.setDef 3 (E.ite (E.var 8) (E.mth (MT.upper) (E.var 4) []) (E.var 4)) (E.var 5) (E.idx (E.var 6) (E.var 4)) [S.ret (E.lst [])],
  S.asg 8 (E.not (E.var 8)), S.asgNew 7 []]
noncomputable def sBody : List S := [S.ifs (E.call "ISEOF" [E.var 9]) bA [S.app 7 (E.var 9)]]
/-- the told figures -/
theorem idx_str {s : Str} {g c : Nat} (h : s.cps[g]? = some c) (hg : g < 1000000) : idx2 (.str s) (.int g) = some (.str ⟨#[c]⟩) := by
  have hl : g < s.length := (Array.getElem?_eq_some_iff.mp h).1
  have h1 : seqIndex? (g : Int) s.length = some g := by
    unfold seqIndex?
    have : ¬ ((g : Int) < 0) := by omega
    simp only [this, if_false]
    rw [if_pos (by simp; omega)]
    simp
  simp only [idx2_list, idx2_str, idx2_dict]
  rw [if_pos ⟨by omega, by omega⟩]
  unfold Txt.charAt
  rw [h1]
  simp [h]
theorem sign_ix {g : Nat} (h : g < 4) : idx2 (.str ⟨#[48, 49, 50, 51]⟩) (.int g) = some (.str ⟨#[48 + g]⟩) := idx_str (by
  match g, h with
  | 0, _ => rfl
  | 1, _ => rfl
  | 2, _ => rfl
  | 3, _ => rfl) (by omega)
theorem join3_tab : fours.map (fun p => mth2 .join (.str ⟨#[]⟩) [.list [.str ⟨#[48 + p.1]⟩, .str ⟨#[48 + p.2.1]⟩, .str ⟨#[48 + p.2.2.1]⟩]]) = fours.map fun p => some (.str (fgS p.1 p.2.1 p.2.2.1)) := by kernel_rfl
theorem join3 {a b d : Nat} (ha : a < 4) (hb : b < 4) (hd : d < 4) : mth2 .join (.str ⟨#[]⟩) [.list [.str ⟨#[48 + a]⟩, .str ⟨#[48 + b]⟩, .str ⟨#[48 + d]⟩]] = some (.str (fgS a b d)) :=
  List.map_inj_left.mp join3_tab (a, b, d, 0) (fours_mem ha hb hd (by omega))
theorem told_run {m0 m1 m2 : Nat} (h1 : m0 ≤ m1) (h2 : m1 ≤ m2) (h3 : m2 < 4) (hs : σ[10]? = some (some (.val (three m0 m1 m2)))) : Ev 70 σ toldX (.str (fgM m0 m1 m2)) := by
  have hsrc : It 10 σ (E.bi (BI.range) [E.int 3]) ([0, 1, 2].map fun j : Nat => .int j) := (It.range1 (Ev.int 3) (by omega)).le (by decide)
  have hcap : (([none, none, some 10] : List (Option Nat)).map fun c => match c with | some i => (σ[i]?).join | none => none) = [none, none, some (.val (three m0 m1 m2))] := by
    simp only [List.map_cons, List.map_nil, hs]; rfl
  have hc := cM (c := 50) (elt := E.idx (E.str { cps := #[48, 49, 50, 51] }) (E.call "bisect_left" [E.var 2, E.bin (Op2.add) (E.var 1) (E.int 1)])) (t := 1) (fun j : Nat => .int j) (fun j : Nat => .str ⟨#[48 + cnt (fun y => decide (y ≤ j)) m0 m1 m2]⟩) [0, 1, 2] [none, none, some (.val (three m0 m1 m2))] fun j hj => by
    have hj3 : j + 1 < 4 := by
      simp only [List.mem_cons, List.not_mem_nil, or_false] at hj
      rcases hj with rfl | rfl | rfl <;> omega
    have hl := c_left h1 h2 h3 hj3
    have e : cnt (fun y => decide (y < j + 1)) m0 m1 m2 = cnt (fun y => decide (y ≤ j)) m0 m1 m2 := by
      congr 1; funext y; rw [decide_eq_decide]; omega
    rw [e] at hl
    exact (Ev.idx (Pk.ev (Ev.str _) rfl) (Ev.call (Evs.cons (Ev.var rfl) (Evs.cons (Ev.bin (Ev.var rfl) (Ev.int 1) (d := .int ((j + 1 : Nat) : Int)) rfl) Evs.nil)) hl) (sign_ix (cnt_lt _ _ _ _))).le (by decide)
  have hj := join3 (cnt_lt (fun y => decide (y ≤ 0)) m0 m1 m2) (cnt_lt (fun y => decide (y ≤ 1)) m0 m1 m2) (cnt_lt (fun y => decide (y ≤ 2)) m0 m1 m2)
  rw [← hcap] at hc
  exact (Ev.mth rfl (Ev.str _) (Evs.cons (Ev.comp hsrc hc (by simp)) Evs.nil) hj).le (by decide)
/-- what a rule's row of symbols does before its end -/
theorem app_run {R : D} {sa sb : Str} {bk : List (Str × Str)} {o4 o5 : Option Slot} {kn : List (D × D)} {gr : Bool} {o10 o11 o12 : Option Slot} : ∀ (xs : List Int) (ln : List D) (o9 : Option Slot), (∀ x ∈ xs, x ≠ 0) → ln.length + xs.length ≤ 1000 →
    ∃ o9', LpR 40 9 sBody (LS R sa sb bk o4 o5 kn ln gr o9 o10 o11 o12) (xs.map .int) (LS R sa sb bk o4 o5 kn (ln ++ xs.map .int) gr o9' o10 o11 o12)
  | [], ln, o9, _, _ => ⟨o9, by rw [List.map_nil, List.append_nil]; exact LpR.nil.le (by decide)⟩
  | x :: xs, ln, o9, h, hl => by
    obtain ⟨o9', ih⟩ := app_run xs (ln ++ [.int x]) (some (.val (.int x))) (fun y hy => h y (.tail _ hy)) (by simp at hl ⊢; omega)
    refine ⟨o9', ?_⟩
    have hx : (x == 0) = false := beq_false_of_ne (h x (.head _))
    have hc := c_ISEOF x
    rw [hx] at hc
    have e : ln ++ (x :: xs).map PyData.int = ln ++ [.int x] ++ xs.map .int := by simp
    rw [e]
    have h1 : Rn 30 (LS R sa sb bk o4 o5 kn ln gr (some (.val (.int x))) o10 o11 o12) sBody none (LS R sa sb bk o4 o5 kn (ln ++ [.int x]) gr (some (.val (.int x))) o10 o11 o12) :=
      (Rn.cons (Ex1.ifF (Ts.bool (Ev.call (Evs.cons (Ev.var rfl) Evs.nil) hc) rfl) (Rn.cons (Ex1.app rfl (by simp at hl; omega) (Ev.var rfl)) Rn.nil)) Rn.nil).le (by decide)
    exact (LpR.cons h1 ih).le (by decide)
/-- the end of a rule -/
theorem end_run {fa fb : Mp} (ha : MpUp fa) (hb : MpUp fb) {sa sb : Str} (ta : Tells sa fa.at) (tb : Tells sb fb.at) {env : List En} (h : nOk env) (hlen : env.length ≤ 900) (k : Nat) (r : Ru) (hn : r.1 < 5) (hp : ∀ p ∈ r.2, p < 8) (hne : r.2 ≠ []) (hl : r.2.length ≤ 900)
    (R : D) (o4 o5 o10 o11 o12 : Option Slot) : ∃ o4' o5' o10' o11' o12', Rn 100
      (LS R sa sb (bookOf fa fb sa sb env) o4 o5 (knownD fa fb env) (.int (256 + r.1 : Nat) :: r.2.map fun p => .int (pcI p)) (k % 2 == 1) (some (.val (.int 0))) o10 o11 o12) sBody none
      (LS R sa sb (bookOf fa fb sa sb (stepE env k r)) o4' o5' (knownD fa fb (stepE env k r)) [] ((k + 1) % 2 == 1) (some (.val (.int 0))) o10' o11' o12') := by
  obtain ⟨o11', o12', hparts⟩ := parts_run ha hb ta tb h (o0 := some (.val R)) (o1 := some (.val (.str sa))) (o2 := some (.val (.str sb))) (o4 := o4) (o5 := o5) (o6 := some (.own (.dict (knownD fa fb env)))) (o7 := some (.own (.list (.int (256 + r.1 : Nat) :: r.2.map fun p => .int (pcI p))))) (o8 := some (.val (.bool (k % 2 == 1)))) (o9 := some (.val (.int 0))) r.2 [] (some (.own (three 0 1 2))) o11 o12 hp (.inl rfl) hne
  rw [List.nil_append] at hparts
  generalize hln : (PyData.int (256 + r.1 : Nat) :: r.2.map fun p => .int (pcI p)) = ln at *
  have hsl : slc2 (.list ln) (some 1) none = some (.list (r.2.map fun p => .int (pcI p))) := by rw [← hln]; exact slc_tail _ _ (by simp; omega)
  have hix : idx2 (.list ln) (.int 0) = some (.int (256 + r.1 : Nat)) := by rw [← hln]; exact idx_first _ _
  have hnm : Cl 20 "_law_name" [.int (256 + r.1 : Nat)] (.str (letter r.1)) := by
    have := c_nameN r.1 hn
    rw [show (256 + (r.1 : Int)) = ((256 + r.1 : Nat) : Int) by omega] at this
    exact this
  have m1 := walk_mono ha hb (wordOf env r.2) (Nat.zero_le 1)
  have m2 := walk_mono ha hb (wordOf env r.2) (show 1 ≤ 2 by omega)
  have m3 := walk_lt ha.ok hb.ok (wordOf env r.2) 2 (by omega)
  have s1 : Ex1 20 (LS R sa sb (bookOf fa fb sa sb env) o4 o5 (knownD fa fb env) ln (k % 2 == 1) (some (.val (.int 0))) o10 o11 o12) (S.asgNew 10 [E.int 0, E.int 1, E.int 2]) none
      (LS R sa sb (bookOf fa fb sa sb env) o4 o5 (knownD fa fb env) ln (k % 2 == 1) (some (.val (.int 0))) (some (.own (three 0 1 2))) o11 o12) :=
    (Ex1.asgNew (Evs.cons (Ev.int _) (Evs.cons (Ev.int _) (Evs.cons (Ev.int _) Evs.nil)))).le (by decide)
  have s2 := (Ex1.forR (c1 := 10) (it := E.slc (E.var 7) (some (E.int 1)) none) ((It.ev (Ev.slc (Pk.ownv rfl) (Op.some (Ev.int 1)) Op.none hsl) rfl rfl).le (by decide)) hparts)
  generalize hm0 : walk fa fb 0 (wordOf env r.2) = q0 at *
  generalize hm1 : walk fa fb 1 (wordOf env r.2) = q1 at *
  generalize hm2 : walk fa fb 2 (wordOf env r.2) = q2 at *
  have hfg : fgW fa fb (wordOf env r.2) = fgM q0 q1 q2 := by unfold fgW; rw [hm0, hm1, hm2]
  have s3 : Ex1 30 (LS R sa sb (bookOf fa fb sa sb env) o4 o5 (knownD fa fb env) ln (k % 2 == 1) (some (.val (.int 0))) (some (.val (three q0 q1 q2))) o11' o12') (S.asg 4 (E.call "_law_name" [E.idx (E.var 7) (E.int 0)])) none
      (LS R sa sb (bookOf fa fb sa sb env) (some (.val (.str (letter r.1)))) o5 (knownD fa fb env) ln (k % 2 == 1) (some (.val (.int 0))) (some (.val (three q0 q1 q2))) o11' o12') :=
    (Ex1.asg (Ev.call (Evs.cons (Ev.idx (Pk.ownv rfl) (Ev.int 0) hix) Evs.nil) hnm)).le (by decide)
  have s4 : Ex1 75 (LS R sa sb (bookOf fa fb sa sb env) (some (.val (.str (letter r.1)))) o5 (knownD fa fb env) ln (k % 2 == 1) (some (.val (.int 0))) (some (.val (three q0 q1 q2))) o11' o12') (S.asg 5 toldX) none
      (LS R sa sb (bookOf fa fb sa sb env) (some (.val (.str (letter r.1)))) (some (.val (.str (fgM q0 q1 q2)))) (knownD fa fb env) ln (k % 2 == 1) (some (.val (.int 0))) (some (.val (three q0 q1 q2))) o11' o12') :=
    (Ex1.asg (told_run m1 m2 m3 rfl)).le (by decide)
  have hin : cmp2 .notIn (.str (letter r.1)) (.dict (knownD fa fb env)) = some (!(look env r.1).isSome) := by
    simp only [cmp2_lt, cmp2_le, cmp2_gt, cmp2_ge, cmp2_eq, cmp2_ne, cmp2_inI, cmp2_notInI, cmp2_inS, cmp2_notInS, cmp2_inT, cmp2_notInT, cmp2_notInL, dGet_known, Option.map_some, Option.isSome_map]
  -- the name is known from here on
  have hkn : ∃ v, dGet (.str (letter r.1)) (knownD fa fb (stepE env k r)) = some (some (.str v)) ∧ bGet (bookOf fa fb sa sb env) (enName r.1 (k % 2 == 1)) (fgM q0 q1 q2) = v := by
    unfold stepE
    cases hk : look env r.1 with
    | some e =>
      refine ⟨fgW fa fb e.w, ?_, ?_⟩
      · simp only [Option.isSome_some, if_true, dGet_known, hk, Option.map_some]
      · rw [bGet_letter h hn (low_en hn _), hk]; rfl
    | none =>
      refine ⟨fgM q0 q1 q2, ?_, ?_⟩
      · simp only [Option.isSome_none, Bool.false_eq_true, if_false, dGet_known, ← hfg]
        simp only [look] at hk ⊢
        rw [List.find?_append, hk]
        simp
      · rw [bGet_letter h hn (low_en hn _), hk]; rfl
  obtain ⟨v, hv1, hv2⟩ := hkn
  have s5 : Ex1 20 (LS R sa sb (bookOf fa fb sa sb env) (some (.val (.str (letter r.1)))) (some (.val (.str (fgM q0 q1 q2)))) (knownD fa fb env) ln (k % 2 == 1) (some (.val (.int 0))) (some (.val (three q0 q1 q2))) o11' o12') (S.ifs (E.cmp (Cp.notIn) (E.var 4) (E.var 6)) [S.seti 6 (E.var 4) (E.var 5)] []) none
      (LS R sa sb (bookOf fa fb sa sb env) (some (.val (.str (letter r.1)))) (some (.val (.str (fgM q0 q1 q2)))) (knownD fa fb (stepE env k r)) ln (k % 2 == 1) (some (.val (.int 0))) (some (.val (three q0 q1 q2))) o11' o12') := by
    unfold stepE
    cases hk : (look env r.1).isSome with
    | true =>
      rw [hk] at hin
      simp only [if_true]
      exact (Ex1.ifF (Ts.cmpIn rfl (Ev.var rfl) (Pk.ownv rfl) hin) Rn.nil).le (by decide)
    | false =>
      rw [hk] at hin
      have hput := dPut_known (fa := fa) (fb := fb) r.1 (fgM q0 q1 q2) env (by simpa using hk)
      have hwd : knownD fa fb (env ++ [⟨r.1, k % 2 == 1, wordOf env r.2⟩]) = knownD fa fb env ++ [(.str (letter r.1), .str (fgM q0 q1 q2))] := by simp [knownD, hfg]
      simp only [Bool.false_eq_true, if_false, hwd]
      exact (Ex1.ifT (Ts.cmpIn rfl (Ev.var rfl) (Pk.ownv rfl) hin) (Rn.cons (Ex1.seti rfl (Ev.var rfl) (Ev.var rfl) (by simp [knownD]; omega) rfl hput) Rn.nil)).le (by decide)
  have hsd : sdL (bookOf fa fb sa sb env) (enName r.1 (k % 2 == 1)) (fgM q0 q1 q2) = bookOf fa fb sa sb (stepE env k r) := by
    rw [sdL_letter h hn (low_en hn _)]
    unfold stepE
    cases hk : (look env r.1).isSome with
    | true => simp only [if_true]
    | false => simp [bookOf, hfg]
  have hnmE : Ev 10 (LS R sa sb (bookOf fa fb sa sb env) (some (.val (.str (letter r.1)))) (some (.val (.str (fgM q0 q1 q2)))) (knownD fa fb (stepE env k r)) ln (k % 2 == 1) (some (.val (.int 0))) (some (.val (three q0 q1 q2))) o11' o12') (E.ite (E.var 8) (E.mth (MT.upper) (E.var 4) []) (E.var 4)) (.str (enName r.1 (k % 2 == 1))) := by
    cases hg : (k % 2 == 1) with
    | true =>
      refine (Ev.ite (t := true) (c2 := 5) (Ts.bool (Ev.var rfl) rfl) ?_).le (by decide)
      rw [if_pos rfl]
      exact (Ev.mthV (fun bk q => by cases q) (Pk.var rfl) Evs.nil (up_en hn)).le (by decide)
    | false =>
      refine (Ev.ite (t := false) (c2 := 5) (Ts.bool (Ev.var rfl) rfl) ?_).le (by decide)
      rw [if_neg (by simp)]
      exact (Ev.var rfl).le (by decide)
  have hokv : okHdr (fgM q0 q1 q2) = true := (fgM_tells m1 m2 m3).ok
  have s6 : Ex1 20 (LS R sa sb (bookOf fa fb sa sb env) (some (.val (.str (letter r.1)))) (some (.val (.str (fgM q0 q1 q2)))) (knownD fa fb (stepE env k r)) ln (k % 2 == 1) (some (.val (.int 0))) (some (.val (three q0 q1 q2))) o11' o12') (S.setDef 3 (E.ite (E.var 8) (E.mth (MT.upper) (E.var 4) []) (E.var 4)) (E.var 5) (E.idx (E.var 6) (E.var 4)) [S.ret (E.lst [])]) none
      (LS R sa sb (bookOf fa fb sa sb (stepE env k r)) (some (.val (.str (letter r.1)))) (some (.val (.str (fgM q0 q1 q2)))) (knownD fa fb (stepE env k r)) ln (k % 2 == 1) (some (.val (.int 0))) (some (.val (three q0 q1 q2))) o11' o12') := by
    have hrhs : Ev 5 (LS R sa sb (sdL (bookOf fa fb sa sb env) (enName r.1 (k % 2 == 1)) (fgM q0 q1 q2)) (some (.val (.str (letter r.1)))) (some (.val (.str (fgM q0 q1 q2)))) (knownD fa fb (stepE env k r)) ln (k % 2 == 1) (some (.val (.int 0))) (some (.val (three q0 q1 q2))) o11' o12') (E.idx (E.var 6) (E.var 4)) (.str (bGet (bookOf fa fb sa sb env) (enName r.1 (k % 2 == 1)) (fgM q0 q1 q2))) := by
      rw [hv2]
      exact (Ev.idx (Pk.ownv rfl) (Ev.var rfl) (by simp only [idx2_list, idx2_str, idx2_dict, hv1, Option.bind_eq_bind, Option.bind_some])).le (by decide)
    have hh := Ex1.setDef (i := 3) (body := [S.ret (E.lst [])]) rfl hnmE (Ev.var (i := 5) rfl) (ok_en hn _) hokv (book_ok h) (by simp [bookOf, base]; omega) hrhs
    rw [hsd] at hh
    exact hh.le (by decide)
  have s7 : Ex1 10 (LS R sa sb (bookOf fa fb sa sb (stepE env k r)) (some (.val (.str (letter r.1)))) (some (.val (.str (fgM q0 q1 q2)))) (knownD fa fb (stepE env k r)) ln (k % 2 == 1) (some (.val (.int 0))) (some (.val (three q0 q1 q2))) o11' o12') (S.asg 8 (E.not (E.var 8))) none
      (LS R sa sb (bookOf fa fb sa sb (stepE env k r)) (some (.val (.str (letter r.1)))) (some (.val (.str (fgM q0 q1 q2)))) (knownD fa fb (stepE env k r)) ln ((k + 1) % 2 == 1) (some (.val (.int 0))) (some (.val (three q0 q1 q2))) o11' o12') := by
    have e : ((k + 1) % 2 == 1) = !(k % 2 == 1) := by
      rw [Bool.eq_iff_iff]; simp; omega
    rw [e]
    exact (Ex1.asg (Ev.not (Ev.var rfl))).le (by decide)
  refine ⟨_, _, _, o11', o12', (Rn.cons (Ex1.ifT (Ts.bool (Ev.call (Evs.cons (Ev.var rfl) Evs.nil) (c_ISEOF 0)) rfl) (Rn.cons s1 (Rn.cons s2 (Rn.cons s3 (Rn.cons s4 (Rn.cons s5 (Rn.cons s6 (Rn.cons s7 (Rn.cons (Ex1.asgNew Evs.nil) Rn.nil))))))))) Rn.nil).le (by decide)⟩
end Mine
end
section
/-! The plain law: _law_led as a whole. -/
open PySem PySem.Builtin PySem.Builtin.Str PySem.StrLaws
set_option maxRecDepth 100000
namespace Mine
variable {c c1 c2 c3 : Nat} {σ σ' σ'' : Sg}
structure RuF (r : Ru) : Prop where
  n : r.1 < 5
  p : ∀ p ∈ r.2, p < 8
  ne : r.2 ≠ []
  l : r.2.length ≤ 900
noncomputable def rowR (r : Ru) : List D := (.int (256 + r.1 : Nat) :: r.2.map fun p => .int (pcI p)) ++ [.int 0]
noncomputable def rowL (rs : List Ru) : List D := rs.flatMap rowR
theorem nOk_step {env : List En} (h : nOk env) (k : Nat) {r : Ru} (hn : r.1 < 5) : nOk (stepE env k r) := by
  unfold stepE
  split
  · exact h
  · intro e he
    rcases List.mem_append.mp he with he | he
    · exact h e he
    · rw [List.mem_singleton] at he; subst he; exact hn
theorem pcI_ne (p : Nat) : pcI p ≠ 0 := by
  unfold pcI; split <;> omega
theorem led_loop {fa fb : Mp} (ha : MpUp fa) (hb : MpUp fb) {sa sb : Str} (ta : Tells sa fa.at) (tb : Tells sb fb.at) (R : D) : ∀ (rs : List Ru) (env : List En) (k : Nat) (o4 o5 o9 o10 o11 o12 : Option Slot), nOk env → env.length + rs.length ≤ 900 → (∀ r ∈ rs, RuF r) →
    ∃ o4' o5' o9' o10' o11' o12' gr, LpR 100 9 sBody (LS R sa sb (bookOf fa fb sa sb env) o4 o5 (knownD fa fb env) [] (k % 2 == 1) o9 o10 o11 o12) (rowL rs) (LS R sa sb (bookOf fa fb sa sb (runE env k rs)) o4' o5' (knownD fa fb (runE env k rs)) [] gr o9' o10' o11' o12')
  | [], env, k, o4, o5, o9, o10, o11, o12, _, _, _ => ⟨o4, o5, o9, o10, o11, o12, (k % 2 == 1), LpR.nil.le (by decide)⟩
  | r :: rs, env, k, o4, o5, o9, o10, o11, o12, hn, hl, hr => by
    obtain ⟨h1, h2, h3, h4⟩ := hr r (.head _)
    have hx : ∃ xs : List Int, (∀ x ∈ xs, x ≠ 0) ∧ xs.length ≤ 1000 ∧ xs.map PyData.int = .int (256 + r.1 : Nat) :: r.2.map fun p => .int (pcI p) := by
      refine ⟨(256 + r.1 : Nat) :: r.2.map pcI, ?_, by simp; omega, by simp⟩
      intro x hx
      rcases List.mem_cons.mp hx with rfl | hx
      · omega
      · obtain ⟨p, _, rfl⟩ := List.mem_map.mp hx
        exact pcI_ne p
    obtain ⟨xs, hx0, hxl, hxe⟩ := hx
    obtain ⟨p9, a1⟩ := app_run (R := R) (sa := sa) (sb := sb) (bk := bookOf fa fb sa sb env) (o4 := o4) (o5 := o5) (kn := knownD fa fb env) (gr := (k % 2 == 1)) (o10 := o10) (o11 := o11) (o12 := o12) xs [] o9 hx0 (by simpa using hxl)
    rw [List.nil_append, hxe] at a1
    obtain ⟨q4, q5, q10, q11, q12, a2⟩ := end_run ha hb ta tb hn (by simp at hl; omega) k r h1 h2 h3 h4 R o4 o5 o10 o11 o12
    obtain ⟨r4, r5, r9, r10, r11, r12, gr, a3⟩ := led_loop ha hb ta tb R rs (stepE env k r) (k + 1) q4 q5 (some (.val (.int 0))) q10 q11 q12 (nOk_step hn k h1) (by have := stepE_len env k r; simp at hl ⊢; omega) (fun r' h' => hr r' (.tail _ h'))
    refine ⟨r4, r5, r9, r10, r11, r12, gr, ?_⟩
    have e : rowL (r :: rs) = (.int (256 + r.1 : Nat) :: r.2.map fun p => .int (pcI p)) ++ (.int 0 :: rowL rs) := by simp [rowL, rowR]
    rw [e]
    exact (LpR.append a1 (LpR.cons a2 a3)).le (by decide)
/-! ### the first four headers -/
noncomputable def F2 (c : Nat) (i j : Nat) (body : List S) (σ : Sg) (xs : List D) (σ' : Sg) : Prop := ∀ n, c ≤ n → for2L (LL n) i j body σ xs = some (none, σ')
theorem F2.nil {i j : Nat} {body : List S} : F2 0 i j body σ [] σ := fun n _ => rfl
theorem F2.cons {i j : Nat} {body : List S} {x y : D} {xs : List D} (h : Rn c1 ((σ.set i (some (.val x))).set j (some (.val y))) body none σ') (r : F2 c2 i j body σ' xs σ'') : F2 (max c1 c2) i j body σ (.tuple [x, y] :: xs) σ'' := fun n hn => by
  simp only [for2L, h n (ml hn), Option.bind_eq_bind, Option.bind_some, r n (mr hn)]
theorem Ex1.for2 {i j : Nat} {it : Xp} {body : List S} {src : List D} (h1 : It c1 σ it src) (h2 : F2 c2 i j body (frz σ it) src σ') : Ex1 (max c1 c2 + 1) σ (.for2 i j it body) none σ' := .of' fun n hn => bs (h1 n (ml hn)) (h2 n (mr hn))
noncomputable def hBody : List S := [S.addHdr 3 (E.var 4) (E.var 5) [S.ret (E.lst [])]]
noncomputable abbrev H0 (R : D) (sa sb : Str) (bk : List (Str × Str)) (o4 o5 : Option Slot) : Sg := [some (.val R), some (.val (.str sa)), some (.val (.str sb)), some (.book bk), o4, o5, none, none, none, none, none, none, none]
theorem vadd_run (R : D) (sa sb : Str) (bk : List (Str × Str)) (x y : Str) (hx : okHdr x = true) (hy : okHdr y = true) (hl : bk.length ≤ 1000) : Rn 10 (H0 R sa sb bk (some (.val (.str x))) (some (.val (.str y)))) hBody none (H0 R sa sb (bk ++ [(x, y)]) (some (.val (.str x))) (some (.val (.str y)))) :=
  (Rn.cons (Ex1.addHdr rfl (Ev.var rfl) (Ev.var rfl) hx hy hl) Rn.nil).le (by decide)
theorem head_run (R : D) (sa sb : Str) (ha : okHdr sa = true) (hb : okHdr sb = true) : ∃ o4 o5, Ex1 30 (H0 R sa sb [] none none)
    (S.for2 4 5 (E.lst [E.tup [E.str { cps := #[97] }, E.var 1], E.tup [E.str { cps := #[98] }, E.var 2], E.tup [E.str { cps := #[65] }, E.var 2], E.tup [E.str { cps := #[66] }, E.var 1]]) hBody) none (H0 R sa sb (base sa sb) o4 o5) := by
  have hsrc : It 15 (H0 R sa sb [] none none) (E.lst [E.tup [E.str { cps := #[97] }, E.var 1], E.tup [E.str { cps := #[98] }, E.var 2], E.tup [E.str { cps := #[65] }, E.var 2], E.tup [E.str { cps := #[66] }, E.var 1]])
      [.tuple [.str ⟨#[97]⟩, .str sa], .tuple [.str ⟨#[98]⟩, .str sb], .tuple [.str ⟨#[65]⟩, .str sb], .tuple [.str ⟨#[66]⟩, .str sa]] :=
    (It.ev (Ev.lst (Evs.cons (Ev.tup (Evs.cons (Ev.str _) (Evs.cons (Ev.var rfl) Evs.nil))) (Evs.cons (Ev.tup (Evs.cons (Ev.str _) (Evs.cons (Ev.var rfl) Evs.nil))) (Evs.cons (Ev.tup (Evs.cons (Ev.str _) (Evs.cons (Ev.var rfl) Evs.nil))) (Evs.cons (Ev.tup (Evs.cons (Ev.str _) (Evs.cons (Ev.var rfl) Evs.nil))) Evs.nil))))) rfl rfl).le (by decide)
  exact ⟨_, _, (Ex1.for2 hsrc (F2.cons (vadd_run R sa sb [] ⟨#[97]⟩ sa (by kernel_rfl) ha (by simp)) (F2.cons (vadd_run R sa sb [(⟨#[97]⟩, sa)] ⟨#[98]⟩ sb (by kernel_rfl) hb (by simp)) (F2.cons (vadd_run R sa sb [(⟨#[97]⟩, sa), (⟨#[98]⟩, sb)] ⟨#[65]⟩ sb (by kernel_rfl) hb (by simp)) (F2.cons (vadd_run R sa sb [(⟨#[97]⟩, sa), (⟨#[98]⟩, sb), (⟨#[65]⟩, sb)] ⟨#[66]⟩ sa (by kernel_rfl) ha (by simp)) F2.nil))))).le (by decide)⟩
theorem runE_len0 : ∀ (rs : List Ru) (env : List En) (k : Nat), (runE env k rs).length ≤ env.length + rs.length
  | [], env, k => by simp [runE]
  | r :: rs, env, k => by
    have h1 := runE_len0 rs (stepE env k r) (k + 1)
    have h2 := stepE_len env k r
    show (runE (stepE env k r) (k + 1) rs).length ≤ _
    simp only [List.length_cons]; omega
theorem c_led {fa fb : Mp} (ha : MpUp fa) (hb : MpUp fb) {sa sb : Str} (ta : Tells sa fa.at) (tb : Tells sb fb.at) (rs : List Ru) (hl : rs.length ≤ 900) (hr : ∀ r ∈ rs, RuF r) :
    Cl 150 "_law_led" [.list (rowL rs), .str sa, .str sb] (.list ((bookOf fa fb sa sb (runE [] 0 rs)).map fun p => .tuple [.str p.1, .str p.2])) := by
  obtain ⟨o4, o5, h1⟩ := head_run (.list (rowL rs)) sa sb ta.ok tb.ok
  obtain ⟨q4, q5, q9, q10, q11, q12, gr, h2⟩ := led_loop ha hb ta tb (.list (rowL rs)) rs [] 0 o4 o5 none none none none (fun e he => nomatch he) (by simpa using hl) hr
  have hbk : bookOf fa fb sa sb [] = base sa sb := by simp [bookOf]
  rw [hbk] at h2
  refine (Cl.of (fn := b_lawled) (by kernel_rfl) ⟨rfl, Nat.le_of_ble_eq_true rfl⟩
    (Rn.cons Ex1.newBook (Rn.cons h1 (Rn.cons Ex1.asgDict (Rn.cons (Ex1.asgNew Evs.nil) (Rn.cons (Ex1.asg (Ev.bool false)) (Rn.cons (Ex1.forR (It.val rfl rfl) h2) (Rn.stop (Ex1.retItems rfl (by have := runE_len0 rs [] 0; simp [bookOf, base] at this ⊢; omega))))))))) rfl).le (by decide)
end Mine
end
section
/-! The plain law: three letters do what the whole word does. -/
open PySem PySem.Builtin PySem.Builtin.Str PySem.StrLaws
set_option maxRecDepth 100000
namespace Mine
variable {c c1 c2 c3 : Nat} {σ σ' σ'' : Sg}
section
variable {fa fb : Mp}
theorem walk_sub (ha : MpUp fa) (hb : MpUp fb) {t w : Wd} (h : List.Sublist t w) : ∀ {x : Nat}, x < 4 → walk fa fb x t ≤ walk fa fb x w := by
  induction h with
  | slnil => exact fun _ => Nat.le_refl _
  | cons b h ih => exact fun {x} hx => Nat.le_trans (ih hx) (walk_mono ha hb _ ((pick_up ha hb b).infl hx))
  | cons_cons b h ih => exact fun {x} hx => ih (Mp.lt (pick_up ha hb b).ok x)
theorem walk_few (ha : MpUp fa) (hb : MpUp fb) : ∀ (w : Wd) (x : Nat), x < 4 → ∃ t : Wd, List.Sublist t w ∧ walk fa fb x t = walk fa fb x w ∧ t.length + x ≤ walk fa fb x w
  | [], x, hx => ⟨[], .slnil, rfl, by simp [walk]⟩
  | b :: w, x, hx => by
    have hy := Mp.lt (pick_up ha hb b).ok x
    have hi := (pick_up ha hb b).infl hx
    by_cases hxy : (if b then fb else fa).at x = x
    · obtain ⟨t, h1, h2, h3⟩ := walk_few ha hb w x hx
      have e : walk fa fb x (b :: w) = walk fa fb x w := by show walk fa fb ((if b then fb else fa).at x) w = _; rw [hxy]
      exact ⟨t, h1.cons b, by rw [h2, e], by rw [e]; exact h3⟩
    · obtain ⟨t, h1, h2, h3⟩ := walk_few ha hb w _ hy
      exact ⟨b :: t, h1.cons_cons b, h2, by
        have e : walk fa fb x (b :: w) = walk fa fb ((if b then fb else fa).at x) w := rfl
        rw [e, List.length_cons]; omega⟩
end
theorem maxL_is {v : Int} : ∀ (r : List Int) (a : Int), a ≤ v → (∀ x ∈ r, x ≤ v) → (a = v ∨ v ∈ r) → maxL a r = v
  | [], a, h1, h2, h3 => by
    rcases h3 with h | h
    · exact h
    · cases h
  | b :: r, a, h1, h2, h3 => by
    have hb := h2 b (.head _)
    refine maxL_is r _ (by split <;> omega) (fun x hx => h2 x (.tail _ hx)) ?_
    rcases h3 with h | h
    · left; subst h; rw [if_neg (by omega)]
    · rcases List.mem_cons.mp h with h | h
      · left; subst h; split <;> omega
      · exact .inr h
/-- the farthest place over some words -/
noncomputable def MaxIs (fa fb : Mp) (T : List Wd) (W : Wd) : Prop := ∀ x, x < 4 → ∃ t r, T = t :: r ∧ maxL (walk fa fb x t) (r.map fun u => (walk fa fb x u : Int)) = walk fa fb x W
theorem max_one (fa fb : Mp) (W : Wd) : MaxIs fa fb [W] W := fun x _ => ⟨W, [], rfl, rfl⟩
theorem max_found {fa fb : Mp} (ha : MpUp fa) (hb : MpUp fb) (W : Wd) : MaxIs fa fb (askedW.filter fun t => t.isSublist W) W := fun x hx => by
  have h0 : ([] : Wd) ∈ askedW.filter fun t => t.isSublist W := List.mem_filter.mpr ⟨by decide, by simp⟩
  have hle : ∀ t ∈ askedW.filter (fun t => t.isSublist W), (walk fa fb x t : Int) ≤ walk fa fb x W := fun t ht => by
    have := walk_sub ha hb (List.isSublist_iff_sublist.mp (List.mem_filter.mp ht).2) hx
    omega
  obtain ⟨t, h1, h2, h3⟩ := walk_few ha hb W x hx
  have hlt := walk_lt ha.ok hb.ok W x hx
  have hm : t ∈ askedW.filter fun t => t.isSublist W := List.mem_filter.mpr ⟨asked_all (by omega), List.isSublist_iff_sublist.mpr h1⟩
  generalize (askedW.filter fun t => t.isSublist W) = T at *
  cases T with
  | nil => cases h0
  | cons u r =>
    refine ⟨u, r, rfl, maxL_is _ _ (hle u (.head _)) (fun y hy => ?_) ?_⟩
    · obtain ⟨z, hz, rfl⟩ := List.mem_map.mp hy
      exact hle z (.tail _ hz)
    · rcases List.mem_cons.mp hm with h | h
      · left; rw [← h, h2]
      · right; exact List.mem_map.mpr ⟨t, h, by rw [h2]⟩
/-! ### the maps of _law_due -/
theorem le_tab : ((List.range 4).flatMap fun g => (List.range 4).map fun x => (g, x)).map (fun p : Nat × Nat => cmp2 .le (.str ⟨#[48 + p.1]⟩) (.str ⟨#[48 + p.2]⟩)) = ((List.range 4).flatMap fun g => (List.range 4).map fun x => (g, x)).map fun p => some (decide (p.1 ≤ p.2)) := by decide +kernel
theorem le_sign {g x : Nat} (hg : g < 4) (hx : x < 4) : cmp2 .le (.str ⟨#[48 + g]⟩) (.str ⟨#[48 + x]⟩) = some (decide (g ≤ x)) :=
  List.map_inj_left.mp le_tab (g, x) (by simp only [List.mem_flatMap, List.mem_map, List.mem_range]; exact ⟨g, hg, x, hx, rfl⟩)
theorem filter_cnt (p : Nat → Bool) (a b d : Nat) : ([a, b, d].filter p).length = cnt p a b d := by
  cases h1 : p a <;> cases h2 : p b <;> cases h3 : p d <;> simp [List.filter, cnt, h1, h2, h3]
noncomputable def mapX : Xp := E.comp [none, none, some 1] (E.bi (BI.len) [E.comp [none, none, some 1] (E.var 1) 1 (E.var 2) [E.cmp (Cp.le) (E.var 1) (E.idx (E.str { cps := #[48, 49, 50, 51] }) (E.var 2))] none]) 1 (E.bi (BI.range) [E.int 4]) [] none
theorem map_run {s : Str} {f : Mp} (h : Tells s f.at) (o : Option Slot) : Ev 40 [o, some (.val (.str s))] mapX f.D := by
  obtain ⟨a, b, d, rfl, h1, h2, h3, h4⟩ := h
  have hsrc : It 10 [o, some (.val (.str (fgS a b d)))] (E.bi (BI.range) [E.int 4]) ([0, 1, 2, 3].map fun j : Nat => .int j) := (It.range1 (Ev.int 4) (by omega)).le (by decide)
  have hc := cM (c := 30) (elt := E.bi (BI.len) [E.comp [none, none, some 1] (E.var 1) 1 (E.var 2) [E.cmp (Cp.le) (E.var 1) (E.idx (E.str { cps := #[48, 49, 50, 51] }) (E.var 2))] none]) (t := 1) (fun j : Nat => .int j) (fun j : Nat => .int (f.at j)) [0, 1, 2, 3] [none, none, some (.val (.str (fgS a b d)))] fun j hj => by
    have hj4 : j < 4 := by
      simp only [List.mem_cons, List.not_mem_nil, or_false] at hj
      rcases hj with rfl | rfl | rfl | rfl <;> omega
    have hc2 := cF (c1 := 10) (c2 := 1) (elt := E.var 1) (q := E.cmp (Cp.le) (E.var 1) (E.idx (E.str { cps := #[48, 49, 50, 51] }) (E.var 2))) (t := 1) (fun g : Nat => .str ⟨#[48 + g]⟩) (fun g : Nat => .str ⟨#[48 + g]⟩) (fun g => decide (g ≤ j)) [a, b, d] [none, none, some (.val (.int j))] fun g hg => by
      have hg4 : g < 4 := by
        simp only [List.mem_cons, List.not_mem_nil, or_false] at hg
        rcases hg with rfl | rfl | rfl <;> omega
      exact ⟨(Ts.cmp rfl (Ev.var rfl) (Ev.idx (Pk.ev (Ev.str _) rfl) (Ev.var rfl) (sign_ix hj4)) (le_sign hg4 hj4)).le (by decide), fun _ => Ev.var rfl⟩
    have hlen : bi2 .len [.list (([a, b, d].filter fun g => decide (g ≤ j)).map fun g : Nat => .str ⟨#[48 + g]⟩)] = some (.int (f.at j)) := by
      have e := filter_cnt (fun y => decide (y ≤ j)) a b d
      rw [h4 j hj4] at e
      have hle : ([a, b, d].filter fun g => decide (g ≤ j)).length ≤ 3 := List.length_filter_le _ _
      rw [bi_len_list (by rw [List.length_map]; omega), List.length_map, e]
    exact (Ev.bi (Pks.cons (Pk.ev (Ev.comp (src := [a, b, d].map fun g : Nat => .str ⟨#[48 + g]⟩) (It.val rfl rfl) hc2 (by
      have hle : ([a, b, d].filter fun g => decide (g ≤ j)).length ≤ 3 := List.length_filter_le _ _
      rw [List.length_map]; omega)) rfl) Pks.nil) hlen).le (by decide)
  exact (Ev.comp hsrc hc (by simp)).le (by decide)
theorem maps_run {sa sb : Str} {fa fb : Mp} (ta : Tells sa fa.at) (tb : Tells sb fb.at) (h3 : σ[3]? = some (some (.val (.str sa)))) (h4 : σ[4]? = some (some (.val (.str sb)))) : Ev 50 σ (E.comp [none, none] mapX 1 (E.lst [E.var 3, E.var 4]) [] none) (.list [fa.D, fb.D]) := by
  have hsrc : It 10 σ (E.lst [E.var 3, E.var 4]) ([(sa, fa), (sb, fb)].map fun p => .str p.1) := (It.ev (Ev.lst (Evs.cons (Ev.var h3) (Evs.cons (Ev.var h4) Evs.nil))) rfl rfl).le (by decide)
  have hc := cM (c := 40) (elt := mapX) (t := 1) (fun p : Str × Mp => .str p.1) (fun p : Str × Mp => p.2.D) [(sa, fa), (sb, fb)] [none, none] fun p hp => by
    simp only [List.mem_cons, List.not_mem_nil, or_false] at hp
    rcases hp with rfl | rfl
    · exact map_run ta none
    · exact map_run tb none
  exact (Ev.comp hsrc hc (by simp)).le (by decide)
end Mine
end
section
/-! The plain law: _law_due. -/
open PySem PySem.Builtin PySem.Builtin.Str PySem.StrLaws
set_option maxRecDepth 100000
namespace Mine
variable {c c1 c2 c3 : Nat} {σ σ' σ'' : Sg}
/-! ### which names are there -/
theorem look_step (env : List En) (k : Nat) (r : Ru) (n : Nat) : (look (stepE env k r) n).isSome = ((look env n).isSome || r.1 == n) := by
  unfold stepE
  cases h : (look env r.1).isSome with
  | true =>
    rw [if_pos rfl]
    by_cases hn : r.1 = n
    · subst hn; simp [h]
    · simp [hn]
  | false =>
    rw [if_neg (by simp)]
    unfold look
    rw [List.find?_append]
    cases h2 : env.find? fun e => e.n == n with
    | some e => simp
    | none => cases h3 : r.1 == n <;> simp [List.find?, h3]
theorem look_keep {env : List En} {k : Nat} {r : Ru} {n : Nat} {e : En} (h : look env n = some e) : look (stepE env k r) n = some e := by
  unfold stepE
  split
  · exact h
  · unfold look at h ⊢
    rw [List.find?_append, h]; rfl
theorem look_keeps {n : Nat} {e : En} : ∀ (rs : List Ru) {env : List En} {k : Nat}, look env n = some e → look (runE env k rs) n = some e
  | [], _, _, h => h
  | r :: rs, _, _, h => look_keeps rs (look_keep h)
theorem look_new {env : List En} {k : Nat} {r : Ru} (h : look env r.1 = none) : look (stepE env k r) r.1 = some ⟨r.1, k % 2 == 1, wordOf env r.2⟩ := by
  unfold stepE
  rw [if_neg (by simp [h])]
  unfold look at h ⊢
  rw [List.find?_append, h]
  simp
/-! ### one rule -/
theorem idx_mid {α : Type} (g : α → D) (pre : List α) (r : α) (rs : List α) (hl : pre.length ≤ 1000) : idx2 (.list ((pre ++ r :: rs).map g)) (.int pre.length) = some (g r) := by
  simp only [idx2_list, idx2_str, idx2_dict, wrapIx]
  rw [if_pos (by omega), if_pos ⟨by simp; omega, by omega⟩]
  simp
theorem slc_pre {α : Type} (g : α → D) (pre rs : List α) (hl : (pre ++ rs).length ≤ 1000) : slc2 (.list ((pre ++ rs).map g)) none (some pre.length) = some (.list (pre.map g)) := by
  simp only [slc2_list, slc2_str]
  rw [if_pos (by rw [List.length_map]; omega)]
  have e : clipAt ((pre ++ rs).map g).length (pre.length : Int) = pre.length := by
    unfold clipAt
    rw [if_neg (by omega)]
    simp
    omega
  simp only [Option.elim, e]
  congr 2
  simp
theorem int_lay : ∀ l : List Nat, PyData.canLayAll0 (l.map fun n : Nat => .int (256 + n : Nat)) = true
  | [] => rfl
  | a :: r => by simp only [List.map_cons, PyData.canLayAll0, PyData.canLay0, Bool.true_and]; exact int_lay r
theorem has_name (l : List Nat) (n : Nat) : hasItem (.int (256 + n : Nat)) (l.map fun n : Nat => .int (256 + n : Nat)) = some (l.any fun m => m == n) := by
  unfold hasItem
  rw [if_pos (by simp only [int_lay l, PyData.canLay0, PyData.depth]; rfl)]
  congr 1
  rw [List.any_map]
  congr 1
  funext m
  show (((256 + m : Nat) : Int) == ((256 + n : Nat) : Int)) = (m == n)
  rw [Bool.eq_iff_iff, beq_iff_eq, beq_iff_eq]
  omega
noncomputable abbrev DS (R Ws Fo : D) (sa sb : Str) (M : D) (due : List D) (o7 o8 o9 o10 o11 : Option Slot) : Sg :=
  [some (.val R), some (.val Ws), some (.val Fo), some (.val (.str sa)), some (.val (.str sb)), some (.val M), some (.own (.list due)), o7, o8, o9, o10, o11]
noncomputable def mostX : Xp := E.comp [none, none, some 5, some 8] (E.bi (BI.max) [E.comp [none, none, some 2, some 1] (E.call "_law_walk" [E.var 3, E.var 1, E.var 2]) 1 (E.var 3) [] none]) 1 (E.bi (BI.range) [E.int 3]) [] none
noncomputable def told2X : Xp := E.mth (MT.join) (E.str { cps := #[] }) [E.comp [none, none, some 9] (E.idx (E.str { cps := #[48, 49, 50, 51] }) (E.bi (BI.len) [E.comp [none, none, some 1] (E.var 1) 1 (E.var 2) [E.cmp (Cp.le) (E.var 1) (E.var 2)] none])) 1 (E.bi (BI.range) [E.int 3]) [] none]
theorem most_run {fa fb : Mp} (ha : MpUp fa) (hb : MpUp fb) {T : List Wd} {W : Wd} (hT : MaxIs fa fb T W) (hl : T.length ≤ 1000) (h5 : σ[5]? = some (some (.val (.list [fa.D, fb.D])))) (h8 : σ[8]? = some (some (.val (.list (T.map fun t => .str (wS t)))))) :
    Ev 70 σ mostX (three (walk fa fb 0 W) (walk fa fb 1 W) (walk fa fb 2 W)) := by
  have hcap : (([none, none, some 5, some 8] : List (Option Nat)).map fun c => match c with | some i => (σ[i]?).join | none => none) = [none, none, some (.val (.list [fa.D, fb.D])), some (.val (.list (T.map fun t => .str (wS t))))] := by
    simp only [List.map_cons, List.map_nil, h5, h8]; rfl
  have hsrc : It 10 σ (E.bi (BI.range) [E.int 3]) ([0, 1, 2].map fun j : Nat => .int j) := (It.range1 (Ev.int 3) (by omega)).le (by decide)
  have hc := cM (c := 50) (elt := E.bi (BI.max) [E.comp [none, none, some 2, some 1] (E.call "_law_walk" [E.var 3, E.var 1, E.var 2]) 1 (E.var 3) [] none]) (t := 1) (fun j : Nat => .int j) (fun j : Nat => .int (walk fa fb j W)) [0, 1, 2] [none, none, some (.val (.list [fa.D, fb.D])), some (.val (.list (T.map fun t => .str (wS t))))] fun j hj => by
    have hj4 : j < 4 := by
      simp only [List.mem_cons, List.not_mem_nil, or_false] at hj
      rcases hj with rfl | rfl | rfl <;> omega
    obtain ⟨t, r, hTe, hm⟩ := hT j hj4
    have hc2 := cM (c := 40) (elt := E.call "_law_walk" [E.var 3, E.var 1, E.var 2]) (t := 1) (fun t : Wd => .str (wS t)) (fun t : Wd => .int (walk fa fb j t)) T [none, none, some (.val (.list [fa.D, fb.D])), some (.val (.int j))] fun t _ =>
      (Ev.call (Evs.cons (Ev.var rfl) (Evs.cons (Ev.var rfl) (Evs.cons (Ev.var rfl) Evs.nil))) (c_walk ha.ok hb.ok t hj4)).le (by decide)
    have hmax : bi2 .max [.list (T.map fun t : Wd => .int (walk fa fb j t))] = some (.int (walk fa fb j W)) := by
      subst hTe
      simp only [List.map_cons, bi2_lenL, bi2_lenS, bi2_sum, bi2_max]
      have e : (r.map fun t : Wd => PyData.int (walk fa fb j t)) = (r.map fun t : Wd => (walk fa fb j t : Int)).map .int := by simp
      rw [e]
      show (intsOf (List.map PyData.int (_ :: _))).bind maxD = _
      rw [intsOf_map, Option.bind_some]
      exact congrArg (fun x => some (PyData.int x)) hm
    exact (Ev.bi (Pks.cons (Pk.ev (Ev.comp (src := T.map fun t => .str (wS t)) (It.val rfl rfl) hc2 (by rw [List.length_map]; omega)) rfl) Pks.nil) hmax).le (by decide)
  rw [← hcap] at hc
  exact (Ev.comp hsrc hc (by simp)).le (by decide)
theorem told2_run {m0 m1 m2 : Nat} (h9 : σ[9]? = some (some (.val (three m0 m1 m2)))) : Ev 50 σ told2X (.str (fgM m0 m1 m2)) := by
  have hcap : (([none, none, some 9] : List (Option Nat)).map fun c => match c with | some i => (σ[i]?).join | none => none) = [none, none, some (.val (three m0 m1 m2))] := by
    simp only [List.map_cons, List.map_nil, h9]; rfl
  have hsrc : It 10 σ (E.bi (BI.range) [E.int 3]) ([0, 1, 2].map fun j : Nat => .int j) := (It.range1 (Ev.int 3) (by omega)).le (by decide)
  have hc := cM (c := 40) (elt := E.idx (E.str { cps := #[48, 49, 50, 51] }) (E.bi (BI.len) [E.comp [none, none, some 1] (E.var 1) 1 (E.var 2) [E.cmp (Cp.le) (E.var 1) (E.var 2)] none])) (t := 1) (fun j : Nat => .int j) (fun j : Nat => .str ⟨#[48 + cnt (fun y => decide (y ≤ j)) m0 m1 m2]⟩) [0, 1, 2] [none, none, some (.val (three m0 m1 m2))] fun j hj => by
    have hc2 := cF (c1 := 10) (c2 := 1) (elt := E.var 1) (q := E.cmp (Cp.le) (E.var 1) (E.var 2)) (t := 1) (fun g : Nat => .int g) (fun g : Nat => .int g) (fun g => decide (g ≤ j)) [m0, m1, m2] [none, none, some (.val (.int j))] fun g hg =>
      ⟨(Ts.cmp rfl (Ev.var rfl) (Ev.var rfl) (by simp only [cmp2_lt, cmp2_le, cmp2_gt, cmp2_ge, cmp2_eq, cmp2_ne, cmp2_inI, cmp2_notInI, cmp2_inS, cmp2_notInS, cmp2_inT, cmp2_notInT, cmp2_notInL]; congr 1; rw [decide_eq_decide]; omega)).le (by decide), fun _ => Ev.var rfl⟩
    have hlen : bi2 .len [.list (([m0, m1, m2].filter fun g => decide (g ≤ j)).map fun g : Nat => .int g)] = some (.int (cnt (fun y => decide (y ≤ j)) m0 m1 m2)) := by
      have e := filter_cnt (fun y => decide (y ≤ j)) m0 m1 m2
      have hle : ([m0, m1, m2].filter fun g => decide (g ≤ j)).length ≤ 3 := List.length_filter_le _ _
      rw [bi_len_list (by rw [List.length_map]; omega), List.length_map, e]
    exact (Ev.idx (Pk.ev (Ev.str _) rfl) (Ev.bi (Pks.cons (Pk.ev (Ev.comp (src := [m0, m1, m2].map fun g : Nat => .int g) (It.val rfl rfl) hc2 (by
      have hle : ([m0, m1, m2].filter fun g => decide (g ≤ j)).length ≤ 3 := List.length_filter_le _ _
      rw [List.length_map]; omega)) rfl) Pks.nil) hlen) (sign_ix (cnt_lt _ _ _ _))).le (by decide)
  have hj := join3 (cnt_lt (fun y => decide (y ≤ 0)) m0 m1 m2) (cnt_lt (fun y => decide (y ≤ 1)) m0 m1 m2) (cnt_lt (fun y => decide (y ≤ 2)) m0 m1 m2)
  rw [← hcap] at hc
  exact (Ev.mth rfl (Ev.str _) (Evs.cons (Ev.comp hsrc hc (by simp)) Evs.nil) hj).le (by decide)
noncomputable def dBody : List S := [S.ifs (E.cmp (Cp.notIn) (E.idx (E.idx (E.var 0) (E.var 7)) (E.int 0)) (E.comp [none, none] (E.idx (E.var 1) (E.int 0)) 1 (E.slc (E.var 0) none (some (E.var 7))) [] none))
  [S.asg 8 (E.ite (E.cmp (Cp.eq) (E.idx (E.idx (E.var 0) (E.var 7)) (E.int 0)) (E.int 260)) (E.var 2) (E.lst [E.idx (E.var 1) (E.idx (E.idx (E.var 0) (E.var 7)) (E.int 0))])),
   S.asg 9 mostX, S.asg 10 told2X, S.asg 11 (E.idx (E.str { cps := #[112, 113, 114, 115, 116] }) (E.bin (Op2.sub) (E.idx (E.idx (E.var 0) (E.var 7)) (E.int 0)) (E.int 256))),
   S.app 6 (E.tup [E.ite (E.cmp (Cp.eq) (E.bin (Op2.fmod) (E.var 7) (E.int 2)) (E.int 1)) (E.mth (MT.upper) (E.var 11) []) (E.var 11), E.var 10])] []]
noncomputable def tupD (p : Str × Str) : D := .tuple [.str p.1, .str p.2]
theorem letter_ix {n : Nat} (h : n < 5) : idx2 (.str ⟨#[112, 113, 114, 115, 116]⟩) (.int n) = some (.str (letter n)) := idx_str (by
  match n, h with
  | 0, _ => rfl
  | 1, _ => rfl
  | 2, _ => rfl
  | 3, _ => rfl
  | 4, _ => rfl) (by omega)
/-- one rule of _law_due -/
theorem due_run {fa fb : Mp} (ha : MpUp fa) (hb : MpUp fb) {sa sb : Str} (pre : List Ru) (r : Ru) (rs : List Ru) (env final : List En) (hl : (pre ++ r :: rs).length ≤ 900) (hn : r.1 < 5)
    (hnames : (look env r.1).isSome = pre.any fun q => q.1 == r.1) (hfin : look env r.1 = none → look final r.1 = some ⟨r.1, pre.length % 2 == 1, wordOf env r.2⟩)
    {F : List Wd} (hF : r.1 = 4 → look env r.1 = none → MaxIs fa fb F (wordOf env r.2)) (hFl : F.length ≤ 1000) (hel : env.length ≤ 900) (o8 o9 o10 o11 : Option Slot) :
    ∃ o8' o9' o10' o11', Rn 100 (DS (.list ((pre ++ r :: rs).map ruD)) (.dict (wordsD final)) (.list (F.map fun t => .str (wS t))) sa sb (.list [fa.D, fb.D]) ((bookOf fa fb sa sb env).map tupD) (some (.val (.int pre.length))) o8 o9 o10 o11) dBody none
      (DS (.list ((pre ++ r :: rs).map ruD)) (.dict (wordsD final)) (.list (F.map fun t => .str (wS t))) sa sb (.list [fa.D, fb.D]) ((bookOf fa fb sa sb (stepE env pre.length r)).map tupD) (some (.val (.int pre.length))) o8' o9' o10' o11') := by
  have hi1 := idx_mid ruD pre r rs (by simp at hl; omega)
  have hi2 : idx2 (ruD r) (.int 0) = some (.int (256 + r.1 : Nat)) := idx_first _ _
  have hsl := slc_pre ruD pre (r :: rs) (by omega)
  generalize hR : (pre ++ r :: rs).map ruD = R at *
  generalize hD : (bookOf fa fb sa sb env).map tupD = due at *
  have nm : ∀ o8 o9 o10 o11, Ev 10 (DS (.list R) (.dict (wordsD final)) (.list (F.map fun t => .str (wS t))) sa sb (.list [fa.D, fb.D]) due (some (.val (.int pre.length))) o8 o9 o10 o11) (E.idx (E.idx (E.var 0) (E.var 7)) (E.int 0)) (.int (256 + r.1 : Nat)) := fun _ _ _ _ =>
    (Ev.idx (Pk.ev (Ev.idx (Pk.var rfl) (Ev.var rfl) hi1) rfl) (Ev.int 0) hi2).le (by decide)
  have hc := cM (c := 5) (elt := E.idx (E.var 1) (E.int 0)) (t := 1) ruD (fun q : Ru => .int (256 + q.1 : Nat)) pre [none, none] fun q _ => (Ev.idx (Pk.var rfl) (Ev.int 0) (idx_first _ _)).le (by decide)
  have hns : (pre.map fun q : Ru => PyData.int (256 + q.1 : Nat)) = (pre.map fun q => q.1).map fun n : Nat => .int (256 + n : Nat) := by simp
  have hin : cmp2 .notIn (.int (256 + r.1 : Nat)) (.list (pre.map fun q : Ru => .int (256 + q.1 : Nat))) = some (!(look env r.1).isSome) := by
    simp only [cmp2_lt, cmp2_le, cmp2_gt, cmp2_ge, cmp2_eq, cmp2_ne, cmp2_inI, cmp2_notInI, cmp2_inS, cmp2_notInS, cmp2_inT, cmp2_notInT, cmp2_notInL]
    rw [hns, has_name, hnames, List.any_map]
    rfl
  have test : Ts 30 (DS (.list R) (.dict (wordsD final)) (.list (F.map fun t => .str (wS t))) sa sb (.list [fa.D, fb.D]) due (some (.val (.int pre.length))) o8 o9 o10 o11) (E.cmp (Cp.notIn) (E.idx (E.idx (E.var 0) (E.var 7)) (E.int 0)) (E.comp [none, none] (E.idx (E.var 1) (E.int 0)) 1 (E.slc (E.var 0) none (some (E.var 7))) [] none)) (!(look env r.1).isSome) :=
    (Ts.cmpIn rfl (nm _ _ _ _) (Pk.ev (Ev.comp (src := pre.map ruD) (It.ev (Ev.slc (Pk.var rfl) Op.none (Op.some (Ev.var rfl)) hsl) rfl rfl) hc (by simp at hl ⊢; omega)) rfl) hin).le (by decide)
  cases hk : look env r.1 with
  | some e =>
    rw [hk] at test
    have hst : stepE env pre.length r = env := by unfold stepE; rw [hk]; rfl
    rw [hst, hD]
    exact ⟨o8, o9, o10, o11, (Rn.cons (Ex1.ifF test Rn.nil) Rn.nil).le (by decide)⟩
  | none =>
    rw [hk] at test
    have hfin' := hfin hk
    -- the words that are tried
    have htry : ∃ T : List Wd, MaxIs fa fb T (wordOf env r.2) ∧ T.length ≤ 1000 ∧ ∀ o8 o9 o10 o11, Ev 30 (DS (.list R) (.dict (wordsD final)) (.list (F.map fun t => .str (wS t))) sa sb (.list [fa.D, fb.D]) due (some (.val (.int pre.length))) o8 o9 o10 o11)
        (E.ite (E.cmp (Cp.eq) (E.idx (E.idx (E.var 0) (E.var 7)) (E.int 0)) (E.int 260)) (E.var 2) (E.lst [E.idx (E.var 1) (E.idx (E.idx (E.var 0) (E.var 7)) (E.int 0))])) (.list (T.map fun t => .str (wS t))) := by
      by_cases h4 : r.1 = 4
      · refine ⟨F, hF h4 hk, hFl, fun _ _ _ _ => ?_⟩
        refine (Ev.ite (t := true) (c2 := 10) (Ts.cmp rfl (nm _ _ _ _) (Ev.int 260) (by rw [h4]; rfl)) ?_).le (by decide)
        rw [if_pos rfl]
        exact (Ev.var rfl).le (by decide)
      · refine ⟨[wordOf env r.2], max_one _ _ _, by simp, fun _ _ _ _ => ?_⟩
        refine (Ev.ite (t := false) (c2 := 20) (Ts.cmp rfl (nm _ _ _ _) (Ev.int 260) (by simp only [cmp2_lt, cmp2_le, cmp2_gt, cmp2_ge, cmp2_eq, cmp2_ne, cmp2_inI, cmp2_notInI, cmp2_inS, cmp2_notInS, cmp2_inT, cmp2_notInT, cmp2_notInL, eq2_int, eq2_str, eq2_list]; exact congrArg some (beq_false_of_ne (by omega)))) ?_).le (by decide)
        rw [if_neg (by simp)]
        refine (Ev.lst (Evs.cons (Ev.idx (Pk.var rfl) (nm _ _ _ _) (d := .str (wS (wordOf env r.2))) ?_) Evs.nil)).le (by decide)
        simp only [idx2_list, idx2_str, idx2_dict, dGet_words, hfin', Option.map_some, Option.bind_eq_bind, Option.bind_some]
    obtain ⟨T, hT, hTl, ht⟩ := htry
    have m1 := walk_mono ha hb (wordOf env r.2) (Nat.zero_le 1)
    have hnE : ∀ o8 o9 o10, Ev 15 (DS (.list R) (.dict (wordsD final)) (.list (F.map fun t => .str (wS t))) sa sb (.list [fa.D, fb.D]) due (some (.val (.int pre.length))) o8 o9 o10 (some (.val (.str (letter r.1))))) (E.ite (E.cmp (Cp.eq) (E.bin (Op2.fmod) (E.var 7) (E.int 2)) (E.int 1)) (E.mth (MT.upper) (E.var 11) []) (E.var 11)) (.str (enName r.1 (pre.length % 2 == 1))) := fun _ _ _ => by
      have hq : cmp2 .eq (.int ((pre.length : Int) % 2)) (.int 1) = some (pre.length % 2 == 1) := by
        simp only [cmp2_lt, cmp2_le, cmp2_gt, cmp2_ge, cmp2_eq, cmp2_ne, cmp2_inI, cmp2_notInI, cmp2_inS, cmp2_notInS, cmp2_inT, cmp2_notInT, cmp2_notInL, eq2_int, eq2_str, eq2_list]
        congr 1
        rw [Bool.eq_iff_iff, beq_iff_eq, beq_iff_eq]
        omega
      cases hg : (pre.length % 2 == 1) with
      | true =>
        rw [hg] at hq
        refine (Ev.ite (t := true) (c2 := 5) (Ts.cmp rfl (Ev.bin (Ev.var rfl) (Ev.int 2) rfl) (Ev.int 1) hq) ?_).le (by decide)
        rw [if_pos rfl]
        exact (Ev.mthV (fun bk q => by cases q) (Pk.var rfl) Evs.nil (up_en hn)).le (by decide)
      | false =>
        rw [hg] at hq
        refine (Ev.ite (t := false) (c2 := 5) (Ts.cmp rfl (Ev.bin (Ev.var rfl) (Ev.int 2) rfl) (Ev.int 1) hq) ?_).le (by decide)
        rw [if_neg (by simp)]
        exact (Ev.var rfl).le (by decide)
    have hsub : bin2 .sub (.int (256 + r.1 : Nat)) (.int 256) = some (.int r.1) := by simp only [bin2_add, bin2_addL, bin2_sub]; congr 2; omega
    have hst : stepE env pre.length r = env ++ [⟨r.1, pre.length % 2 == 1, wordOf env r.2⟩] := by unfold stepE; rw [hk]; rfl
    have hdue : (bookOf fa fb sa sb (stepE env pre.length r)).map tupD = due ++ [.tuple [.str (enName r.1 (pre.length % 2 == 1)), .str (fgW fa fb (wordOf env r.2))]] := by
      rw [hst, ← hD]
      simp [bookOf, tupD]
    rw [hdue]
    have hdl : due.length ≤ 10000 := by rw [← hD]; simp [bookOf, base]; omega
    exact ⟨_, _, _, _, (Rn.cons (Ex1.ifT test (Rn.cons (Ex1.asg (ht _ _ _ _)) (Rn.cons (Ex1.asg (most_run ha hb hT hTl rfl rfl)) (Rn.cons (Ex1.asg (told2_run rfl)) (Rn.cons (Ex1.asg (Ev.idx (Pk.ev (Ev.str _) rfl) (Ev.bin (nm _ _ _ _) (Ev.int 256) hsub) (letter_ix hn)))
      (Rn.cons (Ex1.app rfl hdl (Ev.tup (Evs.cons (hnE _ _ _) (Evs.cons (Ev.var rfl) Evs.nil)))) Rn.nil)))))) Rn.nil).le (by decide)⟩
end Mine
end
section
/-! The plain law: _law_due as a whole. -/
open PySem PySem.Builtin PySem.Builtin.Str PySem.StrLaws
set_option maxRecDepth 100000
namespace Mine
variable {c c1 c2 c3 : Nat} {σ σ' σ'' : Sg}
theorem look_run (n : Nat) : ∀ (rs : List Ru) (env : List En) (k : Nat), (look (runE env k rs) n).isSome = ((look env n).isSome || rs.any fun q => q.1 == n)
  | [], env, k => by simp [runE]
  | r :: rs, env, k => by
    show (look (runE (stepE env k r) (k + 1) rs) n).isSome = _
    rw [look_run n rs, look_step, List.any_cons, Bool.or_assoc]
theorem run_app : ∀ (a b : List Ru) (env : List En) (k : Nat), runE env k (a ++ b) = runE (runE env k a) (k + a.length) b
  | [], b, env, k => rfl
  | r :: a, b, env, k => by
    show runE (stepE env k r) (k + 1) (a ++ b) = runE (runE (stepE env k r) (k + 1) a) (k + (a.length + 1)) b
    rw [run_app a b, show k + 1 + a.length = k + (a.length + 1) by omega]
theorem runE_len : ∀ (rs : List Ru) (env : List En) (k : Nat), (runE env k rs).length ≤ env.length + rs.length
  | [], env, k => by simp [runE]
  | r :: rs, env, k => by
    have h1 := runE_len rs (stepE env k r) (k + 1)
    have h2 := stepE_len env k r
    show (runE (stepE env k r) (k + 1) rs).length ≤ _
    simp only [List.length_cons]; omega
theorem due_loop {fa fb : Mp} (ha : MpUp fa) (hb : MpUp fb) {sa sb : Str} (all : List Ru) (hl : all.length ≤ 900) (hr : ∀ r ∈ all, r.1 < 5) {F : List Wd} (hFl : F.length ≤ 1000) (W : Wd)
    (hW : ∀ e, look (runE [] 0 all) 4 = some e → e.w = W) (hF : MaxIs fa fb F W) : ∀ (rs pre : List Ru) (o7 o8 o9 o10 o11 : Option Slot), pre ++ rs = all →
    ∃ o7' o8' o9' o10' o11', LpR 100 7 dBody (DS (.list (all.map ruD)) (.dict (wordsD (runE [] 0 all))) (.list (F.map fun t => .str (wS t))) sa sb (.list [fa.D, fb.D]) ((bookOf fa fb sa sb (runE [] 0 pre)).map tupD) o7 o8 o9 o10 o11) (rangeL pre.length 1 rs.length)
      (DS (.list (all.map ruD)) (.dict (wordsD (runE [] 0 all))) (.list (F.map fun t => .str (wS t))) sa sb (.list [fa.D, fb.D]) ((bookOf fa fb sa sb (runE [] 0 all)).map tupD) o7' o8' o9' o10' o11')
  | [], pre, o7, o8, o9, o10, o11, e => by
    rw [List.append_nil] at e
    subst e
    exact ⟨o7, o8, o9, o10, o11, LpR.nil.le (by decide)⟩
  | r :: rs, pre, o7, o8, o9, o10, o11, e => by
    have hlk : (look (runE [] 0 pre) r.1).isSome = pre.any fun q => q.1 == r.1 := by rw [look_run]; rfl
    have hall : runE [] 0 all = runE (stepE (runE [] 0 pre) pre.length r) (pre.length + 1) rs := by
      rw [← e, run_app, Nat.zero_add]; rfl
    have hfin : look (runE [] 0 pre) r.1 = none → look (runE [] 0 all) r.1 = some ⟨r.1, pre.length % 2 == 1, wordOf (runE [] 0 pre) r.2⟩ := fun hn => by
      rw [hall]
      exact look_keeps rs (look_new hn)
    have hF' : r.1 = 4 → look (runE [] 0 pre) r.1 = none → MaxIs fa fb F (wordOf (runE [] 0 pre) r.2) := fun h4 hn => by
      have h1 := hfin hn
      rw [h4] at h1
      have h2 := hW _ h1
      simp only at h2
      rw [h2]; exact hF
    have hpl : pre.length ≤ 900 := by rw [← e] at hl; simp at hl; omega
    obtain ⟨q8, q9, q10, q11, a1⟩ := due_run ha hb (sa := sa) (sb := sb) pre r rs (runE [] 0 pre) (runE [] 0 all) (by rw [e]; exact hl) (hr r (by rw [← e]; simp)) hlk hfin hF' hFl (by have := runE_len pre [] 0; simp at this; omega) o8 o9 o10 o11
    rw [e] at a1
    have hst : stepE (runE [] 0 pre) pre.length r = runE [] 0 (pre ++ [r]) := by rw [run_app, Nat.zero_add]; rfl
    rw [hst] at a1
    obtain ⟨r7, r8, r9, r10, r11, a2⟩ := due_loop ha hb (sa := sa) (sb := sb) all hl hr hFl W hW hF rs (pre ++ [r]) (some (.val (.int pre.length))) q8 q9 q10 q11 (by rw [← e]; simp)
    refine ⟨r7, r8, r9, r10, r11, ?_⟩
    have e2 : rangeL (pre.length : Int) 1 (r :: rs).length = .int pre.length :: rangeL ((pre ++ [r]).length : Int) 1 rs.length := by
      show PyData.int pre.length :: rangeL ((pre.length : Int) + (1 : Nat)) 1 rs.length = _
      congr 2
      simp
    rw [e2]
    exact (LpR.cons a1 a2).le (by decide)
theorem c_due {fa fb : Mp} (ha : MpUp fa) (hb : MpUp fb) {sa sb : Str} (ta : Tells sa fa.at) (tb : Tells sb fb.at) (all : List Ru) (hl : all.length ≤ 900) (hr : ∀ r ∈ all, r.1 < 5) {F : List Wd} (hFl : F.length ≤ 1000) (W : Wd)
    (hW : ∀ e, look (runE [] 0 all) 4 = some e → e.w = W) (hF : MaxIs fa fb F W) :
    Cl 150 "_law_due" [.list (all.map ruD), .dict (wordsD (runE [] 0 all)), .list (F.map fun t => .str (wS t)), .str sa, .str sb] (.list ((bookOf fa fb sa sb (runE [] 0 all)).map tupD)) := by
  obtain ⟨o7', o8', o9', o10', o11', h⟩ := due_loop ha hb (sa := sa) (sb := sb) all hl hr hFl W hW hF all [] none none none none none rfl
  have hbk : (bookOf fa fb sa sb (runE [] 0 [])).map tupD = [.tuple [.str ⟨#[97]⟩, .str sa], .tuple [.str ⟨#[98]⟩, .str sb], .tuple [.str ⟨#[65]⟩, .str sb], .tuple [.str ⟨#[66]⟩, .str sa]] := by simp [bookOf, runE, base, tupD]
  rw [hbk] at h
  have hrg : rangeL (([] : List Ru).length : Int) 1 all.length = rangeD 0 all.length 1 := by
    unfold rangeD
    congr 1
    simp
  rw [hrg] at h
  have hlen : bi2 .len [.list (all.map ruD)] = some (.int all.length) := by rw [bi_len_list (by rw [List.length_map]; omega), List.length_map]
  exact (Cl.of (fn := b_lawdue) (by kernel_rfl) ⟨rfl, Nat.le_of_ble_eq_true rfl⟩
    (Rn.cons (Ex1.asg (maps_run ta tb rfl rfl))
    (Rn.cons (Ex1.asgNew (Evs.cons (Ev.tup (Evs.cons (Ev.str _) (Evs.cons (Ev.var rfl) Evs.nil))) (Evs.cons (Ev.tup (Evs.cons (Ev.str _) (Evs.cons (Ev.var rfl) Evs.nil))) (Evs.cons (Ev.tup (Evs.cons (Ev.str _) (Evs.cons (Ev.var rfl) Evs.nil))) (Evs.cons (Ev.tup (Evs.cons (Ev.str _) (Evs.cons (Ev.var rfl) Evs.nil))) Evs.nil)))))
    (Rn.cons (Ex1.forR (It.range1 (Ev.bi (Pks.cons (Pk.var rfl) Pks.nil) hlen) (by omega)) h)
    (Rn.stop (Ex1.ret (Pk.ownv rfl)))))) rfl).le (by decide)
end Mine
end
section
/-! The plain law: the law itself. -/
open PySem PySem.Builtin PySem.Builtin.Str PySem.StrLaws
set_option maxRecDepth 100000
namespace Mine
variable {c c1 c2 c3 : Nat} {σ σ' σ'' : Sg}
/-! ### lists that equal themselves -/
theorem hdr_strOk : ((hdrNames ++ hdrVals).all fun x => PyData.canLay0 (.str x)) = true := by kernel_rfl
theorem ok_lay {x : Str} (h : okHdr x = true) : PyData.canLay0 (.str x) = true := by
  have h1 : x ∈ hdrNames ++ hdrVals := by simpa [okHdr, List.contains_iff_mem] using h
  exact List.all_eq_true.mp hdr_strOk x h1
theorem wS_lay (t : Wd) : PyData.canLay0 (.str (wS t)) = true := by
  simp only [PyData.canLay0, PyData.strOk, wS]
  simp only [List.all_toArray, List.all_map, List.all_eq_true]
  intro b _
  cases b <;> simp [sg]
theorem eq_words (l : List Wd) : eq2 (.list (l.map fun t => .str (wS t))) (.list (l.map fun t => .str (wS t))) = some true := by
  have h1 : PyData.canLayAll0 (l.map fun t => .str (wS t)) = true := by
    induction l with
    | nil => rfl
    | cons a r ih => simp only [List.map_cons, PyData.canLayAll0, wS_lay, Bool.true_and]; exact ih
  have h2 : PyData.depthAll (l.map fun t => .str (wS t)) = 0 := by
    induction l with
    | nil => rfl
    | cons a r ih => simp only [List.map_cons, PyData.depthAll, PyData.depth]; rw [ih (by simpa [PyData.canLayAll0, wS_lay] using h1)]; rfl
  have h3 : ∀ l : List Wd, PyData.eqvAll (l.map fun t => .str (wS t)) (l.map fun t => .str (wS t)) = true := fun l => by
    induction l with
    | nil => rfl
    | cons a r ih => simp only [List.map_cons, PyData.eqvAll, PyData.eqv, beq_self_eq_true, Bool.true_and]; exact ih
  simp only [eq2_int, eq2_str, eq2_list, h1, h2, h3]
  rfl
theorem eq_book (l : List (Str × Str)) (h : ∀ p ∈ l, okHdr p.1 = true ∧ okHdr p.2 = true) : eq2 (.list (l.map tupD)) (.list (l.map tupD)) = some true := by
  have h1 : PyData.canLayAll0 (l.map tupD) = true := by
    induction l with
    | nil => rfl
    | cons a r ih =>
      obtain ⟨q1, q2⟩ := h a (.head _)
      have hc : PyData.canLay0 (tupD a) = true := by
        have e1 := ok_lay q1
        have e2 := ok_lay q2
        unfold tupD
        simp only [PyData.canLay0, PyData.canLayAll0] at e1 e2 ⊢
        rw [e1, e2]; rfl
      simp only [List.map_cons, PyData.canLayAll0, hc, Bool.true_and]
      exact ih fun p hp => h p (.tail _ hp)
  have h2 : ∀ l : List (Str × Str), PyData.depthAll (l.map tupD) ≤ 1 := fun l => by
    induction l with
    | nil => exact Nat.zero_le _
    | cons a r ih =>
      have e : PyData.depth (tupD a) = 1 := by simp [tupD, PyData.depth, PyData.depthAll]
      simp only [List.map_cons, PyData.depthAll, e]
      omega
  have h3 : ∀ l : List (Str × Str), PyData.eqvAll (l.map tupD) (l.map tupD) = true := fun l => by
    induction l with
    | nil => rfl
    | cons a r ih =>
      have e : PyData.eqv (tupD a) (tupD a) = true := by simp [tupD, PyData.eqv, PyData.eqvAll]
      simp only [List.map_cons, PyData.eqvAll, e, Bool.true_and]
      exact ih
  have h4 : decide (PyData.depthAll (l.map tupD) ≤ 50) = true := decide_eq_true (Nat.le_trans (h2 l) (by omega))
  simp only [eq2_int, eq2_str, eq2_list, h1, h3, h4]
  rfl
/-! ### the row -/
theorem cI2 {t : Nat} : ∀ (src : List D) (σ : Sg), t < σ.length → ∀ n, 1 ≤ n → compL2 (LL n) (E.var t) t [] σ src = some src
  | [], σ, _, n, _ => rfl
  | d :: r, σ, h, n, hn => by
    have ih := cI2 (t := t) r (σ.set t (some (.val d))) (by simpa using h) n hn
    have hv : Ev 1 (σ.set t (some (.val d))) (E.var t) d := Ev.var (by simp [h])
    simp only [compL2, allT, Option.bind_eq_bind, Option.bind_some, if_true, hv n hn, ih, pure, List.cons_append, List.nil_append]
theorem cMM {α : Type} {elt i2 : Xp} {t t2 : Nat} (g : α → D) (h : α → List D) : ∀ (src : List α) (σ : Sg), (∀ d ∈ src, It c1 (σ.set t (some (.val (g d)))) i2 (h d) ∧ ∀ n, c2 ≤ n → compL2 (LL n) elt t2 [] (σ.set t (some (.val (g d)))) (h d) = some (h d)) →
    ∀ n, max c1 c2 ≤ n → compL1 (LL n) elt t [] (some (t2, i2, [])) σ (src.map g) = some (src.flatMap h)
  | [], σ, _, n, _ => rfl
  | d :: r, σ, hh, n, hn => by
    obtain ⟨h1, h2⟩ := hh d (.head _)
    have ih := cMM g h r σ (fun x hx => hh x (.tail _ hx)) n hn
    simp only [List.map_cons, compL1, allT, Option.bind_eq_bind, Option.bind_some, if_true, h1 n (ml hn), h2 n (mr hn), ih, pure, List.flatMap_cons]
theorem rowL_len : ∀ (rs : List Ru), (∀ r ∈ rs, r.2.length ≤ 4) → (rowL rs).length ≤ 6 * rs.length
  | [], _ => by simp [rowL]
  | r :: rs, h => by
    have h1 := h r (.head _)
    have h2 := rowL_len rs fun x hx => h x (.tail _ hx)
    simp only [rowL, List.flatMap_cons, List.length_append, List.length_cons] at h2 ⊢
    have h3 : (rowR r).length ≤ 6 := by simp [rowR]; omega
    omega
noncomputable def rowX : Xp := E.comp [none, none, none] (E.var 2) 1 (E.var 2) [] (some (2, E.bin (Op2.add) (E.var 1) (E.lst [E.int 0]), []))
theorem row_run (rs : List Ru) (hl : rs.length ≤ 900) (h : ∀ r ∈ rs, r.2.length ≤ 4) (hs : σ[2]? = some (some (.val (.list (rs.map ruD))))) : Ev 20 σ rowX (.list (rowL rs)) := by
  have hc := cMM (c1 := 10) (c2 := 1) (elt := E.var 2) (i2 := E.bin (Op2.add) (E.var 1) (E.lst [E.int 0])) (t := 1) (t2 := 2) ruD rowR rs [none, none, none] fun r hr =>
    ⟨(It.ev (Ev.bin (Ev.var (i := 1) rfl) (Ev.lst (Evs.cons (Ev.int 0) Evs.nil)) (d := .list (rowR r)) (by
      simp only [ruD, bin2_add, bin2_addL, bin2_sub]
      rw [if_pos (by have := h r hr; simp; omega)]
      rfl)) rfl rfl).le (by decide), cI2 _ _ (by simp)⟩
  exact (Ev.comp (It.val hs rfl) hc (by have := rowL_len rs h; show (rowL rs).length ≤ 10000; omega)).le (by decide)
/-! ### the symbols' kinds -/
noncomputable def kBody : List S := [S.ifs (E.orl (E.cmp (Cp.isNot) (E.call "ISEOF" [E.var 4]) (E.cmp (Cp.eq) (E.var 4) (E.int 0))) [E.cmp (Cp.isNot) (E.call "ISEOF" [E.neg (E.var 4)]) (E.cmp (Cp.eq) (E.var 4) (E.int 0))]) [S.ret (E.bool false)] [],
  S.ifs (E.orl (E.cmp (Cp.isNot) (E.call "ISTERMINAL" [E.var 4]) (E.cmp (Cp.lt) (E.var 4) (E.int 256))) [E.cmp (Cp.isNot) (E.call "ISNONTERMINAL" [E.var 4]) (E.cmp (Cp.ge) (E.var 4) (E.int 256))]) [S.ret (E.bool false)] []]
theorem kind_run (x : Int) (h : σ[4]? = some (some (.val (.int x)))) : Rn 40 σ kBody none σ := by
  have hne : ∀ b : Bool, cmp2 .isNot (.bool b) (.bool b) = some false := fun b => by cases b <;> rfl
  have hneg : (-x == 0) = (x == 0) := by rw [Bool.eq_iff_iff, beq_iff_eq, beq_iff_eq]; omega
  have e1 : Ts 20 σ (E.cmp (Cp.isNot) (E.call "ISEOF" [E.var 4]) (E.cmp (Cp.eq) (E.var 4) (E.int 0))) false :=
    (Ts.cmp rfl (Ev.call (Evs.cons (Ev.var h) Evs.nil) (c_ISEOF x)) (Ev.cmp rfl (Ev.var h) (Ev.int 0) rfl) (hne _)).le (by decide)
  have e2 : Ts 20 σ (E.cmp (Cp.isNot) (E.call "ISEOF" [E.neg (E.var 4)]) (E.cmp (Cp.eq) (E.var 4) (E.int 0))) false := by
    have hc := c_ISEOF (-x)
    rw [hneg] at hc
    exact (Ts.cmp rfl (Ev.call (Evs.cons (Ev.neg (Ev.var h)) Evs.nil) hc) (Ev.cmp rfl (Ev.var h) (Ev.int 0) rfl) (hne _)).le (by decide)
  have e3 : Ts 20 σ (E.cmp (Cp.isNot) (E.call "ISTERMINAL" [E.var 4]) (E.cmp (Cp.lt) (E.var 4) (E.int 256))) false :=
    (Ts.cmp rfl (Ev.call (Evs.cons (Ev.var h) Evs.nil) (c_ISTERMINAL x)) (Ev.cmp rfl (Ev.var h) (Ev.int 256) rfl) (hne _)).le (by decide)
  have e4 : Ts 20 σ (E.cmp (Cp.isNot) (E.call "ISNONTERMINAL" [E.var 4]) (E.cmp (Cp.ge) (E.var 4) (E.int 256))) false :=
    (Ts.cmp rfl (Ev.call (Evs.cons (Ev.var h) Evs.nil) (c_ISNONTERMINAL x)) (Ev.cmp rfl (Ev.var h) (Ev.int 256) rfl) (hne _)).le (by decide)
  exact (Rn.cons (Ex1.ifF (Ts.orF e1 (Ts.or1 e2)) Rn.nil) (Rn.cons (Ex1.ifF (Ts.orF e3 (Ts.or1 e4)) Rn.nil) Rn.nil)).le (by decide)
theorem kinds_loop {o0 o1 o2 o3 o5 : Option Slot} {rest : Sg} : ∀ (l : List D) (o4 : Option Slot), (∀ d ∈ l, isI d) → ∃ o4', LpR 40 4 kBody (o0 :: o1 :: o2 :: o3 :: o4 :: rest) l (o0 :: o1 :: o2 :: o3 :: o4' :: rest)
  | [], o4, _ => ⟨o4, LpR.nil.le (by decide)⟩
  | d :: l, o4, h => by
    obtain ⟨x, rfl⟩ := h d (.head _)
    obtain ⟨o4', ih⟩ := kinds_loop (o0 := o0) (o1 := o1) (o2 := o2) (o3 := o3) (o5 := o5) (rest := rest) l (some (.val (.int x))) fun y hy => h y (.tail _ hy)
    exact ⟨o4', (LpR.cons (kind_run x rfl) ih).le (by decide)⟩
theorem row_ints (rs : List Ru) : ∀ d ∈ rowL rs, isI d := by
  intro d hd
  obtain ⟨r, _, hr⟩ := List.mem_flatMap.mp hd
  simp only [rowR, List.cons_append, List.mem_cons, List.mem_append, List.mem_map, List.not_mem_nil, or_false] at hr
  rcases hr with rfl | ⟨p, _, rfl⟩ | rfl
  · exact ⟨_, rfl⟩
  · exact ⟨_, rfl⟩
  · exact ⟨_, rfl⟩
/-! ### the words that are found -/
theorem lenOk_run : ∀ (rs : List Ru) (env : List En) (k : Nat), lenOk 1000 env → lenAll env k rs → lenOk 1000 (runE env k rs)
  | [], env, k, h, _ => h
  | r :: rs, env, k, h, hw => lenOk_run rs _ _ (by
    unfold stepE
    split
    · exact h
    · intro e he
      rcases List.mem_append.mp he with he | he
      · exact h e he
      · rw [List.mem_singleton] at he; subst he; exact hw.1) hw.2
noncomputable def found1 : Xp := E.comp [none, none, some 6] (E.var 1) 1 (E.var 7) [E.cmp (Cp.is) (E.call "_ellipsis_match" [jn1, E.var 2]) (E.bool true)] none
noncomputable def found2 : Xp := E.comp [none, none, some 6] (E.var 1) 1 (E.var 7) [E.call "_law_stands" [E.var 1, E.var 2]] none
noncomputable def found3 : Xp := E.comp [none, none, some 6] (E.var 1) 1 (E.var 7) [E.cmp (Cp.isNot) (E.call "_ellipsis_match" [jn2, E.var 2]) (E.call "_law_spans" [E.var 1, E.var 2])] none
section
variable {W : Wd} (hW : W.length ≤ 1000) (h6 : σ[6]? = some (some (.val (.str (wS W))))) (h7 : σ[7]? = some (some (.val (.list (askedW.map fun t => .str (wS t))))))
include hW h6 h7
theorem capW : (([none, none, some 6] : List (Option Nat)).map fun c => match c with | some i => (σ[i]?).join | none => none) = [none, none, some (.val (.str (wS W)))] := by
  simp only [List.map_cons, List.map_nil, h6]; rfl
theorem found1_run : Ev 100 σ found1 (.list ((askedW.filter fun t => t.isSublist W).map fun t => .str (wS t))) := by
  have hc := cF (c1 := 80) (c2 := 1) (elt := E.var 1) (q := E.cmp (Cp.is) (E.call "_ellipsis_match" [jn1, E.var 2]) (E.bool true)) (t := 1) (fun t : Wd => .str (wS t)) (fun t : Wd => .str (wS t)) (fun t => t.isSublist W) askedW [none, none, some (.val (.str (wS W)))] fun t ht =>
    ⟨(Ts.cmp rfl (Ev.call (Evs.cons (e_jn1 ht _) (Evs.cons (Ev.var rfl) Evs.nil)) (m1_is ht hW)) (Ev.bool true) (by cases t.isSublist W <;> rfl)).le (by decide), fun _ => Ev.var rfl⟩
  rw [← capW hW h6 h7] at hc
  exact (Ev.comp (It.val h7 rfl) hc (by
    have := List.length_filter_le (fun t : Wd => t.isSublist W) askedW
    have h15 : askedW.length = 15 := rfl
    rw [List.length_map]; omega)).le (by decide)
theorem found2_run : Ev 100 σ found2 (.list ((askedW.filter fun t => t.isSublist W).map fun t => .str (wS t))) := by
  have hc := cF (c1 := 80) (c2 := 1) (elt := E.var 1) (q := E.call "_law_stands" [E.var 1, E.var 2]) (t := 1) (fun t : Wd => .str (wS t)) (fun t : Wd => .str (wS t)) (fun t => t.isSublist W) askedW [none, none, some (.val (.str (wS W)))] fun t ht =>
    ⟨(Ts.bool (Ev.call (Evs.cons (Ev.var rfl) (Evs.cons (Ev.var rfl) Evs.nil)) (stands_is ht)) rfl).le (by decide), fun _ => Ev.var rfl⟩
  rw [← capW hW h6 h7] at hc
  exact (Ev.comp (It.val h7 rfl) hc (by
    have := List.length_filter_le (fun t : Wd => t.isSublist W) askedW
    have h15 : askedW.length = 15 := rfl
    rw [List.length_map]; omega)).le (by decide)
theorem found3_run : Ev 100 σ found3 (.list []) := by
  have hc := cF (c1 := 80) (c2 := 1) (elt := E.var 1) (q := E.cmp (Cp.isNot) (E.call "_ellipsis_match" [jn2, E.var 2]) (E.call "_law_spans" [E.var 1, E.var 2])) (t := 1) (fun t : Wd => .str (wS t)) (fun t : Wd => .str (wS t)) (fun _ => false) askedW [none, none, some (.val (.str (wS W)))] fun t ht => by
    obtain ⟨q, m1, m2⟩ := m2_is (w := W) ht hW
    exact ⟨(Ts.cmp rfl (Ev.call (Evs.cons (e_jn2 ht _) (Evs.cons (Ev.var rfl) Evs.nil)) m1) (Ev.call (Evs.cons (Ev.var rfl) (Evs.cons (Ev.var rfl) Evs.nil)) m2) (by cases q <;> rfl)).le (by decide), fun _ => Ev.var rfl⟩
  rw [← capW hW h6 h7] at hc
  have he : (askedW.filter fun _ => false) = [] := by simp
  rw [he] at hc
  exact (Ev.comp (It.val h7 rfl) hc (by simp)).le (by decide)
end
theorem c_law (ns : List Int) (hn : ns.length ≤ 63) : Cl 250 "law" [.list (ns.map .int)] (.bool true) := by
  obtain ⟨is, h5, cc⟩ := c_cells ns hn
  obtain ⟨rs, h4, hok, cr⟩ := c_rules is h5
  have h2 : ∀ r ∈ rs, r.2.length = 2 := fun r hr => by obtain ⟨_, p, q, _, _, e⟩ := hok r hr; rw [e]; rfl
  have hlen : lenAll [] 0 (rs ++ [lastR]) := lenAll_two rs [] 0 1 (fun e he => nomatch he) (Nat.le_refl _) h2 (by rw [h4]; decide)
  have hall : ∀ r ∈ rs ++ [lastR], RuF r ∧ r.2.length ≤ 4 := fun r hr => by
    rcases List.mem_append.mp hr with h | h
    · obtain ⟨h1, p, q, hp, hq, e⟩ := hok r h
      refine ⟨⟨by omega, ?_, by rw [e]; simp, by rw [e]; simp⟩, by rw [e]; simp⟩
      rw [e]
      intro x hx
      simp only [List.mem_cons, List.not_mem_nil, or_false] at hx
      rcases hx with rfl | rfl <;> assumption
    · rw [List.mem_singleton] at h
      subst h
      exact ⟨⟨by decide, by decide, by decide, by decide⟩, by decide⟩
  have hal : (rs ++ [lastR]).length ≤ 900 := by simp; omega
  have h4in : (rs ++ [lastR]).any (fun q => q.1 == 4) = true := by simp [lastR]
  generalize rs ++ [lastR] = all at *
  have cw := c_words all hal (fun r hr => ⟨(hall r hr).1.p, (hall r hr).1.l⟩) hlen
  have hlook : (look (runE [] 0 all) 4).isSome = true := by rw [look_run, h4in]; simp
  obtain ⟨e4, he4⟩ := Option.isSome_iff_exists.mp hlook
  have hWl : e4.w.length ≤ 1000 := lenOk_run all [] 0 (fun e he => nomatch he) hlen e4 (List.mem_of_find?_eq_some he4)
  match is, h5 with
  | [x0, x1, x2, x3, x4], _ =>
  obtain ⟨a0, a1, a2, ha0, ha1, ha2, ca⟩ := c_figures x4
  obtain ⟨b0, b1, b2, hb0, hb1, hb2, cb⟩ := c_figures (x4 / 24)
  obtain ⟨ma, ta⟩ := fig_tells ha0 ha1 ha2
  obtain ⟨mb, tb⟩ := fig_tells hb0 hb1 hb2
  generalize mpOf a0 (max a0 a1) (max (max a0 a1) a2) = fa at *
  generalize mpOf b0 (max b0 b1) (max (max b0 b1) b2) = fb at *
  generalize figOf a0 a1 a2 = sa at *
  generalize figOf b0 b1 b2 = sb at *
  have cl := c_led ma mb ta tb all hal fun r hr => (hall r hr).1
  have hFl : (askedW.filter fun t => t.isSublist e4.w).length ≤ 1000 := by
    have := List.length_filter_le (fun t : Wd => t.isSublist e4.w) askedW
    have h15 : askedW.length = 15 := rfl
    omega
  have cd := c_due ma mb ta tb all hal (fun r hr => (hall r hr).1.n) hFl e4.w (fun e he => by rw [he4] at he; cases he; rfl) (max_found ma mb e4.w)
  have hnok : ∀ (rs : List Ru) (env : List En) (k : Nat), nOk env → (∀ r ∈ rs, r.1 < 5) → nOk (runE env k rs) := fun rs => by
    induction rs with
    | nil => exact fun env k h _ => h
    | cons r rs ih => exact fun env k h hr => ih _ _ (nOk_step h k (hr r (.head _))) fun q hq => hr q (.tail _ hq)
  have hbook := eq_book (bookOf fa fb sa sb (runE [] 0 all)) (fun p hp => by
    have hno := hnok all [] 0 (fun e he => nomatch he) fun r hr => (hall r hr).1.n
    refine ⟨List.all_eq_true.mp (book_ok (fa := fa) (fb := fb) (sa := sa) (sb := sb) hno) p hp, ?_⟩
    simp only [bookOf, base, List.cons_append, List.nil_append, List.mem_cons, List.mem_map] at hp
    rcases hp with rfl | rfl | rfl | rfl | ⟨e, _, rfl⟩
    · exact ta.ok
    · exact tb.ok
    · exact tb.ok
    · exact ta.ok
    · exact (fgW_tells ma mb e.w).ok)
  have hask : (askedL.map PyData.str) = askedW.map fun t => .str (wS t) := askedL_eq
  have cas := c_asked
  rw [hask] at cas
  have hrl := rowL_len all fun r hr => (hall r hr).2
  have hrow : bin2 .add (.list (rowL all)) (.list [.int 255]) = some (.list (rowL all ++ [.int 255])) := by
    simp only [bin2_add, bin2_addL, bin2_sub]
    rw [if_pos (by simp; omega)]
  obtain ⟨o4, kl⟩ := kinds_loop (o0 := some (.val (.list (ns.map .int)))) (o1 := some (.val (.list ([x0, x1, x2, x3, x4].map .int)))) (o2 := some (.val (.list (all.map ruD)))) (o3 := some (.val (.dict (wordsD (runE [] 0 all))))) (o5 := none) (rest := [some (.val (.list (rowL all))), none, none, none, none, none])
    (rowL all ++ [.int 255]) none (fun d hd => by
      rcases List.mem_append.mp hd with h | h
      · exact row_ints all d h
      · rw [List.mem_singleton] at h; exact ⟨_, h⟩)
  have hw4 : idx2 (.dict (wordsD (runE [] 0 all))) (.int 260) = some (.str (wS e4.w)) := by
    have := dGet_words 4 (runE [] 0 all)
    simp only [idx2_list, idx2_str, idx2_dict]
    rw [show (260 : Int) = ((256 + 4 : Nat) : Int) by omega, this, he4]
    rfl
  have hne1 : ∀ l : List Wd, cmp2 .ne (.list (l.map fun t => .str (wS t))) (.list (l.map fun t => .str (wS t))) = some false := fun l => by
    simp only [cmp2_lt, cmp2_le, cmp2_gt, cmp2_ge, cmp2_eq, cmp2_ne, cmp2_inI, cmp2_notInI, cmp2_inS, cmp2_notInS, cmp2_inT, cmp2_notInT, cmp2_notInL, eq_words]; rfl
  have hne2 : cmp2 .ne (.list []) (.list []) = some false := by rfl
  have hi4 : idx2 (.list ([x0, x1, x2, x3, x4].map .int)) (.int 4) = some (.int x4) := rfl
  have hdv : bin2 .fdiv (.int x4) (.int 24) = some (.int (x4 / 24)) := rfl
  refine (Cl.of (fn := b_law) (by kernel_rfl) ⟨rfl, Nat.le_of_ble_eq_true rfl⟩
    (Rn.cons (Ex1.asg (Ev.call (Evs.cons (Ev.var rfl) Evs.nil) cc))
    (Rn.cons (Ex1.asg (Ev.call (Evs.cons (Ev.var rfl) Evs.nil) cr))
    (Rn.cons (Ex1.asg (Ev.call (Evs.cons (Ev.var rfl) Evs.nil) cw))
    (Rn.cons (Ex1.asg (row_run all hal (fun r hr => (hall r hr).2) rfl))
    (Rn.cons (Ex1.forR (it := E.bin (Op2.add) (E.var 5) (E.lst [E.int 255])) (It.ev (Ev.bin (Ev.var rfl) (Ev.lst (Evs.cons (Ev.int 255) Evs.nil)) hrow) rfl rfl) kl)
    (Rn.cons (Ex1.asg (Ev.idx (Pk.var rfl) (Ev.int 260) hw4))
    (Rn.cons (Ex1.asg (Ev.call Evs.nil cas))
    (Rn.cons (Ex1.asg (found1_run hWl rfl rfl))
    (Rn.cons (Ex1.ifF (Ts.cmp rfl (Ev.var rfl) (found2_run hWl rfl rfl) (hne1 _)) Rn.nil)
    (Rn.cons (Ex1.ifF (Ts.cmp rfl (found3_run hWl rfl rfl) (Ev.lst Evs.nil) hne2) Rn.nil)
    (Rn.cons (Ex1.asg (Ev.call (Evs.cons (Ev.idx (Pk.var rfl) (Ev.int 4) hi4) Evs.nil) ca))
    (Rn.cons (Ex1.asg (Ev.call (Evs.cons (Ev.bin (Ev.idx (Pk.var rfl) (Ev.int 4) hi4) (Ev.int 24) hdv) Evs.nil) cb))
    (Rn.stop (Ex1.ret (Pk.ev (Ev.cmp rfl (Ev.call (Evs.cons (Ev.var rfl) (Evs.cons (Ev.var rfl) (Evs.cons (Ev.var rfl) Evs.nil))) cl)
      (Ev.call (Evs.cons (Ev.var rfl) (Evs.cons (Ev.var rfl) (Evs.cons (Ev.var rfl) (Evs.cons (Ev.var rfl) (Evs.cons (Ev.var rfl) Evs.nil))))) cd) hbook) rfl)))))))))))))))
    rfl).le (by decide)
theorem plain : ∀ ns : List Int, ns.length ≤ 63 → callF thePg (lo thePg 250) "law" [.list (ns.map .int)] = some (.bool true) := fun ns hn => c_law ns hn 250 (Nat.le_refl _)
end Mine
end
section
/-! What a frame's names hold: the plain data of the small language, told of a heap. -/
open PySem PySem.Calls PyProof.Rows PySem.W PySem.Spec
namespace Mine

/-- everything there is stays as it was -/
noncomputable def Pur (h h' : Heap) : Prop := ∀ b o, h.get? b = some o → h'.get? b = some o
theorem Pur.refl (h : Heap) : Pur h h := fun _ _ e => e
theorem Pur.trans {h h' h'' : Heap} (x : Pur h h') (y : Pur h' h'') : Pur h h'' := fun b o e => y b o (x b o e)
theorem Pur.push (h : Heap) (o : Obj) : Pur h (h.push o) := fun _ _ e => Heap.get?_push_of_some _ e

/-- what is not to be written stays as it was -/
noncomputable def Stp (M : Addr → Prop) (h : Heap) (M' : Addr → Prop) (h' : Heap) : Prop := ∀ b o, ¬ M b → h.get? b = some o → ¬ M' b ∧ h'.get? b = some o
theorem Stp.refl (M : Addr → Prop) (h : Heap) : Stp M h M h := fun _ _ n e => ⟨n, e⟩
theorem Stp.trans {M M' M'' : Addr → Prop} {h h' h'' : Heap} (x : Stp M h M' h') (y : Stp M' h' M'' h'') : Stp M h M'' h'' := fun b o n e =>
  let ⟨n', e'⟩ := x b o n e; y b o n' e'
theorem Pur.stp {h h' : Heap} (x : Pur h h') (M : Addr → Prop) : Stp M h M h' := fun b o n e => ⟨n, x b o e⟩
theorem Stp.same {M : Addr → Prop} {h h' : Heap} {a : Addr} (ha : M a) (x : Heap.SameBut a h h') : Stp M h M h' := fun b o n e => ⟨n, (x.2 b fun q => n (q ▸ ha)).trans e⟩
/-- a new object may be written -/
theorem Stp.new {M : Addr → Prop} {h h' : Heap} {a : Addr} (ha : h.get? a = none) (x : Pur h h') : Stp M h (fun b => b = a ∨ M b) h' := fun b o n e =>
  ⟨fun q => q.elim (fun q => by rw [q, ha] at e; cases e) n, x b o e⟩
theorem Stp.or {W W' O : Addr → Prop} {h h' : Heap} (x : Stp W h W' h') : Stp (fun b => W b ∨ O b) h (fun b => W' b ∨ O b) h' := fun b o n e =>
  let ⟨n', e'⟩ := x b o (fun q => n (.inl q)) e; ⟨fun q => q.elim n' fun q => n (.inr q), e'⟩

section
variable (prog : Program) (w : World)
mutual
/-- v is the plain data d, and no part of it is ever written -/
inductive FV (h : Heap) (M : Addr → Prop) : Value → D → Prop
  | none : FV h M .none .none
  | bool (b : Bool) : FV h M (.bool b) (.bool b)
  | int (i : Int) (t : Tok) : FV h M (.int i t) (.int i)
  | str (x : Str) (t : Tok) : FV h M (.str x t) (.str x)
  | list {a : Addr} {items : Array Value} {ds : List D} : ¬ M a → h.IsList a items → FVs h M items.toList ds → FV h M (.ref a) (.list ds)
  | tuple {a : Addr} {items : Array Value} {ds : List D} : ¬ M a → IsTup h a items → FVs h M items.toList ds → FV h M (.ref a) (.tuple ds)
  | dictI {a : Addr} {kvs : List (Int × Value)} {ds : List D} : ¬ M a → a ≠ sysModules → h.DictOf (intKind prog w) a kvs → FVs h M (kvs.map (·.2)) ds → FV h M (.ref a) (.dict ((kvs.map fun p => PyData.int p.1).zip ds))
  | dictS {a : Addr} {kvs : List (Str × Value)} {ds : List D} : ¬ M a → a ≠ sysModules → h.DictOf (strKind prog w) a kvs → FVs h M (kvs.map (·.2)) ds → FV h M (.ref a) (.dict ((kvs.map fun p => PyData.str p.1).zip ds))
inductive FVs (h : Heap) (M : Addr → Prop) : List Value → List D → Prop
  | nil : FVs h M [] []
  | cons {v : Value} {vs : List Value} {d : D} {ds : List D} : FV h M v d → FVs h M vs ds → FVs h M (v :: vs) (d :: ds)
end
variable {prog w}

theorem isList_stp {M M' : Addr → Prop} {h h' : Heap} {a : Addr} {items : Array Value} (st : Stp M h M' h') (n : ¬ M a) (x : h.IsList a items) : ¬ M' a ∧ h'.IsList a items :=
  let ⟨o, ho, r⟩ := x; ⟨(st a o n ho).1, o, (st a o n ho).2, r⟩
theorem isTup_stp {M M' : Addr → Prop} {h h' : Heap} {a : Addr} {items : Array Value} (st : Stp M h M' h') (n : ¬ M a) (x : IsTup h a items) : ¬ M' a ∧ IsTup h' a items :=
  let ⟨o, ho, r⟩ := x; ⟨(st a o n ho).1, o, (st a o n ho).2, r⟩
theorem dictOf_stp {K : Type} [DecidableEq K] {knd : KeyKind prog w K} {M M' : Addr → Prop} {h h' : Heap} {a : Addr} {kvs : List (K × Value)} (st : Stp M h M' h') (n : ¬ M a) (x : h.DictOf knd a kvs) : ¬ M' a ∧ h'.DictOf knd a kvs :=
  let ⟨o, es, ep, ho, r⟩ := x; ⟨(st a o n ho).1, o, es, ep, (st a o n ho).2, r⟩
mutual
theorem FV.stp {M M' : Addr → Prop} {h h' : Heap} (st : Stp M h M' h') : ∀ {v : Value} {d : D}, FV prog w h M v d → FV prog w h' M' v d
  | _, _, .none => .none
  | _, _, .bool b => .bool b
  | _, _, .int i t => .int i t
  | _, _, .str x t => .str x t
  | _, _, .list n x r => let ⟨n', x'⟩ := isList_stp st n x; .list n' x' (FVs.stp st r)
  | _, _, .tuple n x r => let ⟨n', x'⟩ := isTup_stp st n x; .tuple n' x' (FVs.stp st r)
  | _, _, .dictI n m x r => let ⟨n', x'⟩ := dictOf_stp st n x; .dictI n' m x' (FVs.stp st r)
  | _, _, .dictS n m x r => let ⟨n', x'⟩ := dictOf_stp st n x; .dictS n' m x' (FVs.stp st r)
theorem FVs.stp {M M' : Addr → Prop} {h h' : Heap} (st : Stp M h M' h') : ∀ {vs : List Value} {ds : List D}, FVs prog w h M vs ds → FVs prog w h' M' vs ds
  | _, _, .nil => .nil
  | _, _, .cons x r => .cons (FV.stp st x) (FVs.stp st r)
end
theorem FV.pur {M : Addr → Prop} {h h' : Heap} (p : Pur h h') {v : Value} {d : D} (x : FV prog w h M v d) : FV prog w h' M v d := x.stp (p.stp M)
theorem FVs.pur {M : Addr → Prop} {h h' : Heap} (p : Pur h h') {vs : List Value} {ds : List D} (x : FVs prog w h M vs ds) : FVs prog w h' M vs ds := x.stp (p.stp M)
theorem FVs.length {M : Addr → Prop} {h : Heap} : ∀ {vs : List Value} {ds : List D}, FVs prog w h M vs ds → vs.length = ds.length
  | _, _, .nil => rfl
  | _, _, .cons _ r => by rw [List.length_cons, List.length_cons, r.length]
theorem FVs.append {M : Addr → Prop} {h : Heap} : ∀ {vs us : List Value} {ds es : List D}, FVs prog w h M vs ds → FVs prog w h M us es → FVs prog w h M (vs ++ us) (ds ++ es)
  | _, _, _, _, .nil, y => y
  | _, _, _, _, .cons x r, y => .cons x (r.append y)
theorem FVs.get {M : Addr → Prop} {h : Heap} : ∀ {vs : List Value} {ds : List D}, FVs prog w h M vs ds → ∀ {k : Nat} {d : D}, ds[k]? = some d → ∃ v, vs[k]? = some v ∧ FV prog w h M v d
  | _, _, .nil, _, _, e => by cases e
  | _, _, .cons x r, 0, _, e => by cases e; exact ⟨_, rfl, x⟩
  | _, _, .cons x r, k + 1, _, e => r.get (k := k) e
theorem FVs.get' {M : Addr → Prop} {h : Heap} : ∀ {vs : List Value} {ds : List D}, FVs prog w h M vs ds → ∀ {k : Nat} {v : Value}, vs[k]? = some v → ∃ d, ds[k]? = some d ∧ FV prog w h M v d
  | _, _, .nil, _, _, e => by cases e
  | _, _, .cons x r, 0, _, e => by cases e; exact ⟨_, rfl, x⟩
  | _, _, .cons x r, k + 1, _, e => r.get' (k := k) e
theorem FVs.take {M : Addr → Prop} {h : Heap} : ∀ {vs : List Value} {ds : List D}, FVs prog w h M vs ds → ∀ k, FVs prog w h M (vs.take k) (ds.take k)
  | _, _, .nil, _ => by simp; exact .nil
  | _, _, .cons x r, 0 => .nil
  | _, _, .cons x r, k + 1 => .cons x (r.take k)
theorem FVs.drop {M : Addr → Prop} {h : Heap} : ∀ {vs : List Value} {ds : List D}, FVs prog w h M vs ds → ∀ k, FVs prog w h M (vs.drop k) (ds.drop k)
  | _, _, .nil, _ => by simp; exact .nil
  | _, _, .cons x r, 0 => .cons x r
  | _, _, .cons x r, k + 1 => r.drop k
variable (prog w)
/-- what is read at once: the outermost object may be one that the frame writes later -/
inductive PV (h : Heap) (M : Addr → Prop) : Value → D → Prop
  | of {v : Value} {d : D} : FV prog w h M v d → PV h M v d
  | list {a : Addr} {items : Array Value} {ds : List D} : h.IsList a items → FVs prog w h M items.toList ds → PV h M (.ref a) (.list ds)
  | dictI {a : Addr} {kvs : List (Int × Value)} {ds : List D} : a ≠ sysModules → h.DictOf (intKind prog w) a kvs → FVs prog w h M (kvs.map (·.2)) ds → PV h M (.ref a) (.dict ((kvs.map fun p => PyData.int p.1).zip ds))
  | dictS {a : Addr} {kvs : List (Str × Value)} {ds : List D} : a ≠ sysModules → h.DictOf (strKind prog w) a kvs → FVs prog w h M (kvs.map (·.2)) ds → PV h M (.ref a) (.dict ((kvs.map fun p => PyData.str p.1).zip ds))
variable {prog w}
theorem PV.pur {M : Addr → Prop} {h h' : Heap} (p : Pur h h') {v : Value} {d : D} (x : PV prog w h M v d) : PV prog w h' M v d := by
  cases x with
  | of x => exact .of (x.pur p)
  | list x r => obtain ⟨o, ho, q⟩ := x; exact .list ⟨o, p _ _ ho, q⟩ (r.pur p)
  | dictI n x r => exact .dictI n (x.keep p) (r.pur p)
  | dictS n x r => exact .dictS n (x.keep p) (r.pur p)
theorem PV.asList {M : Addr → Prop} {h : Heap} {v : Value} {ds : List D} (x : PV prog w h M v (.list ds)) : ∃ a items, v = .ref a ∧ h.IsList a items ∧ FVs prog w h M items.toList ds := by
  cases x with
  | of x => cases x with | list n x r => exact ⟨_, _, rfl, x, r⟩
  | list x r => exact ⟨_, _, rfl, x, r⟩

variable (prog w)
/-- a Headers: its object, its dict, the list of pairs -/
noncomputable def IsBook (B : Heap) (h : Heap) (M : Addr → Prop) (v : Value) (l : List (Str × Str)) (fp : List Addr) : Prop := ∃ (x dx hl : Addr) (es : List DictEntry) (n k : Nat) (items : List Value) (C : Addr),
  v = .ref x ∧ fp = [x, dx, hl] ∧ h.get? x = some (instObj C dx) ∧ h.get? dx = some (dictOf es n) ∧ h.get? hl = some (listOf items.toArray k) ∧ B.nsMap mainGlobals (Str.ofString "Headers") = some (.ref C) ∧
  (∃ hs t, es = [⟨hs, .str (Str.ofString "_headers") t, .ref hl⟩] ∧ hs = PyData.keyHash w.params (Str.ofString "_headers")) ∧ x ≠ dx ∧ x ≠ hl ∧ dx ≠ hl ∧
  FVs prog w h M items (l.map fun p => .tuple [.str p.1, .str p.2])

/-- what a name holds -/
inductive SV (B : Heap) (h : Heap) (M : Addr → Prop) : Slot → Value → List Addr → Prop
  | val {d : D} {v : Value} : FV prog w h M v d → SV B h M (.val d) v []
  | list {a : Addr} {n : Nat} {vs : List Value} {ds : List D} : M a → h.get? a = some (listOf vs.toArray n) → FVs prog w h M vs ds → SV B h M (.own (.list ds)) (.ref a) [a]
  | dictI {a : Addr} {kvs : List (Int × Value)} {ds : List D} : M a → a ≠ sysModules → h.DictOf (intKind prog w) a kvs → FVs prog w h M (kvs.map (·.2)) ds → SV B h M (.own (.dict ((kvs.map fun p => PyData.int p.1).zip ds))) (.ref a) [a]
  | dictS {a : Addr} {kvs : List (Str × Value)} {ds : List D} : M a → a ≠ sysModules → h.DictOf (strKind prog w) a kvs → FVs prog w h M (kvs.map (·.2)) ds → SV B h M (.own (.dict ((kvs.map fun p => PyData.str p.1).zip ds))) (.ref a) [a]
  | book {v : Value} {l : List (Str × Str)} {fp : List Addr} : (∀ a ∈ fp, M a) → IsBook prog w B h M v l fp → SV B h M (.book l) v fp
variable {prog w}
theorem SV.inM {B h : Heap} {M : Addr → Prop} {sl : Slot} {v : Value} {fp : List Addr} (x : SV prog w B h M sl v fp) : ∀ a ∈ fp, M a := by
  cases x with
  | val => intro a h; cases h
  | list m => intro a h; cases h with | head => exact m | tail _ h => cases h
  | dictI m => intro a h; cases h with | head => exact m | tail _ h => cases h
  | dictS m => intro a h; cases h with | head => exact m | tail _ h => cases h
  | book m => exact m
/-- it goes on to hold it while its own objects stand -/
theorem SV.stp {B : Heap} {M M' : Addr → Prop} {h h' : Heap} (st : Stp M h M' h') {sl : Slot} {v : Value} {fp : List Addr} (own : ∀ a ∈ fp, ∀ o, h.get? a = some o → h'.get? a = some o) (hm : ∀ a ∈ fp, M' a)
    (x : SV prog w B h M sl v fp) : SV prog w B h' M' sl v fp := by
  cases x with
  | val x => exact .val (x.stp st)
  | list m x r => exact .list (hm _ (.head _)) (own _ (.head _) _ x) (r.stp st)
  | dictI m n x r => obtain ⟨o, es, ep, ho, q⟩ := x; exact .dictI (hm _ (.head _)) n ⟨o, es, ep, own _ (.head _) _ ho, q⟩ (r.stp st)
  | dictS m n x r => obtain ⟨o, es, ep, ho, q⟩ := x; exact .dictS (hm _ (.head _)) n ⟨o, es, ep, own _ (.head _) _ ho, q⟩ (r.stp st)
  | book m x =>
    refine .book hm ?_
    obtain ⟨x, dx, hl, es, n, k, items, C, rfl, rfl, h1, h2, h3, h4, h5, h6, h7, h8, h9⟩ := x
    exact ⟨x, dx, hl, es, n, k, items, C, rfl, rfl, own _ (by simp) _ h1, own _ (by simp) _ h2, own _ (by simp) _ h3, h4, h5, h6, h7, h8, h9.stp st⟩

/-- where a name's value stands -/
noncomputable def At (env : Env) (h : Heap) (x : Str) (v : Value) : Prop :=
  (env.kindOf x = some .local ∧ ∃ m, h.Ns env.locals m ∧ m x = some v) ∨
  ((env.kindOf x = some .cell ∨ env.kindOf x = some .free) ∧ ∃ c, env.cells.lookup x = some c ∧ h.IsCell c (some v))

variable (prog w)
/-- the frame: its names hold what σ says; fp: the objects that each name owns -/
structure Rl (B : Heap) (ns : Names) (env : Env) (W O : Addr → Prop) (σ : Sg) (h : Heap) : Prop where
  base : ∀ b o, B.get? b = some o → ¬ (W b ∨ O b) ∧ h.get? b = some o
  loc : W env.locals ∧ ∃ m, h.Ns env.locals m
  live : ∀ a, (W a ∨ O a) → ∃ o, h.get? a = some o
  disj : ∀ a, W a → ¬ O a
  cell : ∀ x c, env.cells.lookup x = some c → c ≠ env.locals ∧ (W c ∨ O c) ∧ ∃ v, h.IsCell c v
  apart : ∀ x y c, env.cells.lookup x = some c → env.cells.lookup y = some c → x = y
  vars : ∃ fp : Nat → List Addr, (∀ i sl, σ[i]? = some (some sl) → ∃ x v, (nmOf ns)[i]? = some x ∧ At env h x v ∧ SV prog w B h (fun b => W b ∨ O b) sl v (fp i)) ∧
    (∀ i a, a ∈ fp i → W a ∧ a ≠ env.locals ∧ (∀ x, env.cells.lookup x ≠ some a)) ∧ (∀ i j a, a ∈ fp i → a ∈ fp j → i = j)
variable {prog w}

/-- what the frame is -/
structure Cx (ns : Names) (env : Env) (A : Around) (n : Nat) : Prop where
  names : env.scope.names = ns
  wf : wfN ns = true
  cells : ∀ x, ns.lookup x = some .cell ∨ ns.lookup x = some .free → ∃ c, env.cells.lookup x = some c
  kind : env.scope.kind = .function
  globals : env.globals = mainGlobals
  builtins : env.builtins = builtinsNs
  handled : A.handled = none
  depth : A.depth + n + 10 < recursionLimit
  units : A.units + 4 * n + 200 < cLine

theorem At.pur {env : Env} {h h' : Heap} {x : Str} {v : Value} (p : Pur h h') (a : At env h x v) : At env h' x v := by
  rcases a with ⟨k, m, hn, hm⟩ | ⟨k, c, hc, hv⟩
  · exact .inl ⟨k, m, hn.keeps p, hm⟩
  · exact .inr ⟨k, c, hc, hv.keeps p⟩
theorem Rl.pur {B : Heap} {ns : Names} {env : Env} {W O : Addr → Prop} {σ : Sg} {h h' : Heap} (p : Pur h h') (R : Rl prog w B ns env W O σ h) : Rl prog w B ns env W O σ h' := by
  refine ⟨fun b o e => ⟨(R.base b o e).1, p _ _ (R.base b o e).2⟩, ⟨R.loc.1, let ⟨m, hm⟩ := R.loc.2; ⟨m, hm.keeps p⟩⟩, fun a ha => let ⟨o, e⟩ := R.live a ha; ⟨o, p _ _ e⟩, R.disj, fun x c e => ?_, R.apart, ?_⟩
  · obtain ⟨a, b, v, hv⟩ := R.cell x c e
    exact ⟨a, b, v, hv.keeps p⟩
  · obtain ⟨fp, h1, h2, h3⟩ := R.vars
    refine ⟨fp, fun i sl e => ?_, h2, h3⟩
    obtain ⟨x, v, a, b, c⟩ := h1 i sl e
    exact ⟨x, v, a, b.pur p, c.stp (p.stp _) (fun a _ o e => p a o e) c.inM⟩
/-- less may be said -/
theorem Rl.less {B : Heap} {ns : Names} {env : Env} {W O : Addr → Prop} {σ σ' : Sg} {h : Heap} (R : Rl prog w B ns env W O σ h) (hs : ∀ (i : Nat) (sl : Slot), σ'[i]? = some (some sl) → σ[i]? = some (some sl)) : Rl prog w B ns env W O σ' h :=
  ⟨R.base, R.loc, R.live, R.disj, R.cell, R.apart, let ⟨fp, h1, h2, h3⟩ := R.vars; ⟨fp, fun i sl e => h1 i sl (hs i sl e), h2, h3⟩⟩

/-- a name that this frame may bind -/
noncomputable def Own (env : Env) (W : Addr → Prop) (x : Str) : Prop := env.kindOf x = some .local ∨ (env.kindOf x = some .cell ∧ ∃ c, env.cells.lookup x = some c ∧ W c)
theorem nmOf_nodup {ns : Names} (h : wfN ns = true) : (nmOf ns).Nodup :=
  ((List.filter_sublist (p := fun p : Str × NameKind => isVar p.2) (l := ns)).map (fun p : Str × NameKind => p.1)).nodup (of_decide_eq_true h)
theorem varIx_at {ns : Names} {x : Str} {i : Nat} (h : varIx ns x = some i) : (nmOf ns)[i]? = some x := by
  obtain ⟨hl, hp, _⟩ := List.findIdx?_eq_some_iff_getElem.mp h
  rw [List.getElem?_eq_getElem hl]
  exact congrArg some (beq_iff_eq.mp hp)
theorem nd_inj {α : Type} {x : α} : ∀ {l : List α}, l.Nodup → ∀ {i j : Nat}, l[i]? = some x → l[j]? = some x → i = j
  | [], _, _, _, hi, _ => by cases hi
  | a :: l, nd, 0, 0, _, _ => rfl
  | a :: l, nd, 0, j + 1, hi, hj => by
    cases hi
    exact absurd (List.mem_of_getElem? (l := l) hj) (List.nodup_cons.mp nd).1
  | a :: l, nd, i + 1, 0, hi, hj => by
    cases hj
    exact absurd (List.mem_of_getElem? (l := l) hi) (List.nodup_cons.mp nd).1
  | a :: l, nd, i + 1, j + 1, hi, hj => congrArg (· + 1) (nd_inj (List.nodup_cons.mp nd).2 (i := i) (j := j) hi hj)
theorem nm_inj {ns : Names} (h : wfN ns = true) {i j : Nat} {x : Str} (hi : (nmOf ns)[i]? = some x) (hj : (nmOf ns)[j]? = some x) : i = j := by
  exact nd_inj (nmOf_nodup h) hi hj

section
variable {M : Model} {A : Around} {E : Value → Shared → Prop} {s : Shared}
theorem ld_at {env : Env} {x : Str} {pos : Pos} {v : Value} {Q : Value → Shared → Prop} (hk : env.scope.kind = .function) (a : At env s.heap x v) (h : Q v s)
    (h1 : (x == ("__debug__" : Str)) = false) (h2 : (x == ("__classdict__" : Str)) = false) : wpAny M A (eval (.Name x pos) env) Q E s := by
  refine wpAny_Name ?_ h1
  rcases a with ⟨k, m, hn, hm⟩ | ⟨k | k, c, hc, hv⟩
  · exact wpAny_loadName_local hk k hn hm h
  · exact wpAny_loadName_cell hk k hc hv h
  · exact wpAny_loadName_free hk k hc hv h h2
end

theorem st_at' {M : Model} {A : Around} {E : Value → Shared → Prop} {s : Shared} {B : Heap} {ns : Names} {env : Env} {W O : Addr → Prop} {σ : Sg} {x : Str} {i : Nat} {v : Value} {sl : Slot} {fpn : List Addr} {Q : Unit → Shared → Prop}
    (R : Rl prog w B ns env W O σ s.heap) (hk : env.scope.kind = .function) (wf : wfN ns = true) (own : Own env W x) (ix : (nmOf ns)[i]? = some x) (fp : Nat → List Addr)
    (f1 : ∀ i sl, σ[i]? = some (some sl) → ∃ x v, (nmOf ns)[i]? = some x ∧ At env s.heap x v ∧ SV prog w B s.heap (fun b => W b ∨ O b) sl v (fp i)) (f2 : ∀ i a, a ∈ fp i → W a ∧ a ≠ env.locals ∧ (∀ x, env.cells.lookup x ≠ some a)) (f3 : ∀ i j a, a ∈ fp i → a ∈ fp j → i = j)
    (hv : SV prog w B s.heap (fun b => W b ∨ O b) sl v fpn) (hf : ∀ a ∈ fpn, W a ∧ a ≠ env.locals ∧ (∀ x, env.cells.lookup x ≠ some a))
    (hd : ∀ j a, j ≠ i → a ∈ fpn → a ∈ fp j → (∀ (sl : Slot), σ[j]? ≠ some (some sl)))
    (h : ∀ h' tk, Rl prog w B ns env W O (σ.set i (some sl)) h' → Heap.SameBut env.locals s.heap h' ∨ (∃ c, env.cells.lookup x = some c ∧ Heap.SameBut c s.heap h') → Stp W s.heap W h' → Q () { s with heap := h', toks := tk }) :
    wpAny M A (storeName env x v) Q E s := by
  have hp : (env.scope.kind == .class || (env.scope.kind == .module && env.locals != env.globals)) = false := by rw [hk]; rfl
  have key : ∀ (h' : Heap) (z : Addr), W z → Heap.SameBut z s.heap h' → (∃ m, h'.Ns env.locals m) → (∀ y c, env.cells.lookup y = some c → ∃ v, h'.IsCell c v) → (z = env.locals ∨ ∃ y, env.cells.lookup y = some z) → At env h' x v →
      (∀ y u, y ≠ x → At env s.heap y u → At env h' y u) → Rl prog w B ns env W O (σ.set i (some sl)) h' := by
    intro h' z hz same hn hc hzz hx hy
    have st : Stp (fun b => W b ∨ O b) s.heap (fun b => W b ∨ O b) h' := Stp.same (.inl hz) same
    have off : ∀ a, a ≠ env.locals → (∀ y, env.cells.lookup y ≠ some a) → a ≠ z := fun a n1 n2 e => by
      rcases hzz with q | ⟨y, q⟩
      · exact n1 (e.trans q)
      · exact n2 y (e ▸ q)
    refine ⟨fun b o e => st b o (R.base b o e).1 (R.base b o e).2, ⟨R.loc.1, hn⟩, fun a ha => ?_, R.disj, fun y c e => ⟨(R.cell y c e).1, (R.cell y c e).2.1, hc y c e⟩, R.apart, ?_⟩
    · by_cases q : a = z
      · rcases hzz with q' | ⟨y, q'⟩
        · obtain ⟨m, o, _, _, ho, _⟩ := hn
          exact ⟨o, by rw [q, q']; exact ho⟩
        · obtain ⟨v, o, ho, _⟩ := hc y z q'
          exact ⟨o, by rw [q]; exact ho⟩
      · obtain ⟨o, e⟩ := R.live a ha
        exact ⟨o, (same.2 a q).trans e⟩
    -- a name that says nothing owns nothing
    refine ⟨fun j => if j = i then fpn else (match σ[j]? with | some (some _) => fp j | _ => []), ?_, ?_, ?_⟩
    · intro j sj ej
      rw [List.getElem?_set] at ej
      by_cases hj : i = j
      · subst hj
        rw [if_pos rfl] at ej
        split at ej
        · cases ej
          dsimp only
          rw [if_pos rfl]
          exact ⟨x, v, ix, hx, hv.stp st (fun a ha o e => (same.2 a (off a (hf a ha).2.1 (hf a ha).2.2)).trans e) hv.inM⟩
        · cases ej
      · rw [if_neg hj] at ej
        obtain ⟨y, u, a, b, c⟩ := f1 j sj ej
        dsimp only
        rw [if_neg (Ne.symm hj), ej]
        have hne : y ≠ x := fun q => hj (nm_inj wf ix (q ▸ a))
        exact ⟨y, u, a, hy y u hne b, c.stp st (fun a ha o e => (same.2 a (off a (f2 j a ha).2.1 (f2 j a ha).2.2)).trans e) c.inM⟩
    · intro j a ha
      dsimp only at ha
      split at ha
      · exact hf a ha
      · split at ha
        · exact f2 j a ha
        · cases ha
    · intro j k a hj hk'
      dsimp only at hj hk'
      split at hj <;> split at hk'
      · rename_i e1 e2; rw [e1, e2]
      · rename_i e1 e2
        split at hk'
        · rename_i sl' q; exact absurd q (hd k a e2 hj hk' _)
        · cases hk'
      · rename_i e1 e2
        split at hj
        · rename_i sl' q; exact absurd q (hd j a e1 hk' hj _)
        · cases hj
      · split at hj <;> split at hk'
        · exact f3 j k a hj hk'
        · cases hk'
        · cases hj
        · cases hj
  rcases own with k | ⟨k, c, hc, wc⟩
  · obtain ⟨m, hm⟩ := R.loc.2
    refine wpAny_storeName_local k hm (fun h' hn' same => ?_) hp
    refine h h' _ (key h' env.locals R.loc.1 same ⟨_, hn'⟩ (fun y c e => ?_) (.inl rfl) (.inl ⟨k, _, hn', by simp⟩) fun y u hne a => ?_) (.inl same) (Stp.same R.loc.1 same)
    · obtain ⟨n, _, v, hv⟩ := R.cell y c e
      exact ⟨v, hv.sameBut same n⟩
    · rcases a with ⟨ky, m', hm', e⟩ | ⟨ky, c, hc, e⟩
      · refine .inl ⟨ky, _, hn', ?_⟩
        rw [if_neg hne, ← e]
        obtain ⟨o1, es1, ep1, g1, d1, s1, n1⟩ := hm
        obtain ⟨o2, es2, ep2, g2, d2, s2, n2⟩ := hm'
        rw [g1] at g2; cases g2
        rw [d1] at d2; cases d2
        rw [← n1 y, ← n2 y]
      · exact .inr ⟨ky, c, hc, e.sameBut same (R.cell y c hc).1⟩
  · obtain ⟨n, _, v0, hv0⟩ := R.cell x c hc
    refine wpAny_storeName_cell hk k hc hv0 fun h' hv' same => ?_
    refine h h' _ (key h' c wc same (let ⟨m, hm⟩ := R.loc.2; ⟨m, hm.sameBut same (Ne.symm n)⟩) (fun y c' e => ?_) (.inr ⟨x, hc⟩) (.inr ⟨.inl k, c, hc, hv'⟩) fun y u hne a => ?_) (.inr ⟨c, hc, same⟩) (Stp.same wc same)
    · by_cases q : c' = c
      · subst q; exact ⟨_, hv'⟩
      · obtain ⟨_, _, v, hv⟩ := R.cell y c' e
        exact ⟨v, hv.sameBut same q⟩
    · rcases a with ⟨ky, m', hm', e⟩ | ⟨ky, c', hc', e⟩
      · exact .inl ⟨ky, m', hm'.sameBut same (Ne.symm n), e⟩
      · exact .inr ⟨ky, c', hc', e.sameBut same fun q => hne (R.apart y x c' hc' (q ▸ hc))⟩
theorem st_at {M : Model} {A : Around} {E : Value → Shared → Prop} {s : Shared} {B : Heap} {ns : Names} {env : Env} {W O : Addr → Prop} {σ : Sg} {x : Str} {i : Nat} {v : Value} {sl : Slot} {fpn : List Addr} {Q : Unit → Shared → Prop}
    (R : Rl prog w B ns env W O σ s.heap) (hk : env.scope.kind = .function) (wf : wfN ns = true) (own : Own env W x) (ix : (nmOf ns)[i]? = some x)
    (hv : SV prog w B s.heap (fun b => W b ∨ O b) sl v fpn) (hf : ∀ a ∈ fpn, W a ∧ a ≠ env.locals ∧ (∀ x, env.cells.lookup x ≠ some a))
    (hd : ∀ fp : Nat → List Addr, (∀ (i : Nat) (sl : Slot), σ[i]? = some (some sl) → ∃ x v, (nmOf ns)[i]? = some x ∧ At env s.heap x v ∧ SV prog w B s.heap (fun b => W b ∨ O b) sl v (fp i)) → ∀ j a, j ≠ i → a ∈ fpn → a ∈ fp j → (∀ (sl : Slot), σ[j]? ≠ some (some sl)))
    (h : ∀ h' tk, Rl prog w B ns env W O (σ.set i (some sl)) h' → Heap.SameBut env.locals s.heap h' ∨ (∃ c, env.cells.lookup x = some c ∧ Heap.SameBut c s.heap h') → Stp W s.heap W h' → Q () { s with heap := h', toks := tk }) :
    wpAny M A (storeName env x v) Q E s := by
  obtain ⟨fp, f1, f2, f3⟩ := R.vars
  exact st_at' R hk wf own ix fp f1 f2 f3 hv hf (hd fp f1) h
end
end Mine
end
section
/-! The operations over plain data: what the small language's tables say is what the model does. -/
open PySem PySem.Calls PyProof.Rows PySem.W PySem.Spec
namespace Mine

/-- every object that may be written is there -/
noncomputable def Live (M : Addr → Prop) (h : Heap) : Prop := ∀ a, M a → ∃ o, h.get? a = some o
theorem Live.pur {M : Addr → Prop} {h h' : Heap} (p : Pur h h') (l : Live M h) : Live M h' := fun a m => let ⟨o, e⟩ := l a m; ⟨o, p _ _ e⟩
theorem Live.new {M : Addr → Prop} {h : Heap} (l : Live M h) : ¬ M h.objs.size := fun m => let ⟨_, e⟩ := l _ m; Nat.lt_irrefl _ (Heap.lt_size e)

section
variable (prog : Program) (w : World)
/-- an answer that is the data d -/
noncomputable def Ret (M : Addr → Prop) (s : Shared) (d : D) (Q : Value → Shared → Prop) : Prop := ∀ v h' tk, Pur s.heap h' → FV prog w h' M v d → Q v { s with heap := h', toks := tk }
variable {prog w}
variable {A : Around} {E : Value → Shared → Prop} {s : Shared} {M : Addr → Prop} {Q : Value → Shared → Prop}
theorem Ret.int {i : Int} (r : Ret prog w M s (.int i) Q) (t k : Nat) : Q (.int i t) { s with toks := k } := r _ s.heap k (Pur.refl _) (.int i t)
theorem Ret.str {x : Str} (r : Ret prog w M s (.str x) Q) (t k : Nat) : Q (.str x t) { s with toks := k } := r _ s.heap k (Pur.refl _) (.str x t)
theorem Ret.bool {b : Bool} (r : Ret prog w M s (.bool b) Q) : Q (.bool b) s := r _ s.heap s.toks (Pur.refl _) (.bool b)
theorem Ret.here {d : D} {v : Value} (r : Ret prog w M s d Q) (x : FV prog w s.heap M v d) : Q v s := r _ s.heap s.toks (Pur.refl _) x
theorem Ret.here' {d : D} {v : Value} {k : Nat} (r : Ret prog w M s d Q) (x : FV prog w s.heap M v d) : Q v { s with toks := k } := r _ s.heap k (Pur.refl _) x

theorem newObj_isList (h : Heap) (vs : Array Value) : (h.push { cls := .type "list", data := .seq vs }).IsList h.objs.size vs := ⟨_, Heap.get?_push_size _ rfl, rfl, _, rfl⟩
/-- a new list of known data -/
theorem Ret.newList {vs : Array Value} {ds : List D} (l : Live M s.heap) (r : Ret prog w M s (.list ds) Q) (x : FVs prog w s.heap M vs.toList ds) :
    Q (.ref s.heap.objs.size) { s with heap := s.heap.push { cls := .type "list", data := .seq vs } } :=
  r _ _ s.toks (Pur.push _ _) (.list l.new (newObj_isList _ _) (x.pur (Pur.push _ _)))

noncomputable def opOf : Op2 → Operator
  | .add => .Add | .sub => .Sub | .fdiv => .FloorDiv | .fmod => .Mod
theorem cOp_of {o : Operator} {p : Op2} (e : cOp o = some p) : o = opOf p := by cases o <;> simp [cOp] at e <;> subst e <;> rfl

theorem or_inv {α : Type} {a b : Option α} {x : α} {C : Prop} (h : a.or b = some x) (h1 : a = some x → C) (h2 : b = some x → C) : C := by
  cases a
  · exact h2 h
  · exact h1 h
theorem both_inv {α β : Type} {f : D → Option α} {k : α → α → Option β} {x y : D} {z : β} {C : Prop} (h : both f k x y = some z) (H : ∀ a b, f x = some a → f y = some b → k a b = some z → C) : C := by
  obtain ⟨a, h1, h⟩ := Option.bind_eq_some_iff.mp h
  obtain ⟨b, h2, h⟩ := Option.bind_eq_some_iff.mp h
  exact H a b h1 h2 h
theorem bnd {α β : Type} {a : Option α} {f : α → Option β} {x : β} {C : Prop} (h : a.bind f = some x) (H : ∀ y, a = some y → f y = some x → C) : C := by
  cases a
  · cases h
  · exact H _ rfl h
theorem map_inv {α β : Type} {a : Option α} {f : α → β} {x : β} {C : β → Prop} (h : a.map f = some x) (H : ∀ y, a = some y → C (f y)) : C x := by
  cases a
  · cases h
  · cases h; exact H _ rfl
theorem iteS {α : Type} {c : Prop} [Decidable c] {a x : α} {C : α → Prop} (h : (if c then some a else none) = some x) (H : c → C a) : C x := by
  by_cases q : c
  · rw [if_pos q] at h; cases h; exact H q
  · rw [if_neg q] at h; cases h
theorem someE {α : Type} {a x : α} {C : α → Prop} (h : some a = some x) (H : C a) : C x := by cases h; exact H
theorem asI_inv {x : D} {i : Int} {C : D → Prop} (h : asI x = some i) (H : C (.int i)) : C x := by cases x <;> first | (cases h; done) | (cases h; exact H)
theorem asS_inv {x : D} {i : Str} {C : D → Prop} (h : asS x = some i) (H : C (.str i)) : C x := by cases x <;> first | (cases h; done) | (cases h; exact H)
theorem asB_inv {x : D} {i : Bool} {C : D → Prop} (h : asB x = some i) (H : C (.bool i)) : C x := by cases x <;> first | (cases h; done) | (cases h; exact H)
theorem asN_inv {x : D} {i : Unit} {C : D → Prop} (h : asN x = some i) (H : C .none) : C x := by cases x <;> first | (cases h; done) | exact H
theorem asL_inv {x : D} {i : List D} {C : D → Prop} (h : asL x = some i) (H : C (.list i)) : C x := by cases x <;> first | (cases h; done) | (cases h; exact H)
theorem asM_inv {x : D} {i : List (D × D)} {C : D → Prop} (h : asM x = some i) (H : C (.dict i)) : C x := by cases x <;> first | (cases h; done) | (cases h; exact H)
theorem FV.I {h : Heap} {v : Value} {d : D} {i : Int} {C : Value → Prop} (x : FV prog w h M v d) (e : asI d = some i) (H : ∀ t, C (.int i t)) : C v := by cases x <;> first | (cases e; done) | (cases e; exact H _)
theorem FV.S {h : Heap} {v : Value} {d : D} {i : Str} {C : Value → Prop} (x : FV prog w h M v d) (e : asS d = some i) (H : ∀ t, C (.str i t)) : C v := by cases x <;> first | (cases e; done) | (cases e; exact H _)
theorem FV.B {h : Heap} {v : Value} {d : D} {i : Bool} {C : Value → Prop} (x : FV prog w h M v d) (e : asB d = some i) (H : C (.bool i)) : C v := by cases x <;> first | (cases e; done) | (cases e; exact H)
theorem FV.N {h : Heap} {v : Value} {d : D} {i : Unit} {C : Value → Prop} (x : FV prog w h M v d) (e : asN d = some i) (H : C .none) : C v := by cases x <;> first | (cases e; done) | exact H
theorem FV.L {h : Heap} {v : Value} {d : D} {i : List D} {C : Value → Prop} (x : FV prog w h M v d) (e : asL d = some i) (H : ∀ a items, h.IsList a items → FVs prog w h M items.toList i → C (.ref a)) : C v := by
  cases x with
  | list n il f => cases e; exact H _ _ il f
  | _ => cases e
theorem PV.fv {h : Heap} {v : Value} {d : D} (x : PV prog w h M v d) (n1 : asL d = none) (n2 : asM d = none) : FV prog w h M v d := by
  cases x with
  | of x => exact x
  | list => cases n1
  | dictI => cases n2
  | dictS => cases n2
theorem PV.S {h : Heap} {v : Value} {d : D} {i : Str} {C : Value → Prop} (x : PV prog w h M v d) (e : asS d = some i) (H : ∀ t, C (.str i t)) : C v := by
  cases x with
  | of x => exact x.S e H
  | _ => cases e
theorem PV.I {h : Heap} {v : Value} {d : D} {i : Int} {C : Value → Prop} (x : PV prog w h M v d) (e : asI d = some i) (H : ∀ t, C (.int i t)) : C v := by
  cases x with
  | of x => exact x.I e H
  | _ => cases e

theorem bin_ok {o : Op2} {a b : Value} {x y d : D} (live : Live M s.heap) (ha : FV prog w s.heap M a x) (hb : FV prog w s.heap M b y) (e : bin2 o x y = some d) (r : Ret prog w M s d Q) :
    wpAny (model prog w) A (binaryOp (opOf o) a b) Q E s := by
  cases o with
  | add =>
    refine or_inv e (fun e => both_inv e fun i j e1 e2 e => ?_) fun e => or_inv e (fun e => both_inv e fun i j e1 e2 e => ?_) fun e => both_inv e fun i j e1 e2 e => ?_
    · exact ha.I (C := fun a => wpAny _ A (binaryOp _ a b) Q E s) e1 fun t => hb.I (C := fun b => wpAny _ A (binaryOp _ _ b) Q E s) e2 fun u => by cases e; exact PyProof.Rows.add_int (r.int _ _)
    · refine ha.S (C := fun a => wpAny _ A (binaryOp _ a b) Q E s) e1 fun t => hb.S (C := fun b => wpAny _ A (binaryOp _ _ b) Q E s) e2 fun u => ?_
      refine iteS (C := fun d => Ret prog w M s d Q → wpAny _ A (binaryOp _ _ _) Q E s) e (fun hl r => PyProof.Rows.add_str (fun t' tk => r.str _ _) (Nat.le_trans hl (by rw [sizeLine_eq]; decide))) r
    · refine ha.L (C := fun a => wpAny _ A (binaryOp _ a b) Q E s) e1 fun a items ia fa => hb.L (C := fun b => wpAny _ A (binaryOp _ _ b) Q E s) e2 fun b items2 ib fb => ?_
      refine iteS (C := fun d => Ret prog w M s d Q → wpAny _ A (binaryOp _ _ _) Q E s) e (fun hl r => ?_) r
      obtain ⟨⟨cls, dd, data, sl⟩, ho, hc, n, hd⟩ := ia
      obtain ⟨⟨cls2, dd2, data2, sl2⟩, ho2, hc2, n2, hd2⟩ := ib
      simp only at hc hd hc2 hd2
      subst hc hd hc2 hd2
      have l1 := fa.length
      have l2 := fb.length
      simp only [Array.length_toList] at l1 l2
      refine concat_meets ⟨_, ho, rfl⟩ ⟨_, ho2, rfl⟩ noFill_list_add seq_list_add PySem.F.slot_list_add PySem.F.entry_list_add (PySem.F.args_list_add_2 _ _) (list_addW a b items items2 n n2 dd dd2 sl sl2 (by rw [sizeLine_eq]; omega)) ⟨ho, ho2, ?_⟩
      exact r.newList live (by rw [Array.toList_append]; exact fa.append fb)
  | sub =>
    refine both_inv e fun i j e1 e2 e => ?_
    exact ha.I (C := fun a => wpAny _ A (binaryOp _ a b) Q E s) e1 fun t => hb.I (C := fun b => wpAny _ A (binaryOp _ _ b) Q E s) e2 fun u => by cases e; exact PyProof.Rows.sub_int (r.int _ _)
  | fdiv =>
    refine both_inv e fun i j e1 e2 e => ?_
    refine ha.I (C := fun a => wpAny _ A (binaryOp _ a b) Q E s) e1 fun t => hb.I (C := fun b => wpAny _ A (binaryOp _ _ b) Q E s) e2 fun u => ?_
    refine iteS (C := fun d => Ret prog w M s d Q → wpAny _ A (binaryOp _ _ _) Q E s) e (fun hj r => ?_) r
    refine floordiv_int (by omega) ?_ (.inl (PyProof.noPylong_small (by omega)))
    rw [Int.fdiv_eq_ediv_of_nonneg _ (by omega)]
    exact r.int _ _
  | fmod =>
    refine both_inv e fun i j e1 e2 e => ?_
    refine ha.I (C := fun a => wpAny _ A (binaryOp _ a b) Q E s) e1 fun t => hb.I (C := fun b => wpAny _ A (binaryOp _ _ b) Q E s) e2 fun u => ?_
    refine iteS (C := fun d => Ret prog w M s d Q → wpAny _ A (binaryOp _ _ _) Q E s) e (fun hj r => ?_) r
    refine mod_int' (by omega) ?_
    rw [Int.fmod_eq_emod_of_nonneg _ (by omega)]
    exact r.int _ _

mutual
theorem FV.reads {h : Heap} : ∀ {v : Value} {d : D}, FV prog w h M v d → d.canLay0 = true → ∃ as, Reads h v d as
  | _, _, .none, _ => ⟨_, .none⟩
  | _, _, .bool b, _ => ⟨_, .bool b⟩
  | _, _, .int i t, _ => ⟨_, .int i t⟩
  | _, _, .str x t, _ => ⟨_, .str x t⟩
  | _, _, .list _ ⟨_, ho, hc, _, hd⟩ r, e => let ⟨_, q⟩ := FVs.reads r (by simpa [PyData.canLay0] using e); ⟨_, .list ho hc hd q⟩
  | _, _, .tuple _ ⟨_, ho, hc, _, hd⟩ r, e => let ⟨_, q⟩ := FVs.reads r (by simpa [PyData.canLay0] using e); ⟨_, .tuple ho hc hd q⟩
  | _, _, .dictI .., e => by simp [PyData.canLay0] at e
  | _, _, .dictS .., e => by simp [PyData.canLay0] at e
theorem FVs.reads {h : Heap} : ∀ {vs : List Value} {ds : List D}, FVs prog w h M vs ds → PyData.canLayAll0 ds = true → ∃ as, ReadsAll h vs ds as
  | _, _, .nil, _ => ⟨_, .nil⟩
  | _, _, .cons x r, e => by
    obtain ⟨e1, e2⟩ : _ ∧ _ := by simpa [PyData.canLayAll0] using e
    obtain ⟨_, q1⟩ := FV.reads x e1
    obtain ⟨_, q2⟩ := FVs.reads r e2
    exact ⟨_, .cons q1 q2⟩
end
theorem PV.readsList {h : Heap} {v : Value} {ds : List D} (x : PV prog w h M v (.list ds)) (e : PyData.canLayAll0 ds = true) : ∃ as, Reads h v (.list ds) as := by
  obtain ⟨a, items, rfl, ⟨_, ho, hc, _, hd⟩, f⟩ := x.asList
  obtain ⟨_, q⟩ := f.reads e
  exact ⟨_, .list ho hc hd q⟩

noncomputable def cpOf : Cp → CmpOp
  | .lt => .Lt | .le => .LtE | .gt => .Gt | .ge => .GtE | .eq => .Eq | .ne => .NotEq | .is => .Is | .isNot => .IsNot | .isIn => .In | .notIn => .NotIn
theorem cCp_of (o : CmpOp) : o = cpOf (cCp o) := by cases o <;> rfl

theorem ref_of_list {h : Heap} {v : Value} {ds : List D} (x : PV prog w h M v (.list ds)) : ∃ a, v = .ref a := let ⟨a, _, e, _⟩ := x.asList; ⟨a, e⟩

theorem depth_list (a : List D) : PyData.depth (.list a) = PyData.depthAll a + 1 ∨ PyData.depth (.list a) = 1 + PyData.depthAll a := by
  simp [PyData.depth, Nat.add_comm]

theorem eq2_ok {a b : Value} {x y : D} {c : Bool} (hA : A.units + 60 < cLine) (ha : FV prog w s.heap M a x) (hb : FV prog w s.heap M b y) (e : eq2 x y = some c) :
    (Q (.bool c) s → wpAny (model prog w) A (compareOp .Eq a b) Q E s) ∧ (Q (.bool (!c)) s → wpAny (model prog w) A (compareOp .NotEq a b) Q E s) := by
  refine or_inv e (fun e => both_inv e fun i j e1 e2 e => ?_) fun e => or_inv e (fun e => both_inv e fun i j e1 e2 e => ?_) fun e => both_inv e fun l k e1 e2 e => ?_
  · exact ha.I (C := fun a => (_ → wpAny _ A (compareOp _ a b) Q E s) ∧ (_ → wpAny _ A (compareOp _ a b) Q E s)) e1 fun t => hb.I (C := fun b => (_ → wpAny _ A (compareOp _ _ b) Q E s) ∧ (_ → wpAny _ A (compareOp _ _ b) Q E s)) e2 fun u => by
      cases e; exact ⟨PyProof.Rows.eq_int, PyProof.Rows.ne_int⟩
  · exact ha.S (C := fun a => (_ → wpAny _ A (compareOp _ a b) Q E s) ∧ (_ → wpAny _ A (compareOp _ a b) Q E s)) e1 fun t => hb.S (C := fun b => (_ → wpAny _ A (compareOp _ _ b) Q E s) ∧ (_ → wpAny _ A (compareOp _ _ b) Q E s)) e2 fun u => by
      cases e; exact ⟨PyProof.Rows.eq_str, PyProof.Rows.ne_str⟩
  · revert ha hb
    refine asL_inv (C := fun x => FV prog w s.heap M a x → _ → _) e1 (asL_inv (C := fun y => _ → FV prog w s.heap M b y → _) e2 fun ha hb => iteS (C := fun c => (Q (.bool c) s → _) ∧ (Q (.bool (!c)) s → _)) e fun h => ?_)
    simp only [Bool.and_eq_true, decide_eq_true_eq] at h
    have c1 : PyData.canLay0 (.list l) = true := by simp [PyData.canLay0, h.1.1]
    have c2 : PyData.canLay0 (.list k) = true := by simp [PyData.canLay0, h.1.2]
    obtain ⟨_, r1⟩ := ha.reads c1
    obtain ⟨_, r2⟩ := hb.reads c2
    have hu : A.units + min (PyData.depth (.list l)) (PyData.depth (.list k)) < cLine := by
      have := depth_list l
      omega
    have ee : PyData.eqvAll l k = PyData.eqv (.list l) (.list k) := by simp [PyData.eqv]
    rw [ee]
    exact ⟨SeqAt.compareEq_reads r1 r2 c1 c2 hu, SeqAt.compareNe_reads r1 r2 c1 c2 hu⟩

/-- what a dict says of a key -/
theorem valueAt_zip {K : Type} [DecidableEq K] {enc : K → D} (henc : ∀ a b, keyEq (enc a) (enc b) = some (decide (a = b))) {h : Heap} (k : K) : ∀ {kvs : List (K × Value)} {ds : List D}, FVs prog w h M (kvs.map (·.2)) ds →
    ∃ r, dGet (enc k) ((kvs.map fun p => enc p.1).zip ds) = some r ∧ ((valueAt kvs k = none ∧ r = none) ∨ ∃ v d, valueAt kvs k = some v ∧ r = some d ∧ FV prog w h M v d)
  | [], _, .nil => ⟨none, rfl, .inl ⟨rfl, rfl⟩⟩
  | (k', v) :: kvs, d :: ds, .cons x r => by
    obtain ⟨q, e, hq⟩ := valueAt_zip henc k r
    simp only [List.map_cons, List.zip_cons_cons, dGet, henc, Option.bind_eq_bind, Option.bind_some, valueAt, List.find?_cons]
    by_cases hk : k = k'
    · subst hk
      exact ⟨some d, by simp, .inr ⟨v, d, by simp, rfl, x⟩⟩
    · have hk' : decide (k' = k) = false := by simpa using Ne.symm hk
      rw [hk']
      simp only [hk, decide_false, Bool.false_eq_true, if_false]
      exact ⟨q, e, hq⟩
theorem encI (a b : Int) : keyEq (.int a) (.int b) = some (decide (a = b)) := congrArg some (Bool.eq_iff_iff.mpr (by simp))
theorem encS (a b : Str) : keyEq (.str a) (.str b) = some (decide (a = b)) := congrArg some (Bool.eq_iff_iff.mpr (by simp))

theorem dictIn_ok {K : Type} [DecidableEq K] {knd : KeyKind prog w K} {enc : K → D} (henc : ∀ a b, keyEq (enc a) (enc b) = some (decide (a = b))) {d : Addr} {key : Value} {k : K} {kvs : List (K × Value)} {ds : List D} {r : Option D}
    (hkey : knd.is k key = true) (hd : d ≠ sysModules) (hm : s.heap.DictOf knd d kvs) (f : FVs prog w s.heap M (kvs.map (·.2)) ds) (e : dGet (enc k) ((kvs.map fun p => enc p.1).zip ds) = some r) :
    ((∀ t, Q (.bool r.isSome) { s with toks := t }) → wpAny (model prog w) A (compareOp .In key (.ref d)) Q E s) ∧ ((∀ t, Q (.bool (!r.isSome)) { s with toks := t }) → wpAny (model prog w) A (compareOp .NotIn key (.ref d)) Q E s) := by
  have hd' : (d == sysModules) = false := by simpa using hd
  obtain ⟨q, e', hq⟩ := valueAt_zip henc k f
  rw [e] at e'
  cases e'
  have ee : (valueAt kvs k).isSome = r.isSome := by
    rcases hq with ⟨h1, h2⟩ | ⟨v, d, h1, h2, _⟩ <;> rw [h1, h2] <;> rfl
  rw [← ee]
  exact ⟨fun h => wpAny_in_of hkey hd' hm.mapOf (h _), fun h' => wpAny_notIn_of hkey hd' hm.mapOf (h' _)⟩

theorem keyI_of {x : D} {l : List (Int × Value)} {ds : List D} {r : Option D} (hl : l ≠ []) (hd : l.length = ds.length) (e : dGet x ((l.map fun p => PyData.int p.1).zip ds) = some r) : ∃ k, x = .int k := by
  cases l with
  | nil => exact absurd rfl hl
  | cons p l => cases ds with
    | nil => cases hd
    | cons d ds => cases x <;> simp [dGet, keyEq] at e ⊢
theorem keyS_of {x : D} {l : List (Str × Value)} {ds : List D} {r : Option D} (hl : l ≠ []) (hd : l.length = ds.length) (e : dGet x ((l.map fun p => PyData.str p.1).zip ds) = some r) : ∃ k, x = .str k := by
  cases l with
  | nil => exact absurd rfl hl
  | cons p l => cases ds with
    | nil => cases hd
    | cons d ds => cases x <;> simp [dGet, keyEq] at e ⊢

theorem dictOf_nil {K K' : Type} [DecidableEq K] [DecidableEq K'] {knd : KeyKind prog w K} {knd' : KeyKind prog w K'} {h : Heap} {a : Addr} (x : h.DictOf knd a []) : h.DictOf knd' a [] := by
  obtain ⟨o, es, ep, ho, hc, hd, hk, hp, hn⟩ := x
  have e : es.toList = [] := by cases q : es.toList with
    | nil => rfl
    | cons a l => rw [q] at hp; cases hp
  refine ⟨o, es, ep, ho, hc, hd, fun x hx => ?_, by rw [e]; exact .nil, List.Pairwise.nil⟩
  have := Array.mem_toList_iff.mpr hx
  rw [e] at this
  cases this
/-- a dict met by an int key -/
theorem pv_dictI {h : Heap} {v : Value} {l : List (D × D)} {k : Int} {r : Option D} (x : PV prog w h M v (.dict l)) (e : dGet (.int k) l = some r) :
    ∃ a kvs ds, v = .ref a ∧ a ≠ sysModules ∧ h.DictOf (intKind prog w) a kvs ∧ FVs prog w h M (kvs.map (·.2)) ds ∧ l = (kvs.map fun p => PyData.int p.1).zip ds := by
  have go : ∀ {a : Addr} {kvs : List (Str × Value)} {ds : List D}, a ≠ sysModules → h.DictOf (strKind prog w) a kvs → FVs prog w h M (kvs.map (·.2)) ds → l = (kvs.map fun p => PyData.str p.1).zip ds →
      ∃ b kvs ds, Value.ref a = .ref b ∧ b ≠ sysModules ∧ h.DictOf (intKind prog w) b kvs ∧ FVs prog w h M (kvs.map (·.2)) ds ∧ l = (kvs.map fun p => PyData.int p.1).zip ds := by
    intro a kvs ds n m f q
    cases kvs with
    | nil => cases f; exact ⟨a, [], [], rfl, n, dictOf_nil m, .nil, q⟩
    | cons p kvs => cases f with | cons x f => subst q; simp [dGet, keyEq] at e
  cases x with
  | of x => cases x with
    | dictI n m x f => exact ⟨_, _, _, rfl, m, x, f, rfl⟩
    | dictS n m x f => exact go m x f rfl
  | dictI m x f => exact ⟨_, _, _, rfl, m, x, f, rfl⟩
  | dictS m x f => exact go m x f rfl
theorem pv_dictS {h : Heap} {v : Value} {l : List (D × D)} {k : Str} {r : Option D} (x : PV prog w h M v (.dict l)) (e : dGet (.str k) l = some r) :
    ∃ a kvs ds, v = .ref a ∧ a ≠ sysModules ∧ h.DictOf (strKind prog w) a kvs ∧ FVs prog w h M (kvs.map (·.2)) ds ∧ l = (kvs.map fun p => PyData.str p.1).zip ds := by
  have go : ∀ {a : Addr} {kvs : List (Int × Value)} {ds : List D}, a ≠ sysModules → h.DictOf (intKind prog w) a kvs → FVs prog w h M (kvs.map (·.2)) ds → l = (kvs.map fun p => PyData.int p.1).zip ds →
      ∃ b kvs ds, Value.ref a = .ref b ∧ b ≠ sysModules ∧ h.DictOf (strKind prog w) b kvs ∧ FVs prog w h M (kvs.map (·.2)) ds ∧ l = (kvs.map fun p => PyData.str p.1).zip ds := by
    intro a kvs ds n m f q
    cases kvs with
    | nil => cases f; exact ⟨a, [], [], rfl, n, dictOf_nil m, .nil, q⟩
    | cons p kvs => cases f with | cons x f => subst q; simp [dGet, keyEq] at e
  cases x with
  | of x => cases x with
    | dictS n m x f => exact ⟨_, _, _, rfl, m, x, f, rfl⟩
    | dictI n m x f => exact go m x f rfl
  | dictS m x f => exact ⟨_, _, _, rfl, m, x, f, rfl⟩
  | dictI m x f => exact go m x f rfl

theorem Ret.boolT {b : Bool} (r : Ret prog w M s (.bool b) Q) (t : Nat) : Q (.bool b) { s with toks := t } := r _ s.heap t (Pur.refl _) (.bool b)
theorem fv_of_pv {h : Heap} {v : Value} {d : D} (x : PV prog w h M v d) (n1 : ∀ l, d ≠ .list l) (n2 : ∀ l, d ≠ .dict l) : FV prog w h M v d := by
  cases x with
  | of x => exact x
  | list => exact absurd rfl (n1 _)
  | dictI => exact absurd rfl (n2 _)
  | dictS => exact absurd rfl (n2 _)
theorem isD_ok {a b : Value} {x y : D} {c : Bool} (ha : FV prog w s.heap M a x) (hb : FV prog w s.heap M b y) (e : isD x y = some c) :
    (Q (.bool c) s → wpAny (model prog w) A (compareOp .Is a b) Q E s) ∧ (Q (.bool (!c)) s → wpAny (model prog w) A (compareOp .IsNot a b) Q E s) := by
  refine or_inv e (fun e => both_inv e fun i j e1 e2 e => ?_) fun e => bnd e fun _ e1 e => hb.N (C := fun b => (_ → wpAny _ A (compareOp _ _ b) Q E s) ∧ (_ → wpAny _ A (compareOp _ _ b) Q E s)) e1 (or_inv e (fun e => ?_) fun e => ?_)
  · exact ha.B (C := fun a => (_ → wpAny _ A (compareOp _ a b) Q E s) ∧ (_ → wpAny _ A (compareOp _ a b) Q E s)) e1 (hb.B (C := fun b => (_ → wpAny _ A (compareOp _ _ b) Q E s) ∧ (_ → wpAny _ A (compareOp _ _ b) Q E s)) e2 (by
      cases e; exact ⟨PyProof.Rows.is_bool, PyProof.Rows.isnot_bool⟩))
  · exact map_inv (C := fun c => (Q (.bool c) s → _) ∧ (Q (.bool (!c)) s → _)) e fun _ e => ha.N (C := fun a => (_ → wpAny _ A (compareOp _ a _) Q E s) ∧ (_ → wpAny _ A (compareOp _ a _) Q E s)) e ⟨PyProof.Rows.is_none_none, PyProof.Rows.isnot_none_none⟩
  · exact map_inv (C := fun c => (Q (.bool c) s → _) ∧ (Q (.bool (!c)) s → _)) e fun _ e => ha.I (C := fun a => (_ → wpAny _ A (compareOp _ a _) Q E s) ∧ (_ → wpAny _ A (compareOp _ a _) Q E s)) e fun _ => ⟨PyProof.Rows.is_int_none, PyProof.Rows.isnot_int_none⟩
theorem inD_ok {a b : Value} {x y : D} {c : Bool} (hA : A.units + 60 < cLine) (ha : FV prog w s.heap M a x) (hb : PV prog w s.heap M b y) (e : inD x y = some c) :
    ((∀ t, Q (.bool c) { s with toks := t }) → wpAny (model prog w) A (compareOp .In a b) Q E s) ∧ ((∀ t, Q (.bool (!c)) { s with toks := t }) → wpAny (model prog w) A (compareOp .NotIn a b) Q E s) := by
  refine or_inv e (fun e => bnd e fun l e1 e => or_inv e (fun e => bnd e fun k e2 e => ?_) fun e => bnd e fun k e2 e => ?_) fun e => or_inv e (fun e => both_inv e fun i j e1 e2 e => ?_) fun e => bnd e fun l e1 e => ?_
  · have hb := asM_inv (C := fun y => PV prog w s.heap M b y → PV prog w s.heap M b (.dict l)) e1 id hb
    refine map_inv (C := fun c => ((∀ t, Q (.bool c) { s with toks := t }) → _) ∧ ((∀ t, Q (.bool (!c)) { s with toks := t }) → _)) e fun q e => ?_
    obtain ⟨a, kvs, ds, rfl, n, m, f, rfl⟩ := pv_dictI hb e
    exact ha.I (C := fun a => (_ → wpAny _ A (compareOp _ a _) Q E s) ∧ (_ → wpAny _ A (compareOp _ a _) Q E s)) e2 fun t => dictIn_ok encI (intKind_is prog w _ _) n m f e
  · have hb := asM_inv (C := fun y => PV prog w s.heap M b y → PV prog w s.heap M b (.dict l)) e1 id hb
    refine map_inv (C := fun c => ((∀ t, Q (.bool c) { s with toks := t }) → _) ∧ ((∀ t, Q (.bool (!c)) { s with toks := t }) → _)) e fun q e => ?_
    obtain ⟨a, kvs, ds, rfl, n, m, f, rfl⟩ := pv_dictS hb e
    exact ha.S (C := fun a => (_ → wpAny _ A (compareOp _ a _) Q E s) ∧ (_ → wpAny _ A (compareOp _ a _) Q E s)) e2 fun t => dictIn_ok encS (strKind_is prog w _ _) n m f e
  · exact ha.S (C := fun a => (_ → wpAny _ A (compareOp _ a b) Q E s) ∧ (_ → wpAny _ A (compareOp _ a b) Q E s)) e1 fun t => hb.S (C := fun b => (_ → wpAny _ A (compareOp _ _ b) Q E s) ∧ (_ → wpAny _ A (compareOp _ _ b) Q E s)) e2 fun u => by
      cases e; exact ⟨fun r => PyProof.Rows.in_str (r s.toks), fun r => PyProof.Rows.notIn_str (Bool.not_not _ ▸ r s.toks)⟩
  · have hb := asL_inv (C := fun y => PV prog w s.heap M b y → PV prog w s.heap M b (.list l)) e1 id hb
    refine iteS (C := fun c => ((∀ t, Q (.bool c) { s with toks := t }) → _) ∧ ((∀ t, Q (.bool (!c)) { s with toks := t }) → _)) e fun h => ?_
    simp only [Bool.and_eq_true, decide_eq_true_eq] at h
    obtain ⟨_, r1⟩ := ha.reads h.1.1
    obtain ⟨_, r2⟩ := hb.readsList h.1.2
    exact ⟨fun r => SeqAt.in_list_reads r2 r1 h.1.2 h.1.1 (by omega) (r s.toks), fun r => SeqAt.notIn_list_reads r2 r1 h.1.2 h.1.1 (by omega) (r s.toks)⟩
theorem cmp_ok {o : Cp} {a b : Value} {x y : D} {c : Bool} (hA : A.units + 60 < cLine) (ha : FV prog w s.heap M a x) (hb : PV prog w s.heap M b y) (hb' : (o ≠ .isIn ∧ o ≠ .notIn) → FV prog w s.heap M b y) (e : cmp2 o x y = some c) (r : Ret prog w M s (.bool c) Q) :
    wpAny (model prog w) A (compareOp (cpOf o) a b) Q E s := by
  have ii : ∀ {k : Int → Int → Bool} {P : Value → Value → Prop}, FV prog w s.heap M b y → both asI (fun a b => some (k a b)) x y = some c → (∀ i t j u, Q (.bool (k i j)) s → P (.int i t) (.int j u)) → P a b := fun {k P} hb e H =>
    both_inv e fun i j e1 e2 e => ha.I (C := fun a => P a b) e1 fun t => hb.I (C := fun b => P _ b) e2 fun u => H i t j u (by cases e; exact r.bool)
  cases o with
  | lt => exact ii (k := fun a b => decide (a < b)) (P := fun a b => wpAny _ A (compareOp _ a b) Q E s) (hb' ⟨nofun, nofun⟩) e fun i t j u q => PyProof.Rows.lt_int q
  | le =>
    refine or_inv e (fun e => ii (k := fun a b => decide (a ≤ b)) (P := fun a b => wpAny _ A (compareOp _ a b) Q E s) (hb' ⟨nofun, nofun⟩) e fun i t j u q => PyProof.Rows.le_int q) fun e => both_inv e fun i j e1 e2 e => ?_
    exact ha.S (C := fun a => wpAny _ A (compareOp _ a b) Q E s) e1 fun t => hb.S (C := fun b => wpAny _ A (compareOp _ _ b) Q E s) e2 fun u => P.le_str (by cases e; exact r.bool)
  | gt => exact ii (k := fun a b => decide (b < a)) (P := fun a b => wpAny _ A (compareOp _ a b) Q E s) (hb' ⟨nofun, nofun⟩) e fun i t j u q => PyProof.Rows.gt_int q
  | ge => exact ii (k := fun a b => decide (b ≤ a)) (P := fun a b => wpAny _ A (compareOp _ a b) Q E s) (hb' ⟨nofun, nofun⟩) e fun i t j u q => PyProof.Rows.ge_int q
  | eq => exact (eq2_ok hA ha (hb' ⟨nofun, nofun⟩) e).1 r.bool
  | ne => exact map_inv (C := fun c => Q (.bool c) s → wpAny _ A (compareOp _ _ _) Q E s) e (fun c e q => (eq2_ok hA ha (hb' ⟨nofun, nofun⟩) e).2 q) r.bool
  | is => exact (isD_ok ha (hb' ⟨nofun, nofun⟩) e).1 r.bool
  | isNot => exact map_inv (C := fun c => Q (.bool c) s → wpAny _ A (compareOp _ _ _) Q E s) e (fun c e q => (isD_ok ha (hb' ⟨nofun, nofun⟩) e).2 q) r.bool
  | isIn => exact (inD_ok hA ha hb e).1 r.boolT
  | notIn => exact map_inv (C := fun c => (∀ t, Q (.bool c) { s with toks := t }) → wpAny _ A (compareOp _ _ _) Q E s) e (fun c e q => (inD_ok hA ha hb e).2 q) r.boolT
end
end Mine
end
section
/-! Items, slices, truth, the built-in functions and the methods over plain data. -/
open PySem PySem.Calls PyProof.Rows PySem.W PySem.Spec
namespace Mine
section
variable {prog : Program} {w : World} {A : Around} {E : Value → Shared → Prop} {s : Shared} {M : Addr → Prop} {Q : Value → Shared → Prop}

theorem sub_two (slice : PySem.Expr) (o i : Value) : subscripted slice false o i = operate [i, o] (getItem o i) ∨ subscripted slice false o i = operate [o, i] (getItem o i) := by
  cases slice with
  | Slice _ _ c _ => cases c with
    | none => exact .inl rfl
    | some _ => exact .inr rfl
  | _ => exact .inr rfl

theorem tail_ok {value slice : PySem.Expr} {o i : Value} {T id : String} (hT : s.TypeIs o T) (hl : typeLookup (.type T) "__getitem__" = pure (some (.builtin id))) (h : wpAny (model prog w) A (getItem o i) Q E s) :
    wpAny (model prog w) A (subscriptTail value slice o i) Q E s := by
  unfold subscriptTail
  refine wpAny_bind ?_
  rw [getitemInPython_of_ne hT.not_modules]
  refine wpAny_bind (wpAny_specialOf hT hl ?_)
  have fin : wpAny (model prog w) A (subscripted slice false o i) (fun r s₃ => wpAny (model prog w) A (letTemporaryGo value o r >>= fun _ => pure r) Q E s₃) E s := by
    have go : ∀ vs, wpAny (model prog w) A (operate vs (getItem o i)) (fun r s₃ => wpAny (model prog w) A (letTemporaryGo value o r >>= fun _ => pure r) Q E s₃) E s := fun vs =>
      wpAny_operating (wpAny_mono h (fun r s₃ h₃ => wpAny_bind (wpAny_letTemporaryGo (wpAny_pure h₃))) fun _ _ x => x)
    rcases sub_two slice o i with e | e <;> (rw [e]; exact go _)
  first
    | exact wpAny_pure (wpAny_bind fin)
    | exact wpAny_bind (wpAny_pure (wpAny_bind fin))
    | exact wpAny_bind fin

theorem dictGet_ok {K : Type} [DecidableEq K] {knd : KeyKind prog w K} {enc : K → D} (henc : ∀ a b, keyEq (enc a) (enc b) = some (decide (a = b))) {a : Addr} {key : Value} {k : K} {kvs : List (K × Value)} {ds : List D} {d : D}
    (hkey : knd.is k key = true) (hm : s.heap.DictOf knd a kvs) (f : FVs prog w s.heap M (kvs.map (·.2)) ds) (e : dGet (enc k) ((kvs.map fun p => enc p.1).zip ds) = some (some d)) (r : Ret prog w M s d Q) :
    wpAny (model prog w) A (getItem (.ref a) key) Q E s := by
  obtain ⟨q, e', hq⟩ := valueAt_zip henc k f
  rw [e] at e'
  cases e'
  rcases hq with ⟨h1, h2⟩ | ⟨v, d', h1, h2, h3⟩
  · cases h2
  · cases h2
    exact wpAny_getItem_of hkey hm.mapOf h1 (r.here' h3)

theorem idxD_ok {value slice : PySem.Expr} {a b : Value} {l : List (D × D)} {k d : D} (ha : PV prog w s.heap M a (.dict l)) (hb : FV prog w s.heap M b k) (hq : dGet k l = some (some d)) (r : Ret prog w M s d Q) :
    wpAny (model prog w) A (subscriptTail value slice a b) Q E s := by
  cases l with
  | nil => simp [dGet] at hq
  | cons p l =>
    have hk : (∃ i, k = .int i) ∨ ∃ x, k = .str x := by
      obtain ⟨p1, p2⟩ := p
      cases k <;> cases p1 <;> simp [dGet, keyEq] at hq ⊢
    rcases hk with ⟨i, rfl⟩ | ⟨x, rfl⟩
    · obtain ⟨a, kvs, ds, rfl, n, m, f, e⟩ := pv_dictI ha hq
      rw [e] at hq
      cases hb with
      | int _ t => exact tail_ok m.mapOf.typeIs slot_dict_getitem.lookup (dictGet_ok encI (intKind_is prog w _ _) m f hq r)
    · obtain ⟨a, kvs, ds, rfl, n, m, f, e⟩ := pv_dictS ha hq
      rw [e] at hq
      cases hb with
      | str _ t => exact tail_ok m.mapOf.typeIs slot_dict_getitem.lookup (dictGet_ok encS (strKind_is prog w _ _) m f hq r)

/-- x[k] -/
theorem idx_ok {value slice : PySem.Expr} {a b : Value} {x y d : D} (ha : PV prog w s.heap M a x) (hb : FV prog w s.heap M b y) (e : idx2 x y = some d) (r : Ret prog w M s d Q) :
    wpAny (model prog w) A (subscriptTail value slice a b) Q E s := by
  unfold idx2 at e
  split at e
  · rename_i l k
    obtain ⟨a, items, rfl, il, f⟩ := ha.asList
    cases hb with
    | int _ t =>
    refine tail_ok il.typeIs slot_list_getitem.lookup ?_
    obtain ⟨j, hj, hd⟩ := Option.bind_eq_some_iff.mp e
    obtain ⟨v, hv, fv⟩ := f.get hd
    have hlen := f.length
    simp only [Array.length_toList] at hlen
    rw [Array.getElem?_toList] at hv
    unfold wrapIx at hj
    split at hj
    · rename_i h0
      split at hj
      · cases hj
        exact wpAny_getItem_list il h0 (by omega) hv (r.here fv)
      · cases hj
    · rename_i h0
      split at hj
      · rename_i h1
        cases hj
        exact wpAny_getItem_list_neg il (by omega) (by omega) (by omega) (by rw [hlen]; exact hv) (r.here fv)
      · cases hj
  · rename_i x k
    cases hb with
    | int _ t =>
    cases fv_of_pv ha (by simp) (by simp) with
    | str _ u =>
    split at e
    · rename_i h
      obtain ⟨c, hc, e⟩ := Option.map_eq_some_iff.mp e
      subst e
      refine tail_ok (typeIs_str s x u) F.slot_str_getitem.lookup (P.getItem_str ?_ hc (r.str _ _))
      simp only [Bool.or_eq_false_iff, decide_eq_false_iff_not]
      omega
    · cases e
  · obtain ⟨q, hq, e⟩ := Option.bind_eq_some_iff.mp e
    subst e
    first
      | exact idxD_ok ha hb hq r
  · cases e

/-- the parts of a slice -/
inductive PartIs : Value → Option Int → Prop
  | none : PartIs .none none
  | int (i : Int) (t : Tok) : PartIs (.int i t) (some i)
theorem PartIs.ex {v : Value} {o : Option Int} (x : PartIs v o) : ∃ p : Option (Int × Tok), v = partValue p ∧ o = p.map (·.1) := by
  cases x with
  | none => exact ⟨.none, rfl, rfl⟩
  | int i t => exact ⟨some (i, t), rfl, rfl⟩
theorem PartIs.isPart {v : Value} {o : Option Int} (x : PartIs v o) : IsPart v o := by cases x <;> constructor
/-- x[lo:hi] -/
theorem slc_ok {value : PySem.Expr} {lower upper : Option PySem.Expr} {p : Pos} {a vl vu : Value} {x d : D} {lo hi : Option Int} (live : Live M s.heap) (ha : PV prog w s.heap M a x) (hl : PartIs vl lo) (hu : PartIs vu hi) (e : slc2 x lo hi = some d) (r : Ret prog w M s d Q) :
    wpAny (model prog w) A (subscriptTail value (.Slice lower upper none p) a (.ref s.heap.objs.size)) Q E { s with heap := s.heap.push { cls := .type "slice", data := .fields #[vl, vu, .none] } } := by
  cases x with
  | none => cases e
  | bool => cases e
  | int => cases e
  | tuple => cases e
  | dict => cases e
  | list l =>
    simp only [slc2] at e
    split at e
    · rename_i hsz
      cases e
      obtain ⟨a, items, rfl, il, f⟩ := ha.asList
      have hlen := f.length
      simp only [Array.length_toList] at hlen
      refine tail_ok (il.push _).typeIs slot_list_getitem.lookup (wpAny_getItem_list_slice (il.push _) (Heap.IsSliceOf.new ..) hl.isPart hu.isPart .none (by simp) ?_ (by rw [sizeLine_eq]; omega))
      rw [slicePick_plain]
      have pp : Pur s.heap ((s.heap.push { cls := .type "slice", data := .fields #[vl, vu, .none] }).push { cls := .type "list", data := .seq ((items.toList.drop (lo.elim 0 (clipAt items.size))).take (hi.elim items.size (clipAt items.size) - lo.elim 0 (clipAt items.size))).toArray }) :=
        (Pur.push _ _).trans (Pur.push _ _)
      refine r _ _ s.toks pp (.list ?_ (newObj_isList _ _) ?_)
      · intro m
        obtain ⟨o, e⟩ := live _ m
        have h1 := Heap.lt_size e
        have h2 : (s.heap.push { cls := .type "slice", data := .fields #[vl, vu, .none] }).objs.size = s.heap.objs.size + 1 := Heap.size_push ..
        exact Nat.lt_irrefl _ (Nat.lt_of_lt_of_le h1 (by show s.heap.objs.size ≤ (s.heap.push { cls := .type "slice", data := .fields #[vl, vu, .none] }).objs.size; rw [h2]; exact Nat.le_succ _))
      · rw [← hlen]
        exact ((f.drop _).take _).pur pp
    · cases e
  | str x =>
    simp only [slc2] at e
    split at e
    · rename_i hsz
      cases e
      cases fv_of_pv ha (by simp) (by simp) with
      | str _ u =>
      obtain ⟨pl, rfl, e1⟩ := hl.ex
      obtain ⟨pu, rfl, e2⟩ := hu.ex
      refine tail_ok (typeIs_str _ x u) F.slot_str_getitem.lookup (wpAny_getItem_str_slice (l := pl) (u := pu) (st := none) ⟨_, Heap.get?_push_size _ rfl, rfl, rfl⟩ rfl ?_)
      have pp := Pur.push s.heap { cls := .type "slice", data := .fields #[partValue pl, partValue pu, .none] }
      unfold sliceMade slicePicked
      simp only [Option.map_none, Option.getD_none, beq_self_eq_true, Bool.true_and, ← e1, ← e2]
      unfold strSl at r hsz
      split
      · rename_i q
        rw [if_pos q] at r
        exact r _ _ s.toks pp (.str _ _)
      · rename_i q
        rw [if_neg q] at r hsz
        exact ⟨by rw [sizeLine_eq]; exact Nat.le_trans hsz (by decide), r _ _ _ pp (.str _ _)⟩
    · cases e
end
end Mine
end
section
/-! The built-in functions and the methods over plain data. -/
open PySem PySem.Calls PyProof.Rows PySem.W PySem.Spec
namespace Mine
section
variable {prog : Program} {w : World} {A : Around} {E : Value → Shared → Prop} {s : Shared} {M : Addr → Prop} {Q : Value → Shared → Prop}

/-- truth of a bool or a text -/
theorem truthy_ok {v : Value} {d : D} {b : Bool} {Q : Bool → Shared → Prop} (x : FV prog w s.heap M v d) (e : boolOf d = some b)
    (r : ∀ t, Q b { s with toks := t }) : wpAny (model prog w) A (truthy v) Q E s := by
  refine or_inv e (fun e => x.B (C := fun v => wpAny _ A (truthy v) Q E s) e (wpAny_truthy_bool (r s.toks))) fun e => bnd e fun y e1 e => x.S (C := fun v => wpAny _ A (truthy v) Q E s) e1 fun t => ?_
  refine iteS (C := fun b => (∀ t, Q b { s with toks := t }) → wpAny _ A (truthy _) Q E s) e (fun h r => P.truthy_str (by omega) ?_) r
  have : ((y.length : Int) != 0) = (!(y.length == 0)) := by rw [Bool.eq_iff_iff]; simp
  rw [this]
  exact r _

theorem ints_of {h : Heap} : ∀ {vs : List Value} {ds : List D} {ns : List Int}, FVs prog w h M vs ds → intsOf ds = some ns → (∀ v ∈ vs, ∃ a t, v = .int a t) ∧ numsOf vs = ns
  | _, _, _, .nil, e => by cases e; exact ⟨(fun _ h => nomatch h), rfl⟩
  | _, _, ns, .cons x f, e => by
    cases x <;> try (cases e; done)
    obtain ⟨ms, e1, e2⟩ := Option.bind_eq_some_iff.mp e
    cases e2
    obtain ⟨h1, h2⟩ := ints_of f e1
    refine ⟨fun v hv => ?_, ?_⟩
    · rcases List.mem_cons.mp hv with rfl | hv
      · exact ⟨_, _, rfl⟩
      · exact h1 v hv
    · simp [numsOf, h2]
theorem maxL_spec (a : Int) : ∀ l : List Int, maxL a l ∈ a :: l ∧ ∀ b ∈ a :: l, b ≤ maxL a l
  | [] => by simp [maxL]
  | b :: r => by
    have key : maxL a (b :: r) = maxL (if a < b then b else a) r := rfl
    rw [key]
    obtain ⟨h1, h2⟩ := maxL_spec (if a < b then b else a) r
    generalize maxL (if a < b then b else a) r = m at h1 h2
    constructor
    · rcases List.mem_cons.mp h1 with h | h
      · rw [h]; split <;> simp
      · exact .tail _ (.tail _ h)
    · intro c hc
      have h3 := h2 _ (.head _)
      rcases List.mem_cons.mp hc with rfl | hc
      · split at h3 <;> omega
      · rcases List.mem_cons.mp hc with rfl | hc
        · split at h3 <;> omega
        · exact h2 c (.tail _ hc)

noncomputable def biVal : BI → Value
  | .len => .builtin "len" | .sum => .builtin "sum" | .range => .type "range" | .max => .builtin "max" | .list => .type "list" | .chr => .builtin "chr"
inductive PVs (prog : Program) (w : World) (h : Heap) (M : Addr → Prop) : List Value → List D → Prop
  | nil : PVs prog w h M [] []
  | cons {v : Value} {vs : List Value} {d : D} {ds : List D} : PV prog w h M v d → PVs prog w h M vs ds → PVs prog w h M (v :: vs) (d :: ds)
theorem PVs.pur {h h' : Heap} (p : Pur h h') : ∀ {vs : List Value} {ds : List D}, PVs prog w h M vs ds → PVs prog w h' M vs ds
  | _, _, .nil => .nil
  | _, _, .cons x r => .cons (x.pur p) (r.pur p)

theorem PVs.one {h : Heap} {vs : List Value} {d : D} (x : PVs prog w h M vs [d]) : ∃ v, vs = [v] ∧ PV prog w h M v d := by
  cases x with
  | cons x y => cases y; exact ⟨_, rfl, x⟩
theorem one_inv {ds : List D} {d : D} {C : List D → Prop} (h : arg1 ds = some d) (H : C [d]) : C ds := by
  match ds, h with
  | [e], h => cases h; exact H
theorem two_inv {ds : List D} {d : D × D} {C : List D → Prop} (h : arg2 ds = some d) (H : C [d.1, d.2]) : C ds := by
  match ds, h with
  | [e, f], h => cases h; exact H
theorem three_inv {ds : List D} {d : D × D × D} {C : List D → Prop} (h : arg3 ds = some d) (H : C [d.1, d.2.1, d.2.2]) : C ds := by
  match ds, h with
  | [e, f, k], h => cases h; exact H
theorem no0_inv {ds : List D} {d : Unit} {C : List D → Prop} (h : arg0 ds = some d) (H : C []) : C ds := by
  cases ds
  · exact H
  · cases h
theorem PVs.o {h : Heap} {vs : List Value} {ds : List D} {d : D} {C : List Value → Prop} (x : PVs prog w h M vs ds) (e : arg1 ds = some d) (H : ∀ v, PV prog w h M v d → C [v]) : C vs := by
  revert x
  exact one_inv (C := fun ds => PVs prog w h M vs ds → C vs) e fun x => let ⟨v, q, y⟩ := x.one; q ▸ H v y
theorem PV.L {h : Heap} {v : Value} {d : D} {i : List D} {C : Value → Prop} (x : PV prog w h M v d) (e : asL d = some i) (H : ∀ a items, h.IsList a items → FVs prog w h M items.toList i → C (.ref a)) : C v := by
  have x := asL_inv (C := fun d => PV prog w h M v d → PV prog w h M v (.list i)) e id x
  obtain ⟨a, items, rfl, il, f⟩ := x.asList
  exact H a items il f
theorem max_ok {a : Addr} {items : Array Value} {l : List D} {ns : List Int} {d : D} (hh : A.handled = none) (il : s.heap.IsList a items) (f : FVs prog w s.heap M items.toList l) (hn : intsOf l = some ns) (e : maxD ns = some d) (r : Ret prog w M s d Q) :
    wpAny (model prog w) A (call (.builtin "max") [.ref a]) Q E s := by
  cases ns with
  | nil => cases e
  | cons a₀ ns =>
    cases e
    obtain ⟨h1, h2⟩ := ints_of f hn
    have hall : AllInts items := fun v hv => h1 v (Array.mem_toList_iff.mpr hv)
    obtain ⟨xs, rfl⟩ := hall.items
    rw [nums_intItems] at h2
    have hsz : 0 < xs.size := by
      have := congrArg List.length h2
      simp at this
      omega
    refine max_intList hh il hsz fun v h' tk hv hk => ?_
    obtain ⟨t, rfl⟩ := intItems_at hv
    obtain ⟨g1, g2⟩ := argBest_gt (numAt xs) (xs.size - 1)
    have m1 : numAt xs (argBest (fun i j => decide (numAt xs i > numAt xs j)) (xs.size - 1)) ∈ a₀ :: ns := by
      rw [numAt_eq, h2]
      exact getD_mem (by rw [← h2, List.length_map, Array.length_toList]; omega)
    have m2 : ∀ b ∈ a₀ :: ns, b ≤ numAt xs (argBest (fun i j => decide (numAt xs i > numAt xs j)) (xs.size - 1)) := by
      intro b hb
      rw [← h2] at hb
      obtain ⟨j, hj, rfl⟩ := mem_getD hb
      rw [List.length_map, Array.length_toList] at hj
      rw [← numAt_eq]; exact g2 j (by omega)
    obtain ⟨m3, m4⟩ := maxL_spec a₀ ns
    have := m2 _ m3
    have := m4 _ m1
    rw [show numAt xs (argBest (fun i j => decide (numAt xs i > numAt xs j)) (xs.size - 1)) = maxL a₀ ns by omega]
    exact r _ _ _ hk (.int _ _)
theorem chars_fvs {h' : Heap} : ∀ (l : List Value) (cs : List Nat), l.length = cs.length → (∀ (j : Nat) (v : Value), l[j]? = some v → ∃ c u, cs[j]? = some c ∧ v = Value.str ⟨#[c]⟩ u) → FVs prog w h' M l (cs.map fun c => PyData.str ⟨#[c]⟩)
  | [], [], _, _ => .nil
  | [], _ :: _, hl, _ => nomatch hl
  | _ :: _, [], hl, _ => nomatch hl
  | v :: l, c :: cs, hl, ha => by
    obtain ⟨c', u, h1, h2⟩ := ha 0 v rfl
    cases h1
    subst h2
    exact .cons (.str _ _) (chars_fvs l cs (Nat.succ.inj hl) fun j v hv => ha (j + 1) v hv)
theorem bi_ok {f : BI} {vs : List Value} {ds : List D} {d : D} (hh : A.handled = none) (live : Live M s.heap) (ha : PVs prog w s.heap M vs ds) (e : bi2 f ds = some d) (r : Ret prog w M s d Q) :
    wpAny (model prog w) A (call (biVal f) vs) Q E s := by
  cases f with
  | range => cases e
  | len =>
    refine bnd e fun d e1 e => ha.o (C := fun vs => wpAny _ A (call _ vs) Q E s) e1 fun v x => or_inv e (fun e => bnd e fun l e2 e => ?_) fun e => bnd e fun l e2 e => ?_
    · refine x.L (C := fun v => wpAny _ A (call _ [v]) Q E s) e2 fun a items il f => ?_
      have hlen := f.length
      simp only [Array.length_toList] at hlen
      refine iteS (C := fun d => Ret prog w M s d Q → wpAny _ A (call _ _) Q E s) e (fun hl r => Calls.call_len_list il (by omega) ?_) r
      rw [hlen]
      exact r.int _ _
    · exact x.S (C := fun v => wpAny _ A (call _ [v]) Q E s) e2 fun t => iteS (C := fun d => Ret prog w M s d Q → wpAny _ A (call _ _) Q E s) e (fun hl r => P.len_str (by omega) (r.int _ _)) r
  | sum =>
    refine bnd e fun d e1 e => ha.o (C := fun vs => wpAny _ A (call _ vs) Q E s) e1 fun v x => bnd e fun l e2 e => bnd e fun ns hn e => x.L (C := fun v => wpAny _ A (call _ [v]) Q E s) e2 fun a items il f => ?_
    cases e
    obtain ⟨h1, h2⟩ := ints_of f hn
    have hall : AllInts items := fun v hv => h1 v (Array.mem_toList_iff.mpr hv)
    obtain ⟨xs, rfl⟩ := hall.items
    rw [nums_intItems] at h2
    refine sum_intListG hh il fun h' tk t' hk => ?_
    rw [preSum_eq, List.take_of_length_le (by simp), h2]
    exact r _ _ _ hk (.int _ _)
  | max => exact bnd e fun d e1 e => ha.o (C := fun vs => wpAny _ A (call _ vs) Q E s) e1 fun v x => bnd e fun l e2 e => bnd e fun ns hn e => x.L (C := fun v => wpAny _ A (call _ [v]) Q E s) e2 fun a items il f => max_ok hh il f hn e r
  | list =>
    refine bnd e fun d e1 e => ha.o (C := fun vs => wpAny _ A (call _ vs) Q E s) e1 fun v x => bnd e fun l e2 e => x.S (C := fun v => wpAny _ A (call _ [v]) Q E s) e2 fun t => ?_
    refine iteS (C := fun d => Ret prog w M s d Q → wpAny _ A (call _ _) Q E s) e (fun h r => ?_) r
    refine call_list_str hh _ t (fun h' tk acc' c' hk hS hacc => ?_) (by rw [sizeLine_eq]; exact Nat.le_trans h (by decide))
    refine r _ _ _ hk (.list live.new ⟨_, hS, rfl, _, rfl⟩ ?_)
    refine chars_fvs _ _ ?_ fun j v hv => ?_
    · rw [Array.length_toList, Array.length_toList, hacc.1]
    · rw [Array.getElem?_toList] at hv
      obtain ⟨c, u, h1, h2⟩ := hacc.2 j v hv
      exact ⟨c, u, by rw [Array.getElem?_toList]; exact h1, h2⟩
  | chr => exact bnd e fun d e1 e => ha.o (C := fun vs => wpAny _ A (call _ vs) Q E s) e1 fun v x => bnd e fun l e2 e => x.I (C := fun v => wpAny _ A (call _ [v]) Q E s) e2 fun t => iteS (C := fun d => Ret prog w M s d Q → wpAny _ A (call _ _) Q E s) e (fun h r => P.chr_of_int (by simp; omega) (r.str _ _)) r

noncomputable def mtT : MT → String
  | .get => "dict" | _ => "str"
noncomputable def mtN : MT → Str
  | .join => "join" | .lower => "lower" | .upper => "upper" | .startswith => "startswith" | .endswith => "endswith" | .find => "find" | .index => "index" | .get => "get"
noncomputable def mtId : MT → String
  | .join => "str.join" | .lower => "str.lower" | .upper => "str.upper" | .startswith => "str.startswith" | .endswith => "str.endswith" | .find => "str.find" | .index => "str.index" | .get => "dict.get"
theorem ifE {α : Type} {c : Bool} {a x : α} {r : Option α} {C : Prop} (h : (if c = true then some a else r) = some x) (h1 : c = true → a = x → C) (h2 : r = some x → C) : C := by
  cases c
  · exact h2 h
  · exact h1 rfl (Option.some.inj h)
theorem cMT_of {x : Str} {m : MT} (e : cMT x = some m) : x = mtN m := by
  have k : ∀ {y : Str} {m' : MT}, (x == y) = true → m' = m → mtN m' = y → x = mtN m := fun h q z => q ▸ (beq_iff_eq.mp h).trans z.symm
  exact ifE e (fun h q => k h q rfl) fun e => ifE e (fun h q => k h q rfl) fun e => ifE e (fun h q => k h q rfl) fun e => ifE e (fun h q => k h q rfl) fun e => ifE e (fun h q => k h q rfl) fun e => ifE e (fun h q => k h q rfl) fun e =>
    ifE e (fun h q => k h q rfl) fun e => ifE e (fun h q => k h q rfl) fun e => nomatch e
theorem cBI_nodbg {f : Str} {f' : BI} (h : cBI f = some f') : (f == ("__debug__" : Str)) = false := by
  cases q : f == ("__debug__" : Str)
  · rfl
  · rw [beq_iff_eq.mp q, show cBI "__debug__" = none by decide] at h
    cases h
theorem mt_slot (m : MT) : PlainAttrs (mtT m) ∧ PySem.Slot (mtT m) (mtN m) (mtId m) ∧ typeOf (.builtin (mtId m)) = pure (.type "method_descriptor") := by
  cases m
  · exact ⟨F.plainAttrs_str, F.slot_str_join, F.type_str_join⟩
  · exact ⟨F.plainAttrs_str, F.slot_str_lower, F.type_str_lower⟩
  · exact ⟨F.plainAttrs_str, F.slot_str_upper, F.type_str_upper⟩
  · exact ⟨F.plainAttrs_str, F.slot_str_startswith, F.type_str_startswith⟩
  · exact ⟨F.plainAttrs_str, F.slot_str_endswith, F.type_str_endswith⟩
  · exact ⟨F.plainAttrs_str, F.slot_str_find, F.type_str_find⟩
  · exact ⟨F.plainAttrs_str, F.slot_str_index, F.type_str_index⟩
  · exact ⟨F.plainAttrs_dict, F.slot_dict_get, F.type_dict_get⟩
theorem FVs.one {h : Heap} {vs : List Value} {d : D} (x : FVs prog w h M vs [d]) : ∃ v, vs = [v] ∧ FV prog w h M v d := by
  cases x with
  | cons x y => cases y; exact ⟨_, rfl, x⟩
theorem FVs.two {h : Heap} {vs : List Value} {d d' : D} (x : FVs prog w h M vs [d, d']) : ∃ v v', vs = [v, v'] ∧ FV prog w h M v d ∧ FV prog w h M v' d' := by
  cases x with
  | cons x y => obtain ⟨v, rfl, z⟩ := y.one; exact ⟨_, _, rfl, x, z⟩
theorem FVs.three {h : Heap} {vs : List Value} {d d' d'' : D} (x : FVs prog w h M vs [d, d', d'']) : ∃ v v' v'', vs = [v, v', v''] ∧ FV prog w h M v d ∧ FV prog w h M v' d' ∧ FV prog w h M v'' d'' := by
  cases x with
  | cons x y => obtain ⟨v, v', rfl, z⟩ := y.two; exact ⟨_, _, _, rfl, x, z⟩
theorem strs_of {h : Heap} : ∀ {vs : List Value} {ds : List D} {xs : List Str}, FVs prog w h M vs ds → strsOf ds = some xs → ∃ l : List (Str × Tok), vs = strValues l ∧ l.map (·.1) = xs
  | _, _, _, .nil, e => by cases e; exact ⟨[], rfl, rfl⟩
  | _, _, xs, .cons x f, e => by
    cases x <;> try (cases e; done)
    obtain ⟨ms, e1, e2⟩ := Option.bind_eq_some_iff.mp e
    cases e2
    obtain ⟨l, h1, h2⟩ := strs_of f e1
    rename_i y t
    exact ⟨(y, t) :: l, by rw [h1]; rfl, by rw [List.map_cons, h2]⟩
theorem gives_find_range (x y : Str) (i j : Int) (t u v v' : Tok) : Gives (Builtin.«str.find» ⟨[.str x t, .str y u, .int i v, .int j v'], []⟩)
    (.int (match Builtin.Str.occurrences x y (fromIndex x.length i) (min (fromIndex x.length j) x.length) 1 with | k :: _ => (k : Int) | [] => -1)) := by
  show Gives (match Builtin.Str.occurrences x y (fromIndex x.length i) (min (fromIndex x.length j) x.length) 1 with | k :: _ => retInt k | [] => (do rule "str.find.not-found"; retInt (-1))) _
  cases Builtin.Str.occurrences x y (fromIndex x.length i) (min (fromIndex x.length j) x.length) 1 with
  | nil => exact .rule (.of_eq rfl)
  | cons k _ => exact .of_eq rfl
theorem find4_ok {x y : Str} {i j : Int} {t u v v' : Tok} (hq : Q (.int (match Builtin.Str.occurrences x y (fromIndex x.length i) (min (fromIndex x.length j) x.length) 1 with | k :: _ => (k : Int) | [] => -1) s.toks) { s with toks := s.toks + 1 }) :
    wpAny (model prog w) A (call (.builtin "str.find") [.str x t, .str y u, .int i v, .int j v']) Q E s :=
  call_gives F.slot_str_find (typeIs_str _ _ _) F.entry_str_find (F.args_str_find_4 _ _ _ _) (gives_find_range x y i j t u v v') hq
theorem fromIndex_nat {n : Nat} {i : Int} (h : 0 ≤ i) : fromIndex n i = i.toNat := by
  unfold fromIndex
  rw [if_neg (by omega)]
  omega
theorem FVs.o {h : Heap} {vs : List Value} {ds : List D} {d : D} {C : List Value → Prop} (x : FVs prog w h M vs ds) (e : arg1 ds = some d) (H : ∀ v, FV prog w h M v d → C [v]) : C vs := by
  revert x
  exact one_inv (C := fun ds => FVs prog w h M vs ds → C vs) e fun x => let ⟨v, q, y⟩ := x.one; q ▸ H v y
theorem get_dict {h : Heap} {v : Value} {x p : D} {l : List (D × D)} {d : D} {q : Option D → D} {C : Prop} (a : PV prog w h M v x) (e1 : asM x = some l)
    (e : ((asI p).bind fun k => (dGet (.int k) l).map q).or ((asS p).bind fun k => (dGet (.str k) l).map q) = some d)
    (h1 : ∀ a kvs ds k r, v = .ref a → a ≠ sysModules → h.DictOf (intKind prog w) a kvs → FVs prog w h M (kvs.map (·.2)) ds → asI p = some k → dGet (.int k) ((kvs.map fun p => PyData.int p.1).zip ds) = some r → d = q r → C)
    (h2 : ∀ a kvs ds k r, v = .ref a → a ≠ sysModules → h.DictOf (strKind prog w) a kvs → FVs prog w h M (kvs.map (·.2)) ds → asS p = some k → dGet (.str k) ((kvs.map fun p => PyData.str p.1).zip ds) = some r → d = q r → C) : C := by
  have a := asM_inv (C := fun y => PV prog w h M v y → PV prog w h M v (.dict l)) e1 id a
  refine or_inv e (fun e => bnd e fun k e2 e => ?_) fun e => bnd e fun k e2 e => ?_
  · obtain ⟨r, e3, e4⟩ := Option.map_eq_some_iff.mp e
    obtain ⟨b, kvs, ds, z, n, m, f, rfl⟩ := pv_dictI a e3
    exact h1 b kvs ds k r z n m f e2 e3 e4.symm
  · obtain ⟨r, e3, e4⟩ := Option.map_eq_some_iff.mp e
    obtain ⟨b, kvs, ds, z, n, m, f, rfl⟩ := pv_dictS a e3
    exact h2 b kvs ds k r z n m f e2 e3 e4.symm
theorem valD_inv {s : Option (Option Slot)} {d : D} {C : Prop} (h : valD s = some d) (H : s = some (some (.val d)) → C) : C := by
  match s, h with
  | some (some (.val d')), h => exact H (congrArg (fun o => some (some (Slot.val o))) (Option.some.inj h))
theorem ownD_inv {s : Option (Option Slot)} {d : D} {C : Prop} (h : ownD s = some d) (H : s = some (some (.own d)) → C) : C := by
  match s, h with
  | some (some (.own d')), h => exact H (congrArg (fun o => some (some (Slot.own o))) (Option.some.inj h))
theorem bookD_inv {s : Option (Option Slot)} {d : List (Str × Str)} {C : Prop} (h : bookD s = some d) (H : s = some (some (.book d)) → C) : C := by
  match s, h with
  | some (some (.book d')), h => exact H (congrArg (fun o => some (some (Slot.book o))) (Option.some.inj h))
theorem asV_inv {e : Mine.E} {i : Nat} {C : Mine.E → Prop} (h : asV e = some i) (H : C (.var i)) : C e := by
  by_cases q : e.ctorIdx = 4
  · exact Mine.E.var.elim (motive_1 := fun e => asV e = some i → C e) e q (fun j h => by cases h; exact H) h
  · exact absurd ((dif_neg q).symm.trans h) (fun h => nomatch h)
theorem eS {o : D} {P : D → Prop} {x : Str} (h : asS o = some x) (H : P o) : P (.str x) := asS_inv (C := fun o => P o → P (.str x)) h id H
theorem eI {o : D} {P : D → Prop} {x : Int} (h : asI o = some x) (H : P o) : P (.int x) := asI_inv (C := fun o => P o → P (.int x)) h id H
theorem eL {o : D} {P : D → Prop} {x : List D} (h : asL o = some x) (H : P o) : P (.list x) := asL_inv (C := fun o => P o → P (.list x)) h id H
theorem eM {o : D} {P : D → Prop} {x : List (D × D)} (h : asM o = some x) (H : P o) : P (.dict x) := asM_inv (C := fun o => P o → P (.dict x)) h id H
theorem iteG {α : Type} {c : Prop} [Decidable c] {a : Option α} {x : α} {C : Prop} (h : (if c then a else none) = some x) (H : c → a = some x → C) : C := by
  by_cases q : c
  · rw [if_pos q] at h; exact H q h
  · rw [if_neg q] at h; cases h
/-- the receiver -/
theorem mth_recv {m : MT} {v : Value} {x d : D} {ds : List D} (a : PV prog w s.heap M v x) (e : mth2 m x ds = some d) : s.TypeIs v (mtT m) ∧ ∀ a, v = .ref a → ∃ ob, s.heap.get? a = some ob ∧ ob.dict = none := by
  have st : ∀ {y : Str}, asS x = some y → s.TypeIs v "str" ∧ ∀ a, v = .ref a → ∃ ob, s.heap.get? a = some ob ∧ ob.dict = none := fun {y} e =>
    a.S (C := fun v => s.TypeIs v "str" ∧ ∀ a, v = .ref a → ∃ ob, s.heap.get? a = some ob ∧ ob.dict = none) e fun t => ⟨typeIs_str _ _ _, fun _ q => nomatch q⟩
  cases m with
  | get => exact bnd e fun l e1 e => bnd e fun p e2 e => get_dict a e1 e (fun a kvs ds k r z n m f _ _ _ => by rw [z]; exact ⟨m.mapOf.typeIs, m.mapOf.noDict⟩) fun a kvs ds k r z n m f _ _ _ => by rw [z]; exact ⟨m.mapOf.typeIs, m.mapOf.noDict⟩
  | _ => exact bnd e fun l e1 e => st e1
theorem dictGetD_ok {K : Type} [DecidableEq K] {knd : KeyKind prog w K} {enc : K → D} (henc : ∀ a b, keyEq (enc a) (enc b) = some (decide (a = b))) {a : Addr} {key dv : Value} {k : K} {kvs : List (K × Value)} {ds : List D} {q : Option D} {dd : D}
    (hkey : knd.is k key = true) (n : a ≠ sysModules) (hm : s.heap.DictOf knd a kvs) (f : FVs prog w s.heap M (kvs.map (·.2)) ds) (e : dGet (enc k) ((kvs.map fun p => enc p.1).zip ds) = some q) (hd : FV prog w s.heap M dv dd) (r : Ret prog w M s (q.getD dd) Q) :
    wpAny (model prog w) A (call (.builtin "dict.get") [.ref a, key, dv]) Q E s := by
  obtain ⟨q', e', hq⟩ := valueAt_zip henc k f
  rw [e] at e'
  cases e'
  refine call_meetsIn F.slot_dict_get hm.mapOf.typeIs F.entry_dict_get (F.args_dict_get_3 _ _ _) (meets_dict_get_default knd a hkey (by simpa using n) dv) ⟨_, hm.mapOf, ?_⟩
  rcases hq with ⟨h1, h2⟩ | ⟨v, d', h1, h2, h3⟩
  · rw [h2] at r
    rw [h1]
    exact r.here' hd
  · rw [h2] at r
    rw [h1]
    exact r.here' h3
theorem mth_ok {m : MT} {v : Value} {vs : List Value} {x d : D} {ds : List D} (hh : A.handled = none) (a : PV prog w s.heap M v x) (as : FVs prog w s.heap M vs ds) (e : mth2 m x ds = some d) (r : Ret prog w M s d Q) :
    wpAny (model prog w) A (call (.builtin (mtId m)) (v :: vs)) Q E s := by
  cases m with
  | join =>
    refine bnd e fun y e1 e => a.S (C := fun v => wpAny _ A (call _ (v :: _)) Q E s) e1 fun t => bnd e fun d e2 e => as.o (C := fun vs => wpAny _ A (call _ (_ :: vs)) Q E s) e2 fun u z => or_inv e (fun e => bnd e fun l e3 e => bnd e fun xs h1 e => ?_) fun e => bnd e fun l e3 e => ?_
    · refine z.L (C := fun v => wpAny _ A (call _ [_, v]) Q E s) e3 fun a items il f => iteS (C := fun d => Ret prog w M s d Q → wpAny _ A (call _ _) Q E s) e (fun ok r => ?_) r
      obtain ⟨l, h2, h3⟩ := strs_of f h1
      obtain ⟨o, ho, hc, k, hd⟩ := il
      exact SC.join (l := l) ⟨o, ho, hc, k, by rw [hd, ← h2]⟩ h3 ok fun t' k => r.str _ _
    · exact z.S (C := fun v => wpAny _ A (call _ [_, v]) Q E s) e3 fun t' => iteS (C := fun d => Ret prog w M s d Q → wpAny _ A (call _ _) Q E s) e (fun ok r => SC.joinStr hh ok fun h' k t' hk => r _ _ _ hk (.str _ _)) r
  | lower =>
    refine bnd e fun y e1 e => a.S (C := fun v => wpAny _ A (call _ (v :: _)) Q E s) e1 fun t => bnd e fun d e2 e => ?_
    revert as
    exact no0_inv (C := fun ds => FVs prog w s.heap M vs ds → _) e2 fun as => iteS (C := fun d => Ret prog w M s d Q → wpAny _ A (call _ _) Q E s) e (fun ok r => by cases as; exact SC.lower ok (r.str _ _)) r
  | upper =>
    refine bnd e fun y e1 e => a.S (C := fun v => wpAny _ A (call _ (v :: _)) Q E s) e1 fun t => bnd e fun d e2 e => ?_
    revert as
    exact no0_inv (C := fun ds => FVs prog w s.heap M vs ds → _) e2 fun as => iteS (C := fun d => Ret prog w M s d Q → wpAny _ A (call _ _) Q E s) e (fun ok r => by cases as; exact SC.upper ok (r.str _ _)) r
  | startswith =>
    exact bnd e fun y e1 e => a.S (C := fun v => wpAny _ A (call _ (v :: _)) Q E s) e1 fun t => bnd e fun d e2 e => as.o (C := fun vs => wpAny _ A (call _ (_ :: vs)) Q E s) e2 fun u z => bnd e fun l e3 e => z.S (C := fun v => wpAny _ A (call _ [_, v]) Q E s) e3 fun t' => by
      cases e; exact SC.startswith r.bool
  | endswith =>
    exact bnd e fun y e1 e => a.S (C := fun v => wpAny _ A (call _ (v :: _)) Q E s) e1 fun t => bnd e fun d e2 e => as.o (C := fun vs => wpAny _ A (call _ (_ :: vs)) Q E s) e2 fun u z => bnd e fun l e3 e => z.S (C := fun v => wpAny _ A (call _ [_, v]) Q E s) e3 fun t' => by
      cases e; exact SC.endswith r.bool
  | find =>
    refine bnd e fun y e1 e => a.S (C := fun v => wpAny _ A (call _ (v :: _)) Q E s) e1 fun t => bnd e fun p e2 e => bnd e fun y' e3 e => bnd e fun lo e4 e => bnd e fun hi e5 e => ?_
    revert as
    refine three_inv (C := fun ds => FVs prog w s.heap M vs ds → _) e2 fun as => iteS (C := fun d => Ret prog w M s d Q → wpAny _ A (call _ _) Q E s) e (fun h r => ?_) r
    obtain ⟨u, u', u'', rfl, z, z', z''⟩ := as.three
    refine z.S (C := fun v => wpAny _ A (call _ [_, v, _, _]) Q E s) e3 fun t1 => z'.I (C := fun v => wpAny _ A (call _ [_, _, v, _]) Q E s) e4 fun t2 => z''.I (C := fun v => wpAny _ A (call _ [_, _, _, v]) Q E s) e5 fun t3 => ?_
    refine find4_ok ?_
    rw [fromIndex_nat h.1, fromIndex_nat h.2]
    exact r.int _ _
  | index =>
    refine bnd e fun y e1 e => a.S (C := fun v => wpAny _ A (call _ (v :: _)) Q E s) e1 fun t => bnd e fun d e2 e => as.o (C := fun vs => wpAny _ A (call _ (_ :: vs)) Q E s) e2 fun u z => bnd e fun l e3 e => z.S (C := fun v => wpAny _ A (call _ [_, v]) Q E s) e3 fun t' => ?_
    revert e
    cases h : Builtin.Str.occurrences y l 0 y.length 1 with
    | nil => exact fun e => nomatch e
    | cons i rest => intro e; cases e; exact SC.index h (r.int _ _)
  | get =>
    refine bnd e fun l e1 e => bnd e fun p e2 e => ?_
    revert as
    refine two_inv (C := fun ds => FVs prog w s.heap M vs ds → _) e2 fun as => ?_
    obtain ⟨u, u', rfl, z, z'⟩ := as.two
    refine get_dict a e1 e (fun a kvs ds k q zz n m f ek hq hd => ?_) fun a kvs ds k q zz n m f ek hq hd => ?_
    · subst zz hd
      exact z.I (C := fun v => wpAny _ A (call _ [_, v, _]) Q E s) ek fun t => dictGetD_ok encI (intKind_is prog w _ _) n m f hq z' r
    · subst zz hd
      exact z.S (C := fun v => wpAny _ A (call _ [_, v, _]) Q E s) ek fun t => dictGetD_ok encS (strKind_is prog w _ _) n m f hq z' r
end
end Mine
end
section
/-! What the compiler took, form by form; the fixed facts; what is to be shown of a level. -/
open PySem PySem.Calls PyProof.Rows PySem.W PySem.Spec
namespace Mine

noncomputable abbrev Ex := E
noncomputable def CX (g : Gl) (ns : Names) (pe : PySem.Expr) (e : E) : Prop := ∃ k, chk g k ns pe e = true
noncomputable def CXs (g : Gl) (ns : Names) (l : List PySem.Expr) (es : List E) : Prop := ∃ k, chkL (chk g k ns) l es = true
noncomputable def CXo (g : Gl) (ns : Names) (l : Option PySem.Expr) (es : Option E) : Prop := ∃ k, chkO (chk g k ns) l es = true

inductive Inv (g : Gl) (ns : Names) : PySem.Expr → E → Prop
  | none {a p} : Inv g ns (.Constant .none a p) .none
  | bool {b a p} : Inv g ns (.Constant (.bool b) a p) (.bool b)
  | int {i a p} : Inv g ns (.Constant (.int i) a p) (.int i)
  | str {x a p} : Inv g ns (.Constant (.str x) a p) (.str x)
  | var {x p i} : (x == ("__debug__" : Str)) = false → (x == ("__classdict__" : Str)) = false → varIx ns x = some i → Inv g ns (.Name x p) (.var i)
  | con {x p} : (x == ("__debug__" : Str)) = false → isGlob ns x = true → g.cons.contains x = true → Inv g ns (.Name x p) (.con x)
  | bin {a o b p o' a' b'} : cOp o = some o' → CX g ns a a' → CX g ns b b' → Inv g ns (.BinOp a o b p) (.bin o' a' b')
  | neg {a p a'} : CX g ns a a' → Inv g ns (.UnaryOp .USub a p) (.neg a')
  | not {a p a'} : CX g ns a a' → Inv g ns (.UnaryOp .Not a p) (.not a')
  | cmp {a o b p a' b'} : CX g ns a a' → CX g ns b b' → Inv g ns (.Compare a [o] [b] p) (.cmp (cCp o) a' b')
  | andl {a l p a' l'} : CX g ns a a' → CXs g ns l l' → Inv g ns (.BoolOp .And (a :: l) p) (.andl a' l')
  | orl {a l p a' l'} : CX g ns a a' → CXs g ns l l' → Inv g ns (.BoolOp .Or (a :: l) p) (.orl a' l')
  | ite {c a b p c' a' b'} : CX g ns c c' → CX g ns a a' → CX g ns b b' → Inv g ns (.IfExp c a b p) (.ite c' a' b')
  | slc {a lo hi q p a' lo' hi'} : CX g ns a a' → CXo g ns lo lo' → CXo g ns hi hi' → Inv g ns (.Subscript a (.Slice lo hi .none q) p) (.slc a' lo' hi')
  | idx {a i p a' i'} : CX g ns a a' → CX g ns i i' → Inv g ns (.Subscript a i p) (.idx a' i')
  | lst {l p l'} : l.length < 1000 → CXs g ns l l' → Inv g ns (.List l p) (.lst l')
  | tup {l q p l'} : l.length < 1000 → CXs g ns l l' → Inv g ns (.Tuple l q p) (.tup l')
  | call {f q l p l'} : isGlob ns f = true → g.defs.contains f = true → CXs g ns l l' → Inv g ns (.Call (.Name f q) l [] p) (.call f l')
  | bi {f q l p f' l'} : isGlob ns f = true → g.defs.contains f = false → cBI f = some f' → CXs g ns l l' → Inv g ns (.Call (.Name f q) l [] p) (.bi f' l')
  | mth {o m q l p m' o' l'} : (q.endLine == p.line) = true → plainBase o = true → l.length < 20 → cMT m = some m' → CX g ns o o' → CXs g ns l l' → Inv g ns (.Call (.Attribute o m q) l [] p) (.mth m' o' l')
  | comp1 {elt x q it ifs sc p elt' t it' ifs'} : okSc ns sc = true → ownIn sc x = true → CX g (relabelN true ns sc.names) elt elt' → varIx (relabelN true ns sc.names) x = some t → CX g ns it it' → CXs g (relabelN true ns sc.names) ifs ifs' →
      Inv g ns (.ListComp elt [⟨.Name x q, it, ifs, 0⟩] sc p) (.comp ((nmOf (relabelN true ns sc.names)).map fun y => if sc.names.lookup y == some .free then varIx ns y else .none) elt' t it' ifs' .none)
  | comp2 {elt x q it ifs x2 q2 it2 ifs2 sc p elt' t it' ifs' t2 it2' ifs2'} : okSc ns sc = true → ownIn sc x = true → ownIn sc x2 = true → x ≠ x2 → CX g (relabelN true ns sc.names) elt elt' → varIx (relabelN true ns sc.names) x = some t → CX g ns it it' → CXs g (relabelN true ns sc.names) ifs ifs' →
      varIx (relabelN true ns sc.names) x2 = some t2 → CX g (relabelN true ns sc.names) it2 it2' → CXs g (relabelN true ns sc.names) ifs2 ifs2' →
      Inv g ns (.ListComp elt [⟨.Name x q, it, ifs, 0⟩, ⟨.Name x2 q2, it2, ifs2, 0⟩] sc p) (.comp ((nmOf (relabelN true ns sc.names)).map fun y => if sc.names.lookup y == some .free then varIx ns y else .none) elt' t it' ifs' (some (t2, it2', ifs2')))

theorem bind_some {α β : Type} {o : Option α} {f : α → Option β} {b : β} (h : (o >>= f) = some b) : ∃ a, o = some a ∧ f a = some b := Option.bind_eq_some_iff.mp h

theorem a1 {a b : Bool} (h : (a && b) = true) : a = true := by cases a; exact h; rfl
theorem a2 {a b : Bool} (h : (a && b) = true) : b = true := by cases a; exact absurd h Bool.false_ne_true; exact h
theorem notT {a : Bool} (h : (!a) = true) : a = false := by cases a; rfl; exact absurd h Bool.false_ne_true
theorem decT {p : Prop} [Decidable p] (h : decide p = true) : p := of_decide_eq_true h
theorem eqR {α : Type} [DecidableEq α] {a b : α} {C : α → Prop} (h : decide (a = b) = true) (H : C b) : C a := by cases decT h; exact H
theorem eqL {α : Type} [DecidableEq α] {a b : α} {C : α → Prop} (h : decide (a = b) = true) (H : C a) : C b := by cases decT h; exact H
theorem onConst_inv {k : Const → Bool} {C : PySem.Expr → Prop} {e : PySem.Expr} (h : onConst k e = true) (H : ∀ c z1 z2, k c = true → C (.Constant c z1 z2)) : C e := by
  by_cases q : e.ctorIdx = 19
  · exact PySem.Expr.Constant.elim (motive_1 := fun e => onConst k e = true → C e) e q H h
  · exact absurd ((dif_neg q).symm.trans h) Bool.false_ne_true
theorem onName_inv {k : Str → Pos → Bool} {C : PySem.Expr → Prop} {e : PySem.Expr} (h : onName k e = true) (H : ∀ x p, k x p = true → C (.Name x p)) : C e := by
  by_cases q : e.ctorIdx = 23
  · exact PySem.Expr.Name.elim (motive_1 := fun e => onName k e = true → C e) e q H h
  · exact absurd ((dif_neg q).symm.trans h) Bool.false_ne_true
theorem onBin_inv {k : PySem.Expr → Operator → PySem.Expr → Bool} {C : PySem.Expr → Prop} {e : PySem.Expr} (h : onBin k e = true) (H : ∀ a o b z3, k a o b = true → C (.BinOp a o b z3)) : C e := by
  by_cases q : e.ctorIdx = 2
  · exact PySem.Expr.BinOp.elim (motive_1 := fun e => onBin k e = true → C e) e q H h
  · exact absurd ((dif_neg q).symm.trans h) Bool.false_ne_true
theorem onUn_inv {k : UnaryOp → PySem.Expr → Bool} {C : PySem.Expr → Prop} {e : PySem.Expr} (h : onUn k e = true) (H : ∀ o a z2, k o a = true → C (.UnaryOp o a z2)) : C e := by
  by_cases q : e.ctorIdx = 3
  · exact PySem.Expr.UnaryOp.elim (motive_1 := fun e => onUn k e = true → C e) e q H h
  · exact absurd ((dif_neg q).symm.trans h) Bool.false_ne_true
theorem onCmp_inv {k : PySem.Expr → List CmpOp → List PySem.Expr → Bool} {C : PySem.Expr → Prop} {e : PySem.Expr} (h : onCmp k e = true) (H : ∀ a o b z3, k a o b = true → C (.Compare a o b z3)) : C e := by
  by_cases q : e.ctorIdx = 15
  · exact PySem.Expr.Compare.elim (motive_1 := fun e => onCmp k e = true → C e) e q H h
  · exact absurd ((dif_neg q).symm.trans h) Bool.false_ne_true
theorem onBool_inv {k : BoolOp → List PySem.Expr → Bool} {C : PySem.Expr → Prop} {e : PySem.Expr} (h : onBool k e = true) (H : ∀ o l z2, k o l = true → C (.BoolOp o l z2)) : C e := by
  by_cases q : e.ctorIdx = 0
  · exact PySem.Expr.BoolOp.elim (motive_1 := fun e => onBool k e = true → C e) e q H h
  · exact absurd ((dif_neg q).symm.trans h) Bool.false_ne_true
theorem onIfE_inv {k : PySem.Expr → PySem.Expr → PySem.Expr → Bool} {C : PySem.Expr → Prop} {e : PySem.Expr} (h : onIfE k e = true) (H : ∀ c a b z3, k c a b = true → C (.IfExp c a b z3)) : C e := by
  by_cases q : e.ctorIdx = 5
  · exact PySem.Expr.IfExp.elim (motive_1 := fun e => onIfE k e = true → C e) e q H h
  · exact absurd ((dif_neg q).symm.trans h) Bool.false_ne_true
theorem onSub_inv {k : PySem.Expr → PySem.Expr → Bool} {C : PySem.Expr → Prop} {e : PySem.Expr} (h : onSub k e = true) (H : ∀ a i z2, k a i = true → C (.Subscript a i z2)) : C e := by
  by_cases q : e.ctorIdx = 21
  · exact PySem.Expr.Subscript.elim (motive_1 := fun e => onSub k e = true → C e) e q H h
  · exact absurd ((dif_neg q).symm.trans h) Bool.false_ne_true
theorem onSlice_inv {k : Option PySem.Expr → Option PySem.Expr → Option PySem.Expr → Bool} {C : PySem.Expr → Prop} {e : PySem.Expr} (h : onSlice k e = true) (H : ∀ a b c z3, k a b c = true → C (.Slice a b c z3)) : C e := by
  by_cases q : e.ctorIdx = 26
  · exact PySem.Expr.Slice.elim (motive_1 := fun e => onSlice k e = true → C e) e q H h
  · exact absurd ((dif_neg q).symm.trans h) Bool.false_ne_true
theorem onList_inv {k : List PySem.Expr → Bool} {C : PySem.Expr → Prop} {e : PySem.Expr} (h : onList k e = true) (H : ∀ l z1, k l = true → C (.List l z1)) : C e := by
  by_cases q : e.ctorIdx = 24
  · exact PySem.Expr.List.elim (motive_1 := fun e => onList k e = true → C e) e q H h
  · exact absurd ((dif_neg q).symm.trans h) Bool.false_ne_true
theorem onTup_inv {k : List PySem.Expr → Bool} {C : PySem.Expr → Prop} {e : PySem.Expr} (h : onTup k e = true) (H : ∀ l z1 z2, k l = true → C (.Tuple l z1 z2)) : C e := by
  by_cases q : e.ctorIdx = 25
  · exact PySem.Expr.Tuple.elim (motive_1 := fun e => onTup k e = true → C e) e q H h
  · exact absurd ((dif_neg q).symm.trans h) Bool.false_ne_true
theorem onCall_inv {k : PySem.Expr → List PySem.Expr → List Keyword → Pos → Bool} {C : PySem.Expr → Prop} {e : PySem.Expr} (h : onCall k e = true) (H : ∀ f l w p, k f l w p = true → C (.Call f l w p)) : C e := by
  by_cases q : e.ctorIdx = 16
  · exact PySem.Expr.Call.elim (motive_1 := fun e => onCall k e = true → C e) e q H h
  · exact absurd ((dif_neg q).symm.trans h) Bool.false_ne_true
theorem onAttr_inv {k : PySem.Expr → Str → Pos → Bool} {C : PySem.Expr → Prop} {e : PySem.Expr} (h : onAttr k e = true) (H : ∀ o m p, k o m p = true → C (.Attribute o m p)) : C e := by
  by_cases q : e.ctorIdx = 20
  · exact PySem.Expr.Attribute.elim (motive_1 := fun e => onAttr k e = true → C e) e q H h
  · exact absurd ((dif_neg q).symm.trans h) Bool.false_ne_true
theorem onComp_inv {k : PySem.Expr → List Comprehension → Scope → Bool} {C : PySem.Expr → Prop} {e : PySem.Expr} (h : onComp k e = true) (H : ∀ e l s z3, k e l s = true → C (.ListComp e l s z3)) : C e := by
  by_cases q : e.ctorIdx = 8
  · exact PySem.Expr.ListComp.elim (motive_1 := fun e => onComp k e = true → C e) e q H h
  · exact absurd ((dif_neg q).symm.trans h) Bool.false_ne_true
theorem onDict_inv {k : List (Option PySem.Expr) → List PySem.Expr → Bool} {C : PySem.Expr → Prop} {e : PySem.Expr} (h : onDict k e = true) (H : ∀ a b z2, k a b = true → C (.Dict a b z2)) : C e := by
  by_cases q : e.ctorIdx = 6
  · exact PySem.Expr.Dict.elim (motive_1 := fun e => onDict k e = true → C e) e q H h
  · exact absurd ((dif_neg q).symm.trans h) Bool.false_ne_true
theorem onAssign_inv {k : List PySem.Expr → PySem.Expr → Bool} {C : PySem.Stmt → Prop} {e : PySem.Stmt} (h : onAssign k e = true) (H : ∀ l v z2, k l v = true → C (.Assign l v z2)) : C e := by
  by_cases q : e.ctorIdx = 5
  · exact PySem.Stmt.Assign.elim (motive_2 := fun e => onAssign k e = true → C e) e q H h
  · exact absurd ((dif_neg q).symm.trans h) Bool.false_ne_true
theorem onAug_inv {k : PySem.Expr → Operator → PySem.Expr → Bool} {C : PySem.Stmt → Prop} {e : PySem.Stmt} (h : onAug k e = true) (H : ∀ a o v z3, k a o v = true → C (.AugAssign a o v z3)) : C e := by
  by_cases q : e.ctorIdx = 7
  · exact PySem.Stmt.AugAssign.elim (motive_2 := fun e => onAug k e = true → C e) e q H h
  · exact absurd ((dif_neg q).symm.trans h) Bool.false_ne_true
theorem onExprS_inv {k : PySem.Expr → Bool} {C : PySem.Stmt → Prop} {e : PySem.Stmt} (h : onExprS k e = true) (H : ∀ e z1, k e = true → C (.Expr e z1)) : C e := by
  by_cases q : e.ctorIdx = 24
  · exact PySem.Stmt.Expr.elim (motive_2 := fun e => onExprS k e = true → C e) e q H h
  · exact absurd ((dif_neg q).symm.trans h) Bool.false_ne_true
theorem onDel_inv {k : List PySem.Expr → Bool} {C : PySem.Stmt → Prop} {e : PySem.Stmt} (h : onDel k e = true) (H : ∀ l z1, k l = true → C (.Delete l z1)) : C e := by
  by_cases q : e.ctorIdx = 4
  · exact PySem.Stmt.Delete.elim (motive_2 := fun e => onDel k e = true → C e) e q H h
  · exact absurd ((dif_neg q).symm.trans h) Bool.false_ne_true
theorem onIfS_inv {k : PySem.Expr → List PySem.Stmt → List PySem.Stmt → Bool} {C : PySem.Stmt → Prop} {e : PySem.Stmt} (h : onIfS k e = true) (H : ∀ c a b z3, k c a b = true → C (.If c a b z3)) : C e := by
  by_cases q : e.ctorIdx = 12
  · exact PySem.Stmt.If.elim (motive_2 := fun e => onIfS k e = true → C e) e q H h
  · exact absurd ((dif_neg q).symm.trans h) Bool.false_ne_true
theorem onFor_inv {k : PySem.Expr → PySem.Expr → List PySem.Stmt → List PySem.Stmt → Bool} {C : PySem.Stmt → Prop} {e : PySem.Stmt} (h : onFor k e = true) (H : ∀ a b c d z4, k a b c d = true → C (.For a b c d z4)) : C e := by
  by_cases q : e.ctorIdx = 9
  · exact PySem.Stmt.For.elim (motive_2 := fun e => onFor k e = true → C e) e q H h
  · exact absurd ((dif_neg q).symm.trans h) Bool.false_ne_true
theorem onWhile_inv {k : PySem.Expr → List PySem.Stmt → List PySem.Stmt → Bool} {C : PySem.Stmt → Prop} {e : PySem.Stmt} (h : onWhile k e = true) (H : ∀ c a b z3, k c a b = true → C (.While c a b z3)) : C e := by
  by_cases q : e.ctorIdx = 11
  · exact PySem.Stmt.While.elim (motive_2 := fun e => onWhile k e = true → C e) e q H h
  · exact absurd ((dif_neg q).symm.trans h) Bool.false_ne_true
theorem onRet_inv {k : Option PySem.Expr → Bool} {C : PySem.Stmt → Prop} {e : PySem.Stmt} (h : onRet k e = true) (H : ∀ e z1, k e = true → C (.Return e z1)) : C e := by
  by_cases q : e.ctorIdx = 3
  · exact PySem.Stmt.Return.elim (motive_2 := fun e => onRet k e = true → C e) e q H h
  · exact absurd ((dif_neg q).symm.trans h) Bool.false_ne_true
theorem onAsrt_inv {k : PySem.Expr → Option PySem.Expr → Bool} {C : PySem.Stmt → Prop} {e : PySem.Stmt} (h : onAsrt k e = true) (H : ∀ e m z2, k e m = true → C (.Assert e m z2)) : C e := by
  by_cases q : e.ctorIdx = 19
  · exact PySem.Stmt.Assert.elim (motive_2 := fun e => onAsrt k e = true → C e) e q H h
  · exact absurd ((dif_neg q).symm.trans h) Bool.false_ne_true
theorem onO_inv {α : Type} {k : α → Bool} {C : Option α → Prop} {o : Option α} (h : onO k o = true) (H : ∀ a, k a = true → C (some a)) : C o := by
  cases o
  · exact absurd h Bool.false_ne_true
  · exact H _ h
theorem onNo_inv {α : Type} {C : Option α → Prop} {o : Option α} (h : onNo o = true) (H : C .none) : C o := by
  cases o
  · exact H
  · exact absurd h Bool.false_ne_true
theorem on0_inv {α : Type} {C : List α → Prop} {l : List α} (h : on0 l = true) (H : C []) : C l := by
  cases l
  · exact H
  · exact absurd h Bool.false_ne_true
theorem onC_inv {α : Type} {k : α → List α → Bool} {C : List α → Prop} {l : List α} (h : onC k l = true) (H : ∀ a m, k a m = true → C (a :: m)) : C l := by
  cases l
  · exact absurd h Bool.false_ne_true
  · exact H _ _ h
theorem on1_inv {α : Type} {k : α → Bool} {C : List α → Prop} {l : List α} (h : on1 k l = true) (H : ∀ a, k a = true → C [a]) : C l :=
  onC_inv h fun a m h => on0_inv (C := fun m => C (a :: m)) (a1 h) (H a (a2 h))
theorem on2_inv {α : Type} {k : α → α → Bool} {C : List α → Prop} {l : List α} (h : on2 k l = true) (H : ∀ a b, k a b = true → C [a, b]) : C l :=
  onC_inv h fun a m h => on1_inv (C := fun m => C (a :: m)) h (H a)
theorem chkGen_inv {r : Chk} {ns inner : Names} {sc : Scope} {t : Nat} {it : E} {ifs : List E} {c : Comprehension} {k : Str → Bool} {C : Comprehension → Prop} (h : chkGen r ns inner sc t it ifs c k = true)
    (H : ∀ x q it' ifs', ownIn sc x = true → varIx inner x = some t → r ns it' it = true → chkL (r inner) ifs' ifs = true → k x = true → C ⟨.Name x q, it', ifs', 0⟩) : C c := by
  obtain ⟨tg, it', ifs', as⟩ := c
  revert h
  exact fun h => onName_inv (C := fun tg => C ⟨tg, it', ifs', as⟩) h fun x q h => eqR (C := fun n => C ⟨.Name x q, it', ifs', n⟩) (a1 (a2 (a2 (a2 (a2 h))))) <| H x q it' ifs' (a1 h) (decT (a1 (a2 h))) (a1 (a2 (a2 h))) (a1 (a2 (a2 (a2 h)))) (a2 (a2 (a2 (a2 (a2 h)))))

theorem CX.inv {g : Gl} {ns : Names} {pe : PySem.Expr} {e : E} (h : CX g ns pe e) : Inv g ns pe e := by
  obtain ⟨k, h⟩ := h
  cases k with
  | zero => exact absurd h Bool.false_ne_true
  | succ k =>
    have h : chkE g (chk g k) ns pe e = true := h
    cases e with
    | none => exact onConst_inv (C := fun pe => Inv g ns pe _) h fun c a p h => eqR (C := fun c => Inv g ns (.Constant c a p) _) h .none
    | bool b => exact onConst_inv (C := fun pe => Inv g ns pe _) h fun c a p h => eqR (C := fun c => Inv g ns (.Constant c a p) _) h .bool
    | int b => exact onConst_inv (C := fun pe => Inv g ns pe _) h fun c a p h => eqR (C := fun c => Inv g ns (.Constant c a p) _) h .int
    | str b => exact onConst_inv (C := fun pe => Inv g ns pe _) h fun c a p h => eqR (C := fun c => Inv g ns (.Constant c a p) _) h .str
    | var i => exact onName_inv (C := fun pe => Inv g ns pe _) h fun x p h => .var (notT (a1 h)) (notT (a1 (a2 h))) (decT (a2 (a2 h)))
    | con y => exact onName_inv (C := fun pe => Inv g ns pe _) h fun x p h => eqL (C := fun y => Inv g ns _ (.con y)) (a1 h) <| .con (notT (a1 (a2 h))) (a1 (a2 (a2 h))) (a2 (a2 (a2 h)))
    | bin o a b => exact onBin_inv (C := fun pe => Inv g ns pe _) h fun a' o' b' p h => .bin (decT (a1 h)) ⟨k, a1 (a2 h)⟩ ⟨k, a2 (a2 h)⟩
    | neg a => exact onUn_inv (C := fun pe => Inv g ns pe _) h fun o a' p h => eqR (C := fun o => Inv g ns (.UnaryOp o a' p) _) (a1 h) <| .neg ⟨k, a2 h⟩
    | not a => exact onUn_inv (C := fun pe => Inv g ns pe _) h fun o a' p h => eqR (C := fun o => Inv g ns (.UnaryOp o a' p) _) (a1 h) <| .not ⟨k, a2 h⟩
    | cmp o a b => exact onCmp_inv (C := fun pe => Inv g ns pe _) h fun a' os bs p h => on1_inv (C := fun os => Inv g ns (.Compare a' os bs p) _) h fun o' h => on1_inv (C := fun bs => Inv g ns (.Compare a' [o'] bs p) _) h fun b' h => eqL (C := fun o => Inv g ns _ (.cmp o a b)) (a1 h) <| .cmp ⟨k, a1 (a2 h)⟩ ⟨k, a2 (a2 h)⟩
    | andl a l => exact onBool_inv (C := fun pe => Inv g ns pe _) h fun o vs p h => eqR (C := fun o => Inv g ns (.BoolOp o vs p) _) (a1 h) <| onC_inv (C := fun vs => Inv g ns (.BoolOp .And vs p) _) (a2 h) fun a' l' h => .andl ⟨k, a1 h⟩ ⟨k, a2 h⟩
    | orl a l => exact onBool_inv (C := fun pe => Inv g ns pe _) h fun o vs p h => eqR (C := fun o => Inv g ns (.BoolOp o vs p) _) (a1 h) <| onC_inv (C := fun vs => Inv g ns (.BoolOp .Or vs p) _) (a2 h) fun a' l' h => .orl ⟨k, a1 h⟩ ⟨k, a2 h⟩
    | ite c a b => exact onIfE_inv (C := fun pe => Inv g ns pe _) h fun c' a' b' p h => .ite ⟨k, a1 h⟩ ⟨k, a1 (a2 h)⟩ ⟨k, a2 (a2 h)⟩
    | idx a i => exact onSub_inv (C := fun pe => Inv g ns pe _) h fun a' i' p h => .idx ⟨k, a1 h⟩ ⟨k, a2 h⟩
    | slc a lo hi => exact onSub_inv (C := fun pe => Inv g ns pe _) h fun a' s p h => onSlice_inv (C := fun s => Inv g ns (.Subscript a' s p) _) h fun lo' hi' st q h => onNo_inv (C := fun st => Inv g ns (.Subscript a' (.Slice lo' hi' st q) p) _) (a1 h) (.slc ⟨k, a1 (a2 h)⟩ ⟨k, a1 (a2 (a2 h))⟩ ⟨k, a2 (a2 (a2 h))⟩)
    | lst l => exact onList_inv (C := fun pe => Inv g ns pe _) h fun l' p h => .lst (decT (a1 h)) ⟨k, a2 h⟩
    | tup l => exact onTup_inv (C := fun pe => Inv g ns pe _) h fun l' q p h => .tup (decT (a1 h)) ⟨k, a2 h⟩
    | call f l => exact onCall_inv (C := fun pe => Inv g ns pe _) h fun f' l' w p h => on0_inv (C := fun w => Inv g ns (.Call f' l' w p) _) (a1 h) (onName_inv (C := fun f' => Inv g ns (.Call f' l' [] p) _) (a2 h) fun x q h => eqL (C := fun f => Inv g ns _ (.call f l)) (a1 h) <| .call (a1 (a2 h)) (a1 (a2 (a2 h))) ⟨k, a2 (a2 (a2 h))⟩)
    | bi f l => exact onCall_inv (C := fun pe => Inv g ns pe _) h fun f' l' w p h => on0_inv (C := fun w => Inv g ns (.Call f' l' w p) _) (a1 h) (onName_inv (C := fun f' => Inv g ns (.Call f' l' [] p) _) (a2 h) fun x q h => .bi (a1 h) (notT (a1 (a2 h))) (decT (a1 (a2 (a2 h)))) ⟨k, a2 (a2 (a2 h))⟩)
    | mth m o l => exact onCall_inv (C := fun pe => Inv g ns pe _) h fun f' l' w p h => on0_inv (C := fun w => Inv g ns (.Call f' l' w p) _) (a1 h) (onAttr_inv (C := fun f' => Inv g ns (.Call f' l' [] p) _) (a2 h) fun o' x q h => .mth (a1 h) (a1 (a2 h)) (decT (a1 (a2 (a2 h)))) (decT (a1 (a2 (a2 (a2 h))))) ⟨k, a1 (a2 (a2 (a2 (a2 h))))⟩ ⟨k, a2 (a2 (a2 (a2 (a2 h))))⟩)
    | comp caps elt t it ifs more =>
      refine onComp_inv (C := fun pe => Inv g ns pe _) h fun elt' gs sc p h => onC_inv (C := fun gs => Inv g ns (.ListComp elt' gs sc p) _) (a2 (a2 (a2 h))) fun c l h' => chkGen_inv (C := fun c => Inv g ns (.ListComp elt' (c :: l) sc p) _) h' fun x q it' ifs' h4 h5 h6 h7 h8 => eqR (C := fun c => Inv g ns _ (.comp c elt t it ifs more)) (a1 (a2 h)) ?_
      cases more with
      | none => exact on0_inv (C := fun l => Inv g ns (.ListComp elt' (_ :: l) sc p) _) h8 (.comp1 (a1 h) h4 ⟨k, a1 (a2 (a2 h))⟩ h5 ⟨k, h6⟩ ⟨k, h7⟩)
      | some m => exact on1_inv (C := fun l => Inv g ns (.ListComp elt' (_ :: l) sc p) _) h8 fun c h => chkGen_inv (C := fun c => Inv g ns (.ListComp elt' [_, c] sc p) _) h fun x2 q2 it2 ifs2 h9 h10 h11 h12 h13 => .comp2 (a1 ‹_›) h4 h9 (decT h13) ⟨k, a1 (a2 (a2 ‹_›))⟩ h5 ⟨k, h6⟩ ⟨k, h7⟩ h10 ⟨k, h11⟩ ⟨k, h12⟩

inductive Invs (g : Gl) (ns : Names) : List PySem.Expr → List E → Prop
  | nil : Invs g ns [] []
  | cons {a l a' l'} : CX g ns a a' → CXs g ns l l' → Invs g ns (a :: l) (a' :: l')
theorem CXs.inv {g : Gl} {ns : Names} {pe : List PySem.Expr} {e : List E} (h : CXs g ns pe e) : Invs g ns pe e := by
  obtain ⟨k, h⟩ := h
  cases pe with
  | nil => exact on0_inv (C := fun e => Invs g ns _ e) h .nil
  | cons a l => exact onC_inv (C := fun e => Invs g ns _ e) h fun b m h => .cons ⟨k, a1 h⟩ ⟨k, a2 h⟩
theorem CXo.inv {g : Gl} {ns : Names} {pe : Option PySem.Expr} {e : Option E} (h : CXo g ns pe e) : (pe = none ∧ e = none) ∨ ∃ a a', pe = some a ∧ e = some a' ∧ CX g ns a a' := by
  obtain ⟨k, h⟩ := h
  cases pe with
  | none => exact onNo_inv (C := fun e => (_ ∧ e = _) ∨ _) (show onNo e = true from h) (.inl ⟨rfl, rfl⟩)
  | some a => exact onO_inv (C := fun e => _ ∨ ∃ a₁ a', _ = some a₁ ∧ e = some a' ∧ CX g ns a₁ a') h fun a' h => .inr ⟨_, _, rfl, rfl, k, h⟩

theorem CX.star {g : Gl} {ns : Names} {pe : PySem.Expr} {e : E} (h : CX g ns pe e) (rest : List PySem.Expr) (env : Env) : starEach (pe :: rest) env = (false, eval pe env) :: starEach rest env := by
  induction h.inv <;> rfl
theorem CX.noMark {g : Gl} {ns : Names} {pe : PySem.Expr} {e : E} (h : CX g ns pe e) (op : CmpOp) : behindInMarks op pe = false := by
  induction h.inv <;> rfl
theorem CX.noFold {g : Gl} {ns : Names} {pe : PySem.Expr} {e : E} (h : CX g ns pe e) (env : Env) (x : Value) : foldedSetIterable pe env x = pure x := by
  induction h.inv <;> rfl
theorem CX.base {g : Gl} {ns : Names} {pe : PySem.Expr} {e : E} (h : CX g ns pe e) (hb : plainBase pe = true) (m : Str) (env : Env) (x : Sem Value) : attributeBase pe m env x = x := by
  induction h.inv
  case call f q l p l' a b c =>
    cases l with
    | nil => cases hb
    | cons a l => rfl
  case bi f q l p l' a b c d e =>
    cases l with
    | nil => cases hb
    | cons a l => rfl
  all_goals rfl

section
variable (prog : Program) (w : World)
/-- a function that the text defines -/
inductive FnOk (g : Gl) (B : Heap) (mg : Str → Option Value) (f : Str) (fn : Fn) : Prop
  | mk (a : Addr) (o : Obj) (fd : FuncData) (body : List PySem.Stmt) (k : Nat) :
    mg f = some (.ref a) → B.get? a = some o → o.data = .func fd → fd.body = .stmts body → B.CodeRec fd.code fd.qualname → fd.closure = [] → fd.globals = mainGlobals → fd.builtins = builtinsNs →
    fd.scope.isCoroutine = false → fd.scope.isGenerator = false → fd.scope.kind = .function → chkM (chkS g k fd.scope.names) body fn.body = true → wfN fd.scope.names = true → (∀ p ∈ fd.scope.names, p.2 ≠ .free) → fn.n = (nmOf fd.scope.names).length →
    (∀ (s : Shared) (vals : List Value), Pur B s.heap → vals.length + fn.dflts.length = fn.params → ∃ rest, BindsTo s fd ⟨vals, []⟩ (((nmOf fd.scope.names).take fn.params).zip (vals ++ rest)) ∧ ∀ M, FVs prog w s.heap M rest fn.dflts) →
    FnOk g B mg f fn
structure Stat (P : Pg) (g : Gl) (B : Heap) (mg mb : Str → Option Value) : Prop where
  lim : B.NoLimit
  ng : B.Ns mainGlobals mg
  nb : B.Ns builtinsNs mb
  con : ∀ x d, g.cons.contains x = true → P.con x = some d → ∃ v, mg x = some v ∧ ∀ h M, FV prog w h M v d
  bi : ∀ x f, cBI x = some f → g.defs.contains x = false → mg x = none ∧ mb x = some (biVal f)
  fn : ∀ f fn, g.defs.contains f = true → P.fn f = some fn → FnOk prog w g B mg f fn
  nodbg : ∀ f, g.defs.contains f = true → (f == ("__debug__" : Str)) = false

noncomputable abbrev Mw (W O : Addr → Prop) : Addr → Prop := fun b => W b ∨ O b
noncomputable def OV (W O : Addr → Prop) (h : Heap) (v : Value) (d : D) : Prop := PV prog w h (Mw W O) v d ∧ (FV prog w h (Mw W O) v d ∨ ∃ a, v = .ref a ∧ W a)
/-- no iterator that hands out a tuple of its own -/
noncomputable def PlainIt (o : Obj) : Prop := ∃ n : String, o.cls = .type n ∧ ["enumerate", "zip", "dict_itemiterator", "dict_reverseitemiterator", "odict_iterator", "itertools.zip_longest", "itertools.pairwise"].contains n = false
/-- an iterator over known data -/
structure ItOk (B : Heap) (ns : Names) (env : Env) (W O : Addr → Prop) (σ : Sg) (e : E) (h0 : Heap) (ds : List D) (I : Addr) (h : Heap) (fp : List Addr) (P : Nat → Value → Prop) (St : Nat → Heap → Prop) : Prop where
  walks : ∀ A' : Around, A'.handled = none → Walks prog w A' I fp [I] ds.length P St
  st0 : St 0 h
  newI : h0.get? I = none
  liveI : ∀ i h', St i h' → ∃ o, h'.get? I = some o
  pl : ∀ i h' o, St i h' → h'.get? I = some o → PlainIt o
  fpl : ∀ b ∈ fp, ∃ o, h.get? b = some o
  items : ∀ i v d, P i v → ds[i]? = some d → FV prog w h (Mw W fun b => O b ∨ b = I) v d
  frz : ∃ W1 : Addr → Prop, (∀ b, W1 b → W b) ∧ (∀ x, Own env W x → Own env W1 x) ∧ Rl prog w B ns env W1 (fun b => O b ∨ b = I) (frz σ e) h ∧ ∀ b ∈ fp, b ≠ I → ¬ Mw W1 (fun b => O b ∨ b = I) b

/-- from h to h': what is not the frame's stays; what becomes the frame's was the frame's or is new -/
structure Gr (W : Addr → Prop) (h : Heap) (W' : Addr → Prop) (h' : Heap) : Prop where
  stp : Stp W h W' h'
  new : ∀ a, W' a → W a ∨ h.get? a = none
  kp : ∀ a o, h.get? a = some o → ∃ o', h'.get? a = some o'

noncomputable def Frame (ns : Names) (env : Env) (W : Addr → Prop) : Prop := ∀ x ∈ nmOf ns, Own env W x
/-- how a statement ends -/
noncomputable def Ends (B : Heap) (ns : Names) (env : Env) (W O : Addr → Prop) (s : Shared) (r : Option D) (σ' : Sg) (Q : Flow → Shared → Prop) : Prop :=
  ∀ f h' tk W', Gr W s.heap W' h' → Rl prog w B ns env W' O σ' h' → Frame ns env W' → (match r with | none => f = .next | some d => ∃ v, f = .ret v ∧ OV prog w W' O h' v d) → Q f { s with heap := h', toks := tk }

structure Ok (P : Pg) (g : Gl) (B : Heap) (L : Lo) (n : Nat) : Prop where
  ev : ∀ {ns pe e σ d env W O A E s Q}, CX g ns pe e → L.ev σ e = some d → Cx ns env A n → Rl prog w B ns env W O σ s.heap → Ret prog w (Mw W O) s d Q → wpAny (model prog w) A (eval pe env) Q E s
  pk : ∀ {ns pe e σ d env W O A E s} {Q : Value → Shared → Prop}, CX g ns pe e → L.pk σ e = some d → Cx ns env A n → Rl prog w B ns env W O σ s.heap →
    (∀ v h' tk, Pur s.heap h' → OV prog w W O h' v d → Q v { s with heap := h', toks := tk }) → wpAny (model prog w) A (eval pe env) Q E s
  it : ∀ {ns pe e σ ds env W O A E s} {Q : Value → Shared → Prop}, CX g ns pe e → L.it σ e = some ds → Cx ns env A n → Rl prog w B ns env W O σ s.heap →
    (∀ I h' tk fp Pi St, Pur s.heap h' → ItOk prog w B ns env W O σ e s.heap ds I h' fp Pi St → Q (.ref I) { s with heap := h', toks := tk }) → wpAny (model prog w) A (eval pe env) (fun x s₁ => wpAny (model prog w) A (pyIter x) Q E s₁) E s
  tst : ∀ {ns pe e σ b env W O A E s} {Q : Bool → Shared → Prop}, CX g ns pe e → L.tst σ e = some b → Cx ns env A n → Rl prog w B ns env W O σ s.heap →
    (∀ h' tk, Pur s.heap h' → Q b { s with heap := h', toks := tk }) → wpAny (model prog w) A (isTrue pe env (eval pe env)) Q E s
  ex : ∀ {ns ps S σ r env W O A E s Q k}, chkS g k ns ps S = true → L.ex σ S = some r → Cx ns env A n → Rl prog w B ns env W O σ s.heap → Frame ns env W → Ends prog w B ns env W O s r.1 r.2 Q → wpAny (model prog w) A (exec ps env) Q E s
  run : ∀ {ns ps S σ r env W O A E s Q k}, chkM (chkS g k ns) ps S = true → L.run σ S = some r → Cx ns env A n → Rl prog w B ns env W O σ s.heap → Frame ns env W → Ends prog w B ns env W O s r.1 r.2 Q → wpAny (model prog w) A (execs ps env) Q E s
end
end Mine
end
section
/-! The expressions: a level's answer is the model's. -/
open PySem PySem.Calls PyProof.Rows PySem.W PySem.Spec
namespace Mine
section
variable {prog : Program} {w : World} {A : Around} {E : Value → Shared → Prop} {s : Shared}

theorem Ret.after {M : Addr → Prop} {d : D} {Q : Value → Shared → Prop} (r : Ret prog w M s d Q) {h : Heap} {tk : Nat} (p : Pur s.heap h) : Ret prog w M { s with heap := h, toks := tk } d Q :=
  fun v h' tk' p' x => r v h' tk' (p.trans p') x
theorem Rl.alive {B : Heap} {ns : Names} {env : Env} {W O : Addr → Prop} {σ : Sg} {h : Heap} (R : Rl prog w B ns env W O σ h) : Live (Mw W O) h := R.live
theorem Cx.down {ns : Names} {env : Env} {A : Around} {n : Nat} (c : Cx ns env A (n + 1)) : Cx ns env A n := ⟨c.names, c.wf, c.cells, c.kind, c.globals, c.builtins, c.handled, by have := c.depth; omega, by have := c.units; omega⟩

theorem mapM_cons_some {α β : Type} {f : α → Option β} {a : α} {l : List α} {r : List β} (h : (a :: l).mapM f = some r) : ∃ b bs, f a = some b ∧ l.mapM f = some bs ∧ r = b :: bs := by
  rw [List.mapM_cons] at h
  obtain ⟨b, h1, h⟩ := bind_some h
  obtain ⟨bs, h2, h⟩ := bind_some h
  cases h
  exact ⟨b, bs, h1, h2, rfl⟩
theorem mapM_len {α β : Type} {f : α → Option β} : ∀ {l : List α} {r : List β}, l.mapM f = some r → r.length = l.length
  | [], r, h => by cases h; rfl
  | a :: l, r, h => by obtain ⟨b, bs, _, h2, rfl⟩ := mapM_cons_some h; simp [mapM_len h2]
theorem Invs.len {g : Gl} {ns : Names} : ∀ {l : List PySem.Expr} {es : List Ex}, CXs g ns l es → es.length = l.length
  | [], es, h => by cases h.inv; rfl
  | a :: l, es, h => by cases h.inv with | cons x y => simp [Invs.len y]

variable {P : Pg} {g : Gl} {B : Heap} {L : Lo} {n : Nat}

theorem args_ok (ok : Ok prog w P g B L n) {ns : Names} {env : Env} {W O : Addr → Prop} {σ : Sg} {pos : Pos} : ∀ {l : List PySem.Expr} {es : List Ex} {ds : List D} {s : Shared} {Q : List Value → Shared → Prop}, CXs g ns l es → es.mapM (L.ev σ) = some ds → Cx ns env A n → Rl prog w B ns env W O σ s.heap →
    (∀ vs h' tk, Pur s.heap h' → FVs prog w h' (Mw W O) vs ds → Q vs { s with heap := h', toks := tk }) → wpAny (model prog w) A (spliced (backTo pos (starEach l env))) Q E s
  | [], es, ds, s, Q, c, e, cx, R, h => by
    cases c.inv
    cases e
    exact wpAny_items_nil (h [] s.heap s.toks (Pur.refl _) .nil)
  | a :: l, es, ds, s, Q, c, e, cx, R, h => by
    cases c.inv with | cons x y =>
    obtain ⟨d, ds', e1, e2, rfl⟩ := mapM_cons_some e
    refine wpAny_items_cons (ok.ev x e1 cx R fun v h1 t1 p1 f1 => ?_) (x.star l env)
    refine args_ok ok y e2 cx (R.pur p1) fun vs h2 t2 p2 f2 => ?_
    exact h _ h2 t2 (p1.trans p2) (.cons (f1.pur p2) f2)
theorem argsP_ok (ok : Ok prog w P g B L n) {ns : Names} {env : Env} {W O : Addr → Prop} {σ : Sg} {pos : Pos} : ∀ {l : List PySem.Expr} {es : List Ex} {ds : List D} {s : Shared} {Q : List Value → Shared → Prop}, CXs g ns l es → es.mapM (L.pk σ) = some ds → Cx ns env A n → Rl prog w B ns env W O σ s.heap →
    (∀ vs h' tk, Pur s.heap h' → PVs prog w h' (Mw W O) vs ds → Q vs { s with heap := h', toks := tk }) → wpAny (model prog w) A (spliced (backTo pos (starEach l env))) Q E s
  | [], es, ds, s, Q, c, e, cx, R, h => by
    cases c.inv
    cases e
    exact wpAny_items_nil (h [] s.heap s.toks (Pur.refl _) .nil)
  | a :: l, es, ds, s, Q, c, e, cx, R, h => by
    cases c.inv with | cons x y =>
    obtain ⟨d, ds', e1, e2, rfl⟩ := mapM_cons_some e
    refine wpAny_items_cons (ok.pk x e1 cx R fun v h1 t1 p1 f1 => ?_) (x.star l env)
    refine argsP_ok ok y e2 cx (R.pur p1) fun vs h2 t2 p2 f2 => ?_
    exact h _ h2 t2 (p1.trans p2) (.cons (f1.1.pur p2) f2)

theorem star_any {g : Gl} {ns : Names} {pos : Pos} {env : Env} : ∀ {l : List PySem.Expr} {es : List Ex}, CXs g ns l es → (backTo pos (starEach l env)).any (·.1) = false
  | [], _, _ => rfl
  | a :: l, es, c => by
    cases c.inv with | cons x y =>
    rw [x.star l env]
    show (false || (backTo pos (starEach l env)).any (·.1)) = false
    rw [star_any y]; rfl
theorem star_all {g : Gl} {ns : Names} {pos : Pos} {env : Env} : ∀ {l : List PySem.Expr} {es : List Ex}, CXs g ns l es → (backTo pos (starEach l env)).all (fun x => !x.1) = true
  | [], _, _ => rfl
  | a :: l, es, c => by
    cases c.inv with | cons x y =>
    rw [x.star l env]
    show (true && (backTo pos (starEach l env)).all (fun x => !x.1)) = true
    rw [star_all y]; rfl
/-- the arguments of a call -/
theorem evalArgs_ok {g : Gl} {ns : Names} {pos : Pos} {env : Env} {f : Value} {l : List PySem.Expr} {es : List Ex} {Q : Args → Shared → Prop} (c : CXs g ns l es)
    (h : wpAny (model prog w) A (spliced (backTo pos (starEach l env))) (fun vs s' => Q ⟨vs, []⟩ s') E s) : wpAny (model prog w) A (evalArgs f true (backTo pos (starEach l env)) []) Q E s := by
  cases l with
  | nil =>
    unfold evalArgs
    show wpAny _ _ (spliced (backTo pos (starEach [] env)) >>= _) Q E s
    refine wpAny_bind (wpAny_mono h (fun vs s' h' => ?_) fun _ _ x => x)
    refine wpAny_bind (wpAny_pure ?_)
    refine wpAny_holding ?_
    exact wpAny_bind (wpAny_pure (wpAny_pure h'))
  | cons a l =>
    cases c.inv with | cons x y =>
    rw [x.star l env] at h ⊢
    exact evalArgs_plain h

/-- a name that is not this frame's -/
theorem glob_kind {ns : Names} {env : Env} {x : Str} {A : Around} {n : Nat} (cx : Cx ns env A n) (h : isGlob ns x = true) : env.kindOf x = some .globalImplicit := by
  unfold Env.kindOf
  rw [cx.names]
  simpa [isGlob] using h

theorem boolOp_one {pos : Pos} {op : BoolOp} {x : Sem Value} : boolOp pos op [x] = x := rfl
theorem CX.and {g : Gl} {ns : Names} {c : PySem.Expr} {r : List PySem.Expr} {c' : Ex} {r' : List Ex} {p : Pos} (h : CXs g ns (c :: r) (c' :: r')) : CX g ns (.BoolOp .And (c :: r) p) (.andl c' r') := by
  obtain ⟨k, h⟩ := h
  exact ⟨k + 1, h⟩
theorem CX.or {g : Gl} {ns : Names} {c : PySem.Expr} {r : List PySem.Expr} {c' : Ex} {r' : List Ex} {p : Pos} (h : CXs g ns (c :: r) (c' :: r')) : CX g ns (.BoolOp .Or (c :: r) p) (.orl c' r') := by
  obtain ⟨k, h⟩ := h
  exact ⟨k + 1, h⟩

/-- a part of a slice -/
theorem part_ok (ok : Ok prog w P g B L n) {ns : Names} {env : Env} {W O : Addr → Prop} {σ : Sg} {s : Shared} {pe : Option PySem.Expr} {e : Option Ex} {o : Option Int} {Q : Value → Shared → Prop} (c : CXo g ns pe e) (he : optInt L σ e = some o) (cx : Cx ns env A n) (R : Rl prog w B ns env W O σ s.heap)
    (h : ∀ v h' tk, Pur s.heap h' → PartIs v o → Q v { s with heap := h', toks := tk }) : wpAny (model prog w) A (evalPart pe env) Q E s := by
  rcases c.inv with ⟨rfl, rfl⟩ | ⟨a, a', rfl, rfl, ca⟩
  · cases he
    rw [evalPart_none]
    exact wpAny_pure (h _ s.heap s.toks (Pur.refl _) .none)
  · rw [evalPart_some]
    exact bnd he fun d h1 he => bnd he fun i h2 he => ok.ev ca h1 cx R fun v h' tk p x => x.I (C := fun v => Q v _) h2 fun t => by cases he; exact h _ h' tk p (.int _ _)
theorem load_ok {ns : Names} {env : Env} {W O : Addr → Prop} {σ : Sg} {i : Nat} {sl : Slot} {x : Str} {pos : Pos} {Q : Value → Shared → Prop} (cx : Cx ns env A n) (R : Rl prog w B ns env W O σ s.heap) (hx : varIx ns x = some i) (e : σ[i]? = some (some sl))
    (h1 : (x == ("__debug__" : Str)) = false) (h2 : (x == ("__classdict__" : Str)) = false) (h : ∀ v fp, SV prog w B s.heap (Mw W O) sl v fp → (∀ a ∈ fp, W a ∧ a ≠ env.locals ∧ ∀ x, env.cells.lookup x ≠ some a) → Q v s) : wpAny (model prog w) A (eval (.Name x pos) env) Q E s := by
  obtain ⟨fp, f1, f2, f3⟩ := R.vars
  obtain ⟨y, v, hy, at', sv⟩ := f1 i sl e
  have := varIx_at hx
  rw [hy] at this
  cases this
  exact ld_at cx.kind at' (h v (fp i) sv fun a ha => f2 i a ha) h1 h2

/-- what a call of one of the text's functions is to be shown to do -/
noncomputable def CallOk (prog : Program) (w : World) (P : Pg) (g : Gl) (B : Heap) (mg : Str → Option Value) (L : Lo) (n : Nat) : Prop := ∀ {A : Around} {E : Value → Shared → Prop} {s : Shared} {M : Addr → Prop} {Q : Value → Shared → Prop} {f : Str} {vs : List Value} {ds : List D} {d : D},
  g.defs.contains f = true → callF P L f ds = some d → A.handled = none → A.depth + (n + 1) + 10 < recursionLimit → A.units + 4 * (n + 1) + 200 < cLine → (∀ b o, B.get? b = some o → ¬ M b ∧ s.heap.get? b = some o) → Live M s.heap → FVs prog w s.heap M vs ds → Ret prog w M s d Q →
    ∃ a o fd, mg f = some (.ref a) ∧ B.get? a = some o ∧ o.data = .func fd ∧ wpAny (model prog w) A (call (.ref a) vs) Q E s
noncomputable def CompOk (prog : Program) (w : World) (P : Pg) (g : Gl) (B : Heap) (L : Lo) (n : Nat) : Prop := ∀ {ns pe caps elt t it ifs more σ d env W O A E s Q}, CX g ns pe (.comp caps elt t it ifs more) → evF P L σ (.comp caps elt t it ifs more) = some d → Cx ns env A (n + 1) → Rl prog w B ns env W O σ s.heap → Ret prog w (Mw W O) s d Q → wpAny (model prog w) A (eval pe env) Q E s
/-- name.get(a, b) of a Headers -/
noncomputable def BookGet (prog : Program) (w : World) (g : Gl) (B : Heap) (L : Lo) (n : Nat) : Prop := ∀ {ns o q l p i a b bk x y σ env W O A E s Q}, CX g ns (.Call (.Attribute o (mtN .get) q) l [] p) (.mth .get (.var i) [a, b]) → σ[i]? = some (some (.book bk)) → L.ev σ a = some (.str x) → L.ev σ b = some (.str y) → okHdr x = true → (bk.all fun p => okHdr p.1) = true →
  Cx ns env A (n + 1) → Rl prog w B ns env W O σ s.heap → Ret prog w (Mw W O) s (.str (bGet bk x y)) Q → wpAny (model prog w) A (eval (.Call (.Attribute o (mtN .get) q) l [] p) env) Q E s

/-- the call of a method of a built-in type -/
theorem method_ok {ns : Names} {env : Env} {o : PySem.Expr} {o' : Ex} {m : MT} {q p : Pos} {l : List PySem.Expr} {l' : List Ex} {Q : Value → Shared → Prop} (co : CX g ns o o') (hl : CXs g ns l l') (hp : (q.endLine == p.line) = true) (hb : plainBase o = true) (hn : l.length < 20)
    (h : wpAny (model prog w) A (eval o env) (fun ov s₁ => s₁.TypeIs ov (mtT m) ∧ (∀ a, ov = .ref a → ∃ ob, s₁.heap.get? a = some ob ∧ ob.dict = none) ∧
      wpAny (model prog w) A (spliced (backTo p (starEach l env))) (fun vs s₂ => wpAny (model prog w) A (call (.builtin (mtId m)) (ov :: vs)) Q E s₂) E s₁) E s) :
    wpAny (model prog w) A (eval (.Call (.Attribute o (mtN m) q) l [] p) env) Q E s := by
  obtain ⟨pa, slot, ty⟩ := mt_slot m
  refine wpAny_Call_method (co.base hb _ _ _) ?_ hp pa slot ty (wpAny_mono h (fun ov s₁ h₁ => ⟨h₁.1, h₁.2.1, ?_⟩) fun _ _ x => x)
  · rw [star_all hl]
    simp only [List.length_nil, List.isEmpty_nil, if_true, Nat.add_zero, Bool.true_and]
    show (true && decide (l.length < 30)) = true
    simp; omega
  · exact callWith_builtin (star_any hl) (evalArgs_ok hl h₁.2.2)

theorem cmp_parts (ok : Ok prog w P g B L n) {ns : Names} {env : Env} {a b : PySem.Expr} {a' b' : Ex} {o : CmpOp} {σ : Sg} {W O : Addr → Prop} {x y : D} {q : Bool} {Q : Value → Shared → Prop} (ca : CX g ns a a') (cb : CX g ns b b') (h1 : L.ev σ a' = some x)
    (h2 : rhs L σ (cCp o) b' = some y) (h3 : cmp2 (cCp o) x y = some q) (hu : A.units + 60 < cLine) (cx : Cx ns env A n) (R : Rl prog w B ns env W O σ s.heap) (r : Ret prog w (Mw W O) s (.bool q) Q) :
    wpAny (model prog w) A (eval a env) (fun v1 s1 => wpAny (model prog w) A (eval b env) (fun v2 s2 => wpAny (model prog w) A (compareOp o v1 v2) Q E s2) E s1) E s := by
  refine ok.ev ca h1 cx R fun v1 k1 t1 p1 f1 => ?_
  have fin : ∀ v2 k2 t2, Pur k1 k2 → PV prog w k2 (Mw W O) v2 y → ((cCp o ≠ .isIn ∧ cCp o ≠ .notIn) → FV prog w k2 (Mw W O) v2 y) → wpAny (model prog w) A (compareOp o v1 v2) Q E { s with heap := k2, toks := t2 } := fun v2 k2 t2 p2 f2 f2' => by
    rw [cCp_of o]
    exact cmp_ok hu (f1.pur p2) f2 f2' h3 (r.after (p1.trans p2))
  by_cases hq : inOp (cCp o) = true
  · exact ok.pk cb ((if_pos hq).symm.trans h2) cx (R.pur p1) fun v2 k2 t2 p2 f2 => fin v2 k2 t2 p2 f2.1 fun hn => by
      revert hq hn
      cases cCp o <;> intro hq hn <;> first | exact absurd hq Bool.false_ne_true | exact absurd rfl hn.1 | exact absurd rfl hn.2
  · exact ok.ev cb ((if_neg hq).symm.trans h2) cx (R.pur p1) fun v2 k2 t2 p2 f2 => fin v2 k2 t2 p2 (.of f2) fun _ => f2

theorem and_ok (ok : Ok prog w P g B L n) {ns : Names} {env : Env} {W O : Addr → Prop} {σ : Sg} {p : Pos} {a : PySem.Expr} {a' : Ex} {l : List PySem.Expr} {l' : List Ex} {x d : D} {b : Bool} {Q : Value → Shared → Prop} (ca : CX g ns a a') (cl : CXs g ns l l') (h1 : L.ev σ a' = some x) (h2 : asB x = some b)
    (he : andE L σ b l' = some d) (cx : Cx ns env A n) (R : Rl prog w B ns env W O σ s.heap) (r : Ret prog w (Mw W O) s d Q) : wpAny (model prog w) A (boolOp p .And (evalEach (a :: l) env)) Q E s := by
  cases l with
  | nil =>
    cases cl.inv
    cases he
    exact ok.ev ca (asB_inv (C := fun x => L.ev σ a' = some x → L.ev σ a' = some (.bool b)) h2 id h1) cx R r
  | cons b0 l =>
    cases cl.inv with | cons cc cr =>
    show wpAny _ _ (do
      let v ← eval a env
      standAt p
      let t ← holding [v] (truthy v)
      match BoolOp.And, t with
      | .And, false | .Or, true => pure v
      | _, _ => eval (.BoolOp .And (b0 :: l) p) env) _ _ _
    refine wpAny_bind (ok.ev ca h1 cx R fun v1 k1 t1 p1 f1 => wpAny_bind (wpAny_standAt (wpAny_bind (wpAny_holding ?_))))
    refine f1.B (C := fun v1 => wpAny _ _ (truthy v1) (fun t s' => wpAny _ _ (match BoolOp.And, t with
      | .And, false | .Or, true => pure v1
      | _, _ => eval (.BoolOp .And (b0 :: l) p) env) Q E s') E _) h2 (wpAny_truthy_bool ?_)
    cases b with
    | false => cases he; exact wpAny_pure (r.after p1).bool
    | true => exact ok.ev (CX.and cl) he cx (R.pur p1) (r.after p1)
theorem or_ok (ok : Ok prog w P g B L n) {ns : Names} {env : Env} {W O : Addr → Prop} {σ : Sg} {p : Pos} {a : PySem.Expr} {a' : Ex} {l : List PySem.Expr} {l' : List Ex} {x d : D} {b : Bool} {Q : Value → Shared → Prop} (ca : CX g ns a a') (cl : CXs g ns l l') (h1 : L.ev σ a' = some x) (h2 : asB x = some b)
    (he : orE L σ b l' = some d) (cx : Cx ns env A n) (R : Rl prog w B ns env W O σ s.heap) (r : Ret prog w (Mw W O) s d Q) : wpAny (model prog w) A (boolOp p .Or (evalEach (a :: l) env)) Q E s := by
  cases l with
  | nil =>
    cases cl.inv
    cases he
    exact ok.ev ca (asB_inv (C := fun x => L.ev σ a' = some x → L.ev σ a' = some (.bool b)) h2 id h1) cx R r
  | cons b0 l =>
    cases cl.inv with | cons cc cr =>
    show wpAny _ _ (do
      let v ← eval a env
      standAt p
      let t ← holding [v] (truthy v)
      match BoolOp.Or, t with
      | .And, false | .Or, true => pure v
      | _, _ => eval (.BoolOp .Or (b0 :: l) p) env) _ _ _
    refine wpAny_bind (ok.ev ca h1 cx R fun v1 k1 t1 p1 f1 => wpAny_bind (wpAny_standAt (wpAny_bind (wpAny_holding ?_))))
    refine f1.B (C := fun v1 => wpAny _ _ (truthy v1) (fun t s' => wpAny _ _ (match BoolOp.Or, t with
      | .And, false | .Or, true => pure v1
      | _, _ => eval (.BoolOp .Or (b0 :: l) p) env) Q E s') E _) h2 (wpAny_truthy_bool ?_)
    cases b with
    | true => cases he; exact wpAny_pure (r.after p1).bool
    | false => exact ok.ev (CX.or cl) he cx (R.pur p1) (r.after p1)
theorem meth_ok (ok : Ok prog w P g B L n) (hbook : BookGet prog w g B L n) {ns : Names} {o : PySem.Expr} {m : Str} {q p : Pos} {l : List PySem.Expr} {m' : MT} {o' : Ex} {l' : List Ex} {σ : Sg} {d : D} {env : Env} {W O : Addr → Prop} {Q : Value → Shared → Prop}
    (c : CX g ns (.Call (.Attribute o m q) l [] p) (.mth m' o' l')) (hp : (q.endLine == p.line) = true) (hb : plainBase o = true) (hn : l.length < 20) (hm : cMT m = some m') (co : CX g ns o o') (cl : CXs g ns l l')
    (he : mthF L σ m' o' l' = some d) (cx' : Cx ns env A (n + 1)) (R : Rl prog w B ns env W O σ s.heap) (r : Ret prog w (Mw W O) s d Q) : wpAny (model prog w) A (eval (.Call (.Attribute o m q) l [] p) env) Q E s := by
  have cx := cx'.down
  cases cMT_of hm
  unfold mthF at he
  cases hk : bkOf σ o' with
  | some bk =>
    rw [hk] at he
    refine iteG he fun hg he => ?_
    subst hg
    refine bnd he fun ab e1 he => bnd he fun x e2 he => bnd he fun x' e3 he => bnd he fun y e4 he => bnd he fun y' e5 hz => ?_
    refine bnd hk fun i k1 k2 => bnd k2 fun bk' k3 k4 => ?_
    cases k4
    have e2 := eS (P := fun x => L.ev σ ab.1 = some x) e3 e2
    have e4 := eS (P := fun x => L.ev σ ab.2 = some x) e5 e4
    obtain ⟨a, b⟩ := ab
    have hl : l' = [a, b] := by
      match l', e1 with
      | [u, v], e1 => cases e1; rfl
    subst hl
    revert c
    refine asV_inv (C := fun o' => CX g ns _ (.mth .get o' _) → _) k1 fun c => bookD_inv k3 fun hs => ?_
    exact iteS (C := fun d => Ret prog w (Mw W O) s d Q → _) hz (fun hok r => hbook c hs e2 e4 hok.1 hok.2 cx' R r) r
  | none =>
    rw [hk] at he
    refine bnd he fun x h1 he => bnd he fun ds h2 he => ?_
    unfold pvOf at h1
    cases hv : asV o' with
    | some i =>
      rw [hv] at h1
      refine method_ok co cl hp hb hn (ok.pk co h1 cx R fun v1 k1 t1 p1 f1 => ?_)
      obtain ⟨r1, r2⟩ := mth_recv (s := { s with heap := k1, toks := t1 }) f1.1 he
      exact ⟨r1, r2, args_ok ok cl h2 cx (R.pur p1) fun vs k2 t2 p2 f2 => mth_ok cx.handled (f1.1.pur p2) f2 he (r.after (p1.trans p2))⟩
    | none =>
      rw [hv] at h1
      refine method_ok co cl hp hb hn (ok.ev co h1 cx R fun v1 k1 t1 p1 f1 => ?_)
      obtain ⟨r1, r2⟩ := mth_recv (s := { s with heap := k1, toks := t1 }) (.of f1) he
      exact ⟨r1, r2, args_ok ok cl h2 cx (R.pur p1) fun vs k2 t2 p2 f2 => mth_ok cx.handled (.of (f1.pur p2)) f2 he (r.after (p1.trans p2))⟩
theorem SV.ofVal {h : Heap} {M : Addr → Prop} {v : Value} {d : D} {fp : List Addr} (x : SV prog w B h M (.val d) v fp) : FV prog w h M v d := by
  cases x with | val x => exact x
theorem FnOk.top {mg : Str → Option Value} {f : Str} {fn : Fn} {C : Prop} (h : FnOk prog w g B mg f fn) (H : ∀ a o fd, mg f = some (.ref a) → B.get? a = some o → o.data = .func fd → C) : C := by
  cases h with | mk a o fd body k q1 q2 q3 => exact H a o fd q1 q2 q3

theorem ev_ok {mg mb : Str → Option Value} (st : Stat prog w P g B mg mb) (ok : Ok prog w P g B L n) (hc : CallOk prog w P g B mg L n) (hcomp : CompOk prog w P g B L n) (hbook : BookGet prog w g B L n) {ns : Names} {pe : PySem.Expr} {e : Ex} {σ : Sg} {d : D} {env : Env} {W O : Addr → Prop} {Q : Value → Shared → Prop}
    (c : CX g ns pe e) (he : evF P L σ e = some d) (cx' : Cx ns env A (n + 1)) (R : Rl prog w B ns env W O σ s.heap) (r : Ret prog w (Mw W O) s d Q) : wpAny (model prog w) A (eval pe env) Q E s := by
  have cx := cx'.down
  have hu : A.units + 60 < cLine := by have := cx.units; omega
  have base : Pur B s.heap := fun b o e => (R.base b o e).2
  induction c.inv with
  | none => cases he; exact wpAny_Constant_none (r.here .none)
  | bool => cases he; exact wpAny_Constant_bool (r.here (.bool _))
  | int => cases he; exact wpAny_Constant_int (r.int _ _)
  | str => cases he; exact wpAny_Constant_str (r.str _ _)
  | var h1 h2 hx => exact valD_inv he fun hs => load_ok cx R hx hs h1 h2 fun v fp sv _ => r.here sv.ofVal
  | con h1 hg hcn =>
    obtain ⟨v, hv, hf⟩ := st.con _ _ hcn he
    exact Name_function_global cx.kind (glob_kind cx hg) (loadGlobal_global (by rw [cx.globals]; exact st.ng.keeps base) hv (r.here (hf _ _))) h1
  | bin ho ca cb =>
    rw [cOp_of ho]
    exact bnd he fun x h1 he => bnd he fun y h2 he => wpAny_BinOp (ok.ev ca h1 cx R fun v1 k1 t1 p1 f1 => ok.ev cb h2 cx (R.pur p1) fun v2 k2 t2 p2 f2 =>
      bin_ok ((R.pur p1).pur p2).alive (f1.pur p2) f2 he (r.after (p1.trans p2)))
  | neg ca =>
    exact bnd he fun x h1 he => bnd he fun i h2 he => wpAny_UnaryOp (ok.ev ca h1 cx R fun v1 k1 t1 p1 f1 => f1.I (C := fun v1 => wpAny _ A (unaryOp _ v1) Q E _) h2 fun t => by
      cases he; exact PyProof.Rows.neg_int ((r.after p1).int _ _))
  | not ca =>
    exact bnd he fun x h1 he => bnd he fun i h2 he => wpAny_UnaryOp (ok.ev ca h1 cx R fun v1 k1 t1 p1 f1 => f1.B (C := fun v1 => wpAny _ A (unaryOp _ v1) Q E _) h2 (by
      cases he; exact not_value (wpAny_truthy_bool (r.after p1).bool)))
  | cmp ca cb =>
    exact bnd he fun x h1 he => bnd he fun y h2 he => bnd he fun q h3 he => by
      cases he; exact wpAny_Compare1 (cmp_parts ok ca cb h1 h2 h3 hu cx R r) (cb.noMark _)
  | andl ca cl =>
    rw [arm_eval_BoolOp]
    exact bnd he fun x h1 he => bnd he fun b h2 he => and_ok ok ca cl h1 h2 he cx R r
  | orl ca cl =>
    rw [arm_eval_BoolOp]
    exact bnd he fun x h1 he => bnd he fun b h2 he => or_ok ok ca cl h1 h2 he cx R r
  | ite c1 c2 c3 =>
    refine bnd he fun b h1 he => wpAny_IfExp (ok.tst c1 h1 cx R fun k1 t1 p1 => ?_)
    cases b
    · exact ok.ev c3 he cx (R.pur p1) (r.after p1)
    · exact ok.ev c2 he cx (R.pur p1) (r.after p1)
  | slc ca cl ch =>
    refine bnd he fun x h1 he => bnd he fun l h2 he => bnd he fun u h3 he => Subscript_ (ok.pk ca h1 cx R fun v1 k1 t1 p1 f1 => wpAny_Slice (part_ok ok cl h2 cx (R.pur p1) fun v2 k2 t2 p2 f2 => part_ok ok ch h3 cx ((R.pur p1).pur p2) fun v3 k3 t3 p3 f3 => ?_))
    rw [evalPart_none]
    refine wpAny_pure ?_
    exact slc_ok (((R.pur p1).pur p2).pur p3).alive (f1.1.pur (p2.trans p3)) f2 f3 he (r.after (p1.trans (p2.trans p3)))
  | idx ca ci =>
    exact bnd he fun x h1 he => bnd he fun y h2 he => Subscript_ (ok.pk ca h1 cx R fun v1 k1 t1 p1 f1 => ok.ev ci h2 cx (R.pur p1) fun v2 k2 t2 p2 f2 => idx_ok (f1.1.pur p2) f2 he (r.after (p1.trans p2)))
  | lst hl cl =>
    refine bnd he fun ds h1 he => ?_
    cases he
    refine wpAny_List (args_ok ok cl h1 cx R fun vs k1 t1 p1 f1 => ⟨?_, ?_⟩)
    · rw [f1.length, mapM_len h1, Invs.len cl, sizeLine_eq]; omega
    · exact (r.after p1).newList (R.pur p1).alive f1
  | tup hl cl =>
    refine bnd he fun ds h1 he => ?_
    cases he
    refine wpAny_Tuple (args_ok ok cl h1 cx R fun vs k1 t1 p1 f1 => ⟨?_, ?_⟩)
    · rw [f1.length, mapM_len h1, Invs.len cl, sizeLine_eq]; omega
    · refine (r.after p1) _ _ t1 (Pur.push _ _) (.tuple (R.pur p1).alive.new ⟨_, Heap.get?_push_size _ rfl, rfl, _, rfl⟩ ?_)
      exact f1.pur (Pur.push _ _)
  | call hg hd cl =>
    rename_i f q l p l'
    refine bnd he fun ds h1 he => ?_
    rw [arm_eval_Call_Name']
    refine bnd he fun fn hfn _ => (st.fn f fn hd hfn).top fun a o fd q1 q2 q3 => ?_
    refine wpAny_bind (Name_function_global cx.kind (glob_kind cx hg) (loadGlobal_global (by rw [cx.globals]; exact st.ng.keeps base) q1 ?_) (st.nodbg f hd))
    refine callWith_function (o := o) (fd := fd) (evalArgs_ok cl (args_ok ok cl h1 cx R fun vs k1 t1 p1 f1 => ⟨⟨p1 _ _ (base _ _ q2), q3⟩, ?_⟩))
    obtain ⟨a', o', fd', z1, z2, z3, z4⟩ := @hc A E { s with heap := k1, toks := t1 } (Mw W O) Q f vs ds d hd he cx'.handled cx'.depth cx'.units (R.pur p1).base (R.pur p1).alive f1 (r.after p1)
    rw [q1] at z1
    cases z1
    exact z4
  | bi hg hd hf cl =>
    rename_i f q l p f' l'
    refine bnd he fun ds h1 he => ?_
    obtain ⟨q1, q2⟩ := st.bi f f' hf hd
    rw [arm_eval_Call_Name']
    refine wpAny_bind (Name_function_global cx.kind (glob_kind cx hg) (loadGlobal_builtin (by rw [cx.globals]; exact st.ng.keeps base) q1 (by rw [cx.builtins]; exact st.nb.keeps base) q2 ?_) (cBI_nodbg hf))
    have fin : wpAny (model prog w) A (spliced (backTo p (starEach l env))) (fun vs s' => wpAny (model prog w) A (call (biVal f') vs) Q E s') E s := argsP_ok ok cl h1 cx R fun vs k1 t1 p1 f1 =>
      bi_ok cx.handled (R.pur p1).alive f1 he (r.after p1)
    revert fin
    cases f' <;> intro fin <;> first
      | exact callWith_builtin (star_any cl) (evalArgs_ok cl fin)
      | exact PySem.callWith_type (star_any cl) (evalArgs_ok cl fin)
  | mth hp hb hn hm co cl => exact meth_ok ok hbook c hp hb hn hm co cl he cx' R r
  | comp1 => exact hcomp c he cx' R r
  | comp2 => exact hcomp c he cx' R r
end
end Mine
end
section
/-! What is read at once, what is iterated over, what is tested. -/
open PySem PySem.Calls PyProof.Rows PySem.W PySem.Spec
namespace Mine
section
variable {prog : Program} {w : World} {A : Around} {E : Value → Shared → Prop} {s : Shared} {P : Pg} {g : Gl} {B : Heap} {L : Lo} {n : Nat}

/-- one more object that no name owns -/
theorem Rl.moreO {ns : Names} {env : Env} {W O : Addr → Prop} {σ : Sg} {h0 h : Heap} {z : Addr} (R0 : Rl prog w B ns env W O σ h0) (p : Pur h0 h) (hn : h0.get? z = none) (hl : ∃ o, h.get? z = some o) : Rl prog w B ns env W (fun b => O b ∨ b = z) σ h := by
  have lv : ∀ {b o}, h0.get? b = some o → b ≠ z := fun {b o} e q => by rw [q, hn] at e; cases e
  have st : Stp (Mw W O) h0 (Mw W fun b => O b ∨ b = z) h := fun b o nb e => ⟨fun q => q.elim (fun q => nb (.inl q)) fun q => q.elim (fun q => nb (.inr q)) fun q => lv e q, p b o e⟩
  refine ⟨fun b o e => st b o (R0.base b o e).1 (R0.base b o e).2, ⟨R0.loc.1, let ⟨m, hm⟩ := R0.loc.2; ⟨m, hm.keeps p⟩⟩, fun a ha => ?_, fun a wa oa => ?_, fun x c e => ?_, R0.apart, ?_⟩
  · rcases ha with ha | ha | ha
    · obtain ⟨o, e⟩ := R0.live a (.inl ha); exact ⟨o, p _ _ e⟩
    · obtain ⟨o, e⟩ := R0.live a (.inr ha); exact ⟨o, p _ _ e⟩
    · rw [ha]; exact hl
  · rcases oa with oa | oa
    · exact R0.disj a wa oa
    · obtain ⟨o, e⟩ := R0.live a (.inl wa); exact lv e oa
  · obtain ⟨z1, z2, v, hv⟩ := R0.cell x c e
    exact ⟨z1, z2.elim .inl fun q => .inr (.inl q), v, hv.keeps p⟩
  · obtain ⟨fp, f1, f2, f3⟩ := R0.vars
    refine ⟨fp, fun i sl e => ?_, f2, f3⟩
    obtain ⟨x, v, hx, at', sv⟩ := f1 i sl e
    exact ⟨x, v, hx, at'.pur p, sv.stp st (fun a ha o e => p a o e) fun a ha => .inl (f2 i a ha).1⟩
theorem OV.of {W O : Addr → Prop} {h : Heap} {v : Value} {d : D} (x : FV prog w h (Mw W O) v d) : OV prog w W O h v d := ⟨.of x, .inl x⟩

theorem SV.ofOwn {W O : Addr → Prop} {h : Heap} {v : Value} {d : D} {fp : List Addr} (x : SV prog w B h (Mw W O) (.own d) v fp) (hf : ∀ a ∈ fp, W a) : OV prog w W O h v d := by
  cases x with
  | list m x f => exact ⟨.list ⟨_, x, rfl, _, rfl⟩ f, .inr ⟨_, rfl, hf _ (.head _)⟩⟩
  | dictI m k x f => exact ⟨.dictI k x f, .inr ⟨_, rfl, hf _ (.head _)⟩⟩
  | dictS m k x f => exact ⟨.dictS k x f, .inr ⟨_, rfl, hf _ (.head _)⟩⟩
theorem CX.varInv {ns : Names} {pe : PySem.Expr} {i : Nat} {C : PySem.Expr → Prop} (c : CX g ns pe (.var i)) (H : ∀ x p, (x == ("__debug__" : Str)) = false → (x == ("__classdict__" : Str)) = false → varIx ns x = some i → C (.Name x p)) : C pe := by
  obtain ⟨k, h⟩ := c
  cases k with
  | zero => exact absurd h Bool.false_ne_true
  | succ k => exact onName_inv (show chkE g (chk g k) ns pe (.var i) = true from h) fun x p h => H x p (notT (a1 h)) (notT (a1 (a2 h))) (decT (a2 (a2 h)))
theorem FV.strV {h : Heap} {M : Addr → Prop} {v : Value} {x : Str} (f : FV prog w h M v (.str x)) : ∃ t, v = .str x t := f.S (C := fun v => ∃ t, v = .str x t) rfl fun t => ⟨t, rfl⟩
theorem CX.mthI {ns : Names} {o : PySem.Expr} {m : Str} {q p : Pos} {l : List PySem.Expr} {m' : MT} {o' : Ex} {l' : List Ex} (c : CX g ns (.Call (.Attribute o m q) l [] p) (.mth m' o' l')) : (q.endLine == p.line) = true ∧ CX g ns o o' ∧ CXs g ns l l' := by
  obtain ⟨k, h⟩ := c
  cases k with
  | zero => exact absurd h Bool.false_ne_true
  | succ k =>
    have h : ((q.endLine == p.line) && (plainBase o && (decide (l.length < 20) && (decide (cMT m = some m') && (chk g k ns o o' && chkL (chk g k ns) l l'))))) = true := h
    exact ⟨a1 h, ⟨k, a1 (a2 (a2 (a2 (a2 h))))⟩, ⟨k, a2 (a2 (a2 (a2 (a2 h))))⟩⟩
theorem CXs.pair {ns : Names} {l : List PySem.Expr} {a b : Ex} {C : List PySem.Expr → Prop} (c : CXs g ns l [a, b]) (H : ∀ u v, CX g ns u a → CX g ns v b → C [u, v]) : C l := by
  obtain ⟨k, h⟩ := c
  match l, h with
  | [u], h => exact absurd (a2 h) Bool.false_ne_true
  | [u, v], h => exact H u v ⟨k, a1 h⟩ ⟨k, a1 (a2 h)⟩
  | _ :: _ :: _ :: _, h => exact absurd (a2 (a2 h)) Bool.false_ne_true
theorem CX.nm {ns : Names} {x : Str} {q : Pos} {i : Nat} (c : CX g ns (.Name x q) (.var i)) : (x == ("__debug__" : Str)) = false ∧ (x == ("__classdict__" : Str)) = false ∧ varIx ns x = some i := by
  obtain ⟨k, h⟩ := c
  cases k with
  | zero => exact absurd h Bool.false_ne_true
  | succ k =>
    have h : (!(x == ("__debug__" : Str)) && (!(x == ("__classdict__" : Str)) && decide (varIx ns x = some i))) = true := h
    exact ⟨notT (a1 h), notT (a1 (a2 h)), decT (a2 (a2 h))⟩
theorem Rl.atVar {ns : Names} {env : Env} {W O : Addr → Prop} {σ : Sg} {h : Heap} {x : Str} {i : Nat} {sl : Slot} {C : Prop} (R : Rl prog w B ns env W O σ h) (hx : varIx ns x = some i) (hs : σ[i]? = some (some sl))
    (H : ∀ (fp : Nat → List Addr) (v : Value), (∀ i sl, σ[i]? = some (some sl) → ∃ x v, (nmOf ns)[i]? = some x ∧ At env h x v ∧ SV prog w B h (Mw W O) sl v (fp i)) → (∀ i a, a ∈ fp i → W a ∧ a ≠ env.locals ∧ ∀ x, env.cells.lookup x ≠ some a) → (∀ i j a, a ∈ fp i → a ∈ fp j → i = j) → At env h x v → SV prog w B h (Mw W O) sl v (fp i) → C) : C := by
  obtain ⟨fp, f1, f2, f3⟩ := R.vars
  obtain ⟨y, v, hy, at', sv⟩ := f1 i sl hs
  have := varIx_at hx
  rw [hy] at this
  cases this
  exact H fp v f1 f2 f3 at' sv
/-- what a name says: it is a variable or it is not -/
theorem byV {ns : Names} {pe : PySem.Expr} {e : Ex} {C : PySem.Expr → Ex → Prop} (c : CX g ns pe e) (h1 : ∀ i x p, (x == ("__debug__" : Str)) = false → (x == ("__classdict__" : Str)) = false → varIx ns x = some i → C (.Name x p) (.var i)) (h2 : asV e = none → C pe e) : C pe e := by
  cases q : asV e with
  | none => exact h2 q
  | some i =>
    revert c
    exact asV_inv (C := fun e => CX g ns pe e → C pe e) q fun c => c.varInv (C := fun pe => C pe (.var i)) (h1 i)
theorem asR_inv {e : Ex} {l : List Ex} {C : Ex → Prop} (h : asR e = some l) (H : C (.bi .range l)) : C e := by
  by_cases q : e.ctorIdx = 18
  · exact Mine.E.bi.elim (motive_1 := fun e => asR e = some l → C e) e q (fun f l' h => iteG (show (if f = BI.range then some l' else none) = some l from h) fun hf e => by cases e; subst hf; exact H) h
  · exact absurd ((dif_neg q).symm.trans h) (fun h => nomatch h)
theorem pk_ok (ok : Ok prog w P g B L n) {ns : Names} {pe : PySem.Expr} {e : Ex} {σ : Sg} {d : D} {env : Env} {W O : Addr → Prop} {Q : Value → Shared → Prop} (c : CX g ns pe e) (he : pkF L σ e = some d) (cx' : Cx ns env A (n + 1)) (R : Rl prog w B ns env W O σ s.heap)
    (r : ∀ v h' tk, Pur s.heap h' → OV prog w W O h' v d → Q v { s with heap := h', toks := tk }) : wpAny (model prog w) A (eval pe env) Q E s := by
  have cx := cx'.down
  refine byV (C := fun pe e => CX g ns pe e → pkF L σ e = some d → wpAny (model prog w) A (eval pe env) Q E s) c (fun i x p h1 h2 hx c he => ?_) (fun hv c he => ok.ev c ((elimN (f := fun i => (valD σ[i]?).or (ownD σ[i]?)) hv rfl).symm.trans he) cx R fun v h' tk p f => r v h' tk p (.of f)) c he
  refine or_inv (show (valD σ[i]?).or (ownD σ[i]?) = some d from he) (fun he => valD_inv he fun hs => load_ok cx R hx hs h1 h2 fun v fp sv _ => r _ s.heap s.toks (Pur.refl _) (.of sv.ofVal)) fun he => ownD_inv he fun hs => load_ok cx R hx hs h1 h2 fun v fp sv hf => r _ s.heap s.toks (Pur.refl _) (sv.ofOwn fun a ha => (hf a ha).1)

theorem rangeL_get (a : Int) (st : Nat) : ∀ (n i : Nat) (a : Int) (d : D), (rangeL a st n)[i]? = some d → d = .int (a + i * st)
  | 0, i, a, d, e => by cases e
  | n + 1, 0, a, d, e => by cases e; simp
  | n + 1, i + 1, a, d, e => by
    have := rangeL_get a st n i (a + st) d e
    rw [this]
    congr 1
    push_cast
    rw [Int.add_mul]
    omega
theorem rangeL_len (st : Nat) : ∀ (n : Nat) (a : Int), (rangeL a st n).length = n
  | 0, a => rfl
  | n + 1, a => by simp [rangeL, rangeL_len st n]
theorem rangeSize_pos {a b : Int} {st : Nat} (h : 0 < st) : Builtin.Range.rangeSize a b st = (((b - a + (st - 1)) / st).toNat : Int) := by
  unfold Builtin.Range.rangeSize
  have h' : (0 : Int) < st := by exact_mod_cast h
  rw [if_pos (by omega)]
  have e : b - a + ((st : Int) - 1) = (b - a - 1) + st * 1 := by omega
  rw [e, Int.add_mul_ediv_left _ _ (by omega)]
  split
  · have : 0 ≤ (b - a - 1) / (st : Int) := Int.ediv_nonneg (by omega) (by omega)
    omega
  · have : (b - a - 1) / (st : Int) < 0 := Int.ediv_neg_of_neg_of_pos (by omega) h'
    omega

theorem pyIter_str' {x : Str} {t : Tok} {Q : Value → Shared → Prop}
    (hQ : ∀ (o : Obj) (St : Nat → Heap → Prop), (∀ A' : Around, A'.handled = none → Walks prog w A' s.heap.objs.size [s.heap.objs.size] [s.heap.objs.size] x.cps.size (SignAt x) St) → St 0 (s.heap.push o) → (∀ i h', St i h' → ∃ o, h'.get? s.heap.objs.size = some o ∧ PlainIt o) →
      Q (.ref s.heap.objs.size) { s with heap := s.heap.push o }) : wpAny (model prog w) A (pyIter (.str x t)) Q E s := by
  cases ha : x.cps.all (· < 128)
  · exact wpAny_pyIter_wide ha (hQ _ _ (fun A' hA => Walks.strWide hA _ x t) ⟨_, Heap.get?_push_size _ rfl, rfl, rfl⟩ fun i h' st => let ⟨o, ho, hc, _⟩ := st; ⟨o, ho, _, hc, by decide⟩)
  · exact wpAny_pyIter_ascii ha (hQ _ _ (fun A' hA => Walks.strAscii hA _ x t) ⟨_, Heap.get?_push_size _ rfl, rfl, rfl⟩ fun i h' st => let ⟨o, ho, hc, _⟩ := st; ⟨o, ho, _, hc, by decide⟩)
theorem pur_new {h0 h : Heap} (p : Pur h0 h) : h0.get? h.objs.size = none := by
  cases q : h0.get? h.objs.size with
  | none => rfl
  | some o => exact absurd (Heap.lt_size (p _ _ q)) (Nat.lt_irrefl _)

theorem itStr {B : Heap} {ns : Names} {env : Env} {W O : Addr → Prop} {σ : Sg} {e : Ex} {x : Str} {t : Tok} {Q : Value → Shared → Prop} (hfr : frz σ e = σ) (h0 : Heap) (p0 : Pur h0 s.heap) (R : Rl prog w B ns env W O σ s.heap)
    (h : ∀ I h' tk fp Pi St, Pur s.heap h' → ItOk prog w B ns env W O σ e h0 (charsD x) I h' fp Pi St → Q (.ref I) { s with heap := h', toks := tk }) : wpAny (model prog w) A (pyIter (.str x t)) Q E s := by
  refine pyIter_str' fun o St hW h1 hl => ?_
  refine h s.heap.objs.size _ s.toks [s.heap.objs.size] (SignAt x) St (Pur.push _ _) ⟨fun A' hA => ?_, h1, pur_new p0, (fun i h' st => let ⟨o, ho, _⟩ := hl i h' st; ⟨o, ho⟩), (fun i h' o st e => let ⟨o', ho, hp⟩ := hl i h' st; by rw [ho] at e; cases e; exact hp), fun b hb => ?_, fun i v d hv hd => ?_, ?_⟩
  · have : (charsD x).length = x.cps.size := by simp [charsD]
    rw [this]
    exact hW A' hA
  · cases hb with
    | head => obtain ⟨o, ho, _⟩ := hl _ _ h1; exact ⟨o, ho⟩
    | tail _ hb => cases hb
  · obtain ⟨c, u, h1, rfl⟩ := hv
    have : (charsD x)[i]? = some (.str ⟨#[c]⟩) := by simp [charsD, h1]
    rw [this] at hd
    cases hd
    exact .str _ _
  · rw [hfr]
    refine ⟨W, fun _ x => x, fun _ x => x, R.moreO (Pur.push _ _) (pur_new (Pur.refl _)) (let ⟨o, ho, _⟩ := hl _ _ h1; ⟨o, ho⟩), fun b hb hn => ?_⟩
    cases hb with
    | head => exact absurd rfl hn
    | tail _ hb => cases hb

theorem itRange {B : Heap} {ns : Names} {env : Env} {W O : Addr → Prop} {σ : Sg} {e : Ex} {a b : Int} {st : Nat} {r : Addr} {t u v : Tok} {Q : Value → Shared → Prop} (hfr : frz σ e = σ) (h0 : Heap) (p0 : Pur h0 s.heap) (R : Rl prog w B ns env W O σ s.heap)
    (hr : IsRange s.heap r a b st t u v) (hs : 0 < st) (hs' : st ≤ 1000) (ha : -1000000 < a) (ha' : a < 1000000) (hb : -1000000 < b) (hb' : b < 1000000)
    (h : ∀ I h' tk fp Pi St, Pur s.heap h' → ItOk prog w B ns env W O σ e h0 (rangeD a b st) I h' fp Pi St → Q (.ref I) { s with heap := h', toks := tk }) : wpAny (model prog w) A (pyIter (.ref r)) Q E s := by
  have hsz := rangeSize_pos (a := a) (b := b) hs
  have hn : (rangeD a b st).length = ((b - a + ((st : Int) - 1)) / st).toNat := rangeL_len _ _ _
  have hbound : (b - a + ((st : Int) - 1)) / st ≤ 3000000 := by
    have : (b - a + ((st : Int) - 1)) / st < 3000001 := Int.ediv_lt_of_lt_mul (by omega) (by omega)
    omega
  have hbound0 : -3000000 ≤ (b - a + ((st : Int) - 1)) / st := by
    refine Int.le_ediv_of_mul_le (by omega) (by omega)
  have hsm : Builtin.Range.small a b st = true := by
    unfold Builtin.Range.small Builtin.Range.rangeFitsLong
    rw [hsz]
    have : ((st : Int) > 0) := by omega
    simp only [this, if_true, Bool.and_eq_true, Bool.or_eq_true, decide_eq_true_eq]
    refine ⟨⟨⟨⟨?_, ?_⟩, ?_⟩, ?_⟩, .inr ?_⟩ <;> constructor <;> omega
  refine wpAny_pyIter_range hr hsm ?_
  refine h s.heap.objs.size _ s.toks [s.heap.objs.size] _ _ (Pur.push _ _) ⟨fun A' hA => Walks.range hA _ a st _, ?_, pur_new p0, (fun i h' st => ⟨_, st⟩), (fun i h' o st e => by rw [show h'.get? s.heap.objs.size = _ from st] at e; cases e; exact ⟨_, rfl, by decide⟩), fun b hb => ?_, fun i v d hv hd => ?_, ?_⟩
  · have e1 : (a + ((0 : Nat) : Int) * (st : Int)) = a := by simp
    have e2 : (((rangeD a b st).length : Int) - ((0 : Nat) : Int)) = Builtin.Range.rangeSize a b st := by rw [hsz, hn]; simp
    rw [e1, e2]
    exact Heap.get?_push_size _ rfl
  · cases hb with
    | head => exact ⟨_, Heap.get?_push_size _ rfl⟩
    | tail _ hb => cases hb
  · obtain ⟨t, rfl⟩ := hv
    rw [rangeL_get a st _ i a d hd]
    exact .int _ _
  · rw [hfr]
    refine ⟨W, fun _ x => x, fun _ x => x, R.moreO (Pur.push _ _) (pur_new (Pur.refl _)) ⟨_, Heap.get?_push_size _ rfl⟩, fun b hb hn => ?_⟩
    cases hb with
    | head => exact absurd rfl hn
    | tail _ hb => cases hb

theorem itList {B : Heap} {ns : Names} {env : Env} {W O : Addr → Prop} {σ : Sg} {e : Ex} {a : Addr} {items : Array Value} {ds : List D} {Q : Value → Shared → Prop} (h0 : Heap) (p0 : Pur h0 s.heap)
    (hl : s.heap.IsList a items) (f : FVs prog w s.heap (Mw W O) items.toList ds)
    (hfrz : ∃ W1 : Addr → Prop, (∀ b, W1 b → W b) ∧ (∀ x, Own env W x → Own env W1 x) ∧ Rl prog w B ns env W1 O (frz σ e) s.heap ∧ ¬ Mw W1 O a)
    (h : ∀ I h' tk fp Pi St, Pur s.heap h' → ItOk prog w B ns env W O σ e h0 ds I h' fp Pi St → Q (.ref I) { s with heap := h', toks := tk }) : wpAny (model prog w) A (pyIter (.ref a)) Q E s := by
  refine wpAny_pyIter_list hl ?_
  have hne : a ≠ s.heap.objs.size := by obtain ⟨o, ho, _⟩ := hl; exact Nat.ne_of_lt (Heap.lt_size ho)
  have hlen : ds.length = items.size := by have := f.length; simpa using this.symm
  have hl' : (s.heap.push { cls := .type "list_iterator", data := .fields #[.ref a, .int 0 0] }).IsList a items := let ⟨o, ho, r⟩ := hl; ⟨o, Heap.get?_push_of_some _ ho, r⟩
  refine h s.heap.objs.size _ s.toks [s.heap.objs.size, a] _ _ (Pur.push _ _) ⟨fun A' hA => hlen ▸ Walks.list hA _ a hne items, ⟨⟨_, Heap.get?_push_size _ rfl, rfl, rfl⟩, hl'⟩, pur_new p0, (fun i h' st => let ⟨⟨o, ho, _⟩, _⟩ := st; ⟨o, ho⟩), (fun i h' o st e => let ⟨⟨o', ho, hc, _⟩, _⟩ := st; by rw [ho] at e; cases e; exact ⟨_, hc, by decide⟩), fun b hb => ?_, fun i v d hv hd => ?_, ?_⟩
  · cases hb with
    | head => exact ⟨_, Heap.get?_push_size _ rfl⟩
    | tail _ hb => cases hb with
      | head => obtain ⟨o, ho, _⟩ := hl'; exact ⟨o, ho⟩
      | tail _ hb => cases hb
  · obtain ⟨d', h1, h2⟩ := f.get' (k := i) (v := v) (by simpa using hv)
    rw [h1] at hd
    cases hd
    have fresh : s.heap.get? s.heap.objs.size = none := pur_new (Pur.refl _)
    exact h2.stp fun b o nb e => ⟨fun q => q.elim (fun q => nb (.inl q)) fun q => q.elim (fun q => nb (.inr q)) fun q => (by rw [q, fresh] at e; cases e), Pur.push _ _ b o e⟩
  · obtain ⟨W1, w1, w2, w3, w4⟩ := hfrz
    refine ⟨W1, w1, w2, w3.moreO (Pur.push _ _) (pur_new (Pur.refl _)) ⟨_, Heap.get?_push_size _ rfl⟩, fun b hb hn => ?_⟩
    cases hb with
    | head => exact absurd rfl hn
    | tail _ hb => cases hb with
      | head => exact fun q => q.elim (fun q => w4 (.inl q)) fun q => q.elim (fun q => w4 (.inr q)) fun q => hne q
      | tail _ hb => cases hb

theorem frz_val {σ : Sg} {i : Nat} {d : D} (h : σ[i]? = some (some (.val d))) : frz σ (.var i) = σ := congrArg (fun s => (ownD s).elim σ fun d => σ.set i (some (.val d))) h
theorem frz_own {σ : Sg} {i : Nat} {d : D} (h : σ[i]? = some (some (.own d))) : frz σ (.var i) = σ.set i (some (.val d)) := congrArg (fun s => (ownD s).elim σ fun d => σ.set i (some (.val d))) h
theorem frz_no {σ : Sg} {e : Ex} (h : asV e = none) : frz σ e = σ := elimN h rfl

/-- a value that stands still -/
theorem itFV {B : Heap} {ns : Names} {env : Env} {W O : Addr → Prop} {σ : Sg} {e : Ex} {v : Value} {d : D} {ds : List D} {Q : Value → Shared → Prop} (hfr : frz σ e = σ) (h0 : Heap) (p0 : Pur h0 s.heap) (R : Rl prog w B ns env W O σ s.heap) (f : FV prog w s.heap (Mw W O) v d) (hd : itemsOf d = some ds)
    (h : ∀ I h' tk fp Pi St, Pur s.heap h' → ItOk prog w B ns env W O σ e h0 ds I h' fp Pi St → Q (.ref I) { s with heap := h', toks := tk }) : wpAny (model prog w) A (pyIter v) Q E s := by
  refine or_inv hd (fun hd => ?_) fun hd => ?_
  · have f := eL (P := fun d => FV prog w s.heap (Mw W O) v d) hd f
    cases f with | list n x f => exact itList h0 p0 x f ⟨W, fun _ x => x, fun _ x => x, by rw [hfr]; exact R, n⟩ h
  · obtain ⟨x, h1, h2⟩ := Option.map_eq_some_iff.mp hd
    subst h2
    exact f.S (C := fun v => wpAny _ A (pyIter v) Q E s) h1 fun t => itStr hfr h0 p0 R h

/-- a list of this frame's own -/
theorem itOwn {B : Heap} {ns : Names} {env : Env} {W O : Addr → Prop} {σ : Sg} {i : Nat} {ds : List D} {y : Str} {v : Value} {fp : Nat → List Addr} {Q : Value → Shared → Prop} (R : Rl prog w B ns env W O σ s.heap) (hs : σ[i]? = some (some (.own (.list ds))))
    (f1 : ∀ (i : Nat) (sl : Slot), σ[i]? = some (some sl) → ∃ x v, (nmOf ns)[i]? = some x ∧ At env s.heap x v ∧ SV prog w B s.heap (Mw W O) sl v (fp i)) (f2 : ∀ (i : Nat) (a : Addr), a ∈ fp i → W a ∧ a ≠ env.locals ∧ ∀ x, env.cells.lookup x ≠ some a) (f3 : ∀ (i j : Nat) (a : Addr), a ∈ fp i → a ∈ fp j → i = j)
    (hy : (nmOf ns)[i]? = some y) (at' : At env s.heap y v) (sv : SV prog w B s.heap (Mw W O) (.own (.list ds)) v (fp i))
    (r : ∀ I h' tk fp Pi St, Pur s.heap h' → ItOk prog w B ns env W O σ (.var i) s.heap ds I h' fp Pi St → Q (.ref I) { s with heap := h', toks := tk }) : wpAny (model prog w) A (pyIter v) Q E s := by
  generalize hfp : fp i = q at sv
  cases sv with | list m x f =>
  rename_i a k vs
  have hai : a ∈ fp i := by rw [hfp]; exact .head _
  have ha := f2 i a hai
  refine itList (items := vs.toArray) s.heap (Pur.refl _) ⟨_, x, rfl, _, rfl⟩ (by simpa using f) ?_ r
  have p := Pur.refl s.heap
  have R' := R
  generalize s.heap = h' at *
  refine ⟨fun b => W b ∧ b ≠ a, fun b x => x.1, fun x o => ?_, ⟨fun b o e => ⟨fun q => (R'.base b o e).1 (q.elim (fun q => .inl q.1) .inr), (R'.base b o e).2⟩, ⟨⟨R'.loc.1, Ne.symm ha.2.1⟩, R'.loc.2⟩, fun b q => R'.live b (q.elim (fun q => .inl q.1) .inr), fun b q => R'.disj b q.1, fun x c e => ?_, R'.apart, ?_⟩, ?_⟩
  · rcases o with o | ⟨k, c, hc, wc⟩
    · exact .inl o
    · exact .inr ⟨k, c, hc, wc, fun q => ha.2.2 x (q ▸ hc)⟩
  · obtain ⟨z1, z2, z3⟩ := R'.cell x c e
    exact ⟨z1, z2.elim (fun z => .inl ⟨z, fun q => ha.2.2 x (q ▸ e)⟩) .inr, z3⟩
  · have mono : Stp (Mw W O) h' (Mw (fun b => W b ∧ b ≠ a) O) h' := fun b o nb e => ⟨fun q => nb (q.elim (fun q => .inl q.1) .inr), e⟩
    have nM : ¬ Mw (fun b => W b ∧ b ≠ a) O a := fun q => q.elim (fun q => q.2 rfl) fun q => R.disj a ha.1 q
    refine ⟨fun j => if j = i then [] else fp j, fun j sl ej => ?_, fun j b hb => ?_, fun j k b hb hk => ?_⟩
    · by_cases hj : j = i
      · subst hj
        rw [frz_own hs] at ej
        rw [List.getElem?_set_self (by exact (List.getElem?_eq_some_iff.mp hs).1)] at ej
        cases ej
        refine ⟨_, _, hy, at'.pur p, ?_⟩
        dsimp only
        rw [if_pos rfl]
        exact .val (.list nM ⟨_, p _ _ x, rfl, _, rfl⟩ (by simpa using (f.pur p).stp mono))
      · rw [frz_own hs] at ej
        rw [List.getElem?_set_ne (Ne.symm hj)] at ej
        obtain ⟨y', v', hy', at2, sv'⟩ := f1 j sl ej
        refine ⟨y', v', hy', at2.pur p, ?_⟩
        dsimp only
        rw [if_neg hj]
        have sv2 := sv'.stp (p.stp _) (fun b _ o e => p b o e) sv'.inM
        refine sv2.stp mono (fun b _ o e => e) fun b hb => .inl ⟨(f2 j b hb).1, fun q => hj (f3 j i b hb (q ▸ hai))⟩
    · dsimp only at hb
      split at hb
      · cases hb
      · rename_i hj
        obtain ⟨z1, z2, z3⟩ := f2 j b hb
        exact ⟨⟨z1, fun q => hj (f3 j i b hb (q ▸ hai))⟩, z2, z3⟩
    · dsimp only at hb hk
      split at hb
      · cases hb
      · split at hk
        · cases hk
        · exact f3 j k b hb hk
  · exact fun q => q.elim (fun q => q.2 rfl) fun q => R.disj a ha.1 q
theorem it_ok {mg mb : Str → Option Value} (st : Stat prog w P g B mg mb) (ok : Ok prog w P g B L n) {ns : Names} {pe : PySem.Expr} {e : Ex} {σ : Sg} {ds : List D} {env : Env} {W O : Addr → Prop} {Q : Value → Shared → Prop} (c : CX g ns pe e) (he : itF L σ e = some ds) (cx' : Cx ns env A (n + 1)) (R : Rl prog w B ns env W O σ s.heap)
    (r : ∀ I h' tk fp Pi St, Pur s.heap h' → ItOk prog w B ns env W O σ e s.heap ds I h' fp Pi St → Q (.ref I) { s with heap := h', toks := tk }) : wpAny (model prog w) A (eval pe env) (fun x s₁ => wpAny (model prog w) A (pyIter x) Q E s₁) E s := by
  have cx := cx'.down
  have base : Pur B s.heap := fun b o e => (R.base b o e).2
  revert r
  refine byV (C := fun pe e => CX g ns pe e → itF L σ e = some ds → (∀ I h' tk fp Pi St, Pur s.heap h' → ItOk prog w B ns env W O σ e s.heap ds I h' fp Pi St → Q (.ref I) { s with heap := h', toks := tk }) → wpAny (model prog w) A (eval pe env) (fun x s₁ => wpAny (model prog w) A (pyIter x) Q E s₁) E s) c (fun i x p h1 h2 hx c he r => ?_) (fun hv c he r => ?_) c he
  · refine or_inv (show ((valD σ[i]?).bind itemsOf).or ((ownD σ[i]?).bind asL) = some ds from he) (fun he => bnd he fun d' hs he => valD_inv hs fun hs => load_ok cx R hx hs h1 h2 fun v fp sv _ => itFV (frz_val hs) s.heap (Pur.refl _) R sv.ofVal he r) fun he => bnd he fun d' hs he => ownD_inv hs fun hs => ?_
    have hs := eL (P := fun d => σ[i]? = some (some (.own d))) he hs
    refine wpAny_Name ?_ h1
    obtain ⟨fp, f1, f2, f3⟩ := R.vars
    obtain ⟨y, v, hy, at', sv⟩ := f1 i _ hs
    have := varIx_at hx
    rw [hy] at this
    cases this
    have go := itOwn (A := A) (E := E) R hs f1 f2 f3 hy at' sv r
    rcases at' with ⟨k, m, hn, hm⟩ | ⟨k | k, c, hc, hv⟩
    · exact wpAny_loadName_local cx.kind k hn hm go
    · exact wpAny_loadName_cell cx.kind k hc hv go
    · exact wpAny_loadName_free cx.kind k hc hv go h2
  · have he : (asR e).elim ((L.ev σ e).bind itemsOf) (fun l => (l.mapM (L.ev σ)).bind rangeA) = some ds := (elimN (f := fun i => ((valD σ[i]?).bind itemsOf).or ((ownD σ[i]?).bind asL)) hv rfl).symm.trans he
    have hfr := frz_no (σ := σ) hv
    cases q : asR e with
    | none =>
      rw [q] at he
      exact bnd he fun d h1 h2 => ok.ev c h1 cx R fun v k1 t1 p1 f1 => itFV hfr s.heap p1 (R.pur p1) f1 h2 fun I h' tk fp Pi St p2 i2 => r I h' tk fp Pi St (p1.trans p2) i2
    | some l' =>
      rw [q] at he
      have hi := c.inv
      revert hi hfr r
      refine asR_inv (C := fun e => (∀ I h' tk fp Pi St, Pur s.heap h' → ItOk prog w B ns env W O σ e s.heap ds I h' fp Pi St → Q (.ref I) { s with heap := h', toks := tk }) → frz σ e = σ → Inv g ns pe e → _) q fun r hfr hi => ?_
      cases hi with | bi hg hd hf cl =>
      rename_i f q0 l p _
      obtain ⟨q1, q2⟩ := st.bi f _ hf hd
      refine bnd he fun xs h1 he => ?_
      rw [arm_eval_Call_Name']
      refine wpAny_bind (Name_function_global cx.kind (glob_kind cx hg) (loadGlobal_builtin (by rw [cx.globals]; exact st.ng.keeps base) q1 (by rw [cx.builtins]; exact st.nb.keeps base) q2 ?_) (cBI_nodbg hf))
      refine PySem.callWith_type (star_any cl) (evalArgs_ok cl (args_ok ok cl h1 cx R fun vs k1 t1 p1 f1 => ?_))
      refine or_inv he (fun he => bnd he fun d e1 he => f1.o (C := fun vs => wpAny _ A (call _ vs) _ E _) e1 fun v fv => bnd he fun b e2 he => fv.I (C := fun v => wpAny _ A (call _ [v]) _ E _) e2 fun t => iteG he fun hb he => ?_) fun he => bnd he fun d e1 he => bnd he fun a e2 he => bnd he fun b e3 he => bnd he fun sp e4 he => ?_
      · cases he
        refine call_range_1 ?_
        refine itRange (e := .bi .range l') (a := 0) (b := b) (st := 1) hfr s.heap (p1.trans (Pur.push _ _)) ((R.pur p1).pur (Pur.push _ _)) (Heap.get?_push_size _ rfl) (by omega) (by omega) (by omega) (by omega) hb.1 hb.2 ?_
        exact fun I h' tk fp Pi St p2 i2 => r I h' tk fp Pi St (p1.trans ((Pur.push _ _).trans p2)) i2
      · have f1 := three_inv (C := fun ds => FVs prog w k1 (Mw W O) vs ds → FVs prog w k1 (Mw W O) vs [d.1, d.2.1, d.2.2]) e1 id f1
        obtain ⟨v1, v2, v3, rfl, x1, x2, x3⟩ := f1.three
        refine x1.I (C := fun v => wpAny _ A (call _ [v, _, _]) _ E _) e2 fun t1' => x2.I (C := fun v => wpAny _ A (call _ [_, v, _]) _ E _) e3 fun t2 => x3.I (C := fun v => wpAny _ A (call _ [_, _, v]) _ E _) e4 fun t3 => iteG he fun hb he => ?_
        cases he
        obtain ⟨k, rfl⟩ := Int.eq_ofNat_of_zero_le (show 0 ≤ sp by omega)
        refine call_range_3 (by omega) ?_ (.inl (PyProof.noPylong_small (by omega)))
        refine itRange (e := .bi .range l') (a := a) (b := b) (st := k) hfr s.heap (p1.trans (Pur.push _ _)) ((R.pur p1).pur (Pur.push _ _)) (Heap.get?_push_size _ rfl) (by omega) (by omega) (by omega) (by omega) (by omega) (by omega) ?_
        exact fun I h' tk fp Pi St p2 i2 => r I h' tk fp Pi St (p1.trans ((Pur.push _ _).trans p2)) i2

theorem CX.noTest {ns : Names} {pe : PySem.Expr} {e : Ex} (c : CX g ns pe e) (ht : isT e = false) (env : Env) (whole : Sem Value) : isTrue pe env whole = (do let v ← whole; standAt pe.pos; holding [v] (truthy v)) := by
  have i := c.inv
  clear c
  induction i <;> first | rfl | exact absurd ht.symm Bool.false_ne_true
theorem CX.test {ns : Names} {pe : PySem.Expr} {e : Ex} {C : PySem.Expr → Ex → Prop} (c : CX g ns pe e) (ht : isT e = true) (h1 : ∀ a p a', CX g ns a a' → C (.UnaryOp .Not a p) (.not a')) (h2 : ∀ a l p a' l', CX g ns a a' → CXs g ns l l' → C (.BoolOp .And (a :: l) p) (.andl a' l'))
    (h3 : ∀ a l p a' l', CX g ns a a' → CXs g ns l l' → C (.BoolOp .Or (a :: l) p) (.orl a' l')) (h4 : ∀ a o b p a' b', CX g ns a a' → CX g ns b b' → C (.Compare a [o] [b] p) (.cmp (cCp o) a' b')) (h5 : ∀ pe c a b, C pe (.ite c a b)) : C pe e := by
  have i := c.inv
  clear c
  induction i with
  | not x => exact h1 _ _ _ x
  | andl x y => exact h2 _ _ _ _ _ x y
  | orl x y => exact h3 _ _ _ _ _ x y
  | cmp x y => exact h4 _ _ _ _ _ _ x y
  | ite x y z => exact h5 _ _ _ _
  | _ => exact absurd ht Bool.false_ne_true
theorem tst_ok (ok : Ok prog w P g B L n) {ns : Names} {pe : PySem.Expr} {e : Ex} {σ : Sg} {b : Bool} {env : Env} {W O : Addr → Prop} {Q : Bool → Shared → Prop} (c : CX g ns pe e) (he : tstF L σ e = some b) (cx' : Cx ns env A (n + 1)) (R : Rl prog w B ns env W O σ s.heap)
    (r : ∀ h' tk, Pur s.heap h' → Q b { s with heap := h', toks := tk }) : wpAny (model prog w) A (isTrue pe env (eval pe env)) Q E s := by
  have cx := cx'.down
  have hu : A.units + 60 < cLine := by have := cx.units; omega
  have hbt : ∀ {p : Pos} {l : List PySem.Expr} {l' : List Ex} {op : BoolOp} {e' : Ex} {s : Shared} {q : Bool}, CX g ns (.BoolOp op l p) e' → L.tst σ e' = some q → Rl prog w B ns env W O σ s.heap → (∀ h' tk, Pur s.heap h' → Q q { s with heap := h', toks := tk }) → wpAny (model prog w) A (allTrue op l env) Q E s := fun {p l l' op e' s q} c he R r => by
    have := ok.tst (E := E) c he cx R r
    rw [arm_isTrue_BoolOp] at this
    exact this
  cases ht : isT e with
  | true =>
    have he : tstT L σ e = some b := (if_pos ht).symm.trans he
    refine c.test (C := fun pe e => tstT L σ e = some b → wpAny (model prog w) A (isTrue pe env (eval pe env)) Q E s) ht (fun a p a' ca he => ?_) (fun a l p a' l' ca cl he => ?_) (fun a l p a' l' ca cl he => ?_) (fun a o b p a' b' ca cb he => ?_) (fun _ _ _ _ he => nomatch he) he
    · exact bnd he fun q h1 he => by cases he; exact wpAny_isTrue_Not (ok.tst ca h1 cx R r)
    · refine bnd he fun q h1 he => ?_
      rw [arm_isTrue_BoolOp]
      refine wpAny_allTrue_And_cons (ok.tst ca h1 cx R fun k1 t1 p1 => ?_)
      cases q
      · cases he; exact r _ _ p1
      · cases l with
        | nil => cases cl.inv; cases he; exact wpAny_allTrue_And_nil (r _ _ p1)
        | cons b0 l => cases cl.inv with | cons cc cr => exact hbt (l' := []) (CX.and (p := p) cl) he (R.pur p1) fun h' tk p2 => r _ _ (p1.trans p2)
    · refine bnd he fun q h1 he => ?_
      rw [arm_isTrue_BoolOp]
      refine wpAny_allTrue_Or_cons (ok.tst ca h1 cx R fun k1 t1 p1 => ?_)
      cases q
      · cases l with
        | nil => cases cl.inv; cases he; exact wpAny_allTrue_Or_nil (r _ _ p1)
        | cons b0 l => cases cl.inv with | cons cc cr => exact hbt (l' := []) (CX.or (p := p) cl) he (R.pur p1) fun h' tk p2 => r _ _ (p1.trans p2)
      · cases he; exact r _ _ p1
    · refine bnd he fun x h1 he => bnd he fun y h2 he => wpAny_isTrue_Compare1 (cmp_parts ok ca cb h1 h2 he hu cx R fun v k1 t1 p1 f1 => ?_) (cb.noMark _)
      exact f1.B (C := fun v => wpAny _ A (truthy v) _ E _) rfl (wpAny_truthy_bool (r _ _ p1))
  | false =>
    have he : (L.ev σ e).bind boolOf = some b := (if_neg (by rw [ht]; exact Bool.false_ne_true)).symm.trans he
    exact wpAny_isTrue_value (bnd he fun d h1 h2 => ok.ev c h1 cx R fun v k1 t1 p1 f1 => truthy_ok (s := { s with heap := k1, toks := t1 }) f1 h2 fun t => r _ _ p1) (c.noTest ht _ _)
end
end Mine
end
section
/-! Calls of the text's own functions. -/
open PySem PySem.Calls PyProof.Rows PySem.W PySem.Spec
namespace Mine
section
variable {prog : Program} {w : World}

theorem bindL_off {kindOf : Str → Option NameKind} {x : Str} : ∀ (binds : List (Str × Value)) (m : Str → Option Value), (∀ v, (x, v) ∉ binds) → bindL kindOf binds m x = m x
  | [], m, _ => rfl
  | (n, v) :: r, m, h => by
    unfold bindL
    rw [bindL_off r _ fun v hv => h v (.tail _ hv)]
    split
    · have : x ≠ n := fun q => h v (q ▸ .head _)
      simp [this]
    · rfl
theorem bindL_on {kindOf : Str → Option NameKind} {x : Str} {v : Value} (hk : kindOf x = some .local) : ∀ (binds : List (Str × Value)) (m : Str → Option Value), (binds.map (·.1)).Nodup → (x, v) ∈ binds → bindL kindOf binds m x = some v
  | (n, u) :: r, m, nd, h => by
    unfold bindL
    have nd' := List.nodup_cons.mp (show (n :: r.map (·.1)).Nodup from nd)
    rcases List.mem_cons.mp h with e | h
    · cases e
      rw [if_pos hk, bindL_off r _ fun v' hv' => nd'.1 (List.mem_map.mpr ⟨_, hv', rfl⟩)]
      simp
    · exact bindL_on hk r _ nd'.2 h
theorem bindC_off {kindOf : Str → Option NameKind} {x : Str} : ∀ (binds : List (Str × Value)) (m : Str → Option Value), (∀ v, (x, v) ∉ binds) → bindC kindOf binds m x = m x
  | [], m, _ => rfl
  | (n, v) :: r, m, h => by
    unfold bindC
    rw [bindC_off r _ fun v hv => h v (.tail _ hv)]
    split
    · rfl
    · have : x ≠ n := fun q => h v (q ▸ .head _)
      simp [this]
theorem bindC_on {kindOf : Str → Option NameKind} {x : Str} {v : Value} (hk : kindOf x = some .cell) : ∀ (binds : List (Str × Value)) (m : Str → Option Value), (binds.map (·.1)).Nodup → (x, v) ∈ binds → bindC kindOf binds m x = some v
  | (n, u) :: r, m, nd, h => by
    unfold bindC
    have nd' := List.nodup_cons.mp (show (n :: r.map (·.1)).Nodup from nd)
    rcases List.mem_cons.mp h with e | h
    · cases e
      rw [if_neg (by rw [hk]; decide), bindC_off r _ fun v' hv' => nd'.1 (List.mem_map.mpr ⟨_, hv', rfl⟩)]
      simp
    · exact bindC_on hk r _ nd'.2 h

theorem lookup_wf : ∀ {ns : Names}, wfN ns = true → ∀ {x : Str} {k : NameKind}, (x, k) ∈ ns → ns.lookup x = some k
  | [], _, x, k, h => by cases h
  | (n, k') :: r, wf, x, k, h => by
    have nd := List.nodup_cons.mp (show (n :: r.map (·.1)).Nodup from of_decide_eq_true wf)
    rcases List.mem_cons.mp h with e | h
    · cases e; simp [List.lookup_cons]
    · have : (x == n) = false := by
        simp only [beq_eq_false_iff_ne]
        intro q
        exact nd.1 (List.mem_map.mpr ⟨_, h, q⟩)
      rw [List.lookup_cons, this]
      exact lookup_wf (ns := r) (decide_eq_true nd.2) h
theorem nmOf_lookup {ns : Names} (wf : wfN ns = true) {x : Str} (h : x ∈ nmOf ns) : ns.lookup x = some .local ∨ ns.lookup x = some .cell ∨ ns.lookup x = some .free := by
  obtain ⟨⟨y, k⟩, hm, rfl⟩ := List.mem_map.mp h
  obtain ⟨h1, h2⟩ := List.mem_filter.mp hm
  have := lookup_wf wf h1
  cases k <;> first | (exact .inl this) | (exact .inr (.inl this)) | (exact .inr (.inr this)) | (simp [isVar] at h2)

theorem OV.mono {W O M : Addr → Prop} {h : Heap} {v : Value} {d : D} (x : OV prog w W O h v d) (hm : ∀ b, M b → Mw W O b) (hd : ∀ a, W a → ¬ M a) : FV prog w h M v d := by
  have st : Stp (Mw W O) h M h := fun b o nb e => ⟨fun q => nb (hm b q), e⟩
  obtain ⟨x, y⟩ := x
  rcases y with y | ⟨a, rfl, wa⟩
  · exact y.stp st
  · cases x with
    | of x => exact x.stp st
    | list il f => exact .list (hd _ wa) il (f.stp st)
    | dictI n m f => exact .dictI (hd _ wa) n m (f.stp st)
    | dictS n m f => exact .dictS (hd _ wa) n m (f.stp st)

theorem zip_get {α β : Type} : ∀ {l : List α} {r : List β} {i : Nat} {a : α} {b : β}, l[i]? = some a → r[i]? = some b → (l.zip r)[i]? = some (a, b)
  | [], _, _, _, _, h, _ => by cases h
  | _ :: _, [], _, _, _, _, h => by cases h
  | x :: l, y :: r, 0, _, _, h1, h2 => by cases h1; cases h2; rfl
  | x :: l, y :: r, i + 1, _, _, h1, h2 => zip_get (l := l) (r := r) (i := i) h1 h2

theorem call_ok {P : Pg} {g : Gl} {B : Heap} {L : Lo} {n : Nat} {mg mb : Str → Option Value} (st : Stat prog w P g B mg mb) (ok : Ok prog w P g B L n) : CallOk prog w P g B mg L n := by
  intro A E s M Q f vs ds d hf he hh hdep hun base live fv r
  obtain ⟨fn, hfn, he⟩ := bind_some (show (P.fn f >>= fun fn => _) = _ from he)
  obtain ⟨a, o, fd, body, k, q1, q2, q3, q4, q5, q6, q7, q8, q9, q10, q11, q12, q13, q14, q15, q16⟩ := st.fn f fn hf hfn
  refine ⟨a, o, fd, q1, q2, q3, ?_⟩
  have pB : Pur B s.heap := fun b o e => (base b o e).2
  dsimp only at he
  split at he
  rotate_left
  · cases he
  rename_i hc
  obtain ⟨⟨rr, σ'⟩, hrun, he⟩ := bind_some he
  have hd : rr.getD .none = d := by
    have : some (rr.getD PyData.none) = some d := he
    exact Option.some.inj this
  obtain ⟨hlen, hpn⟩ := hc
  have lv := fv.length
  obtain ⟨rest, bt, fr⟩ := q16 s vs pB (by omega)
  have hlen' : (ds ++ fn.dflts).length = fn.params := by rw [List.length_append]; omega
  have fall : FVs prog w s.heap M (vs ++ rest) (ds ++ fn.dflts) := fv.append (fr M)
  generalize hfull : ds ++ fn.dflts = full at *
  generalize hvals : vs ++ rest = vals at *
  have hvl : vals.length = fn.params := by rw [fall.length, hlen']
  generalize hb : ((nmOf fd.scope.names).take fn.params).zip vals = binds at *
  have htl : ((nmOf fd.scope.names).take fn.params).length = fn.params := by rw [List.length_take]; omega
  have hb1 : binds.map (·.1) = (nmOf fd.scope.names).take fn.params := by
    rw [← hb, List.map_fst_zip]; omega
  have hbn : (binds.map (·.1)).Nodup := by rw [hb1]; exact (List.take_sublist _ _).nodup (nmOf_nodup q13)
  have hmem : ∀ {x : Str}, x ∈ nmOf fd.scope.names → fd.scope.names.lookup x = some .local ∨ fd.scope.names.lookup x = some .cell := fun {x} hx => by
    rcases nmOf_lookup q13 hx with h | h | h
    · exact .inl h
    · exact .inr h
    · exact absurd rfl (q14 _ (mem_of_lookup h))
  refine wpAny_call (codeAny_call_function (by omega) (pB _ _ q2) q3 q9 q10 q4 (q5.keeps pB) (bt _ _ _ _ ?_))
  rw [q6]
  refine wpAny_newFunctionEnv_cells q11 (fun x hx => ?_) fun env henv s' ic => ⟨st.lim.keeps fun b o e => ic.toInCall.keep b o (pB b o e), codeAny_func ?_⟩
  · have : x.1 ∈ nmOf fd.scope.names := by
      have : x.1 ∈ binds.map (·.1) := List.mem_map.mpr ⟨x, hx, rfl⟩
      rw [hb1] at this
      exact List.mem_of_mem_take this
    rcases hmem this with h | h
    · exact .inl h
    · exact .inr ⟨h, cellsFrom_some _ _ _ (.inl h)⟩
  have e1 : env.scope = fd.scope := by rw [henv]; rfl
  have e2 : env.locals = s.heap.objs.size := by rw [henv]; rfl
  have e3 : env.globals = fd.globals := by rw [henv]; rfl
  have e4 : env.builtins = fd.builtins := by rw [henv]; rfl
  have e5 : env.cells = cellsFrom (s.heap.objs.size + 1) fd.scope.names [] := by rw [henv]; rfl
  have ekind : ∀ x, env.kindOf x = fd.scope.names.lookup x := fun x => by unfold Env.kindOf; rw [e1]
  have hnew : ∀ b, (b = env.locals ∨ ∃ x, env.cells.lookup x = some b) → s.heap.get? b = none := fun b hb => by
    cases q : s.heap.get? b with
    | none => rfl
    | some o =>
      have hlt := Heap.lt_size q
      rcases hb with rfl | ⟨x, hx⟩
      · rw [e2] at hlt; exact absurd hlt (Nat.lt_irrefl _)
      · have := ic.above x b (mem_of_lookup hx)
        rw [e2] at this
        exact absurd (Nat.lt_trans hlt this) (Nat.lt_irrefl _)
  have hcell : ∀ x, fd.scope.names.lookup x = some .cell → ∃ c, env.cells.lookup x = some c := fun x hx => by
    rw [e5]; exact Option.isSome_iff_exists.mp (cellsFrom_some _ _ _ (.inl hx))
  have cx : Cx fd.scope.names env (A.deeper env) n := by
    refine ⟨by rw [e1], q13, fun x hx => ?_, by rw [e1]; exact q11, by rw [e3, q7], by rw [e4, q8], hh, ?_, ?_⟩
    · rcases hx with h | h
      · exact hcell x h
      · exact absurd rfl (q14 _ (mem_of_lookup h))
    · show A.depth + 1 + n + 10 < _; omega
    · show A.units + 3 + 4 * n + 200 < _; omega
  have R : Rl prog w B fd.scope.names env (fun b => b = env.locals ∨ ∃ x, env.cells.lookup x = some b) M (full.map (fun d => some (.val d)) ++ List.replicate (fn.n - fn.params) none) s'.heap := by
    refine ⟨fun b o e => ⟨fun q => ?_, ic.toInCall.keep b o (pB b o e)⟩, ⟨.inl rfl, _, ic.toInCall.ns⟩, fun a ha => ?_, fun a ha hm => ?_, fun x c hx => ⟨?_, .inl (.inr ⟨x, hx⟩), _, ic.cell x c hx⟩, fun x y c hx hy => ?_, fun _ => [], fun i sl hi => ?_, fun i a h => (List.not_mem_nil h).elim, fun i j a h => (List.not_mem_nil h).elim⟩
    · rcases q with q | q
      · have := hnew b q
        rw [pB b o e] at this
        cases this
      · exact (base b o e).1 q
    · rcases ha with (rfl | ⟨x, hx⟩) | hm
      · obtain ⟨o, _, _, ho, _⟩ := ic.toInCall.ns; exact ⟨o, ho⟩
      · obtain ⟨o, ho, _⟩ := ic.cell x a hx; exact ⟨o, ho⟩
      · obtain ⟨o, ho⟩ := live a hm; exact ⟨o, ic.toInCall.keep a o ho⟩
    · obtain ⟨o, ho⟩ := live a hm
      rw [hnew a ha] at ho
      cases ho
    · have := ic.above x c (mem_of_lookup hx)
      exact Nat.ne_of_gt this
    · exact name_of_addr ic.apart (mem_of_lookup hx) (mem_of_lookup hy)
    · have hip : i < fn.params := by
        rcases Nat.lt_or_ge i fn.params with h | h
        · exact h
        · exfalso
          rw [List.getElem?_append_right (by rw [List.length_map]; omega)] at hi
          have := List.mem_of_getElem? hi
          rw [List.mem_replicate] at this
          exact nomatch this.2
      rw [List.getElem?_append_left (by rw [List.length_map]; omega), List.getElem?_map] at hi
      obtain ⟨d', hd', hsl⟩ := Option.map_eq_some_iff.mp hi
      cases hsl
      obtain ⟨v, hv, fvv⟩ := fall.get hd'
      have hil : i < (nmOf fd.scope.names).length := by omega
      have hnm : (nmOf fd.scope.names)[i]? = some (nmOf fd.scope.names)[i] := List.getElem?_eq_getElem hil
      have hzip : ((nmOf fd.scope.names)[i], v) ∈ binds := by
        rw [← hb]
        refine List.mem_of_getElem? (i := i) (zip_get ?_ hv)
        rw [List.getElem?_take_of_lt hip]
        exact hnm
      refine ⟨_, v, hnm, ?_, .val ?_⟩
      · rcases hmem (List.getElem_mem hil) with hk | hk
        · exact .inl ⟨by rw [ekind]; exact hk, _, ic.toInCall.ns, bindL_on (by rw [ekind]; exact hk) _ _ hbn hzip⟩
        · obtain ⟨c, hcl⟩ := hcell _ hk
          refine .inr ⟨.inl (by rw [ekind]; exact hk), c, hcl, ?_⟩
          have := ic.cell _ c hcl
          rwa [bindC_on (by rw [ekind]; exact hk) _ _ hbn hzip] at this
      · refine fvv.stp (h := s.heap) (M := M) fun b o nb e => ⟨fun q => ?_, ic.toInCall.keep b o e⟩
        rcases q with q | q
        · rw [hnew b q] at e; cases e
        · exact nb q
  have hfrm : Frame fd.scope.names env (fun b => b = env.locals ∨ ∃ x, env.cells.lookup x = some b) := fun x hx => by
    rcases hmem hx with hk | hk
    · exact .inl (by rw [ekind]; exact hk)
    · obtain ⟨c, hcl⟩ := hcell _ hk
      exact .inr ⟨by rw [ekind]; exact hk, c, hcl, .inr ⟨x, hcl⟩⟩
  obtain ⟨h1, t1, hs1⟩ := ic.toInCall.same
  refine ok.run q12 hrun cx R hfrm ?_
  intro fl h' tk W' gr R' fr' hr
  have pur : Pur s.heap h' := fun b o e => (gr.stp b o (fun q => by rw [hnew b q] at e; cases e) (ic.toInCall.keep b o e)).2
  subst hs1
  cases rr with
  | none =>
    cases hr
    cases hd
    exact r _ h' tk pur .none
  | some d' =>
    obtain ⟨v, rfl, ov⟩ := hr
    cases hd
    exact r _ h' tk pur (ov.mono (fun b q => .inr q) R'.disj)
end
end Mine
end
section
/-! Comprehensions: the loops. -/
open PySem PySem.Calls PyProof.Rows PySem.W PySem.Spec
namespace Mine
section
variable {prog : Program} {w : World} {A : Around} {E : Value → Shared → Prop} {R : Result → Shared → Prop} {s : Shared} {P : Pg} {g : Gl} {B : Heap} {L : Lo} {n : Nat}

/-- an object that is no name's changes -/
theorem Rl.changeO {ns : Names} {env : Env} {W O : Addr → Prop} {σ : Sg} {h h' : Heap} {z : Addr} (R : Rl prog w B ns env W O σ h) (hz : O z) (hc : ∀ x, env.cells.lookup x ≠ some z) (hl : ∃ o, h'.get? z = some o)
    (hs : ∀ b o, b ≠ z → h.get? b = some o → h'.get? b = some o) : Rl prog w B ns env W O σ h' := by
  have nW : ∀ b, W b → b ≠ z := fun b wb q => R.disj b wb (q ▸ hz)
  have st : Stp (Mw W O) h (Mw W O) h' := fun b o nb e => ⟨nb, hs b o (fun q => nb (.inr (q ▸ hz))) e⟩
  have nL : env.locals ≠ z := nW _ R.loc.1
  refine ⟨fun b o e => st b o (R.base b o e).1 (R.base b o e).2, ⟨R.loc.1, let ⟨m, hm⟩ := R.loc.2; ⟨m, hm.at' fun o e => hs _ o nL e⟩⟩, fun a ha => ?_, R.disj, fun x c e => ?_, R.apart, ?_⟩
  · by_cases q : a = z
    · rw [q]; exact hl
    · obtain ⟨o, ho⟩ := R.live a ha; exact ⟨o, hs _ o q ho⟩
  · obtain ⟨z1, z2, v, o, ho, hd⟩ := R.cell x c e
    exact ⟨z1, z2, v, o, hs _ o (fun q => hc x (q ▸ e)) ho, hd⟩
  · obtain ⟨fp, f1, f2, f3⟩ := R.vars
    refine ⟨fp, fun i sl e => ?_, f2, f3⟩
    obtain ⟨x, v, hx, at', sv⟩ := f1 i sl e
    refine ⟨x, v, hx, ?_, sv.stp st (fun a ha o e => hs a o (nW a (f2 i a ha).1) e) sv.inM⟩
    rcases at' with ⟨k, m, hm, e⟩ | ⟨k, c, hc', o, ho, hd⟩
    · exact .inl ⟨k, m, hm.at' fun o e => hs _ o nL e, e⟩
    · exact .inr ⟨k, c, hc', o, hs _ o (fun q => hc x (q ▸ hc')) ho, hd⟩
/-- such an object is let go -/
theorem Rl.dropO {ns : Names} {env : Env} {W O : Addr → Prop} {σ : Sg} {h h' : Heap} {z : Addr} (R : Rl prog w B ns env W O σ h) (hz : O z) (hc : ∀ x, env.cells.lookup x ≠ some z)
    (hs : ∀ b o, b ≠ z → h.get? b = some o → h'.get? b = some o) : Rl prog w B ns env W (fun b => O b ∧ b ≠ z) σ h' := by
  have nW : ∀ b, W b → b ≠ z := fun b wb q => R.disj b wb (q ▸ hz)
  have st : Stp (Mw W O) h (Mw W fun b => O b ∧ b ≠ z) h' := fun b o nb e => ⟨fun q => nb (q.elim .inl fun q => .inr q.1), hs b o (fun q => nb (.inr (q ▸ hz))) e⟩
  have nL : env.locals ≠ z := nW _ R.loc.1
  refine ⟨fun b o e => st b o (R.base b o e).1 (R.base b o e).2, ⟨R.loc.1, let ⟨m, hm⟩ := R.loc.2; ⟨m, hm.at' fun o e => hs _ o nL e⟩⟩, fun a ha => ?_, fun a wa oa => R.disj a wa oa.1, fun x c e => ?_, R.apart, ?_⟩
  · have : a ≠ z ∧ Mw W O a := ha.elim (fun q => ⟨nW a q, .inl q⟩) fun q => ⟨q.2, .inr q.1⟩
    obtain ⟨o, ho⟩ := R.live a this.2
    exact ⟨o, hs _ o this.1 ho⟩
  · obtain ⟨z1, z2, v, o, ho, hd⟩ := R.cell x c e
    have nc : c ≠ z := fun q => hc x (q ▸ e)
    exact ⟨z1, z2.elim .inl fun q => .inr ⟨q, nc⟩, v, o, hs _ o nc ho, hd⟩
  · obtain ⟨fp, f1, f2, f3⟩ := R.vars
    refine ⟨fp, fun i sl e => ?_, f2, f3⟩
    obtain ⟨x, v, hx, at', sv⟩ := f1 i sl e
    refine ⟨x, v, hx, ?_, sv.stp st (fun a ha o e => hs a o (nW a (f2 i a ha).1) e) fun a ha => .inl (f2 i a ha).1⟩
    rcases at' with ⟨k, m, hm, e⟩ | ⟨k, c, hc', o, ho, hd⟩
    · exact .inl ⟨k, m, hm.at' fun o e => hs _ o nL e, e⟩
    · exact .inr ⟨k, c, hc', o, hs _ o (fun q => hc x (q ▸ hc')) ho, hd⟩
theorem Rl.sameO {ns : Names} {env : Env} {W O O' : Addr → Prop} {σ : Sg} {h : Heap} (R : Rl prog w B ns env W O σ h) (e : ∀ b, O b ↔ O' b) : Rl prog w B ns env W O' σ h := by
  have : O = O' := funext fun b => propext (e b)
  exact this ▸ R

theorem compL2_set (elt : Ex) (t : Nat) (ifs : List Ex) (x : Option Slot) : ∀ (ds : List D) (σ : Sg), compL2 L elt t ifs (σ.set t x) ds = compL2 L elt t ifs σ ds
  | [], σ => rfl
  | d :: r, σ => by
    simp only [compL2, List.set_set]
theorem compL1_none (elt : Ex) (t : Nat) (ifs : List Ex) : ∀ (ds : List D) (σ : Sg), compL1 L elt t ifs none σ ds = compL2 L elt t ifs σ ds
  | [], σ => rfl
  | d :: r, σ => by
    simp only [compL1, compL2]
    cases h : allT L (σ.set t (some (.val d))) ifs with
    | none => rfl
    | some b =>
      simp only [Option.bind_eq_bind, Option.bind_some]
      cases b
      · simp only [Bool.false_eq_true, if_false, Option.bind_some]
        rw [compL1_none elt t ifs r]
        cases compL2 L elt t ifs (σ.set t (some (Slot.val d))) r <;> rfl
      · simp only [if_true]
        cases L.ev (σ.set t (some (.val d))) elt with
        | none => rfl
        | some x =>
          simp only [Option.bind_some]
          rw [compL1_none elt t ifs r]
          cases compL2 L elt t ifs (σ.set t (some (Slot.val d))) r <;> rfl
theorem compL1_set (elt : Ex) (t : Nat) (ifs : List Ex) (more : Option (Nat × Ex × List Ex)) (x : Option Slot) : ∀ (ds : List D) (σ : Sg), compL1 L elt t ifs more (σ.set t x) ds = compL1 L elt t ifs more σ ds
  | [], σ => rfl
  | d :: r, σ => by
    have ih := compL1_set elt t ifs more x r σ
    cases more with
    | none => simp only [compL1, List.set_set]
    | some m =>
      obtain ⟨t2, it2, ifs2⟩ := m
      simp only [compL1, List.set_set]
      rw [ih]

noncomputable abbrev testsOf (ifs : List PySem.Expr) (env : Env) : Sem Bool := forIn ifs true fun c r => if r = true then do let ok ← isTrue c env (eval c env); pure (ForInStep.yield ok) else pure (ForInStep.yield r)

theorem tests_off {env : Env} {Q : Bool → Shared → Prop} : ∀ {l : List PySem.Expr}, Q false s → wpAny (model prog w) A (forIn l false fun c r => if r = true then do let ok ← isTrue c env (eval c env); pure (ForInStep.yield ok) else pure (ForInStep.yield r)) Q E s
  | [], h => wpAny_pure h
  | c :: l, h => by
    rw [List.forIn_cons]
    simp only [Bool.false_eq_true, if_false]
    exact wpAny_bind (wpAny_pure (tests_off h))
theorem tests_ok (ok : Ok prog w P g B L n) {ns : Names} {env : Env} {W O : Addr → Prop} {σ : Sg} {b : Bool} : ∀ {l : List PySem.Expr} {es : List Ex} {s : Shared} {Q : Bool → Shared → Prop}, CXs g ns l es → allT L σ es = some b → Cx ns env A n → Rl prog w B ns env W O σ s.heap →
    (∀ h' tk, Pur s.heap h' → Q b { s with heap := h', toks := tk }) → wpAny (model prog w) A (testsOf l env) Q E s
  | [], es, s, Q, c, e, cx, R, h => by
    cases c.inv
    cases e
    exact wpAny_pure (h s.heap s.toks (Pur.refl _))
  | a :: l, es, s, Q, c, e, cx, R, h => by
    cases c.inv with | cons x y =>
    rename_i a' l'
    obtain ⟨q, e1, e⟩ := bind_some (show (L.tst σ a' >>= fun q => _) = _ from e)
    unfold testsOf
    rw [List.forIn_cons]
    simp only [if_true]
    refine wpAny_bind (wpAny_bind (ok.tst x e1 cx R fun h1 t1 p1 => wpAny_pure ?_))
    cases q
    · cases e
      exact tests_off (h h1 t1 p1)
    · exact tests_ok ok y e cx (R.pur p1) fun h2 t2 p2 => h h2 t2 (p1.trans p2)

section
variable {elt : PySem.Expr} {gens : List Comprehension} {scope : Scope} {pos : Pos} {it acc : Value} {env : Env} {depth : Nat}

/-- one turn of the innermost loop -/
noncomputable def LastTurn (elt : PySem.Expr) (gens : List Comprehension) (scope : Scope) (pos : Pos) (depth : Nat) (target : PySem.Expr) (iter : PySem.Expr) (ifs : List PySem.Expr) : Prop := ∀ (it acc : Value) (env : Env),
  compTurn (.ListComp elt gens scope pos) depth it acc env = (do
      standAt iter.pos
      match ← pyNext it with
      | none => pure (.done .next)
      | some v =>
        letOwnedTupleGo target it v
        assign target env v
        let mut ok := true
        for c in ifs do
          if ok then ok ← isTrue c env (eval c env)
        if ok then
          (do let _ ← call (.builtin "list.append") [acc, ← eval elt env])
        again (.compLoop (.ListComp elt gens scope pos) depth it acc env))
theorem lastTurn_one (elt target iter : PySem.Expr) (ifs : List PySem.Expr) (scope : Scope) (pos : Pos) : LastTurn elt [⟨target, iter, ifs, 0⟩] scope pos 0 target iter ifs := fun _ _ _ => rfl
theorem lastTurn_two (elt t1 i1 target iter : PySem.Expr) (f1 ifs : List PySem.Expr) (scope : Scope) (pos : Pos) : LastTurn elt [⟨t1, i1, f1, 0⟩, ⟨target, iter, ifs, 0⟩] scope pos 1 target iter ifs := fun _ _ _ => rfl
theorem firstTurn_two (elt t1 i1 t2 i2 : PySem.Expr) (f1 f2 : List PySem.Expr) (scope : Scope) (pos : Pos) (it acc : Value) (env : Env) : compTurn (.ListComp elt [⟨t1, i1, f1, 0⟩, ⟨t2, i2, f2, 0⟩] scope pos) 0 it acc env = (do
      standAt i1.pos
      match ← pyNext it with
      | none => pure (.done .next)
      | some v =>
        letOwnedTupleGo t1 it v
        assign t1 env v
        let mut ok := true
        for c in f1 do
          if ok then ok ← isTrue c env (eval c env)
        if ok then
          let x ← eval i2 env
          standAt i2.pos
          let x ← foldedSetIterable i2 env x
          let _ ← runOwn (.compStart (.ListComp elt [⟨t1, i1, f1, 0⟩, ⟨t2, i2, f2, 0⟩] scope pos) 1 (← holding [x] (pyIter x)) acc env) env
        again (.compLoop (.ListComp elt [⟨t1, i1, f1, 0⟩, ⟨t2, i2, f2, 0⟩] scope pos) 0 it acc env)) := rfl

theorem codeAny_last {target iter : PySem.Expr} {ifs : List PySem.Expr} (hT : LastTurn elt gens scope pos depth target iter ifs) (I : Nat → Shared → Prop)
    (turn : ∀ n s, I n s → wpAny (model prog w) A (pyNext it) (fun r s₁ => match r with
      | none => R (.ok .next) s₁
      | some v => wpAny (model prog w) A (assign target env v) (fun _ s₂ =>
          wpAny (model prog w) A (testsOf ifs env) (fun ok s₃ =>
            if ok = true then wpAny (model prog w) A (eval elt env) (fun x s₄ =>
              wpAny (model prog w) A (call (.builtin "list.append") [acc, x]) (fun _ s₅ => ∃ m, m < n ∧ I m s₅) (notedBy (model prog w) A env fun e s' => R (.error e) s') s₄) (notedBy (model prog w) A env fun e s' => R (.error e) s') s₃
            else ∃ m, m < n ∧ I m s₃) (notedBy (model prog w) A env fun e s' => R (.error e) s') s₂) (notedBy (model prog w) A env fun e s' => R (.error e) s') s₁) (notedBy (model prog w) A env fun e s' => R (.error e) s') s)
    (n : Nat) (h : I n s) (ht : ∀ v, letOwnedTupleGo target it v = pure ()) :
    codeAny (model prog w) A (.compLoop (.ListComp elt gens scope pos) depth it acc env) R s := by
  refine codeAny_loop rfl I (fun n s hI => ?_) n h
  show wpAny _ A ((compTurn (.ListComp elt gens scope pos) depth it acc env).onRaise (fun x => do noteFrame x env; theTreesLotGoes x)) _ _ s
  refine wpAny_noted ?_
  rw [hT]
  refine wpAny_bind (wpAny_standAt (wpAny_bind (wpAny_mono (turn n s hI) (fun r s₁ h₁ => ?_) fun _ _ h' => h')))
  cases r with
  | none => exact wpAny_pure h₁
  | some v =>
    refine wpAny_bind (wpAny_of_eq (ht v) ?_)
    refine wpAny_bind (wpAny_mono h₁ (fun _ s₂ h₂ => wpAny_bind (wpAny_mono h₂ (fun ok s₃ h₃ => ?_) fun _ _ h' => h')) fun _ _ h' => h')
    cases ok with
    | false => exact wpAny_pure ⟨rfl, h₃⟩
    | true =>
      exact wpAny_bind (wpAny_bind (wpAny_mono h₃ (fun x s₄ h₄ => wpAny_bind (wpAny_mono h₄ (fun _ s₅ h₅ => wpAny_pure (wpAny_pure ⟨rfl, h₅⟩)) fun _ _ h' => h')) fun _ _ h' => h'))

theorem codeAny_compStart_at {it acc : Value} (h0 : codeAny (model prog w) A (.compLoop (.ListComp elt gens scope pos) depth it acc env) R s) (ha : ∀ g, gens[depth]? = some g → g.is_async = 0)
    (h : wpAny (model prog w) A (pyIter it) (fun it' s' => codeAny (model prog w) A (.compLoop (.ListComp elt gens scope pos) depth it' acc env) R s')
      (notedBy (model prog w) A env fun x s' => R (.error x) s') s) :
    codeAny (model prog w) A (.compStart (.ListComp elt gens scope pos) depth it acc env) R s := by
  refine codeAny_of_tree ?_
  show wpAny _ _ ((compStart (.ListComp elt gens scope pos) depth it acc env).onRaise (fun x => do noteFrame x env; standAt theWindowsPlace)) _ _ s
  refine wpAny_notedAt ?_
  unfold compStart
  have h1 : ((clausesOf (.ListComp elt gens scope pos))[depth]?).elim false (·.is_async != 0) = false := by
    show (gens[depth]?).elim false (·.is_async != 0) = false
    cases q : gens[depth]? with
    | none => rfl
    | some g => simp [ha g q]
  rw [h1]
  simp only [Bool.false_eq_true, if_false]
  show wpAny _ _ (ask >>= _) _ _ s
  refine wpAny_bind (wpAny_askSetting (wpAny_ite ?_))
  split
  · first
      | exact wpAny_bind (wpAny_pure (wpAny_pure (And.intro rfl h0)))
      | exact wpAny_pure (And.intro rfl h0)
  · refine wpAny_bind (wpAny_rule ?_)
    cases q : (clausesOf (.ListComp elt gens scope pos))[depth]? with
    | none =>
      first
        | exact wpAny_bind (wpAny_mono h (fun it' s' h' => wpAny_pure (And.intro rfl h')) fun _ _ x => x)
        | exact wpAny_bind (wpAny_pure (wpAny_bind (wpAny_mono h (fun it' s' h' => wpAny_pure (And.intro rfl h')) fun _ _ x => x)))
    | some g =>
      exact wpAny_bind (wpAny_standAt (wpAny_bind (wpAny_mono h (fun it' s' h' => wpAny_pure (And.intro rfl h')) fun _ _ x => x)))
end

theorem codeAny_first {elt i1 t1 t2 i2 : PySem.Expr} {f1 f2 : List PySem.Expr} {scope : Scope} {pos : Pos} {it acc : Value} {env : Env} (I : Nat → Shared → Prop)
    (hf : ∀ x, foldedSetIterable i2 env x = pure x)
    (turn : ∀ n s, I n s → wpAny (model prog w) A (pyNext it) (fun r s₁ => match r with
      | none => R (.ok .next) s₁
      | some v => wpAny (model prog w) A (assign t1 env v) (fun _ s₂ =>
          wpAny (model prog w) A (testsOf f1 env) (fun ok s₃ =>
            if ok = true then wpAny (model prog w) A (eval i2 env) (fun x s₄ => wpAny (model prog w) A (pyIter x) (fun it2 s₅ =>
                codeAny (model prog w) A (.compStart (.ListComp elt [⟨t1, i1, f1, 0⟩, ⟨t2, i2, f2, 0⟩] scope pos) 1 it2 acc env) (fun r s₆ => match r with | .ok _ => ∃ m, m < n ∧ I m s₆ | .error e => cameBackBy (model prog w) A env (notedBy (model prog w) A env fun e s' => R (.error e) s') e s₆) s₅)
                (notedBy (model prog w) A env fun e s' => R (.error e) s') s₄) (notedBy (model prog w) A env fun e s' => R (.error e) s') s₃
            else ∃ m, m < n ∧ I m s₃) (notedBy (model prog w) A env fun e s' => R (.error e) s') s₂) (notedBy (model prog w) A env fun e s' => R (.error e) s') s₁) (notedBy (model prog w) A env fun e s' => R (.error e) s') s)
    (n : Nat) (h : I n s) (ht : ∀ v, letOwnedTupleGo t1 it v = pure ()) :
    codeAny (model prog w) A (.compLoop (.ListComp elt [⟨t1, i1, f1, 0⟩, ⟨t2, i2, f2, 0⟩] scope pos) 0 it acc env) R s := by
  refine codeAny_loop rfl I (fun n s hI => ?_) n h
  show wpAny _ A ((compTurn (.ListComp elt [⟨t1, i1, f1, 0⟩, ⟨t2, i2, f2, 0⟩] scope pos) 0 it acc env).onRaise (fun x => do noteFrame x env; theTreesLotGoes x)) _ _ s
  refine wpAny_noted ?_
  rw [firstTurn_two]
  refine wpAny_bind (wpAny_standAt (wpAny_bind (wpAny_mono (turn n s hI) (fun r s₁ h₁ => ?_) fun _ _ h' => h')))
  cases r with
  | none => exact wpAny_pure h₁
  | some v =>
    refine wpAny_bind (wpAny_of_eq (ht v) ?_)
    refine wpAny_bind (wpAny_mono h₁ (fun _ s₂ h₂ => wpAny_bind (wpAny_mono h₂ (fun ok s₃ h₃ => ?_) fun _ _ h' => h')) fun _ _ h' => h')
    cases ok with
    | false => exact wpAny_pure ⟨rfl, h₃⟩
    | true =>
      refine wpAny_bind (wpAny_mono h₃ (fun x s₄ h₄ => wpAny_bind (wpAny_standAt (wpAny_bind (wpAny_of_eq (hf x) (wpAny_bind (wpAny_holding (wpAny_mono h₄ (fun it2 s₅ h₅ => ?_) fun _ _ h' => h')))))) ) fun _ _ h' => h')
      refine wpAny_bind (wpAny_runOwn (codeAny_mono h₅ fun r s₆ h₆ => ?_))
      cases r with
      | ok f => exact wpAny_pure ⟨rfl, h₆⟩
      | error e => exact h₆
end
end Mine
end
section
/-! Comprehensions: what the loops bring. -/
open PySem PySem.Calls PyProof.Rows PySem.W PySem.Spec
namespace Mine
section
variable {prog : Program} {w : World} {A : Around} {E : Value → Shared → Prop} {R : Result → Shared → Prop} {s : Shared} {P : Pg} {g : Gl} {B : Heap} {L : Lo} {n : Nat}

/-- all stays but the loop's own -/
noncomputable def Kb (env : Env) (x y : Str) (I D : Addr) (h h' : Heap) : Prop := ∀ b o, b ≠ I → b ≠ D → b ≠ env.locals → env.cells.lookup x ≠ some b → env.cells.lookup y ≠ some b → h.get? b = some o → h'.get? b = some o
theorem Kb.refl (env : Env) (x y : Str) (I D : Addr) (h : Heap) : Kb env x y I D h h := fun _ _ _ _ _ _ _ e => e
theorem Kb.trans {env : Env} {x y : Str} {I D : Addr} {h h' h'' : Heap} (a : Kb env x y I D h h') (b : Kb env x y I D h' h'') : Kb env x y I D h h'' := fun z o n1 n2 n3 n4 n5 e => b z o n1 n2 n3 n4 n5 (a z o n1 n2 n3 n4 n5 e)
theorem Pur.kb {h h' : Heap} (p : Pur h h') (env : Env) (x y : Str) (I D : Addr) : Kb env x y I D h h' := fun b o _ _ _ _ _ e => p b o e
theorem Kb.stp {ns : Names} {env : Env} {x y : Str} {I D : Addr} {W O : Addr → Prop} {σ : Sg} {h0 h h' : Heap} (k : Kb env x y I D h h') (R : Rl prog w B ns env W O σ h0) (oI : O I) (oD : O D) : Stp (Mw W O) h (Mw W O) h' := fun b o nb e =>
  ⟨nb, k b o (fun q => nb (.inr (q ▸ oI))) (fun q => nb (.inr (q ▸ oD))) (fun q => nb (.inl (q ▸ R.loc.1))) (fun q => nb (R.cell _ _ q).2.1) (fun q => nb (R.cell _ _ q).2.1) e⟩
theorem less_set {σ : Sg} {t : Nat} {x : Option Slot} (hσ : ∀ sl, σ[t]? ≠ some (some sl)) : ∀ (i : Nat) (sl : Slot), σ[i]? = some (some sl) → (σ.set t x)[i]? = some (some sl) := fun i sl e => by
  rw [List.getElem?_set_ne]
  · exact e
  · rintro rfl; exact hσ sl e

/-- what holds before each turn of a comprehension's loop -/
inductive LInv (prog : Program) (w : World) (B : Heap) (ns : Names) (env : Env) (W O : Addr → Prop) (σ : Sg) (x y : Str) (I Dd : Addr) (St : Nat → Heap → Prop) (F : List D → Option (List D)) (ds ds0 out : List D) (s : Shared) : Nat → Shared → Prop
  | mk {i : Nat} {h : Heap} {tk : Nat} {it1 : Array Value} {done rest : List D} : i ≤ ds.length → St i h → h.IsList Dd it1 → FVs prog w h (Mw W O) it1.toList (ds0 ++ done) → F (ds.drop i) = some rest → done ++ rest = out → Rl prog w B ns env W O σ h → Kb env x y I Dd s.heap h →
    LInv prog w B ns env W O σ x y I Dd St F ds ds0 out s (ds.length + 1 - i) { s with heap := h, toks := tk }

theorem loop_last (ok : Ok prog w P g B L n) {ns : Names} {env : Env} {W O : Addr → Prop} {σ : Sg} {x y : Str} {px : Pos} {t : Nat} {elt iter : PySem.Expr} {gens : List Comprehension} {scope : Scope} {pos : Pos} {depth : Nat} {ifs : List PySem.Expr} {elt' : Ex} {ifs' : List Ex}
    (cx : Cx ns env A n) (own : Own env W x) (ix : varIx ns x = some t) (hT : LastTurn elt gens scope pos depth (.Name x px) iter ifs) (ce : CX g ns elt elt') (cf : CXs g ns ifs ifs') (hσ : ∀ sl, σ[t]? ≠ some (some sl))
    {ds out ds0 : List D} (he : compL2 L elt' t ifs' σ ds = some out) {I Dd : Addr} {fp : List Addr} {Pi : Nat → Value → Prop} {St : Nat → Heap → Prop} (hW : Walks prog w A I fp [I] ds.length Pi St) (st0 : St 0 s.heap) (stl : ∀ i h', St i h' → ∃ o, h'.get? I = some o)
    (items : ∀ i v d, Pi i v → ds[i]? = some d → FV prog w s.heap (Mw W O) v d) (oI : O I) (oD : O Dd) (hID : I ≠ Dd) (cI : ∀ z, env.cells.lookup z ≠ some I) (cD : ∀ z, env.cells.lookup z ≠ some Dd)
    (hfix : ∀ b ∈ fp, b ≠ I → b ≠ Dd ∧ b ≠ env.locals ∧ env.cells.lookup x ≠ some b) (R0 : Rl prog w B ns env W O σ s.heap) {it0 : Array Value} (hD : s.heap.IsList Dd it0) (fD : FVs prog w s.heap (Mw W O) it0.toList ds0) (hsz : ds0.length + out.length ≤ 10000)
    (hR : ∀ h' tk it1, h'.IsList Dd it1 → FVs prog w h' (Mw W fun b => O b ∧ b ≠ I) it1.toList (ds0 ++ out) → Rl prog w B ns env W (fun b => O b ∧ b ≠ I) σ h' → Kb env x y I Dd s.heap h' → R (.ok .next) { s with heap := h', toks := tk }) :
    codeAny (model prog w) A (.compLoop (.ListComp elt gens scope pos) depth (.ref I) (.ref Dd) env) R s := by
  have nIL : I ≠ env.locals := fun q => R0.disj _ R0.loc.1 (q ▸ oI)
  have nDL : Dd ≠ env.locals := fun q => R0.disj _ R0.loc.1 (q ▸ oD)
  refine codeAny_last hT (LInv prog w B ns env W O σ x y I Dd St (compL2 L elt' t ifs' σ) ds ds0 out s) ?_ (ds.length + 1)
    (.mk (i := 0) (h := s.heap) (tk := s.toks) (it1 := it0) (done := []) (rest := out) (Nat.zero_le _) st0 hD (by rw [List.append_nil]; exact fD) he rfl R0 (Kb.refl _ _ _ _ _ _)) (fun _ => rfl)
  intro k s' hinv
  induction hinv with | @mk i h tk it1 done rest hi hst hD1 fD1 he1 hout R1 K1 =>
  rcases Nat.lt_or_ge i ds.length with hlt | hge
  · refine hW.item i _ _ _ hlt hst fun v h1 tk1 hPv hst1 hk1 => ?_
    have hk1' : ∀ b o, b ≠ I → h.get? b = some o → h1.get? b = some o := fun b o nb e => hk1 b o (by simpa using nb) e
    have R2 := R1.changeO oI cI (stl _ _ hst1) hk1'
    have K2 : Kb env x y I Dd s.heap h1 := K1.trans fun b o n1 _ _ _ _ e => hk1' b o n1 e
    have hdi : ds[i]? = some ds[i] := List.getElem?_eq_getElem hlt
    have hdrop : ds.drop i = ds[i] :: ds.drop (i + 1) := List.drop_eq_getElem_cons hlt
    generalize ds[i] = d at hdi hdrop
    rw [hdrop] at he1
    obtain ⟨here, e1, e2⟩ := bind_some (show ((do if ← allT L (σ.set t (some (.val d))) ifs' then return [← L.ev (σ.set t (some (.val d))) elt'] else some []) >>= fun here => (do return here ++ (← compL2 L elt' t ifs' (σ.set t (some (.val d))) (ds.drop (i + 1))) : Option (List D))) = _ from he1)
    obtain ⟨rest', e3, e4⟩ := bind_some e2
    have e4' := Option.some.inj e4
    subst e4'
    rw [compL2_set] at e3
    obtain ⟨q, e5, e6⟩ := bind_some e1
    have fv := (items i v d hPv hdi).stp (K2.stp R1 oI oD)
    refine wpAny_assign_Name (st_at (sl := .val d) (fpn := []) R2 cx.kind cx.wf own (varIx_at ix) (.val fv) (fun a ha => (List.not_mem_nil ha).elim) (fun fp _ j a _ ha => (List.not_mem_nil ha).elim) fun h2 tk2 R3 same stW => ?_)
    have K23 : Kb env x y I Dd h1 h2 := fun b o n1 n2 n3 n4 n5 e => by
      rcases same with same | ⟨c, hc, same⟩
      · exact (same.2 b n3).trans e
      · exact (same.2 b (fun q => n4 (q ▸ hc))).trans e
    have fixed : ∀ b ∈ fp, ∀ o, h1.get? b = some o → h2.get? b = some o := fun b hb o e => by
      by_cases q : b = I
      · subst q; exact (stW b o (fun wb => R0.disj _ wb oI) e).2
      · obtain ⟨z1, z2, z3⟩ := hfix b hb q
        rcases same with same | ⟨c, hc, same⟩
        · exact (same.2 b z2).trans e
        · exact (same.2 b (fun q => z3 (q ▸ hc))).trans e
    have hst2 := hW.frame _ _ _ hst1 fixed
    have hD2 : h2.IsList Dd it1 := by
      obtain ⟨o, ho, hr⟩ := hD1
      exact ⟨o, (stW Dd o (fun wb => R0.disj _ wb oD) (hk1' _ o (Ne.symm hID) ho)).2, hr⟩
    have K3 := K2.trans K23
    refine tests_ok ok cf e5 cx R3 fun h3 tk3 p3 => ?_
    have hst3 := hW.frame _ _ _ hst2 fun b _ o e => p3 b o e
    have hD3 : h3.IsList Dd it1 := let ⟨o, ho, hr⟩ := hD2; ⟨o, p3 _ o ho, hr⟩
    have K4 := K3.trans (p3.kb env x y I Dd)
    have K14 : Kb env x y I Dd h h3 := ((show Kb env x y I Dd h h1 from fun b o n1 _ _ _ _ e => hk1' b o n1 e).trans K23).trans (p3.kb env x y I Dd)
    have fD3 := fD1.stp (K14.stp R1 oI oD)
    cases q
    · cases e6
      simp only [Bool.false_eq_true, if_false]
      exact ⟨_, by omega, .mk (i := i + 1) hlt hst3 hD3 fD3 e3 hout ((R3.pur p3).less (less_set hσ)) K4⟩
    · simp only [if_true] at e6 ⊢
      obtain ⟨xv, e7, e8⟩ := bind_some e6
      cases e8
      refine ok.ev ce e7 cx (R3.pur p3) fun yv h4 tk4 p4 f4 => ?_
      have hlen : it1.size = ds0.length + done.length := by have := fD3.length; simpa using this
      have hol : done.length < 10000 := by
        have := congrArg List.length hout
        simp only [List.length_append, List.length_cons, List.length_nil] at this
        omega
      have hol2 : ds0.length + done.length ≤ 10000 := by
        have := congrArg List.length hout
        simp only [List.length_append, List.length_cons, List.length_nil] at this
        omega
      have hD4 : h4.IsList Dd it1 := let ⟨o, ho, hr⟩ := hD3; ⟨o, p4 _ o ho, hr⟩
      refine wpAny_list_append (hsz := by rw [hlen, sizeLine_eq]; omega) hD4 fun h5 hl5 same5 => ?_
      have hk5 : ∀ b o, b ≠ Dd → h4.get? b = some o → h5.get? b = some o := fun b o nb e => (same5.2 b nb).trans e
      have K45 : Kb env x y I Dd h3 h5 := (p4.kb env x y I Dd).trans fun b o _ n2 _ _ _ e => hk5 b o n2 e
      have R5 := ((R3.pur p3).pur p4).changeO oD cD (let ⟨o, ho, _⟩ := hl5; ⟨o, ho⟩) hk5
      have hst5 := hW.frame _ _ _ (hW.frame _ _ _ hst3 fun b _ o e => p4 b o e) fun b hb o e => hk5 b o (fun q => by
        by_cases q' : b = I
        · exact hID (q' ▸ q)
        · exact (hfix b hb q').1 q) e
      refine ⟨_, by omega, .mk (i := i + 1) (done := done ++ [xv]) (rest := rest') hlt hst5 hl5 ?_ e3 ((List.append_assoc ..).trans hout) (R5.less (less_set hσ)) (K4.trans K45)⟩
      rw [Array.toList_push, ← List.append_assoc]
      have k5 : Stp (Mw W O) h4 (Mw W O) h5 := fun b o nb e => ⟨nb, hk5 b o (fun q => nb (.inr (q ▸ oD))) e⟩
      exact ((fD3.pur p4).append (.cons f4 .nil)).stp k5
  · have : i = ds.length := by omega
    subst this
    rw [List.drop_length] at he1
    cases he1
    refine hW.done _ _ _ hst fun h1 tk1 hk1 => ?_
    have hk1' : ∀ b o, b ≠ I → h.get? b = some o → h1.get? b = some o := fun b o nb e => hk1 b o (by simpa using nb) e
    refine hR h1 tk1 it1 (let ⟨o, ho, hr⟩ := hD1; ⟨o, hk1' _ o (Ne.symm hID) ho, hr⟩) ?_ (R1.dropO oI cI hk1') (K1.trans fun b o n1 _ _ _ _ e => hk1' b o n1 e)
    have st : Stp (Mw W O) h (Mw W fun b => O b ∧ b ≠ I) h1 := fun b o nb e => ⟨fun q => nb (q.elim .inl fun q => .inr q.1), hk1' b o (fun q => nb (.inr (q ▸ oI))) e⟩
    have : ds0 ++ done = ds0 ++ out := by rw [← hout]; simp
    rw [← this]
    exact fD1.stp st
end
end Mine
end
section
/-! Comprehensions: the outer of two loops. -/
open PySem PySem.Calls PyProof.Rows PySem.W PySem.Spec
namespace Mine
section
variable {prog : Program} {w : World} {A : Around} {E : Value → Shared → Prop} {R : Result → Shared → Prop} {s : Shared} {P : Pg} {g : Gl} {B : Heap} {L : Lo} {n : Nat}

theorem loop_first (ok : Ok prog w P g B L n) {ns : Names} {env : Env} {W O : Addr → Prop} {σ : Sg} {x x2 : Str} {px px2 : Pos} {t t2 : Nat} {elt i1 i2 : PySem.Expr} {scope : Scope} {pos : Pos} {f1 f2 : List PySem.Expr} {elt' i2' : Ex} {f1' f2' : List Ex}
    (cx : Cx ns env A n) (own : Own env W x) (own2 : Own env W x2) (ix : varIx ns x = some t) (ix2 : varIx ns x2 = some t2) (htt : t ≠ t2) (ce : CX g ns elt elt') (cf1 : CXs g ns f1 f1') (ci2 : CX g ns i2 i2') (cf2 : CXs g ns f2 f2') (hσ : ∀ sl, σ[t]? ≠ some (some sl)) (hσ2 : ∀ sl, σ[t2]? ≠ some (some sl))
    {ds out ds0 : List D} (he : compL1 L elt' t f1' (some (t2, i2', f2')) σ ds = some out) {I Dd : Addr} {fp : List Addr} {Pi : Nat → Value → Prop} {St : Nat → Heap → Prop} (hW : Walks prog w A I fp [I] ds.length Pi St) (st0 : St 0 s.heap) (stl : ∀ i h', St i h' → ∃ o, h'.get? I = some o)
    (items : ∀ i v d, Pi i v → ds[i]? = some d → FV prog w s.heap (Mw W O) v d) (oI : O I) (oD : O Dd) (hID : I ≠ Dd) (cI : ∀ z, env.cells.lookup z ≠ some I) (cD : ∀ z, env.cells.lookup z ≠ some Dd)
    (hfix : ∀ b ∈ fp, b ≠ I → b ≠ Dd ∧ b ≠ env.locals ∧ env.cells.lookup x ≠ some b ∧ env.cells.lookup x2 ≠ some b) (R0 : Rl prog w B ns env W O σ s.heap) {it0 : Array Value} (hD : s.heap.IsList Dd it0) (fD : FVs prog w s.heap (Mw W O) it0.toList ds0) (hsz : ds0.length + out.length ≤ 10000)
    (hR : ∀ h' tk it1, h'.IsList Dd it1 → FVs prog w h' (Mw W fun b => O b ∧ b ≠ I) it1.toList (ds0 ++ out) → Rl prog w B ns env W (fun b => O b ∧ b ≠ I) σ h' → Kb env x x2 I Dd s.heap h' → R (.ok .next) { s with heap := h', toks := tk }) :
    codeAny (model prog w) A (.compLoop (.ListComp elt [⟨.Name x px, i1, f1, 0⟩, ⟨.Name x2 px2, i2, f2, 0⟩] scope pos) 0 (.ref I) (.ref Dd) env) R s := by
  have nIL : I ≠ env.locals := fun q => R0.disj _ R0.loc.1 (q ▸ oI)
  have nDL : Dd ≠ env.locals := fun q => R0.disj _ R0.loc.1 (q ▸ oD)
  refine codeAny_first (LInv prog w B ns env W O σ x x2 I Dd St (compL1 L elt' t f1' (some (t2, i2', f2')) σ) ds ds0 out s) (ci2.noFold env) ?_ (ds.length + 1)
    (.mk (i := 0) (h := s.heap) (tk := s.toks) (it1 := it0) (done := []) (rest := out) (Nat.zero_le _) st0 hD (by rw [List.append_nil]; exact fD) he rfl R0 (Kb.refl _ _ _ _ _ _)) (fun _ => rfl)
  intro k s' hinv
  induction hinv with | @mk i h tk it1 done rest hi hst hD1 fD1 he1 hout R1 K1 =>
  rcases Nat.lt_or_ge i ds.length with hlt | hge
  · refine hW.item i _ _ _ hlt hst fun v h1 tk1 hPv hst1 hk1 => ?_
    have hk1' : ∀ b o, b ≠ I → h.get? b = some o → h1.get? b = some o := fun b o nb e => hk1 b o (by simpa using nb) e
    have R2 := R1.changeO oI cI (stl _ _ hst1) hk1'
    have K2 : Kb env x x2 I Dd s.heap h1 := K1.trans fun b o n1 _ _ _ _ e => hk1' b o n1 e
    have hdi : ds[i]? = some ds[i] := List.getElem?_eq_getElem hlt
    have hdrop : ds.drop i = ds[i] :: ds.drop (i + 1) := List.drop_eq_getElem_cons hlt
    generalize ds[i] = d at hdi hdrop
    rw [hdrop] at he1
    simp only [compL1] at he1
    obtain ⟨q, e5, he1⟩ := bind_some he1
    have fv := (items i v d hPv hdi).stp (K2.stp R1 oI oD)
    refine wpAny_assign_Name (st_at (sl := .val d) (fpn := []) R2 cx.kind cx.wf own (varIx_at ix) (.val fv) (fun a ha => (List.not_mem_nil ha).elim) (fun fp _ j a _ ha => (List.not_mem_nil ha).elim) fun h2 tk2 R3 same stW => ?_)
    have K23 : Kb env x x2 I Dd h1 h2 := fun b o n1 n2 n3 n4 n5 e => by
      rcases same with same | ⟨c, hc, same⟩
      · exact (same.2 b n3).trans e
      · exact (same.2 b (fun q => n4 (q ▸ hc))).trans e
    have fixed : ∀ b ∈ fp, ∀ o, h1.get? b = some o → h2.get? b = some o := fun b hb o e => by
      by_cases q : b = I
      · subst q; exact (stW b o (fun wb => R0.disj _ wb oI) e).2
      · obtain ⟨z1, z2, z3, _⟩ := hfix b hb q
        rcases same with same | ⟨c, hc, same⟩
        · exact (same.2 b z2).trans e
        · exact (same.2 b (fun q => z3 (q ▸ hc))).trans e
    have hst2 := hW.frame _ _ _ hst1 fixed
    have hD2 : h2.IsList Dd it1 := by
      obtain ⟨o, ho, hr⟩ := hD1
      exact ⟨o, (stW Dd o (fun wb => R0.disj _ wb oD) (hk1' _ o (Ne.symm hID) ho)).2, hr⟩
    have K3 := K2.trans K23
    refine tests_ok ok cf1 e5 cx R3 fun h3 tk3 p3 => ?_
    have hst3 := hW.frame _ _ _ hst2 fun b _ o e => p3 b o e
    have hD3 : h3.IsList Dd it1 := let ⟨o, ho, hr⟩ := hD2; ⟨o, p3 _ o ho, hr⟩
    have K4 := K3.trans (p3.kb env x x2 I Dd)
    have K14 : Kb env x x2 I Dd h h3 := ((show Kb env x x2 I Dd h h1 from fun b o n1 _ _ _ _ e => hk1' b o n1 e).trans K23).trans (p3.kb env x x2 I Dd)
    have fD3 := fD1.stp (K14.stp R1 oI oD)
    cases q
    · simp only [Bool.false_eq_true, if_false] at he1 ⊢
      rw [compL1_set] at he1
      exact ⟨_, by omega, .mk (i := i + 1) hlt hst3 hD3 fD3 he1 hout ((R3.pur p3).less (less_set hσ)) K4⟩
    · simp only [if_true] at he1 ⊢
      obtain ⟨src, e6, he1⟩ := bind_some he1
      obtain ⟨here, e7, he1⟩ := bind_some he1
      obtain ⟨rest', e8, he1⟩ := bind_some he1
      have hr' := Option.some.inj he1
      subst hr'
      have R3' := R3.pur p3
      refine ok.it ci2 e6 cx R3' fun I2 h4 tk4 fp2 Pi2 St2 p4 it2 => ?_
      have new2 : ∀ {b o}, h3.get? b = some o → b ≠ I2 := fun {b o} e q => by rw [q, it2.newI] at e; cases e
      have R4 := R3'.moreO p4 it2.newI (it2.liveI _ _ it2.st0)
      have cell4 : ∀ z, env.cells.lookup z ≠ some I2 := fun z q => by
        obtain ⟨_, _, v, o, ho, _⟩ := R3'.cell z I2 q
        exact new2 ho rfl
      have nID2 : I2 ≠ Dd := fun q => by obtain ⟨o, ho, _⟩ := hD3; exact new2 ho q.symm
      have nI2 : I ≠ I2 := fun q => by obtain ⟨o, ho⟩ := stl _ _ hst3; exact new2 ho q
      obtain ⟨W1, w1, w2, w3, w4⟩ := it2.frz
      have fix2 : ∀ b ∈ fp2, b ≠ I2 → b ≠ Dd ∧ b ≠ env.locals ∧ env.cells.lookup x2 ≠ some b := fun b hb nb => by
        have nM := w4 b hb nb
        exact ⟨fun q => nM (.inr (.inl (q ▸ oD))), fun q => nM (.inl (q ▸ w3.loc.1)), fun q => nM (w3.cell _ _ q).2.1⟩
      have go : codeAny (model prog w) A (.compLoop (.ListComp elt [⟨.Name x px, i1, f1, 0⟩, ⟨.Name x2 px2, i2, f2, 0⟩] scope pos) 1 (.ref I2) (.ref Dd) env)
          (fun r s₆ => match r with | .ok _ => ∃ m, m < ds.length + 1 - i ∧ LInv prog w B ns env W O σ x x2 I Dd St (compL1 L elt' t f1' (some (t2, i2', f2')) σ) ds ds0 out s m s₆ | .error e => cameBackBy (model prog w) A env (notedBy (model prog w) A env fun e s' => R (.error e) s') e s₆) { s with heap := h4, toks := tk4 } := by
        have st34 : Stp (Mw W O) h3 (Mw W fun b => O b ∨ b = I2) h4 := fun b o nb e => ⟨fun q => q.elim (fun q => nb (.inl q)) fun q => q.elim (fun q => nb (.inr q)) fun q => new2 e q, p4 b o e⟩
        refine loop_last (O := fun b => O b ∨ b = I2) (y := x) (σ := σ.set t (some (.val d))) ok cx own2 ix2 (lastTurn_two _ _ _ _ _ _ _ _ _) ce cf2 ?_ e7 (it2.walks A cx.handled) it2.st0 it2.liveI it2.items (.inr rfl) (.inl oD) nID2 cell4 cD fix2 R4
          (let ⟨o, ho, hr⟩ := hD3; ⟨o, p4 _ o ho, hr⟩) (fD3.stp st34) ?_ ?_
        · intro sl
          rw [List.getElem?_set_ne htt]
          exact hσ2 sl
        · have := congrArg List.length hout
          simp only [List.length_append] at this ⊢
          omega
        · intro h5 tk5 it5 hD5 fD5 R5 K5
          have hO : ∀ b, ((O b ∨ b = I2) ∧ b ≠ I2) ↔ O b := fun b => ⟨fun q => q.1.elim id fun z => absurd z q.2, fun q => ⟨.inl q, by obtain ⟨o, e⟩ := R3'.live b (.inr q); exact new2 e⟩⟩
          have R6 := R5.sameO hO
          have fD6 : FVs prog w h5 (Mw W O) it5.toList (ds0 ++ done ++ here) := by
            have : (fun b => (O b ∨ b = I2) ∧ b ≠ I2) = O := funext fun b => propext (hO b)
            rw [← this]
            exact fD5
          have K45 : Kb env x x2 I Dd h3 h5 := fun b o n1 n2 n3 n4 n5 e => K5 b o (new2 e) n2 n3 n5 n4 (p4 b o e)
          refine ⟨_, by omega, .mk (i := i + 1) (done := done ++ here) (rest := rest') hlt ?_ hD5 (by rw [← List.append_assoc]; exact fD6) e8 ((List.append_assoc ..).trans hout) (R6.less (less_set hσ)) (K4.trans K45)⟩
          refine hW.frame _ _ _ hst3 fun b hb o e => ?_
          by_cases q : b = I
          · subst q
            exact K5 _ o nI2 hID nIL (cI _) (cI _) (p4 _ _ e)
          · obtain ⟨z1, z2, z3, z4⟩ := hfix b hb q
            exact K5 b o (new2 e) z1 z2 z4 z3 (p4 _ _ e)
      exact codeAny_compStart_at (s := { s with heap := h4, toks := tk4 }) go (fun g hg => by simp at hg; subst hg; rfl) ((it2.walks A cx.handled).self 0 _ _ _ it2.st0 go)
  · have : i = ds.length := by omega
    subst this
    rw [List.drop_length] at he1
    cases he1
    refine hW.done _ _ _ hst fun h1 tk1 hk1 => ?_
    have hk1' : ∀ b o, b ≠ I → h.get? b = some o → h1.get? b = some o := fun b o nb e => hk1 b o (by simpa using nb) e
    refine hR h1 tk1 it1 (let ⟨o, ho, hr⟩ := hD1; ⟨o, hk1' _ o (Ne.symm hID) ho, hr⟩) ?_ (R1.dropO oI cI hk1') (K1.trans fun b o n1 _ _ _ _ e => hk1' b o n1 e)
    have st : Stp (Mw W O) h (Mw W fun b => O b ∧ b ≠ I) h1 := fun b o nb e => ⟨fun q => nb (q.elim .inl fun q => .inr q.1), hk1' b o (fun q => nb (.inr (q ▸ oI))) e⟩
    have : ds0 ++ done = ds0 ++ out := by rw [← hout]; simp
    rw [← this]
    exact fD1.stp st
end
end Mine
end
section
/-! Comprehensions: the block's own frame, and the whole. -/
open PySem PySem.Calls PyProof.Rows PySem.W PySem.Spec
namespace Mine
section
variable {prog : Program} {w : World} {A : Around} {E : Value → Shared → Prop} {s : Shared} {P : Pg} {g : Gl} {B : Heap} {L : Lo} {n : Nat}

noncomputable def closF (cells : List (Str × Addr)) : Names → List (Str × Addr) → List (Str × Addr)
  | [], acc => acc
  | (n, k) :: r, acc => if k == .free then closF cells r ((n, (cells.lookup n).getD 0) :: acc) else closF cells r acc

theorem clos_for {env : Env} (f : Str × NameKind → List (Str × Addr) → Sem (ForInStep (List (Str × Addr)))) (hf : ∀ n k cs, f (n, k) cs = if k == .free then (do let a ← cellOf env n; pure (.yield ((n, a) :: cs))) else pure (.yield cs)) :
    ∀ (names : Names) (acc : List (Str × Addr)), (∀ x, (x, NameKind.free) ∈ names → ∃ c, env.cells.lookup x = some c) → forIn names acc f = pure (closF env.cells names acc)
  | [], acc, _ => by rw [List.forIn_nil]; rfl
  | (n, k) :: r, acc, h => by
    rw [List.forIn_cons, hf]
    unfold closF
    split
    · rename_i hk
      have hk' : k = .free := beq_iff_eq.mp hk
      subst hk'
      obtain ⟨c, hc⟩ := h n (.head _)
      have : cellOf env n = pure c := by unfold cellOf; rw [hc]
      rw [this, hc]
      simp only [pure_bind, Option.getD_some]
      exact clos_for f hf r _ fun x hx => h x (.tail _ hx)
    · simp only [pure_bind]
      exact clos_for f hf r _ fun x hx => h x (.tail _ hx)
theorem closureFor_eq {scope : Scope} {env : Env} (h : ∀ x, (x, NameKind.free) ∈ scope.names → ∃ c, env.cells.lookup x = some c) : closureFor scope env = pure (closF env.cells scope.names []) := by
  simp only [closureFor]
  rw [clos_for (env := env) _ (fun n k cs => by cases hk : k == NameKind.free <;> simp [hk]) scope.names [] h]
  rfl
theorem clos_out {cells : List (Str × Addr)} {y : Str} : ∀ (names : Names) (acc : List (Str × Addr)), (y, NameKind.free) ∉ names → (closF cells names acc).lookup y = acc.lookup y
  | [], acc, _ => rfl
  | (n, k) :: r, acc, h => by
    unfold closF
    have hr : (y, NameKind.free) ∉ r := fun q => h (.tail _ q)
    split
    · rename_i hk
      rw [clos_out r _ hr, List.lookup_cons]
      have : (y == n) = false := by
        simp only [beq_eq_false_iff_ne]
        rintro rfl
        exact h (by rw [beq_iff_eq.mp hk]; exact .head _)
      rw [this]
    · exact clos_out r _ hr
theorem clos_in {cells : List (Str × Addr)} {y : Str} {c : Addr} (hc : cells.lookup y = some c) : ∀ (names : Names) (acc : List (Str × Addr)), ((y, NameKind.free) ∈ names ∨ acc.lookup y = some c) → (closF cells names acc).lookup y = some c
  | [], acc, h => h.elim (fun q => nomatch q) id
  | (n, k) :: r, acc, h => by
    unfold closF
    split
    · rename_i hk
      refine clos_in hc r _ ?_
      by_cases q : y = n
      · subst q
        exact .inr (by rw [List.lookup_cons]; simp [hc])
      · rcases h with h | h
        · rcases List.mem_cons.mp h with e | h
          · cases e; exact absurd rfl q
          · exact .inl h
        · refine .inr ?_
          rw [List.lookup_cons]
          have : (y == n) = false := by simpa using q
          rw [this]; exact h
    · rename_i hk
      refine clos_in hc r _ ?_
      rcases h with h | h
      · rcases List.mem_cons.mp h with e | h
        · cases e; exact absurd rfl hk
        · exact .inl h
      · exact .inr h

theorem cellsFrom_app : ∀ (names : Names) (n : Nat) (acc : List (Str × Addr)), cellsFrom n names acc = cellsFrom n names [] ++ acc
  | [], n, acc => rfl
  | (x, k) :: r, n, acc => by
    unfold cellsFrom
    split
    · rw [cellsFrom_app r (n + 1) ((x, n) :: acc), cellsFrom_app r (n + 1) [(x, n)]]; simp
    · exact cellsFrom_app r n acc
theorem cellsFrom_mem {y : Str} {c : Addr} : ∀ (names : Names) (n : Nat) (acc : List (Str × Addr)), (y, c) ∈ cellsFrom n names acc → (y, NameKind.cell) ∈ names ∨ (y, c) ∈ acc
  | [], n, acc, h => .inr h
  | (x, k) :: r, n, acc, h => by
    unfold cellsFrom at h
    split at h
    · rename_i hk
      rcases cellsFrom_mem r _ _ h with h | h
      · exact .inl (.tail _ h)
      · rcases List.mem_cons.mp h with e | h
        · cases e; exact .inl (by rw [beq_iff_eq.mp hk]; exact .head _)
        · exact .inr h
    · rcases cellsFrom_mem r _ _ h with h | h
      · exact .inl (.tail _ h)
      · exact .inr h

theorem lookup_relabelN {ns : Names} {x : Str} : ∀ (names : Names), (relabelN true ns names).lookup x = (names.lookup x).map fun k => if (k == .free && ns.lookup x == some .cell) = true then .cell else k
  | [] => rfl
  | (n, k) :: r => by
    have ih := lookup_relabelN (ns := ns) (x := x) r
    show List.lookup x ((if (k == .free && true && ns.lookup n == some .cell) = true then (n, .cell) else (n, k)) :: relabelN true ns r) = _
    cases hx : x == n with
    | true =>
      have := beq_iff_eq.mp hx
      subst this
      simp only [List.lookup_cons, hx, Bool.and_true, Option.map_some]
      split <;> simp [List.lookup_cons]
    | false =>
      simp only [List.lookup_cons, hx]
      rw [← ih]
      split <;> simp [List.lookup_cons, hx]
theorem relabelN_keys {ns : Names} : ∀ (names : Names), (relabelN true ns names).map (·.1) = names.map (·.1)
  | [] => rfl
  | (n, k) :: r => by
    show List.map _ ((if (k == .free && true && ns.lookup n == some .cell) = true then (n, .cell) else (n, k)) :: relabelN true ns r) = _
    rw [List.map_cons, relabelN_keys r]
    split <;> rfl
theorem relabel_names {ns : Names} {env : Env} (cx : Cx ns env A n) (sc : Scope) : (relabel sc env).names = relabelN true ns sc.names := by
  have : ∀ x, env.kindOf x = ns.lookup x := fun x => by unfold Env.kindOf; rw [cx.names]
  simp [relabel, relabelN, this, cx.kind]

theorem okSc_wf {ns : Names} {sc : Scope} (h : okSc ns sc = true) : wfN sc.names = true ∧ sc.kind = .function ∧ ∀ x, (x, NameKind.free) ∈ sc.names → ns.lookup x = some .cell ∨ ns.lookup x = some .free := by
  unfold okSc at h
  simp only [Bool.and_eq_true] at h
  refine ⟨h.1.1, ?_, fun x hx => ?_⟩
  · cases hk : sc.kind <;> simp [hk] at h ⊢
  · have := List.all_eq_true.mp h.2 _ hx
    dsimp only at this
    split at this <;> first | (exact .inl ‹_›) | (exact .inr ‹_›) | cases this

/-- the names that the block has from outside -/
noncomputable def capsOf (ns : Names) (sc : Scope) : List (Option Nat) := (nmOf (relabelN true ns sc.names)).map fun y => if sc.names.lookup y == some .free then varIx ns y else .none
noncomputable def capSg (σ : Sg) (caps : List (Option Nat)) : Sg := caps.map fun c => match c with | some i => (σ[i]?).join | none => none

theorem capSg_get {ns : Names} {sc : Scope} {σ : Sg} {i : Nat} {sl : Slot} (h : (capSg σ (capsOf ns sc))[i]? = some (some sl)) : ∃ y j, (nmOf (relabelN true ns sc.names))[i]? = some y ∧ sc.names.lookup y = some .free ∧ varIx ns y = some j ∧ σ[j]? = some (some sl) := by
  unfold capSg capsOf at h
  rw [List.getElem?_map, List.getElem?_map] at h
  cases hy : (nmOf (relabelN true ns sc.names))[i]? with
  | none => rw [hy] at h; cases h
  | some y =>
    rw [hy] at h
    simp only [Option.map_some, Option.some.injEq] at h
    cases hk : sc.names.lookup y == some .free with
    | false => rw [hk] at h; simp at h
    | true =>
      rw [hk] at h
      simp only [if_true] at h
      cases hj : varIx ns y with
      | none => rw [hj] at h; simp at h
      | some j =>
        rw [hj] at h
        simp only at h
        refine ⟨y, j, rfl, beq_iff_eq.mp hk, hj, ?_⟩
        cases hs : σ[j]? with
        | none => rw [hs] at h; cases h
        | some z => rw [hs] at h; exact congrArg some h

theorem comp_enter {e : PySem.Expr} {it : Value} {sc : Scope} {env : Env} {ns : Names} {σ : Sg} {W O : Addr → Prop} {RR : Value → Addr → Result → Shared → Prop} (hok : okSc ns sc = true) (cx : Cx ns env A n) (R : Rl prog w B ns env W O σ s.heap)
    (hcb : ∀ (C Dd : Addr) (cl : List (Str × Addr)) (h : Heap) (tk : Nat) (Wi : Addr → Prop), s.heap.get? C = none → s.heap.get? Dd = none → Dd ≠ C → Pur s.heap h → Cx (relabelN true ns sc.names) (compEnvC sc cl C env) A n →
      (∀ x, ownIn sc x = true → Own (compEnvC sc cl C env) Wi x ∧ ∀ c, cl.lookup x = some c → s.heap.get? c = none) → Rl prog w B (relabelN true ns sc.names) (compEnvC sc cl C env) Wi (fun b => O b ∨ b = Dd) (capSg σ (capsOf ns sc)) h → h.IsList Dd #[] →
      (∀ b, W b → Wi b) → Wi C → (∀ b, Wi b → W b ∨ s.heap.get? b = none) → (∀ z c, cl.lookup z = some c → c ≠ Dd ∧ (s.heap.get? c = none ∨ ∃ y, env.cells.lookup y = some c)) →
      codeAny (model prog w) A (.compStart e 0 it (.ref Dd) (compEnvC sc cl C env)) (RR (.ref Dd) C) { s with heap := h, toks := tk }) :
    wpAny (model prog w) A (newList []) (fun acc s₃ => wpAny (model prog w) A (newFunctionEnv sc env.globals (closF env.cells sc.names []) [] env.qual none .none (some env)) (fun cenv s₄ =>
      codeAny (model prog w) A (.compStart e 0 it acc { cenv with scope := relabel sc env }) (RR acc cenv.locals) s₄) E s₃) E s := by
  obtain ⟨wf, hk, hfree⟩ := okSc_wf hok
  refine wpAny_newObj_type ?_
  have ekind : ∀ x, env.kindOf x = ns.lookup x := fun x => by unfold Env.kindOf; rw [cx.names]
  generalize hH1 : s.heap.push { cls := .type "list", dict := none, data := .seq ([] : List Value).toArray } = H1
  have hD0 : H1.IsList s.heap.objs.size #[] := ⟨_, hH1 ▸ Heap.get?_push_size _ rfl, rfl, _, rfl⟩
  have sz1 : H1.objs.size = s.heap.objs.size + 1 := by rw [← hH1, Heap.size_push]
  have p1 : Pur s.heap H1 := hH1 ▸ Pur.push _ _
  simp only [newFunctionEnv, Option.isSome_some, if_true]
  refine wpAny_bind (wpAny_alloc ?_)
  refine wpAny_bind (wpAny_layCells _ (fun name kind cells => by cases hkc : kind == NameKind.cell <;> simp [hkc]) _ _ _ _ ?_)
  refine wpAny_bind ?_
  rw [List.forIn_nil]
  refine wpAny_pure (wpAny_pure ?_)
  dsimp only
  generalize hH2 : H1.push { cls := .type "dict", data := .dict #[] } = H2
  have sz2 : H2.objs.size = s.heap.objs.size + 2 := by rw [← hH2, Heap.size_push, sz1]
  have p2 : Pur H1 H2 := hH2 ▸ Pur.push _ _
  have hC0 : H2.Ns H1.objs.size fun _ => none := hH2 ▸ Heap.Ns.new H1 (.type "dict")
  have ok2 := cellsFrom_ok sc.names H2 (s.heap.objs.size + 2) [] ⟨fun _ _ hm => (nomatch hm), List.Pairwise.nil⟩ (by omega)
  have p3 : Pur H2 (pushCells H2 sc.names) := fun b o e => pushCells_keeps _ _ b o e
  generalize hH3 : pushCells H2 sc.names = H3 at *
  have pall : Pur s.heap H3 := p1.trans (p2.trans p3)
  have gone : ∀ {a : Addr}, s.heap.objs.size ≤ a → s.heap.get? a = none := fun {a} ha => by
    cases q : s.heap.get? a with
    | none => rfl
    | some o => exact absurd (Heap.lt_size q) (Nat.not_lt.mpr ha)
  rw [cellsFrom_app]
  generalize hnew : cellsFrom H2.objs.size sc.names [] = new at *
  generalize hcl : new ++ closF env.cells sc.names [] = cl
  have lk : ∀ {y c}, cl.lookup y = some c → new.lookup y = some c ∨ (new.lookup y = none ∧ env.cells.lookup y = some c ∧ (y, NameKind.free) ∈ sc.names) := fun {y c} h => by
    rw [← hcl, List.lookup_append] at h
    cases hn : new.lookup y with
    | some c' => rw [hn] at h; exact .inl h
    | none =>
      rw [hn] at h
      refine .inr ⟨rfl, ?_⟩
      have h' : (closF env.cells sc.names []).lookup y = some c := h
      by_cases hf : (y, NameKind.free) ∈ sc.names
      · obtain ⟨c', hc'⟩ := cx.cells y (hfree y hf)
        have := clos_in hc' sc.names [] (.inl hf)
        rw [this] at h'
        exact ⟨by rw [hc', ← h'], hf⟩
      · rw [clos_out _ _ hf] at h'; cases h'
  have newOk : ∀ {y c}, new.lookup y = some c → H3.IsCell c none ∧ s.heap.objs.size + 2 ≤ c := fun {y c} h => ok2.empty y c (mem_of_lookup h)
  have newCell : ∀ {y c}, new.lookup y = some c → (y, NameKind.cell) ∈ sc.names := fun {y c} h => by
    have := mem_of_lookup h
    rw [← hnew] at this
    rcases cellsFrom_mem _ _ _ this with h | h
    · exact h
    · cases h
  have hasCell : ∀ {y}, (y, NameKind.cell) ∈ sc.names → ∃ c, cl.lookup y = some c ∧ new.lookup y = some c := fun {y} h => by
    have h1 : (new.lookup y).isSome = true := by rw [← hnew]; exact cellsFrom_some _ _ _ (.inl (lookup_wf wf h))
    obtain ⟨c, hc⟩ := Option.isSome_iff_exists.mp h1
    exact ⟨c, by rw [← hcl, List.lookup_append, hc]; rfl, hc⟩
  have hasFree : ∀ {y}, (y, NameKind.free) ∈ sc.names → ∃ c, cl.lookup y = some c ∧ env.cells.lookup y = some c := fun {y} h => by
    obtain ⟨c, hc⟩ := cx.cells y (hfree y h)
    have hn : new.lookup y = none := by
      cases q : new.lookup y with
      | none => rfl
      | some c' =>
        have h1 := lookup_wf wf h
        rw [lookup_wf wf (newCell q)] at h1
        cases h1
    exact ⟨c, by rw [← hcl, List.lookup_append, hn]; exact clos_in hc sc.names [] (.inl h), hc⟩
  have ckind : ∀ x, (compEnvC sc cl H1.objs.size env).kindOf x = (relabelN true ns sc.names).lookup x := fun x => by
    show (relabel sc env).names.lookup x = _
    rw [relabel_names cx]
  have iwf : wfN (relabelN true ns sc.names) = true := by
    unfold wfN
    rw [show List.map (fun p : Str × NameKind => p.1) (relabelN true ns sc.names) = sc.names.map (·.1) from relabelN_keys _]
    exact wf
  refine hcb H1.objs.size s.heap.objs.size cl H3 _ (fun b => W b ∨ b = H1.objs.size ∨ ∃ y, new.lookup y = some b) (gone (by omega)) (gone (Nat.le_refl _)) (Nat.ne_of_lt (by omega)) pall ?_ ?_ ?_ ?_ (fun b h => .inl h) (.inr (.inl rfl)) ?_ ?_
  · refine ⟨relabel_names cx sc, iwf, fun x hx => ?_, hk, cx.globals, cx.builtins, cx.handled, cx.depth, cx.units⟩
    rw [lookup_relabelN] at hx
    cases hl : sc.names.lookup x with
    | none => rw [hl] at hx; simp at hx
    | some k =>
      have hm := mem_of_lookup hl
      rw [hl] at hx
      cases k with
      | cell => obtain ⟨c, h1, _⟩ := hasCell hm; exact ⟨c, h1⟩
      | free => obtain ⟨c, h1, _⟩ := hasFree hm; exact ⟨c, h1⟩
      | _ => simp at hx
  · intro x hx
    unfold ownIn at hx
    split at hx
    · rename_i hl
      refine ⟨.inl (by rw [ckind, lookup_relabelN, hl]; rfl), fun c hc => ?_⟩
      rcases lk hc with h | ⟨_, _, h⟩
      · exact gone (by have := (newOk h).2; omega)
      · rw [lookup_wf wf h] at hl; cases hl
    · rename_i hl
      obtain ⟨c, h1, h2⟩ := hasCell (mem_of_lookup hl)
      refine ⟨.inr ⟨by rw [ckind, lookup_relabelN, hl]; rfl, c, h1, .inr (.inr ⟨x, h2⟩)⟩, fun c' hc' => ?_⟩
      have hc' : cl.lookup x = some c' := hc'
      rw [h1] at hc'
      cases hc'
      exact gone (by have := (newOk h2).2; omega)
    · cases hx
  · have freshW : ∀ a, (a = H1.objs.size ∨ ∃ y, new.lookup y = some a) → s.heap.get? a = none ∧ a ≠ s.heap.objs.size := fun a ha => by
      rcases ha with rfl | ⟨y, hy⟩
      · exact ⟨gone (by omega), Nat.ne_of_gt (by omega)⟩
      · have := (newOk hy).2
        exact ⟨gone (by omega), Nat.ne_of_gt (by omega)⟩
    refine ⟨fun b o e => ⟨fun q => ?_, pall b o (R.base b o e).2⟩, ⟨.inr (.inl rfl), _, (hC0.keeps p3)⟩, fun a ha => ?_, fun a wa oa => ?_, fun x c hx => ?_, fun x y c hx hy => ?_, ?_⟩
    · have hb := R.base b o e
      rcases q with (q | q) | q | q
      · exact hb.1 (.inl q)
      · rw [(freshW b q).1] at hb; cases hb.2
      · exact hb.1 (.inr q)
      · rw [q, gone (Nat.le_refl _)] at hb; cases hb.2
    · rcases ha with (ha | rfl | ⟨y, hy⟩) | ha | rfl
      · obtain ⟨o, e⟩ := R.live a (.inl ha); exact ⟨o, pall _ _ e⟩
      · obtain ⟨o, _, _, ho, _⟩ := hC0; exact ⟨o, p3 _ _ ho⟩
      · obtain ⟨o, ho, _⟩ := (newOk hy).1; exact ⟨o, ho⟩
      · obtain ⟨o, e⟩ := R.live a (.inr ha); exact ⟨o, pall _ _ e⟩
      · obtain ⟨o, ho, _⟩ := hD0; exact ⟨o, p3 _ _ (p2 _ _ ho)⟩
    · rcases wa with wa | wa
      · rcases oa with oa | oa
        · exact R.disj a wa oa
        · obtain ⟨o, e⟩ := R.live a (.inl wa)
          rw [oa, gone (Nat.le_refl _)] at e; cases e
      · rcases oa with oa | oa
        · obtain ⟨o, e⟩ := R.live a (.inr oa)
          rw [(freshW a wa).1] at e; cases e
        · exact (freshW a wa).2 oa
    · rcases lk hx with h | ⟨_, h, _⟩
      · have := newOk h
        exact ⟨Nat.ne_of_gt (by show H1.objs.size < c; omega), .inl (.inr (.inr ⟨x, h⟩)), _, this.1⟩
      · obtain ⟨_, z2, v, hv⟩ := R.cell x c h
        refine ⟨?_, z2.elim (fun q => .inl (.inl q)) fun q => .inr (.inl q), v, hv.keeps pall⟩
        obtain ⟨o, ho, _⟩ := hv
        have := Heap.lt_size ho
        exact Nat.ne_of_lt (show c < H1.objs.size from Nat.lt_of_lt_of_le this (by rw [sz1]; exact Nat.le_succ _))
    · have hlt : ∀ {y}, env.cells.lookup y = some c → c < s.heap.objs.size := fun {y} h => by
        obtain ⟨_, _, v, o, ho, _⟩ := R.cell y c h
        exact Heap.lt_size ho
      rcases lk hx with h1 | ⟨_, h1, _⟩ <;> rcases lk hy with h2 | ⟨_, h2, _⟩
      · exact name_of_addr ok2.apart (mem_of_lookup h1) (mem_of_lookup h2)
      · exact absurd (Nat.lt_of_lt_of_le (hlt h2) (Nat.le_of_add_right_le (newOk h1).2)) (Nat.lt_irrefl _)
      · exact absurd (Nat.lt_of_lt_of_le (hlt h1) (Nat.le_of_add_right_le (newOk h2).2)) (Nat.lt_irrefl _)
      · exact R.apart x y c h1 h2
    · obtain ⟨fp, f1, f2, f3⟩ := R.vars
      have st : Stp (Mw W O) s.heap (Mw (fun b => W b ∨ b = H1.objs.size ∨ ∃ y, new.lookup y = some b) fun b => O b ∨ b = s.heap.objs.size) H3 := fun b o nb e => by
        refine ⟨fun q => ?_, pall b o e⟩
        rcases q with (q | q) | q | q
        · exact nb (.inl q)
        · rw [(freshW b q).1] at e; cases e
        · exact nb (.inr q)
        · rw [q, gone (Nat.le_refl _)] at e; cases e
      refine ⟨fun i => match (capsOf ns sc)[i]? with | some (some j) => fp j | _ => [], fun i sl hi => ?_, fun i a ha => ?_, fun i k a hi hk' => ?_⟩
      · obtain ⟨y, j, hy, hl, hj, hs⟩ := capSg_get hi
        obtain ⟨y', v, hy', at', sv⟩ := f1 j sl hs
        have := varIx_at hj
        rw [hy'] at this
        cases this
        have hcap : (capsOf ns sc)[i]? = some (some j) := by
          unfold capsOf
          rw [List.getElem?_map, hy]
          simp [hl, hj]
        have hmf := mem_of_lookup hl
        obtain ⟨c, h1, h2⟩ := hasFree hmf
        refine ⟨y, v, hy, ?_, ?_⟩
        · rcases at' with ⟨k, _⟩ | ⟨_, c', hc', hv⟩
          · rw [ekind] at k
            rcases hfree y hmf with q | q <;> rw [q] at k <;> cases k
          · rw [h2] at hc'
            cases hc'
            refine .inr ⟨?_, c, h1, hv.keeps pall⟩
            rw [ckind, lookup_relabelN, hl]
            simp only [Option.map_some]
            split
            · exact .inl rfl
            · exact .inr rfl
        · simp only [hcap]
          refine sv.stp st (fun a _ o e => pall a o e) fun a ha => .inl (.inl (f2 j a ha).1)
      · dsimp only at ha
        split at ha
        · rename_i j hj
          obtain ⟨z1, z2, z3⟩ := f2 j a ha
          obtain ⟨o, e⟩ := R.live a (.inl z1)
          have hlt := Heap.lt_size e
          refine ⟨.inl z1, Nat.ne_of_lt (show a < H1.objs.size from Nat.lt_of_lt_of_le hlt (by rw [sz1]; exact Nat.le_succ _)), fun x q => ?_⟩
          rcases lk q with h | ⟨_, h, _⟩
          · exact absurd (Nat.lt_of_lt_of_le hlt (Nat.le_of_add_right_le (newOk h).2)) (Nat.lt_irrefl _)
          · exact z3 x h
        · cases ha
      · dsimp only at hi hk'
        split at hi
        · rename_i j hj
          split at hk'
          · rename_i j' hj'
            have := f3 j j' a hi hk'
            subst this
            unfold capsOf at hj hj'
            rw [List.getElem?_map] at hj hj'
            obtain ⟨y, hy, e1⟩ := Option.map_eq_some_iff.mp hj
            obtain ⟨y', hy', e2⟩ := Option.map_eq_some_iff.mp hj'
            split at e1
            · split at e2
              · have h1 := varIx_at e1
                have h2 := varIx_at e2
                rw [h1] at h2
                cases h2
                exact nm_inj iwf hy hy'
              · cases e2
            · cases e1
          · cases hk'
        · cases hi
  · obtain ⟨o, ho, hr⟩ := hD0
    exact ⟨o, p3 _ _ (p2 _ _ ho), hr⟩
  · intro b hb
    rcases hb with hb | rfl | ⟨y, hy⟩
    · exact .inl hb
    · exact .inr (gone (by omega))
    · exact .inr (gone (by have := (newOk hy).2; omega))
  · intro z c hz
    rcases lk hz with h | ⟨_, h, _⟩
    · have := (newOk h).2
      exact ⟨Nat.ne_of_gt (by omega), .inl (gone (by omega))⟩
    · obtain ⟨_, _, v, o, ho, _⟩ := R.cell z c h
      have := Heap.lt_size ho
      exact ⟨Nat.ne_of_lt (by omega), .inr ⟨z, h⟩⟩
end
end Mine
end
section
/-! Comprehensions: the whole expression. -/
open PySem PySem.Calls PyProof.Rows PySem.W PySem.Spec
namespace Mine
section
variable {prog : Program} {w : World} {A : Around} {E : Value → Shared → Prop} {s : Shared} {P : Pg} {g : Gl} {B : Heap} {L : Lo} {n : Nat}

theorem none_t {ns : Names} {sc : Scope} {σ : Sg} {x : Str} {t : Nat} (hx : ownIn sc x = true) (ix : varIx (relabelN true ns sc.names) x = some t) (sl : Slot) : (capSg σ (capsOf ns sc))[t]? ≠ some (some sl) := fun h => by
  obtain ⟨y, j, hy, hl, _⟩ := capSg_get h
  have := varIx_at ix
  rw [hy] at this
  cases this
  unfold ownIn at hx
  rw [hl] at hx
  cases hx
theorem CX.compInv {ns : Names} {pe : PySem.Expr} {caps : List (Option Nat)} {elt' : Ex} {t : Nat} {it' : Ex} {ifs' : List Ex} {more : Option (Nat × Ex × List Ex)} {C : PySem.Expr → Option (Nat × Ex × List Ex) → Prop} (c : CX g ns pe (.comp caps elt' t it' ifs' more))
    (h1 : ∀ elt x q it ifs sc p, okSc ns sc = true → ownIn sc x = true → caps = capsOf ns sc → CX g (relabelN true ns sc.names) elt elt' → varIx (relabelN true ns sc.names) x = some t → CX g ns it it' → CXs g (relabelN true ns sc.names) ifs ifs' → C (.ListComp elt [⟨.Name x q, it, ifs, 0⟩] sc p) none)
    (h2 : ∀ elt x q it ifs x2 q2 it2 ifs2 sc p t2 it2' ifs2', okSc ns sc = true → ownIn sc x = true → caps = capsOf ns sc → CX g (relabelN true ns sc.names) elt elt' → varIx (relabelN true ns sc.names) x = some t → CX g ns it it' → CXs g (relabelN true ns sc.names) ifs ifs' →
      ownIn sc x2 = true → x ≠ x2 → varIx (relabelN true ns sc.names) x2 = some t2 → CX g (relabelN true ns sc.names) it2 it2' → CXs g (relabelN true ns sc.names) ifs2 ifs2' → C (.ListComp elt [⟨.Name x q, it, ifs, 0⟩, ⟨.Name x2 q2, it2, ifs2, 0⟩] sc p) (some (t2, it2', ifs2'))) : C pe more := by
  obtain ⟨k, h⟩ := c
  cases k with
  | zero => exact absurd h Bool.false_ne_true
  | succ k =>
    have h : chkE g (chk g k) ns pe (.comp caps elt' t it' ifs' more) = true := h
    refine onComp_inv (C := fun pe => C pe more) h fun elt gs sc p h => onC_inv (C := fun gs => C (.ListComp elt gs sc p) more) (a2 (a2 (a2 h))) fun c l h' => chkGen_inv (C := fun c => C (.ListComp elt (c :: l) sc p) more) h' fun x q it ifs h4 h5 h6 h7 h8 => ?_
    have hc : caps = capsOf ns sc := decT (a1 (a2 h))
    cases more with
    | none => exact on0_inv (C := fun l => C (.ListComp elt (_ :: l) sc p) none) h8 (h1 _ _ _ _ _ _ _ (a1 h) h4 hc ⟨k, a1 (a2 (a2 h))⟩ h5 ⟨k, h6⟩ ⟨k, h7⟩)
    | some m => exact on1_inv (C := fun l => C (.ListComp elt (_ :: l) sc p) _) h8 fun c h' => chkGen_inv (C := fun c => C (.ListComp elt [_, c] sc p) _) h' fun x2 q2 it2 ifs2 h9 h10 h11 h12 h13 => h2 _ _ _ _ _ _ _ _ _ _ _ _ _ _ (a1 h) h4 hc ⟨k, a1 (a2 (a2 h))⟩ h5 ⟨k, h6⟩ ⟨k, h7⟩ h9 (decT h13) h10 ⟨k, h11⟩ ⟨k, h12⟩
/-- what both kinds share -/
theorem comp_core (ok : Ok prog w P g B L n) {ns : Names} {caps : List (Option Nat)} {it' : Ex} {σ : Sg} {env : Env} {W O : Addr → Prop} {src r : List D} (e1 : L.it σ it' = some src) (cx : Cx ns env A n) (R : Rl prog w B ns env W O σ s.heap) {RR : Value → Addr → Result → Shared → Prop}
    (hRR : ∀ Dd C h' tk, s.heap.get? C = none → s.heap.get? Dd = none → (∃ m, h'.Ns C m) → Pur s.heap h' → FV prog w h' (fun b => Mw W O b ∨ b = C) (.ref Dd) (.list r) → RR (.ref Dd) C (.ok .next) { s with heap := h', toks := tk }) :
    ∀ {elt it : PySem.Expr} {gens gs : List Comprehension} {sc : Scope} {p q : Pos} {x x2 : Str} {ifs : List PySem.Expr}, gens = ⟨.Name x q, it, ifs, 0⟩ :: gs → okSc ns sc = true → ownIn sc x = true → ownIn sc x2 = true → caps = capsOf ns sc → CX g ns it it' →
      (∀ (I C Dd : Addr) (cl : List (Str × Addr)) (h : Heap) (tk : Nat) (fp : List Addr) (Pi : Nat → Value → Prop) (St : Nat → Heap → Prop) (Wi Oi : Addr → Prop), Cx (relabelN true ns sc.names) (compEnvC sc cl C env) A n → Own (compEnvC sc cl C env) Wi x → Own (compEnvC sc cl C env) Wi x2 →
        Walks prog w A I fp [I] src.length Pi St → St 0 h → (∀ i h', St i h' → ∃ o, h'.get? I = some o) → (∀ i v d, Pi i v → src[i]? = some d → FV prog w h (Mw Wi Oi) v d) → Oi I → Oi Dd → I ≠ Dd → (∀ z, cl.lookup z ≠ some I) → (∀ z, cl.lookup z ≠ some Dd) →
        (∀ b ∈ fp, b ≠ I → b ≠ Dd ∧ b ≠ C ∧ cl.lookup x ≠ some b ∧ cl.lookup x2 ≠ some b) → Rl prog w B (relabelN true ns sc.names) (compEnvC sc cl C env) Wi Oi (capSg σ caps) h → h.IsList Dd #[] → ∀ {R : Result → Shared → Prop},
        (∀ h' tk' it1, h'.IsList Dd it1 → FVs prog w h' (Mw Wi fun b => Oi b ∧ b ≠ I) it1.toList r → Rl prog w B (relabelN true ns sc.names) (compEnvC sc cl C env) Wi (fun b => Oi b ∧ b ≠ I) (capSg σ caps) h' → Kb (compEnvC sc cl C env) x x2 I Dd h h' → R (.ok .next) { s with heap := h', toks := tk' }) →
        codeAny (model prog w) A (.compLoop (.ListComp elt gens sc p) 0 (.ref I) (.ref Dd) (compEnvC sc cl C env)) R { s with heap := h, toks := tk }) →
      wpAny (model prog w) A (eval it env) (fun x s₁ => wpAny (model prog w) A (pyIter x) (fun it s₂ => wpAny (model prog w) A (newList []) (fun acc s₃ => wpAny (model prog w) A (newFunctionEnv sc env.globals (closF env.cells sc.names []) [] env.qual none .none (some env)) (fun cenv s₄ =>
        codeAny (model prog w) A (.compStart (.ListComp elt gens sc p) 0 it acc { cenv with scope := relabel sc env }) (RR acc cenv.locals) s₄) E s₃) E s₂) E s₁) E s := by
  intro elt it gens gs sc p q x x2 ifs hg hok hx hx2 hcaps ci hloop
  refine ok.it ci e1 cx R fun I h1 tk1 fp Pi St p1 itok => ?_
  have lI := itok.liveI _ _ itok.st0
  have newI : ∀ {b o}, s.heap.get? b = some o → b ≠ I := fun {b o} e q => by rw [q, itok.newI] at e; cases e
  have R1 := R.moreO p1 itok.newI lI
  refine comp_enter (s := { s with heap := h1, toks := tk1 }) hok cx R1 fun C Dd cl h tk Wi newC newD neDC p2 cxi owni Ri lD wW wC wNew clOk => ?_
  have old : ∀ {b o}, h1.get? b = some o → b ≠ C ∧ b ≠ Dd := fun {b o} e => ⟨fun q => (by subst q; rw [newC] at e; cases e), fun q => (by subst q; rw [newD] at e; cases e)⟩
  have st1 : Stp (Mw W fun b => O b ∨ b = I) h1 (Mw Wi fun b => (O b ∨ b = I) ∨ b = Dd) h := fun b o nb e => ⟨fun q => by
    rcases q with q | q | q
    · rcases wNew b q with q | q
      · exact nb (.inl q)
      · rw [q] at e; cases e
    · exact nb (.inr q)
    · exact (old e).2 q, p2 b o e⟩
  have W1 := itok.walks A cx.handled
  have st0 : St 0 h := W1.frame _ _ _ itok.st0 fun b hb o e => p2 b o e
  have cI : ∀ z, cl.lookup z ≠ some I := fun z hz => by
    rcases (clOk z I hz).2 with q | ⟨y, q⟩
    · obtain ⟨o, e⟩ := lI; rw [q] at e; cases e
    · obtain ⟨_, _, v, o, e, _⟩ := R.cell y I q; exact newI e rfl
  have go := hloop I C Dd cl h tk fp Pi St Wi (fun b => (O b ∨ b = I) ∨ b = Dd) cxi (owni x hx).1 (owni x2 hx2).1 W1 st0 itok.liveI (fun i v d a b => (itok.items i v d a b).stp st1) (.inl (.inr rfl)) (.inr rfl) (by obtain ⟨o, e⟩ := lI; exact (old e).2)
    cI (fun z hz => (clOk z Dd hz).1 rfl) (fun b hb nb => ?_) (hcaps ▸ Ri) lD (R := RR (.ref Dd) C) ?_
  · refine codeAny_compStart_at (s := { s with heap := h, toks := tk }) go (fun g0 hg0 => by rw [hg] at hg0; cases hg0; rfl) (W1.self 0 _ _ _ st0 go)
  · obtain ⟨o, e⟩ := itok.fpl b hb
    refine ⟨(old e).2, (old e).1, fun q => ?_, fun q => ?_⟩
    · rw [(owni x hx).2 b q] at e; cases e
    · rw [(owni x2 hx2).2 b q] at e; cases e
  · intro h' tk' it1 hD' fD' R' K'
    have liveD : ∀ {b o}, s.heap.get? b = some o → b ≠ I ∧ b ≠ Dd ∧ b ≠ C ∧ h1.get? b = some o := fun {b o} e => ⟨newI e, (old (p1 b o e)).2, (old (p1 b o e)).1, p1 b o e⟩
    have none0 : ∀ {b}, h1.get? b = none → s.heap.get? b = none := fun {b} e => by
      cases q : s.heap.get? b with
      | none => rfl
      | some o => rw [p1 b o q] at e; cases e
    have pur : Pur s.heap h' := fun b o e => by
      obtain ⟨z1, z2, z3, z4⟩ := liveD e
      refine K' b o z1 z2 z3 (fun q => ?_) (fun q => ?_) (p2 b o z4)
      · have := (owni x hx).2 b q; rw [z4] at this; cases this
      · have := (owni x2 hx2).2 b q; rw [z4] at this; cases this
    refine hRR Dd C h' tk' (none0 newC) (none0 newD) (let ⟨m, hm⟩ := R'.loc.2; ⟨m, hm⟩) pur (.list (fun q => ?_) hD' (fD'.stp fun b o nb e => ⟨fun q => ?_, e⟩))
    · rcases q with (q | q) | q
      · obtain ⟨o, e⟩ := R.live _ (.inl q); exact (liveD e).2.1 rfl
      · obtain ⟨o, e⟩ := R.live _ (.inr q); exact (liveD e).2.1 rfl
      · exact neDC q
    · rcases q with (q | q) | q
      · exact nb (.inl (wW b q))
      · obtain ⟨o, e⟩ := R.live _ (.inr q)
        exact nb (.inr ⟨.inl (.inl q), (liveD e).1⟩)
      · exact nb (.inl (q ▸ wC))

/-- what is behind the display's first iterable -/
theorem comp_run (ok : Ok prog w P g B L n) {ns : Names} {pe : PySem.Expr} {caps : List (Option Nat)} {elt' : Ex} {t : Nat} {it' : Ex} {ifs' : List Ex} {more : Option (Nat × Ex × List Ex)} {σ : Sg} {d : D} {env : Env} {W O : Addr → Prop}
    (c : CX g ns pe (.comp caps elt' t it' ifs' more)) (he : evF P L σ (.comp caps elt' t it' ifs' more) = some d) (cx : Cx ns env A n) (R : Rl prog w B ns env W O σ s.heap) {RR : Value → Addr → Result → Shared → Prop}
    (hRR : ∀ Dd C h' tk, s.heap.get? C = none → s.heap.get? Dd = none → (∃ m, h'.Ns C m) → Pur s.heap h' → FV prog w h' (fun b => Mw W O b ∨ b = C) (.ref Dd) d → RR (.ref Dd) C (.ok .next) { s with heap := h', toks := tk }) {G : PySem.Expr → Prop}
    (HG : ∀ elt it sc p x q ifs gs, okSc ns sc = true → (∀ x, foldedSetIterable it env x = pure x) →
      wpAny (model prog w) A (eval it env) (fun v s₁ => wpAny (model prog w) A (pyIter v) (fun iv s₂ => wpAny (model prog w) A (newList []) (fun acc s₃ => wpAny (model prog w) A (newFunctionEnv sc env.globals (closF env.cells sc.names []) [] env.qual none .none (some env)) (fun cenv s₄ =>
        codeAny (model prog w) A (.compStart (.ListComp elt (⟨.Name x q, it, ifs, 0⟩ :: gs) sc p) 0 iv acc { cenv with scope := relabel sc env }) (RR acc cenv.locals) s₄) E s₃) E s₂) E s₁) E s → G (.ListComp elt (⟨.Name x q, it, ifs, 0⟩ :: gs) sc p)) : G pe := by
  refine bnd he fun src e1 he => bnd (show (compL1 L elt' t ifs' more (capSg σ caps) src).bind (fun r => if r.length ≤ 10000 then some (PyData.list r) else none) = some d from he) fun r e2 he => iteG he fun hsz he => ?_
  cases he
  refine c.compInv (C := fun pe more => compL1 L elt' t ifs' more (capSg σ caps) src = some r → G pe) (fun elt x q it ifs sc p hok hx hcaps ce ix ci cf e2 => ?_) (fun elt x q it ifs x2 q2 it2 ifs2 sc p t2 it2' ifs2' hok hx hcaps ce ix ci cf hx2 hne ix2 ci2 cf2 e2 => ?_) e2
  · refine HG _ _ _ _ _ _ _ _ hok (ci.noFold env) (comp_core ok e1 cx R hRR (x2 := x) rfl hok hx hx hcaps ci fun I C Dd cl h tk fp Pi St Wi Oi cxi own own2 hW st0 stl items oI oD hID cI cD hfix Ri lD {R} hR => ?_)
    rw [compL1_none] at e2
    exact loop_last (s := { s with heap := h, toks := tk }) (ds0 := []) ok cxi own ix (lastTurn_one _ _ _ _ _ _) ce cf (hcaps ▸ none_t hx ix) e2 hW st0 stl items oI oD hID cI cD (fun b hb nb => let ⟨z1, z2, z3, _⟩ := hfix b hb nb; ⟨z1, z2, z3⟩) Ri lD .nil (by simpa using hsz) fun h' tk' it1 a b c d => hR h' tk' it1 a b c d
  · refine HG _ _ _ _ _ _ _ _ hok (ci.noFold env) (comp_core ok e1 cx R hRR (x2 := x2) rfl hok hx hx2 hcaps ci fun I C Dd cl h tk fp Pi St Wi Oi cxi own own2 hW st0 stl items oI oD hID cI cD hfix Ri lD {R} hR => ?_)
    have htt : t ≠ t2 := fun q => by
      subst q
      have h1 := varIx_at ix
      have h2 := varIx_at ix2
      rw [h1] at h2
      exact hne (Option.some.inj h2)
    exact loop_first (s := { s with heap := h, toks := tk }) (ds0 := []) ok cxi own own2 ix ix2 htt ce cf ci2 cf2 (hcaps ▸ none_t hx ix) (hcaps ▸ none_t hx2 ix2) e2 hW st0 stl items oI oD hID cI cD hfix Ri lD .nil (by simpa using hsz) fun h' tk' it1 a b c d => hR h' tk' it1 a b c d

theorem okSc_names {ns : Names} {sc : Scope} (h : okSc ns sc = true) : ∀ x ∈ sc.names, x.2 = .local → sc.names.lookup x.1 = some .local := fun x hx hl => by
  obtain ⟨wf, _, _⟩ := okSc_wf h
  exact lookup_wf wf (by rw [← hl]; exact hx)
theorem okSc_clos {ns : Names} {sc : Scope} {env : Env} (h : okSc ns sc = true) (cx : Cx ns env A n) : closureFor sc env = pure (closF env.cells sc.names []) := by
  obtain ⟨_, _, hf⟩ := okSc_wf h
  exact closureFor_eq fun x hx => cx.cells x (hf x hx)

theorem comp_ok (ok : Ok prog w P g B L n) : CompOk prog w P g B L n := by
  intro ns pe caps elt t it ifs more σ d env W O A E s Q c he cx' R r
  have cx := cx'.down
  refine comp_run (E := E) (RR := fun acc C => compPost (model prog w) A E none Q acc C) ok c he cx R (fun Dd C h' tk newC newD ⟨m, hm⟩ pur fv => ?_) (G := fun pe => wpAny (model prog w) A (eval pe env) Q E s) fun elt0 it0 sc p x q ifs0 gs hok hfold hrun => ?_
  · refine ⟨m, hm, fun h'' same => ?_⟩
    have st : Stp (fun b => Mw W O b ∨ b = C) h' (Mw W O) h'' := fun b o nb e => ⟨fun q => nb (.inl q), (same.2 b fun q => nb (.inr q)).trans e⟩
    exact r _ h'' tk (fun b o e => (same.2 b fun q => by subst q; rw [newC] at e; cases e).trans (pur b o e)) (fv.stp st)
  · obtain ⟨wf, hk, _⟩ := okSc_wf hok
    rw [eval_ListComp]
    exact wpAny_comprehension_free (use := none) rfl hfold (okSc_clos hok cx) hk (okSc_names hok) hrun
end
end Mine
end
section
/-! Statements: what the compiler took, form by form. -/
open PySem PySem.Calls PyProof.Rows PySem.W PySem.Spec
namespace Mine

noncomputable def SX (g : Gl) (ns : Names) (ps : PySem.Stmt) (S : S) : Prop := ∃ k, chkS g k ns ps S = true
noncomputable def SXs (g : Gl) (ns : Names) (ps : List PySem.Stmt) (l : List S) : Prop := ∃ k, chkM (chkS g k ns) ps l = true

inductive InvS (g : Gl) (ns : Names) : PySem.Stmt → S → Prop
  | asgNew {x q l p0 p i l'} : varIx ns x = some i → l.length < 1000 → CXs g ns l l' → InvS g ns (.Assign [.Name x q] (.List l p0) p) (.asgNew i l')
  | asgDict {x q p0 p i} : varIx ns x = some i → InvS g ns (.Assign [.Name x q] (.Dict [] [] p0) p) (.asgDict i)
  | newBook {x q f p1 p2 p3 p i} : varIx ns x = some i → f = ("Headers" : Str) → isGlob ns f = true → InvS g ns (.Assign [.Name x q] (.Call (.Name f p1) [.List [] p2] [] p3) p) (.newBook i)
  | asgSplit {x q o m q1 sep p1 p i o' sep'} : varIx ns x = some i → m = ("split" : Str) → (q1.endLine == p1.line) = true → plainBase o = true → CX g ns o o' → CX g ns sep sep' → InvS g ns (.Assign [.Name x q] (.Call (.Attribute o m q1) [sep] [] p1) p) (.asgSplit i o' sep')
  | asg {x q v p i v'} : varIx ns x = some i → CX g ns v v' → InvS g ns (.Assign [.Name x q] v p) (.asg i v')
  | seti {x q k q1 v p i k' v'} : notComp v = true → CX g ns (.Name x q) (.var i) → CX g ns k k' → CX g ns v v' → InvS g ns (.Assign [.Subscript (.Name x q) k q1] v p) (.seti i k' v')
  | asg2 {x q1 y q2 k1 q3 a b k2 q4 p i j a' b'} : okTwo ns x q1 y q2 a b = true → varIx ns x = some i → varIx ns y = some j → CX g ns a a' → CX g ns b b' → InvS g ns (.Assign [.Tuple [.Name x q1, .Name y q2] k1 q3] (.Tuple [a, b] k2 q4) p) (.asg2 i j a' b')
  | aug {x q o v p i o' v'} : CX g ns (.Name x q) (.var i) → cA o = some o' → CX g ns v v' → InvS g ns (.AugAssign (.Name x q) o v p) (.aug i o' v')
  | app {x q m ap e q1 p i e'} : (ap.endLine == q1.line) = true → m = ("append" : Str) → CX g ns (.Name x q) (.var i) → CX g ns e e' → InvS g ns (.Expr (.Call (.Attribute (.Name x q) m ap) [e] [] q1) p) (.app i e')
  | ext {x q m ap e q1 p i e'} : (ap.endLine == q1.line) = true → m = ("extend" : Str) → CX g ns (.Name x q) (.var i) → CX g ns e e' → InvS g ns (.Expr (.Call (.Attribute (.Name x q) m ap) [e] [] q1) p) (.ext i e')
  | del {x q k q1 p i last} : CX g ns (.Name x q) (.var i) → cLast k = some last → InvS g ns (.Delete [.Subscript (.Name x q) k q1] p) (.del i last)
  | addHdr {x q m ap u v q1 a1 a2 z a p i u' v' a'} : m = ("add_header" : Str) → (ap.endLine == q1.line) = true → CX g ns (.Name x q) (.var i) → CX g ns u u' → CX g ns v v' → SXs g ns a a' →
      InvS g ns (.If (.Compare (.Call (.Attribute (.Name x q) m ap) [u, v] [] q1) [.IsNot] [.Constant .none a1 a2] z) a [] p) (.addHdr i u' v' a')
  | setDef {x q m ap u v q1 r z a p i u' v' r' a'} : m = ("setdefault" : Str) → (ap.endLine == q1.line) = true → CX g ns (.Name x q) (.var i) → CX g ns u u' → CX g ns v v' → CX g ns r r' → SXs g ns a a' →
      InvS g ns (.If (.Compare (.Call (.Attribute (.Name x q) m ap) [u, v] [] q1) [.NotEq] [r] z) a [] p) (.setDef i u' v' r' a')
  | ifs {c a b p c' a' b'} : CX g ns c c' → SXs g ns a a' → SXs g ns b b' → InvS g ns (.If c a b p) (.ifs c' a' b')
  | for1 {x q it body p i it' body'} : varIx ns x = some i → CX g ns it it' → SXs g ns body body' → InvS g ns (.For (.Name x q) it body [] p) (.for1 i it' body')
  | for2 {x q1 y q2 k q3 it body p i j it' body'} : x ≠ y → varIx ns x = some i → varIx ns y = some j → CX g ns it it' → SXs g ns body body' → InvS g ns (.For (.Tuple [.Name x q1, .Name y q2] k q3) it body [] p) (.for2 i j it' body')
  | while {c body p c' body'} : CX g ns c c' → SXs g ns body body' → InvS g ns (.While c body [] p) (.while c' body')
  | retItems {x q m ap q1 p i} : m = ("items" : Str) → (ap.endLine == q1.line) = true → CX g ns (.Name x q) (.var i) → InvS g ns (.Return (some (.Call (.Attribute (.Name x q) m ap) [] [] q1)) p) (.retItems i)
  | ret {e p e'} : CX g ns e e' → InvS g ns (.Return (some e) p) (.ret e')
  | asrt {c p c'} : CX g ns c c' → InvS g ns (.Assert c none p) (.asrt c')
  | raise {ps} : InvS g ns ps .raise

theorem onSet_inv {ns : Names} {i : Nat} {k : PySem.Expr → Bool} {C : PySem.Stmt → Prop} {ps : PySem.Stmt} (h : onSet ns i k ps = true) (H : ∀ x q v p, varIx ns x = some i → k v = true → C (.Assign [.Name x q] v p)) : C ps :=
  onAssign_inv h fun l v p h => on1_inv (C := fun l => C (.Assign l v p)) h fun n h => onName_inv (C := fun n => C (.Assign [n] v p)) h fun x q h => H x q v p (decT (a1 h)) (a2 h)
theorem onMeth_inv {m : Str} {k : PySem.Expr → List PySem.Expr → Bool} {C : PySem.Expr → Prop} {e : PySem.Expr} (h : onMeth m k e = true) (H : ∀ o q l p, (q.endLine == p.line) = true → k o l = true → C (.Call (.Attribute o m q) l [] p)) : C e :=
  onCall_inv h fun f l w p h => on0_inv (C := fun w => C (.Call f l w p)) (a1 h) (onAttr_inv (C := fun f => C (.Call f l [] p)) (a2 h) fun o x q h => eqR (C := fun x => C (.Call (.Attribute o x q) l [] p)) (a1 h) (H o q l p (a1 (a2 h)) (a2 (a2 h))))
theorem isName_inv {k : Bool} {C : PySem.Expr → Prop} {e : PySem.Expr} (h : isName k e = true) (H : ∀ x q, k = true → C (.Name x q)) : C e := onName_inv h H
theorem onBk_inv {m : Str} {n u v : PySem.Expr → Bool} {k : CmpOp → PySem.Expr → Bool} {a : List PySem.Stmt → Bool} {C : PySem.Stmt → Prop} {ps : PySem.Stmt} (h : onBk m n u v k a ps = true)
    (H : ∀ x q ap u' v' q1 o r z b p, (ap.endLine == q1.line) = true → n (.Name x q) = true → u u' = true → v v' = true → k o r = true → a b = true → C (.If (.Compare (.Call (.Attribute (.Name x q) m ap) [u', v'] [] q1) [o] [r] z) b [] p)) : C ps :=
  onIfS_inv h fun c b e p h => on0_inv (C := fun e => C (.If c b e p)) (a1 h) <| onCmp_inv (C := fun c => C (.If c b [] p)) (a2 (a2 h)) fun hd os rs z h' =>
    onMeth_inv (C := fun hd => C (.If (.Compare hd os rs z) b [] p)) (a2 h') fun n' ap l q1 hp hl => on1_inv (C := fun os => C (.If (.Compare _ os rs z) b [] p)) (a1 h') fun o ho => on1_inv (C := fun rs => C (.If (.Compare _ [o] rs z) b [] p)) ho fun r hr =>
      on2_inv (C := fun l => C (.If (.Compare (.Call (.Attribute n' m ap) l [] q1) [o] [r] z) b [] p)) (a2 hl) fun u' v' hu => isName_inv (k := n n') (C := fun x => n' = x → C (.If (.Compare (.Call (.Attribute x m ap) [u', v'] [] q1) [o] [r] z) b [] p)) (a1 hl) (fun x q hn e => H x q ap u' v' q1 o r z b p hp (e ▸ hn) (a1 hu) (a2 hu) hr (a1 (a2 h))) rfl
theorem nameC {k : PySem.Expr → Bool} {C : PySem.Expr → Prop} {e : PySem.Expr} (h : isName (k e) e = true) (H : ∀ x q, k (.Name x q) = true → C (.Name x q)) : C e :=
  isName_inv (C := fun x => e = x → C x) h (fun x q hn e => H x q (e ▸ hn)) rfl
theorem SX.inv {g : Gl} {ns : Names} {ps : PySem.Stmt} {S : S} (h : SX g ns ps S) : InvS g ns ps S := by
  obtain ⟨k, h⟩ := h
  cases k with
  | zero => exact absurd h Bool.false_ne_true
  | succ k =>
    have h : chkSF g (chk g k ns) (chkS g k ns) ns ps S = true := h
    cases S with
    | asg i e =>
      exact onSet_inv (C := fun ps => InvS g ns ps _) h fun x q v p hx h => .asg hx ⟨k, h⟩
    | asgNew i l =>
      exact onSet_inv (C := fun ps => InvS g ns ps _) h fun x q v p hx h => onList_inv (C := fun v => InvS g ns (.Assign _ v p) _) h fun l p0 h => .asgNew hx (decT (a1 h)) ⟨k, a2 h⟩
    | asgDict i =>
      exact onSet_inv (C := fun ps => InvS g ns ps _) h fun x q v p hx h => onDict_inv (C := fun v => InvS g ns (.Assign _ v p) _) h fun a b p0 h =>
        on0_inv (C := fun a => InvS g ns (.Assign _ (.Dict a b p0) p) _) (a1 h) <| on0_inv (C := fun b => InvS g ns (.Assign _ (.Dict [] b p0) p) _) (a2 h) <| .asgDict hx
    | newBook i =>
      exact onSet_inv (C := fun ps => InvS g ns ps _) h fun x q v p hx h => onCall_inv (C := fun v => InvS g ns (.Assign _ v p) _) h fun f l w p3 h =>
        on0_inv (C := fun w => InvS g ns (.Assign _ (.Call f l w p3) p) _) (a1 h) <| onName_inv (C := fun f => InvS g ns (.Assign _ (.Call f l [] p3) p) _) (a1 (a2 h)) fun f p1 hf =>
          on1_inv (C := fun l => InvS g ns (.Assign _ (.Call _ l [] p3) p) _) (a2 (a2 h)) fun a h => onList_inv (C := fun a => InvS g ns (.Assign _ (.Call _ [a] [] p3) p) _) h fun l p2 h => on0_inv (C := fun l => InvS g ns (.Assign _ (.Call _ [.List l p2] [] p3) p) _) h <| .newBook hx (decT (a1 hf)) (a2 hf)
    | asgSplit i o sep =>
      exact onSet_inv (C := fun ps => InvS g ns ps _) h fun x q v p hx h => onMeth_inv (C := fun v => InvS g ns (.Assign _ v p) _) h fun o' q1 l p1 hp h =>
        on1_inv (C := fun l => InvS g ns (.Assign _ (.Call _ l [] p1) p) _) h fun s h => .asgSplit hx rfl hp (a1 h) ⟨k, a1 (a2 h)⟩ ⟨k, a2 (a2 h)⟩
    | seti i k' v =>
      exact onAssign_inv (C := fun ps => InvS g ns ps _) h fun l v' p h => on1_inv (C := fun l => InvS g ns (.Assign l v' p) _) h fun t h => onSub_inv (C := fun t => InvS g ns (.Assign [t] v' p) _) h fun n k2 p2 h =>
        nameC (k := fun n => notComp v' && (chk g k ns n (.var i) && (chk g k ns k2 k' && chk g k ns v' v))) (C := fun n => InvS g ns (.Assign [.Subscript n k2 p2] v' p) _) h fun x q h => .seti (a1 h) ⟨k, a1 (a2 h)⟩ ⟨k, a1 (a2 (a2 h))⟩ ⟨k, a2 (a2 (a2 h))⟩
    | asg2 i j a b =>
      exact onAssign_inv (C := fun ps => InvS g ns ps _) h fun l v p h => on1_inv (C := fun l => InvS g ns (.Assign l v p) _) h fun t h => onTup_inv (C := fun t => InvS g ns (.Assign [t] v p) _) h fun l k1 q3 h =>
        on2_inv (C := fun l => InvS g ns (.Assign [.Tuple l k1 q3] v p) _) h fun n1 n2 h => onName_inv (C := fun n1 => InvS g ns (.Assign [.Tuple [n1, n2] k1 q3] v p) _) h fun x q1 h => onName_inv (C := fun n2 => InvS g ns (.Assign [.Tuple [_, n2] k1 q3] v p) _) h fun y q2 h =>
          onTup_inv (C := fun v => InvS g ns (.Assign _ v p) _) h fun l k2 q4 h => on2_inv (C := fun l => InvS g ns (.Assign _ (.Tuple l k2 q4) p) _) h fun a' b' h => .asg2 (a1 h) (decT (a1 (a2 h))) (decT (a1 (a2 (a2 h)))) ⟨k, a1 (a2 (a2 (a2 h)))⟩ ⟨k, a2 (a2 (a2 (a2 h)))⟩
    | aug i o e =>
      exact onAug_inv (C := fun ps => InvS g ns ps _) h fun n o' v p h => nameC (k := fun n => chk g k ns n (.var i) && (decide (cA o' = some o) && chk g k ns v e)) (C := fun n => InvS g ns (.AugAssign n o' v p) _) h fun x q h => .aug ⟨k, a1 h⟩ (decT (a1 (a2 h))) ⟨k, a2 (a2 h)⟩
    | app i e =>
      exact onExprS_inv (C := fun ps => InvS g ns ps _) h fun c p h => onMeth_inv (C := fun c => InvS g ns (.Expr c p) _) h fun n ap l q1 hp h => on1_inv (C := fun l => InvS g ns (.Expr (.Call _ l [] q1) p) _) h fun e' h =>
        nameC (k := fun n => chk g k ns n (.var i) && chk g k ns e' e) (C := fun n => InvS g ns (.Expr (.Call (.Attribute n _ ap) _ [] q1) p) _) h fun x q h => .app hp rfl ⟨k, a1 h⟩ ⟨k, a2 h⟩
    | ext i e =>
      exact onExprS_inv (C := fun ps => InvS g ns ps _) h fun c p h => onMeth_inv (C := fun c => InvS g ns (.Expr c p) _) h fun n ap l q1 hp h => on1_inv (C := fun l => InvS g ns (.Expr (.Call _ l [] q1) p) _) h fun e' h =>
        nameC (k := fun n => chk g k ns n (.var i) && chk g k ns e' e) (C := fun n => InvS g ns (.Expr (.Call (.Attribute n _ ap) _ [] q1) p) _) h fun x q h => .ext hp rfl ⟨k, a1 h⟩ ⟨k, a2 h⟩
    | del i last =>
      exact onDel_inv (C := fun ps => InvS g ns ps _) h fun l p h => on1_inv (C := fun l => InvS g ns (.Delete l p) _) h fun t h => onSub_inv (C := fun t => InvS g ns (.Delete [t] p) _) h fun n k2 q1 h =>
        nameC (k := fun n => chk g k ns n (.var i) && decide (cLast k2 = some last)) (C := fun n => InvS g ns (.Delete [.Subscript n k2 q1] p) _) h fun x q h => .del ⟨k, a1 h⟩ (decT (a2 h))
    | addHdr i u v a =>
      exact onBk_inv (C := fun ps => InvS g ns ps _) h fun x q ap u' v' q1 o r z b p hp hn hu hv hk ha => onConst_inv (C := fun r => InvS g ns (.If (.Compare _ _ [r] z) b [] p) _) hk fun c a0 a3 hk =>
        eqR (C := fun o => InvS g ns (.If (.Compare _ [o] _ z) b [] p) _) (a1 hk) <| eqR (C := fun c => InvS g ns (.If (.Compare _ _ [.Constant c a0 a3] z) b [] p) _) (a2 hk) <| .addHdr rfl hp ⟨k, hn⟩ ⟨k, hu⟩ ⟨k, hv⟩ ⟨k, ha⟩
    | setDef i u v e a =>
      exact onBk_inv (C := fun ps => InvS g ns ps _) h fun x q ap u' v' q1 o r z b p hp hn hu hv hk ha => eqR (C := fun o => InvS g ns (.If (.Compare _ [o] _ z) b [] p) _) (a1 hk) <| .setDef rfl hp ⟨k, hn⟩ ⟨k, hu⟩ ⟨k, hv⟩ ⟨k, a2 hk⟩ ⟨k, ha⟩
    | ifs c a b =>
      exact onIfS_inv (C := fun ps => InvS g ns ps _) h fun c' a' b' p h => .ifs ⟨k, a1 h⟩ ⟨k, a1 (a2 h)⟩ ⟨k, a2 (a2 h)⟩
    | for1 i it body =>
      exact onFor_inv (C := fun ps => InvS g ns ps _) h fun n it' b e p h => on0_inv (C := fun e => InvS g ns (.For n it' b e p) _) (a1 h) <| onName_inv (C := fun n => InvS g ns (.For n it' b [] p) _) (a2 h) fun x q h => .for1 (decT (a1 h)) ⟨k, a1 (a2 h)⟩ ⟨k, a2 (a2 h)⟩
    | for2 i j it body =>
      exact onFor_inv (C := fun ps => InvS g ns ps _) h fun n it' b e p h => on0_inv (C := fun e => InvS g ns (.For n it' b e p) _) (a1 h) <| onTup_inv (C := fun n => InvS g ns (.For n it' b [] p) _) (a2 h) fun l k1 q3 h =>
        on2_inv (C := fun l => InvS g ns (.For (.Tuple l k1 q3) it' b [] p) _) h fun n1 n2 h => onName_inv (C := fun n1 => InvS g ns (.For (.Tuple [n1, n2] k1 q3) it' b [] p) _) h fun x q1 h => onName_inv (C := fun n2 => InvS g ns (.For (.Tuple [_, n2] k1 q3) it' b [] p) _) h fun y q2 h =>
          .for2 (decT (a1 h)) (decT (a1 (a2 h))) (decT (a1 (a2 (a2 h)))) ⟨k, a1 (a2 (a2 (a2 h)))⟩ ⟨k, a2 (a2 (a2 (a2 h)))⟩
    | «while» c body =>
      exact onWhile_inv (C := fun ps => InvS g ns ps _) h fun c' b e p h => on0_inv (C := fun e => InvS g ns (.While c' b e p) _) (a1 h) <| .while ⟨k, a1 (a2 h)⟩ ⟨k, a2 (a2 h)⟩
    | ret e =>
      exact onRet_inv (C := fun ps => InvS g ns ps _) h fun c p h => onO_inv (C := fun c => InvS g ns (.Return c p) _) h fun e' h => .ret ⟨k, h⟩
    | retItems i =>
      exact onRet_inv (C := fun ps => InvS g ns ps _) h fun c p h => onO_inv (C := fun c => InvS g ns (.Return c p) _) h fun e' h => onMeth_inv (C := fun c => InvS g ns (.Return (some c) p) _) h fun n ap l q1 hp h =>
        on0_inv (C := fun l => InvS g ns (.Return (some (.Call _ l [] q1)) p) _) (a1 h) <| nameC (k := fun n => chk g k ns n (.var i)) (C := fun n => InvS g ns (.Return (some (.Call (.Attribute n _ ap) _ [] q1)) p) _) (a2 h) fun x q h => .retItems rfl hp ⟨k, h⟩
    | asrt c =>
      exact onAsrt_inv (C := fun ps => InvS g ns ps _) h fun c' x p h => onNo_inv (C := fun x => InvS g ns (.Assert c' x p) _) (a1 h) <| .asrt ⟨k, a2 h⟩
    | raise => exact .raise

inductive InvSs (g : Gl) (ns : Names) : List PySem.Stmt → List S → Prop
  | nil : InvSs g ns [] []
  | cons {s r S l} : SX g ns s S → SXs g ns r l → InvSs g ns (s :: r) (S :: l)
theorem SXs.inv {g : Gl} {ns : Names} {ps : List PySem.Stmt} {l : List S} (h : SXs g ns ps l) : InvSs g ns ps l := by
  obtain ⟨k, h⟩ := h
  cases ps with
  | nil => exact on0_inv (C := fun l => InvSs g ns _ l) (show on0 l = true from h) .nil
  | cons s r => exact onC_inv (C := fun l => InvSs g ns _ l) h fun b m h => .cons ⟨k, a1 h⟩ ⟨k, a2 h⟩
end Mine
end
section
/-! Statements: storing, changing what a name owns, going on. -/
open PySem PySem.Calls PyProof.Rows PySem.W PySem.Spec
namespace Mine
section
variable {prog : Program} {w : World} {A : Around} {E : Value → Shared → Prop} {s : Shared} {P : Pg} {g : Gl} {B : Heap} {L : Lo} {n : Nat}

theorem Gr.refl (W : Addr → Prop) (h : Heap) : Gr W h W h := ⟨Stp.refl W h, fun _ x => .inl x, fun _ o e => ⟨o, e⟩⟩
theorem Gr.trans {W W' W'' : Addr → Prop} {h h' h'' : Heap} (x : Gr W h W' h') (y : Gr W' h' W'' h'') : Gr W h W'' h'' := ⟨x.stp.trans y.stp, fun a q => (y.new a q).elim (x.new a) fun q => .inr (by
  cases e : h.get? a with
  | none => rfl
  | some o => obtain ⟨o', e'⟩ := x.kp a o e; rw [q] at e'; cases e'), fun a o e => let ⟨o', e'⟩ := x.kp a o e; y.kp a o' e'⟩
theorem Gr.ofPur {W : Addr → Prop} {h h' : Heap} (p : Pur h h') : Gr W h W h' := ⟨p.stp W, fun _ x => .inl x, fun a o e => ⟨o, p a o e⟩⟩
theorem Ends.after {B : Heap} {ns : Names} {env : Env} {W O : Addr → Prop} {r : Option D} {σ' : Sg} {Q : Flow → Shared → Prop} (x : Ends prog w B ns env W O s r σ' Q) {h : Heap} {tk : Nat} (p : Pur s.heap h) : Ends prog w B ns env W O { s with heap := h, toks := tk } r σ' Q :=
  fun f h' tk' W' gr R fr hr => x f h' tk' W' ((Gr.ofPur p).trans gr) R fr hr

theorem At.fn {env : Env} {h : Heap} {x : Str} {v v' : Value} (a : At env h x v) (b : At env h x v') : v = v' := by
  rcases a with ⟨k, m, hm, e⟩ | ⟨k, c, hc, hv⟩ <;> rcases b with ⟨k', m', hm', e'⟩ | ⟨k', c', hc', hv'⟩
  · obtain ⟨o1, es1, ep1, g1, d1, s1, n1⟩ := hm
    obtain ⟨o2, es2, ep2, g2, d2, s2, n2⟩ := hm'
    rw [g1] at g2; cases g2
    rw [d1] at d2; cases d2
    rw [← n1 x] at e
    rw [← n2 x] at e'
    rw [e] at e'
    exact Option.some.inj e'
  · rw [k] at k'; rcases k' with k' | k' <;> cases k'
  · rw [k'] at k; rcases k with k | k <;> cases k
  · rw [hc] at hc'; cases hc'
    obtain ⟨o, ho, hd⟩ := hv
    obtain ⟨o', ho', hd'⟩ := hv'
    rw [ho] at ho'; cases ho'
    rw [hd] at hd'
    exact Option.some.inj (Data.cell.inj hd')

theorem same_gr {W O : Addr → Prop} {ns : Names} {env : Env} {σ' : Sg} {x : Str} {h h' : Heap} (R : Rl prog w B ns env W O σ' h') (same : Heap.SameBut env.locals h h' ∨ (∃ c, env.cells.lookup x = some c ∧ Heap.SameBut c h h')) (st : Stp W h W h') : Gr W h W h' := by
  refine ⟨st, fun _ x => .inl x, fun a o e => ?_⟩
  rcases same with same | ⟨c, hc, same⟩
  · by_cases q : a = env.locals
    · obtain ⟨m, o', es, ep, ho, _⟩ := R.loc.2; exact ⟨o', q ▸ ho⟩
    · exact ⟨o, (same.2 a q).trans e⟩
  · by_cases q : a = c
    · obtain ⟨_, _, v, o', ho, _⟩ := R.cell x c hc; exact ⟨o', q ▸ ho⟩
    · exact ⟨o, (same.2 a q).trans e⟩

/-- a value that stands still is stored -/
theorem store_val {ns : Names} {env : Env} {W O : Addr → Prop} {σ : Sg} {x : Str} {i : Nat} {v : Value} {d : D} {Q : Flow → Shared → Prop} (cx : Cx ns env A n) (R : Rl prog w B ns env W O σ s.heap) (fr : Frame ns env W) (ix : varIx ns x = some i) (fv : FV prog w s.heap (Mw W O) v d)
    (h : Ends prog w B ns env W O s none (σ.set i (some (.val d))) Q) : wpAny (model prog w) A (storeName env x v) (fun _ => Q .next) E s := by
  have ix' := varIx_at ix
  refine st_at (fpn := []) R cx.kind cx.wf (fr x (List.mem_of_getElem? ix')) ix' (.val fv) (fun a ha => (List.not_mem_nil ha).elim) (fun fp _ j a _ ha => (List.not_mem_nil ha).elim) fun h' tk R' same st => ?_
  exact h .next h' tk W (same_gr R' same st) R' fr rfl
/-- two are, one after the other -/
theorem store_val2 {ns : Names} {env : Env} {W O : Addr → Prop} {σ : Sg} {x : Str} {i : Nat} {v : Value} {d : D} {Q : Unit → Shared → Prop} (cx : Cx ns env A n) (R : Rl prog w B ns env W O σ s.heap) (fr : Frame ns env W) (ix : varIx ns x = some i) (fv : FV prog w s.heap (Mw W O) v d)
    (h : ∀ h' tk, Gr W s.heap W h' → Rl prog w B ns env W O (σ.set i (some (.val d))) h' → Q () { s with heap := h', toks := tk }) : wpAny (model prog w) A (storeName env x v) Q E s := by
  have ix' := varIx_at ix
  refine st_at (fpn := []) R cx.kind cx.wf (fr x (List.mem_of_getElem? ix')) ix' (.val fv) (fun a ha => (List.not_mem_nil ha).elim) (fun fp _ j a _ ha => (List.not_mem_nil ha).elim) fun h' tk R' same st => ?_
  exact h h' tk (same_gr R' same st) R'

/-- a new object of its own is stored -/
theorem store_own {ns : Names} {env : Env} {W O : Addr → Prop} {σ : Sg} {x : Str} {i : Nat} {h : Heap} {tk : Nat} {a : Addr} {sl : Slot} {Q : Flow → Shared → Prop} (cx : Cx ns env A n) (R : Rl prog w B ns env W O σ s.heap) (fr : Frame ns env W) (ix : varIx ns x = some i) (p : Pur s.heap h) (new : s.heap.get? a = none)
    (sv : SV prog w B h (Mw (fun b => W b ∨ b = a) O) sl (.ref a) [a]) (la : ∃ o, h.get? a = some o) (hE : Ends prog w B ns env W O s none (σ.set i (some sl)) Q) : wpAny (model prog w) A (storeName env x (.ref a)) (fun _ => Q .next) E { s with heap := h, toks := tk } := by
  have ix' := varIx_at ix
  have lv : ∀ {b o}, s.heap.get? b = some o → b ≠ a := fun {b o} e q => by rw [q, new] at e; cases e
  have nL : a ≠ env.locals := by obtain ⟨m, o, _, _, ho, _⟩ := R.loc.2; exact fun q => lv ho q.symm
  have nC : ∀ z, env.cells.lookup z ≠ some a := fun z q => by obtain ⟨_, _, v, o, ho, _⟩ := R.cell z a q; exact lv ho rfl
  have st : Stp (Mw W O) s.heap (Mw (fun b => W b ∨ b = a) O) h := fun b o nb e => ⟨fun q => q.elim (fun q => q.elim (fun q => nb (.inl q)) fun q => lv e q) fun q => nb (.inr q), p b o e⟩
  obtain ⟨fp, f1, f2, f3⟩ := R.vars
  have f1' : ∀ i sl, σ[i]? = some (some sl) → ∃ x v, (nmOf ns)[i]? = some x ∧ At env h x v ∧ SV prog w B h (Mw (fun b => W b ∨ b = a) O) sl v (fp i) := fun i sl e => by
    obtain ⟨x, v, hx, at', sv⟩ := f1 i sl e
    exact ⟨x, v, hx, at'.pur p, sv.stp st (fun a ha o e => p a o e) fun a ha => .inl (.inl (f2 i a ha).1)⟩
  have f2' : ∀ i b, b ∈ fp i → (W b ∨ b = a) ∧ b ≠ env.locals ∧ (∀ x, env.cells.lookup x ≠ some b) := fun i b hb => let ⟨z1, z2, z3⟩ := f2 i b hb; ⟨.inl z1, z2, z3⟩
  have R' : Rl prog w B ns env (fun b => W b ∨ b = a) O σ h := by
    refine ⟨fun b o e => st b o (R.base b o e).1 (R.base b o e).2, ⟨.inl R.loc.1, let ⟨m, hm⟩ := R.loc.2; ⟨m, hm.keeps p⟩⟩, fun b hb => ?_, fun b wb ob => ?_, fun z c e => ?_, R.apart, fp, f1', f2', f3⟩
    · rcases hb with (hb | hb) | hb
      · obtain ⟨o, e⟩ := R.live b (.inl hb); exact ⟨o, p _ _ e⟩
      · rw [hb]; exact la
      · obtain ⟨o, e⟩ := R.live b (.inr hb); exact ⟨o, p _ _ e⟩
    · rcases wb with wb | wb
      · exact R.disj b wb ob
      · obtain ⟨o, e⟩ := R.live b (.inr ob); exact lv e wb
    · obtain ⟨z1, z2, v, hv⟩ := R.cell z c e
      exact ⟨z1, z2.elim (fun q => .inl (.inl q)) .inr, v, hv.keeps p⟩
  have own' : Frame ns env fun b => W b ∨ b = a := fun z hz => by
    rcases fr z hz with k | ⟨k, c, hc, wc⟩
    · exact .inl k
    · exact .inr ⟨k, c, hc, .inl wc⟩
  refine st_at' (s := { s with heap := h, toks := tk }) (fpn := [a]) R' cx.kind cx.wf (own' x (List.mem_of_getElem? ix')) ix' fp f1' f2' f3 sv (fun b hb => ?_) (fun j b hj hb hb' => ?_) fun h' tk' R'' same st' => ?_
  · cases hb with
    | head => exact ⟨.inr rfl, nL, nC⟩
    | tail _ hb => cases hb
  · cases hb with
    | head =>
      obtain ⟨o, e⟩ := R.live a (.inl (f2 j a hb').1)
      exact absurd rfl (lv e)
    | tail _ hb => cases hb
  · refine hE .next h' tk' _ ?_ R'' own' rfl
    have g1 : Gr W s.heap (fun b => W b ∨ b = a) h := ⟨fun b o nb e => ⟨fun q => q.elim nb fun q => lv e q, p b o e⟩, fun b q => q.elim .inl fun q => .inr (q ▸ new), fun b o e => ⟨o, p b o e⟩⟩
    exact g1.trans (same_gr R'' same st')

/-- what a name owns may be changed -/
theorem Rl.upd {ns : Names} {env : Env} {W O : Addr → Prop} {σ : Sg} {h h' : Heap} {fp : Nat → List Addr} {i : Nat} {a : Addr} {sl' : Slot} {xn : Str} {v : Value} (R : Rl prog w B ns env W O σ h)
    (f1 : ∀ i sl, σ[i]? = some (some sl) → ∃ x v, (nmOf ns)[i]? = some x ∧ At env h x v ∧ SV prog w B h (Mw W O) sl v (fp i)) (f2 : ∀ i a, a ∈ fp i → W a ∧ a ≠ env.locals ∧ ∀ x, env.cells.lookup x ≠ some a) (f3 : ∀ i j a, a ∈ fp i → a ∈ fp j → i = j)
    (hx : (nmOf ns)[i]? = some xn) (at' : At env h xn v) (hi : i < σ.length) (hai : a ∈ fp i) (hl : ∃ o, h'.get? a = some o) (stay : ∀ b o, b ≠ a → h.get? b = some o → h'.get? b = some o) (sv' : SV prog w B h' (Mw W O) sl' v (fp i)) :
    Rl prog w B ns env W O (σ.set i (some sl')) h' ∧ Gr W h W h' := by
  obtain ⟨wa, nL, nC⟩ := f2 i a hai
  have st : Stp (Mw W O) h (Mw W O) h' := fun b o nb e => ⟨nb, stay b o (fun q => nb (.inl (q ▸ wa))) e⟩
  have atS : ∀ {y v}, At env h y v → At env h' y v := fun {y v} q => by
    rcases q with ⟨k, m, hm, e⟩ | ⟨k, c, hc', o, ho, hd⟩
    · exact .inl ⟨k, m, hm.at' fun o e => stay _ o (Ne.symm nL) e, e⟩
    · exact .inr ⟨k, c, hc', o, stay c o (fun q => nC y (q ▸ hc')) ho, hd⟩
  have live : ∀ b, (∃ o, h.get? b = some o) → ∃ o, h'.get? b = some o := fun b ⟨o, e⟩ => by
    by_cases q : b = a
    · rw [q]; exact hl
    · exact ⟨o, stay b o q e⟩
  refine ⟨⟨fun b o e => st b o (R.base b o e).1 (R.base b o e).2, ⟨R.loc.1, let ⟨m, hm⟩ := R.loc.2; ⟨m, hm.at' fun o e => stay _ o (Ne.symm nL) e⟩⟩, fun b hb => live b (R.live b hb), R.disj, fun z c e => ?_, R.apart, fp, fun j sl ej => ?_, f2, f3⟩, fun b o nb e => ⟨nb, stay b o (fun q => nb (q ▸ wa)) e⟩, fun _ q => .inl q, fun b o e => live b ⟨o, e⟩⟩
  · obtain ⟨z1, z2, v, o, ho, hd⟩ := R.cell z c e
    exact ⟨z1, z2, v, o, stay c o (fun q => nC z (q ▸ e)) ho, hd⟩
  · by_cases hj : i = j
    · subst hj
      rw [List.getElem?_set_self hi] at ej
      cases ej
      exact ⟨xn, _, hx, atS at', sv'⟩
    · rw [List.getElem?_set_ne hj] at ej
      obtain ⟨y, u, hy, at2, sv2⟩ := f1 j sl ej
      exact ⟨y, u, hy, atS at2, sv2.stp st (fun b hb o e => stay b o (fun q => hj (f3 i j a hai (q ▸ hb))) e) sv2.inM⟩
theorem Rl.own {ns : Names} {env : Env} {W O : Addr → Prop} {σ : Sg} {i : Nat} {d : D} {h : Heap} {x : Str} {C : Prop} (R : Rl prog w B ns env W O σ h) (hx : varIx ns x = some i) (hs : σ[i]? = some (some (.own d)))
    (H : ∀ a, At env h x (.ref a) → W a → SV prog w B h (Mw W O) (.own d) (.ref a) [a] →
      (∀ h1 h' d', Pur h h1 → Heap.SameBut a h1 h' → SV prog w B h' (Mw W O) (.own d') (.ref a) [a] → Rl prog w B ns env W O (σ.set i (some (.own d'))) h' ∧ Gr W h W h') → C) : C := by
  refine R.atVar hx hs fun fp v f1 f2 f3 at' sv => ?_
  have key : ∃ a, v = .ref a ∧ fp i = [a] := by
    generalize hfp : fp i = q at sv
    cases sv <;> exact ⟨_, rfl, rfl⟩
  obtain ⟨a, rfl, hfp⟩ := key
  have hai : a ∈ fp i := by rw [hfp]; exact .head _
  refine H a at' (f2 i a hai).1 (hfp ▸ sv) fun h1 h' d' p same sv' => ?_
  have hl : ∃ o, h'.get? a = some o := by
    cases sv' with
    | list _ e => exact ⟨_, e⟩
    | dictI _ _ e => obtain ⟨o, _, _, ho, _⟩ := e; exact ⟨o, ho⟩
    | dictS _ _ e => obtain ⟨o, _, _, ho, _⟩ := e; exact ⟨o, ho⟩
  exact R.upd f1 f2 f3 (varIx_at hx) at' (List.getElem?_eq_some_iff.mp hs).1 hai hl (fun b o nb e => (same.2 b nb).trans (p b o e)) (hfp ▸ sv')
theorem ret_new {d : D} {ns : Names} {env : Env} {W O : Addr → Prop} {σ : Sg} (R : Rl prog w B ns env W O σ s.heap) : ¬ Mw W O s.heap.objs.size := R.alive.new
end
end Mine
end
section
/-! Statements: the simple ones. -/
open PySem PySem.Calls PyProof.Rows PySem.W PySem.Spec
namespace Mine
section
variable {prog : Program} {w : World} {A : Around} {E : Value → Shared → Prop} {s : Shared} {P : Pg} {g : Gl} {B : Heap} {L : Lo} {n : Nat}

theorem Ok.ex' (ok : Ok prog w P g B L n) {ns : Names} {ps : PySem.Stmt} {S : S} {σ : Sg} {r : Option D × Sg} {env : Env} {W O : Addr → Prop} {Q : Flow → Shared → Prop} (c : SX g ns ps S) (he : L.ex σ S = some r) (cx : Cx ns env A n) (R : Rl prog w B ns env W O σ s.heap) (fr : Frame ns env W)
    (h : Ends prog w B ns env W O s r.1 r.2 Q) : wpAny (model prog w) A (exec ps env) Q E s := let ⟨k, hk⟩ := c; ok.ex hk he cx R fr h
theorem Ok.run' (ok : Ok prog w P g B L n) {ns : Names} {ps : List PySem.Stmt} {S : List S} {σ : Sg} {r : Option D × Sg} {env : Env} {W O : Addr → Prop} {Q : Flow → Shared → Prop} (c : SXs g ns ps S) (he : L.run σ S = some r) (cx : Cx ns env A n) (R : Rl prog w B ns env W O σ s.heap) (fr : Frame ns env W)
    (h : Ends prog w B ns env W O s r.1 r.2 Q) : wpAny (model prog w) A (execs ps env) Q E s := let ⟨k, hk⟩ := c; ok.run hk he cx R fr h

theorem swaps_no {g : Gl} {ns : Names} {v : PySem.Expr} {v' : Ex} (c : CX g ns v v') (hn : notComp v = true) (t : Option PySem.Expr) (l : Nat) (env : Env) : swapsWith v t l env = pure false := by
  induction c.inv <;> first | rfl | cases hn
theorem swaps_some {g : Gl} {ns : Names} {v : PySem.Expr} {v' : Ex} (c : CX g ns v v') (x : Str) (q : Pos) (l : Nat) (env : Env) : ∃ b, swapsWith v (some (.Name x q)) l env = pure b := by
  induction c.inv <;> exact ⟨_, rfl⟩

theorem ldN_at {env : Env} {x : Str} {v : Value} {Q : Value → Shared → Prop} (hk : env.scope.kind = .function) (a : At env s.heap x v) (h2 : (x == ("__classdict__" : Str)) = false) (h : Q v s) : wpAny (model prog w) A (loadName env x) Q E s := by
  rcases a with ⟨k, m, hn, hm⟩ | ⟨k | k, c, hc, hv⟩
  · exact wpAny_loadName_local hk k hn hm h
  · exact wpAny_loadName_cell hk k hc hv h
  · exact wpAny_loadName_free hk k hc hv h h2

/-- x = value -/
theorem asg_ok (ok : Ok prog w P g B L n) {ns : Names} {env : Env} {W O : Addr → Prop} {σ : Sg} {x : Str} {q p : Pos} {v : PySem.Expr} {v' : Ex} {i : Nat} {d : D} {Q : Flow → Shared → Prop} (hx : varIx ns x = some i) (c : CX g ns v v') (he : L.ev σ v' = some d)
    (hcomp : ∀ caps elt t it ifs more, v' = .comp caps elt t it ifs more → ∃ L0 n0, Ok prog w P g B L0 n0 ∧ n0 ≤ n ∧ evF P L0 σ v' = some d) (cx : Cx ns env A n) (R : Rl prog w B ns env W O σ s.heap) (fr : Frame ns env W)
    (h : Ends prog w B ns env W O s none (σ.set i (some (.val d))) Q) : wpAny (model prog w) A (exec (.Assign [.Name x q] v p) env) Q E s := by
  obtain ⟨b, hb⟩ := swaps_some c x q p.line env
  cases b with
  | false =>
    refine wpAny_Assign_Name (ok.ev c he cx R fun v1 h1 t1 p1 f1 => ?_) hb
    exact store_val (s := { s with heap := h1, toks := t1 }) cx (R.pur p1) fr hx f1 (h.after p1)
  | true =>
    have hnc : notComp v = false := by
      cases hn : notComp v with
      | false => rfl
      | true => rw [swaps_no c hn] at hb; cases hb
    have : ∃ caps elt t it ifs more, v' = .comp caps elt t it ifs more := by
      induction c.inv <;> first | exact ⟨_, _, _, _, _, _, rfl⟩ | cases hnc
    obtain ⟨caps, elt, t, it, ifs, more, rfl⟩ := this
    obtain ⟨L0, n0, ok0, hn0, he0⟩ := hcomp _ _ _ _ _ _ rfl
    have cx0 : Cx ns env A n0 := ⟨cx.names, cx.wf, cx.cells, cx.kind, cx.globals, cx.builtins, cx.handled, by have := cx.depth; omega, by have := cx.units; omega⟩
    refine comp_run (E := E) (RR := fun acc C => compPost (model prog w) A E (some (assign (.Name x q) env)) (fun _ s' => Q .next s') acc C) ok0 c he0 cx0 R (fun Dd C h' tk newC newD ⟨m, hm⟩ pur fv => ?_) (G := fun v => swapsWith v (some (.Name x q)) p.line env = pure true → wpAny (model prog w) A (exec (.Assign [.Name x q] v p) env) Q E s) (fun elt0 it0 sc p0 x0 q0 ifs0 gs hok hfold hrun hb => ?_) hb
    · show wpAny _ A (assign (.Name x q) env (.ref Dd)) _ _ _
      have lC : ∃ o, h'.get? C = some o := by obtain ⟨o, _, _, ho, _⟩ := hm; exact ⟨o, ho⟩
      have R1 := R.moreO pur newC lC
      have ix' := varIx_at hx
      have lv : ∀ {b o}, s.heap.get? b = some o → b ≠ C := fun {b o} e q => by rw [q, newC] at e; cases e
      have nCL : C ≠ env.locals := by obtain ⟨m, o, _, _, ho, _⟩ := R.loc.2; exact fun q => lv ho q.symm
      have nCc : ∀ z, env.cells.lookup z ≠ some C := fun z q => by obtain ⟨_, _, v, o, ho, _⟩ := R.cell z C q; exact lv ho rfl
      refine wpAny_assign_Name (st_at (s := { s with heap := h', toks := tk }) (fpn := []) (sl := .val d) R1 cx.kind cx.wf (fr x (List.mem_of_getElem? ix')) ix' (.val (fv.stp fun b o nb e => ⟨fun q => q.elim (fun q => nb (.inl (.inl q))) fun q => q.elim (fun q => nb (.inl (.inr q))) fun q => nb (.inr q), e⟩)) (fun a ha => (List.not_mem_nil ha).elim) (fun fp _ j a _ ha => (List.not_mem_nil ha).elim) fun h2 tk2 R2 same st => ?_)
      have g2 := same_gr R2 same st
      refine ⟨m, ?_, fun h3 same3 => ?_⟩
      · rcases same with same | ⟨c, hc, same⟩
        · exact hm.sameBut same nCL
        · exact hm.sameBut same fun q => nCc x (q ▸ hc)
      · have R3 := R2.dropO (.inr rfl) nCc fun b o nb e => (same3.2 b nb).trans e
        have hO : ∀ b, ((O b ∨ b = C) ∧ b ≠ C) ↔ O b := fun b => ⟨fun q => q.1.elim id fun z => absurd z q.2, fun q => ⟨.inl q, by obtain ⟨o, e⟩ := R.live b (.inr q); exact lv e⟩⟩
        refine h .next h3 tk2 W ⟨fun b o nb e => ?_, fun _ q => .inl q, fun b o e => ?_⟩ (R3.sameO hO) fr rfl
        · exact ⟨nb, (same3.2 b (lv e)).trans (g2.stp b o nb (pur b o e)).2⟩
        · obtain ⟨o', e'⟩ := g2.kp b o (pur b o e)
          exact ⟨o', (same3.2 b (lv e)).trans e'⟩
    · obtain ⟨wf, hk, _⟩ := okSc_wf hok
      rw [exec_Assign_Name_used _ _ _ _ hb]
      refine wpAny_bind (wpAny_standAt (wpAny_bind ?_))
      show wpAny _ A (do let _ ← comprehension (.ListComp elt0 (⟨.Name x0 q0, it0, ifs0, 0⟩ :: gs) sc p0) sc env _ (newList []) false (eval it0 env) (some (assign (.Name x q) env))) _ _ s
      exact wpAny_bind (wpAny_mono (wpAny_comprehension_free (use := some (assign (.Name x q) env)) (Q := fun _ s' => Q .next s') rfl hfold (okSc_clos hok cx) hk (okSc_names hok) hrun) (fun _ s' hq => wpAny_pure (wpAny_pure hq)) fun _ _ e => e)

theorem dict_new (h : Heap) : (h.push { cls := .type "dict", data := .dict #[] }).DictOf (intKind prog w) h.objs.size ([] : List (Int × Value)) :=
  ⟨_, #[], _, Heap.get?_push_size _ rfl, ⟨rfl, rfl, rfl⟩, rfl, (fun x hx => by simp at hx), .nil, List.Pairwise.nil⟩

/-- x = [..] -/
theorem asgNew_ok (ok : Ok prog w P g B L n) {ns : Names} {env : Env} {W O : Addr → Prop} {σ : Sg} {x : Str} {q p0 p : Pos} {l : List PySem.Expr} {l' : List Ex} {i : Nat} {ds : List D} {Q : Flow → Shared → Prop} (hx : varIx ns x = some i) (hl : l.length < 1000) (cl : CXs g ns l l') (he : l'.mapM (L.ev σ) = some ds) (cx : Cx ns env A n) (R : Rl prog w B ns env W O σ s.heap) (fr : Frame ns env W)
    (h : Ends prog w B ns env W O s none (σ.set i (some (.own (.list ds)))) Q) : wpAny (model prog w) A (exec (.Assign [.Name x q] (.List l p0) p) env) Q E s := by
  refine wpAny_Assign_Name (wpAny_List (args_ok ok cl he cx R fun vs k1 t1 p1 f1 => ⟨?_, ?_⟩)) rfl
  · rw [f1.length, mapM_len he, Invs.len cl, sizeLine_eq]; omega
  · have new : k1.get? k1.objs.size = none := pur_new (Pur.refl _)
    refine store_own (s := { s with heap := k1, toks := t1 }) cx (R.pur p1) fr hx (Pur.push _ _) new (.list (n := 0) (.inl (.inr rfl)) (Heap.get?_push_size _ rfl) (f1.stp fun b o nb e => ⟨fun q => ?_, Pur.push _ _ b o e⟩)) ⟨_, Heap.get?_push_size _ rfl⟩ (h.after p1)
    rcases q with (q | q) | q
    · exact nb (.inl q)
    · rw [q, new] at e; cases e
    · exact nb (.inr q)

theorem asgDict_ok {ns : Names} {env : Env} {W O : Addr → Prop} {σ : Sg} {x : Str} {q p0 p : Pos} {i : Nat} {Q : Flow → Shared → Prop} (hx : varIx ns x = some i) (cx : Cx ns env A n) (R : Rl prog w B ns env W O σ s.heap) (fr : Frame ns env W) (hB : ∃ o, B.get? mainGlobals = some o)
    (h : Ends prog w B ns env W O s none (σ.set i (some (.own (.dict [])))) Q) : wpAny (model prog w) A (exec (.Assign [.Name x q] (.Dict [] [] p0) p) env) Q E s := by
  refine wpAny_Assign_Name (wpAny_Dict_empty ?_) rfl
  have new : s.heap.get? s.heap.objs.size = none := pur_new (Pur.refl _)
  have nm : s.heap.objs.size ≠ sysModules := fun q => by
    obtain ⟨o, ho⟩ := hB
    have lt := Heap.lt_size (R.base _ _ ho).2
    rw [q] at lt
    exact absurd lt (by decide)
  exact store_own cx R fr hx (Pur.push _ _) new (.dictI (kvs := []) (ds := []) (.inl (.inr rfl)) nm (dict_new _) .nil) ⟨_, Heap.get?_push_size _ rfl⟩ h

theorem fvs_strs {h : Heap} {M : Addr → Prop} : ∀ (l : List (Str × Tok)), FVs prog w h M (strValues l) ((l.map (·.1)).map .str)
  | [] => .nil
  | (x, t) :: r => .cons (.str x t) (fvs_strs r)
theorem split_ok {x y : Str} {t u : Tok} {Q : Value → Shared → Prop} (hy : (y.length == 0) = false) (h : ∀ l k, l.map (·.1) = Txt.split x y → Q (.ref s.heap.objs.size) { s with heap := s.heap.push { cls := .type "list", data := .seq (strValues l).toArray }, toks := k })
    (hsz : x.length ≤ sizeLine) (hsz2 : (Builtin.Str.partsBetween x (Builtin.Str.occurrences x y 0 x.length (x.length + 1)) y.length).length ≤ sizeLine) : wpAny (model prog w) A (call (.builtin "str.split") [.str x t, .str y u]) Q E s := by
  cases h1 : (decide (x.length < y.length) || decide (Builtin.Str.strKind x < Builtin.Str.strKind y))
  · cases hf : (Builtin.Str.occurrences x y 0 x.length (x.length + 1)).isEmpty
    · refine call_meets F.slot_str_split (typeIs_str _ _ _) F.entry_str_split (F.args_str_split_2 _ _) (PySem.meets_str_split_sep x y t u h1 hy hf hsz hsz2) ?_
      show wants Q E _ { s with toks := _, heap := s.heap.push { cls := .type "list", data := .seq (strsFrom s.toks (Builtin.Str.partsBetween x (Builtin.Str.occurrences x y 0 x.length (x.length + 1)) y.length)).toArray } }
      rw [strsFrom_eq]
      exact h (numbered s.toks _) _ ((numbered_texts _ _).trans ((if_neg (ne_true_of_eq_false h1)).trans (if_neg (ne_true_of_eq_false hf))).symm)
    · exact call_meets F.slot_str_split (typeIs_str _ _ _) F.entry_str_split (F.args_str_split_2 _ _) (PySem.meets_str_split_not_found x y t u h1 hy hf)
        (h [(x, t)] s.toks ((if_neg (ne_true_of_eq_false h1)).trans (if_pos hf)).symm)
  · exact call_meets F.slot_str_split (typeIs_str _ _ _) F.entry_str_split (F.args_str_split_2 _ _) (PySem.meets_str_split_cannot_occur x y t u h1)
      (h [(x, t)] s.toks (if_pos h1).symm)
/-- x = text.split(sep) -/
theorem asgSplit_ok (ok : Ok prog w P g B L n) {ns : Names} {env : Env} {W O : Addr → Prop} {σ : Sg} {x : Str} {q q1 p1 p : Pos} {o sep : PySem.Expr} {o' sep' : Ex} {i : Nat} {a b : Str} {Q : Flow → Shared → Prop} (hx : varIx ns x = some i) (hp : (q1.endLine == p1.line) = true) (hb : plainBase o = true) (co : CX g ns o o') (cs : CX g ns sep sep') (e1 : L.ev σ o' = some (.str a)) (e2 : L.ev σ sep' = some (.str b))
    (h0 : 0 < b.length) (h1 : a.length ≤ 100000) (h2 : (Builtin.Str.partsBetween a (Builtin.Str.occurrences a b 0 a.length (a.length + 1)) b.length).length ≤ 100000) (cx : Cx ns env A n) (R : Rl prog w B ns env W O σ s.heap) (fr : Frame ns env W)
    (h : Ends prog w B ns env W O s none (σ.set i (some (.own (.list ((Txt.split a b).map .str))))) Q) : wpAny (model prog w) A (exec (.Assign [.Name x q] (.Call (.Attribute o ("split" : Str) q1) [sep] [] p1) p) env) Q E s := by
  refine wpAny_Assign_Name ?_ rfl
  refine wpAny_Call_method (co.base hb _ _ _) ?_ hp F.plainAttrs_str F.slot_str_split F.type_str_split (ok.ev co e1 cx R fun v1 k1 t1 p1 f1 => ?_)
  · rw [cs.star [] env]; rfl
  cases f1
  refine ⟨typeIs_str _ _ _, (fun _ e => nomatch e), ?_⟩
  rw [cs.star [] env]
  refine callWith_builtin rfl (evalArgs_plain (spliced_cons (ok.ev cs e2 cx (R.pur p1) fun v2 k2 t2 p2 f2 => spliced_nil ?_)))
  cases f2
  refine split_ok (s := { s with heap := k2, toks := t2 }) (by simp; omega) (fun l k hl => ?_) (by rw [sizeLine_eq]; omega) (by rw [sizeLine_eq]; omega)
  have new : k2.get? k2.objs.size = none := pur_new (Pur.refl _)
  refine store_own (s := { s with heap := k2, toks := t2 }) cx ((R.pur p1).pur p2) fr hx (Pur.push _ _) new (.list (n := 0) (.inl (.inr rfl)) (Heap.get?_push_size _ rfl) ?_) ⟨_, Heap.get?_push_size _ rfl⟩ (h.after (p1.trans p2))
  rw [← hl]
  exact fvs_strs l

theorem if_ok (ok : Ok prog w P g B L n) {ns : Names} {env : Env} {W O : Addr → Prop} {σ : Sg} {c : PySem.Expr} {c' : Ex} {a b : List PySem.Stmt} {a' b' : List S} {p : Pos} {t : Bool} {r : Option D × Sg} {Q : Flow → Shared → Prop} (cc : CX g ns c c') (ca : SXs g ns a a') (cb : SXs g ns b b') (e1 : L.tst σ c' = some t) (e2 : (if t = true then L.run σ a' else L.run σ b') = some r) (cx : Cx ns env A n) (R : Rl prog w B ns env W O σ s.heap) (fr : Frame ns env W)
    (h : Ends prog w B ns env W O s r.1 r.2 Q) : wpAny (model prog w) A (exec (.If c a b p) env) Q E s := by
  refine wpAny_If (ok.tst cc e1 cx R fun h1 t1 p1 => ?_)
  cases t
  · exact ok.run' cb e2 cx (R.pur p1) fr (h.after p1)
  · exact ok.run' ca e2 cx (R.pur p1) fr (h.after p1)
theorem ret_ok (ok : Ok prog w P g B L n) {ns : Names} {env : Env} {W O : Addr → Prop} {σ : Sg} {c : PySem.Expr} {c' : Ex} {p : Pos} {d : D} {Q : Flow → Shared → Prop} (cc : CX g ns c c') (e1 : L.pk σ c' = some d) (cx : Cx ns env A n) (R : Rl prog w B ns env W O σ s.heap) (fr : Frame ns env W)
    (h : Ends prog w B ns env W O s (some d) σ Q) : wpAny (model prog w) A (exec (.Return (some c) p) env) Q E s := by
  refine wpAny_Return_some (ok.pk cc e1 cx R fun v h1 t1 p1 f1 => ?_)
  exact h _ h1 t1 W (Gr.ofPur p1) (R.pur p1) fr ⟨v, rfl, f1⟩
theorem asrt_ok (ok : Ok prog w P g B L n) {ns : Names} {env : Env} {W O : Addr → Prop} {σ : Sg} {c : PySem.Expr} {c' : Ex} {p : Pos} {Q : Flow → Shared → Prop} (cc : CX g ns c c') (e1 : L.tst σ c' = some true) (cx : Cx ns env A n) (R : Rl prog w B ns env W O σ s.heap) (fr : Frame ns env W)
    (h : Ends prog w B ns env W O s none σ Q) : wpAny (model prog w) A (exec (.Assert c none p) env) Q E s := by
  refine wpAny_Assert_holds (ok.tst cc e1 cx R fun h1 t1 p1 => ⟨rfl, ?_⟩)
  exact h _ h1 t1 W (Gr.ofPur p1) (R.pur p1) fr rfl
/-- x += value, over ints -/
theorem cA_inv {o : Operator} {o' : Op2} {C : Operator → Op2 → Prop} (h : cA o = some o') (h1 : C .Add .add) (h2 : C .Sub .sub) : C o o' := by
  cases o <;> first | (cases h; exact h1) | (cases h; exact h2) | cases h
theorem aug_ok (ok : Ok prog w P g B L n) {ns : Names} {env : Env} {W O : Addr → Prop} {σ : Sg} {x : Str} {q p : Pos} {o : Operator} {o' : Op2} {v : PySem.Expr} {v' : Ex} {i : Nat} {a b : Int} {d : D} {Q : Flow → Shared → Prop} (cn : CX g ns (.Name x q) (.var i)) (ho : cA o = some o') (cv : CX g ns v v') (hs : σ[i]? = some (some (.val (.int a)))) (e1 : L.ev σ v' = some (.int b)) (e2 : bin2 o' (.int a) (.int b) = some d) (cx : Cx ns env A n) (R : Rl prog w B ns env W O σ s.heap) (fr : Frame ns env W)
    (h : Ends prog w B ns env W O s none (σ.set i (some (.val d))) Q) : wpAny (model prog w) A (exec (.AugAssign (.Name x q) o v p) env) Q E s := by
  obtain ⟨z1, z2, hx⟩ := cn.nm
  refine R.atVar hx hs fun fp u f1 f2 f3 at' sv => ?_
  revert at'
  refine sv.ofVal.I (C := fun u => At env s.heap x u → wpAny _ A _ Q E s) rfl fun t at' => ?_
  refine wpAny_AugAssign_Name (ldN_at cx.kind at' z2 (ok.ev cv e1 cx R fun v1 k1 t1 p1 f1 => f1.I (C := fun v1 => wpAny _ A (inplaceOp _ _ v1) _ E _) rfl fun t' => ?_))
  refine cA_inv (C := fun o o' => bin2 o' (.int a) (.int b) = some d → wpAny _ A (inplaceOp o _ _) _ E _) ho (fun e2 => ?_) (fun e2 => ?_) e2
  · cases e2; exact PyProof.Rows.iadd_int (store_val (s := { s with heap := k1, toks := t1 + 1 }) cx (R.pur p1) fr hx (.int _ _) (h.after p1))
  · cases e2; exact PyProof.Rows.isub_int (store_val (s := { s with heap := k1, toks := t1 + 1 }) cx (R.pur p1) fr hx (.int _ _) (h.after p1))
end
end Mine
end
section
/-! Statements: what changes a list or a dict; loops. -/
open PySem PySem.Calls PyProof.Rows PySem.W PySem.Spec
namespace Mine
section
variable {prog : Program} {w : World} {A : Around} {E : Value → Shared → Prop} {s : Shared} {P : Pg} {g : Gl} {B : Heap} {L : Lo} {n : Nat}

/-- the object that a name owns, and what may be done with it -/
theorem own_list {ns : Names} {env : Env} {W O : Addr → Prop} {σ : Sg} {i : Nat} {l : List D} {h : Heap} {x : Str} {C : Prop} (R : Rl prog w B ns env W O σ h) (hx : varIx ns x = some i) (hs : σ[i]? = some (some (.own (.list l))))
    (H : ∀ a k vs, At env h x (.ref a) → W a → h.get? a = some { cls := .type "list", data := .seq vs.toArray k } → FVs prog w h (Mw W O) vs l →
      (∀ h1 h' (vs' : List Value) k' l', Pur h h1 → Heap.SameBut a h1 h' → h'.get? a = some { cls := .type "list", data := .seq vs'.toArray k' } → FVs prog w h1 (Mw W O) vs' l' → Rl prog w B ns env W O (σ.set i (some (.own (.list l')))) h' ∧ Gr W h W h') → C) : C := by
  refine R.own hx hs fun a at' wa sv up => ?_
  generalize hd : PyData.list l = d at sv
  cases sv with
  | list m e f =>
    cases hd
    rename_i k vs
    exact H a k vs at' wa e f fun h1 h' vs' k' l' p same e' f' => up h1 h' _ p same (.list m e' (f'.stp fun b o nb e => ⟨nb, (same.2 b fun q => nb (.inl (q ▸ wa))).trans e⟩))
  | dictI m k e f => cases hd
  | dictS m k e f => cases hd

theorem expr_method {env : Env} {x m : Str} {q ap q1 p : Pos} {e : PySem.Expr} {g : Gl} {ns : Names} {e' : Ex} {a : Addr} {o : Obj} {id : String} {Q : Flow → Shared → Prop} (cx : Cx ns env A n) (ce : CX g ns e e') (hp : (ap.endLine == q1.line) = true) (z1 : (x == ("__debug__" : Str)) = false) (z2 : (x == ("__classdict__" : Str)) = false)
    (at' : At env s.heap x (.ref a)) (ho : s.heap.get? a = some o) (hc : o.cls = .type "list") (hd : o.dict = none) (slot : PySem.Slot "list" m id) (ty : typeOf (.builtin id) = pure (.type "method_descriptor"))
    (h : wpAny (model prog w) A (eval e env) (fun v s₁ => wpAny (model prog w) A (call (.builtin id) [.ref a, v]) (fun r s₂ => r = .none ∧ Q .next s₂) E s₁) E s) : wpAny (model prog w) A (exec (.Expr (.Call (.Attribute (.Name x q) m ap) [e] [] q1) p) env) Q E s := by
  refine wpAny_Expr ?_ ?_ rfl
  · refine wpAny_Call_method rfl ?_ hp F.plainAttrs_list slot ty (ld_at cx.kind at' ?_ z1 z2)
    · rw [ce.star [] env]; rfl
    refine ⟨⟨o, ho, hc⟩, fun b hb => by cases hb; exact ⟨o, ho, hd⟩, ?_⟩
    rw [ce.star [] env]
    refine callWith_builtin rfl (evalArgs_plain (spliced_cons (wpAny_mono h (fun v s₁ h₁ => spliced_nil (wpAny_mono h₁ (fun r s₂ h₂ => ?_) fun _ _ x => x)) fun _ _ x => x)))
    obtain ⟨rfl, hq⟩ := h₂
    exact hq
  · unfold interactive
    rw [cx.kind]; rfl

/-- x.append(e) -/
theorem app_ok (ok : Ok prog w P g B L n) {ns : Names} {env : Env} {W O : Addr → Prop} {σ : Sg} {x : Str} {q ap q1 p : Pos} {e : PySem.Expr} {e' : Ex} {i : Nat} {l : List D} {d : D} {Q : Flow → Shared → Prop} (hp : (ap.endLine == q1.line) = true) (cn : CX g ns (.Name x q) (.var i)) (ce : CX g ns e e') (hs : σ[i]? = some (some (.own (.list l)))) (hl : l.length ≤ 10000) (e1 : L.ev σ e' = some d) (cx : Cx ns env A n) (R : Rl prog w B ns env W O σ s.heap) (fr : Frame ns env W)
    (h : Ends prog w B ns env W O s none (σ.set i (some (.own (.list (l ++ [d]))))) Q) : wpAny (model prog w) A (exec (.Expr (.Call (.Attribute (.Name x q) ("append" : Str) ap) [e] [] q1) p) env) Q E s := by
  obtain ⟨z1, z2, hx⟩ := cn.nm
  refine own_list R hx hs fun a k vs at' wa ho f up => ?_
  refine expr_method cx ce hp z1 z2 at' ho rfl rfl F.slot_list_append F.type_list_append (ok.ev ce e1 cx R fun v h1 t1 p1 f1 => ?_)
  refine append_at (s := { s with heap := h1, toks := t1 }) (p1 _ _ ho) (fun h2 same e2 => ⟨rfl, ?_⟩) (by have := f.length; simp; rw [sizeLine_eq]; omega)
  obtain ⟨R', gr⟩ := up h1 h2 (vs ++ [v]) (k + 1) (l ++ [d]) p1 same (by rw [e2]; simp) ((f.pur p1).append (.cons f1 .nil))
  exact h .next h2 t1 W gr R' fr rfl

theorem extendW (l : Addr) (items : Array Value) (n : Nat) (b : Addr) (items2 : Array Value) (n2 : Nat) (dd2 : Option Addr) (sl2 : Array (Option Value)) (hc0 : ¬(!items.isEmpty && Builtin.List.listTooLong (items.size + items2.size)) = true) (hc1 : items.size ≤ sizeLine) (hs2 : items.size + items2.size ≤ sizeLine + 1) :
    Meets (Builtin.«list.extend» ⟨[.ref l, .ref b], []⟩) (fun _ R s => s.heap.get? l = some { cls := .type "list", dict := none, data := .seq items n, slots := #[] } ∧ s.heap.get? b = some { cls := .type "list", dict := dd2, data := .seq items2 n2, slots := sl2 } ∧ R (.ok (.ret Value.none)) { s with heap := s.heap.update l (Obj.mapSeq fun x => x ++ items2), toks := s.toks }) :=
  .of_wp fun prog w A R s h => by
    obtain ⟨hp, g, d, tk, os⟩ := s
    obtain ⟨hl, hb, h⟩ := h
    have f1 := AutoSeq1.idx_int
    have f2 := AutoSeq1.sub_tuple_tuple
    have f3 := AutoSeq1.sub_list_list
    have f4 := AutoSeq1.sub_tuple_list
    have f5 := AutoSeq1.sub_list_tuple
    have hz' : (items ++ items2).size ≤ sizeLine + 1 := by rw [Array.size_append]; exact hs2
    wp_walk using (wpAny_updateSeq hl rfl (hz := hc1) (_hz' := hz')), wpAny_loadPart' hl, wpAny_loadPart' hb
    exact ⟨_, rfl, h⟩
/-- x.extend(e) -/
theorem ext_ok (ok : Ok prog w P g B L n) {ns : Names} {env : Env} {W O : Addr → Prop} {σ : Sg} {x : Str} {q ap q1 p : Pos} {e : PySem.Expr} {e' : Ex} {i : Nat} {l l2 : List D} {Q : Flow → Shared → Prop} (hp : (ap.endLine == q1.line) = true) (cn : CX g ns (.Name x q) (.var i)) (ce : CX g ns e e') (hs : σ[i]? = some (some (.own (.list l)))) (hl : l.length + l2.length ≤ 10000) (e1 : L.ev σ e' = some (.list l2)) (cx : Cx ns env A n) (R : Rl prog w B ns env W O σ s.heap) (fr : Frame ns env W)
    (h : Ends prog w B ns env W O s none (σ.set i (some (.own (.list (l ++ l2))))) Q) : wpAny (model prog w) A (exec (.Expr (.Call (.Attribute (.Name x q) ("extend" : Str) ap) [e] [] q1) p) env) Q E s := by
  obtain ⟨z1, z2, hx⟩ := cn.nm
  refine own_list R hx hs fun a k vs at' wa ho f up => ?_
  refine expr_method cx ce hp z1 z2 at' ho rfl rfl F.slot_list_extend F.type_list_extend (ok.ev ce e1 cx R fun v h1 t1 p1 f1 => ?_)
  refine f1.L (C := fun v => wpAny _ A (call _ [_, v]) _ E _) rfl fun b items2 il f2 => ?_
  obtain ⟨⟨cls, dd2, data, sl2⟩, hb, hc, n2, hd⟩ := il
  simp only at hc hd
  subst hc hd
  have l1 := f.length
  have l2' := f2.length
  simp only [Array.length_toList] at l2'
  refine call_meets (s := { s with heap := h1, toks := t1 }) F.slot_list_extend ⟨_, p1 _ _ ho, rfl⟩ F.entry_list_extend (F.args_list_extend_2 _ _) (extendW a vs.toArray k b items2 n2 dd2 sl2 ?_ ?_ ?_) ⟨p1 _ _ ho, hb, rfl, ?_⟩
  · have : ¬ (Builtin.List.listTooLong (vs.toArray.size + items2.size)) = true := by
      unfold Builtin.List.listTooLong
      rw [sizeLine_eq]
      simp
      omega
    simp only [Bool.and_eq_true, not_and]
    exact fun _ => this
  · rw [sizeLine_eq]; simp; omega
  · rw [sizeLine_eq]; simp; omega
  · have hx : vs.toArray ++ items2 = (vs ++ items2.toList).toArray := by cases items2 with | mk l => simp
    obtain ⟨k', hk'⟩ : ∃ k', Obj.mapSeq (fun x => x ++ items2) { cls := .type "list", data := .seq vs.toArray k } = { cls := .type "list", data := .seq (vs.toArray ++ items2) k' } := ⟨_, rfl⟩
    rw [hx] at hk'
    obtain ⟨R', gr⟩ := up h1 (h1.update a (Obj.mapSeq fun x => x ++ items2)) (vs ++ items2.toList) k' (l ++ l2) p1 (Heap.SameBut.update ..) (by rw [Heap.get?_update_self _ (p1 _ _ ho) (by rw [hk']; rfl), hk']) ((f.pur p1).append f2)
    exact h .next _ t1 W gr R' fr rfl

/-- del x[0], del x[-1] -/
theorem del_ok {ns : Names} {env : Env} {W O : Addr → Prop} {σ : Sg} {x : Str} {q q1 p : Pos} {k : PySem.Expr} {i : Nat} {last : Bool} {d : D} {l : List D} {Q : Flow → Shared → Prop} (cn : CX g ns (.Name x q) (.var i)) (hk : cLast k = some last) (hs : σ[i]? = some (some (.own (.list (d :: l))))) (hl : l.length ≤ 10000) (cx : Cx ns env A n) (R : Rl prog w B ns env W O σ s.heap) (fr : Frame ns env W)
    (h : Ends prog w B ns env W O s none (σ.set i (some (.own (.list (if last then (d :: l).dropLast else l))))) Q) : wpAny (model prog w) A (exec (.Delete [.Subscript (.Name x q) k q1] p) env) Q E s := by
  obtain ⟨z1, z2, hx⟩ := cn.nm
  refine own_list R hx hs fun a m vs at' wa ho f up => ?_
  cases f with | cons f1 f2 =>
  rename_i v vs
  have hlen := f2.length
  have fin : ∀ (j : Int) (u : Tok) (tk : Nat) (kk : Nat), Builtin.List.listFitsIndex j = true → seqIndex? j (v :: vs).toArray.size = some kk → FVs prog w s.heap (Mw W O) ((v :: vs).eraseIdx kk) (if last then (d :: l).dropLast else l) →
      wpAny (model prog w) A (delItem (.ref a) (.int j u)) (fun _ s₁ => Q .next s₁) E { s with toks := tk } := fun j u tk kk hj hkk ff =>
    delItem_at (s := { s with toks := tk }) ho hj hkk (fun h' same e => by
      obtain ⟨R', gr⟩ := up s.heap h' _ _ _ (Pur.refl _) same e ff
      exact h .next h' tk W gr R' fr rfl) (by simp; rw [sizeLine_eq]; omega)
  refine wpAny_Delete (wpAny_deleteEach_cons (wpAny_delete_Subscript (ld_at cx.kind at' ?_ z1 z2)))
  refine ifE hk (fun hc e => ?_) fun hk => ifE hk (fun hc e => ?_) fun e => nomatch e
  · subst e
    refine onConst_inv (C := fun k => wpAny _ A (eval k env) _ E _) hc fun c a0 p0 hk => eqR (C := fun c => wpAny _ A (eval (.Constant c a0 p0) env) _ E _) hk ?_
    refine wpAny_Constant_int (wpAny_mono (fin 0 _ _ 0 (by decide) (by simp [seqIndex?]) (by simpa using f2)) (fun _ s₁ hq => wpAny_deleteEach_nil hq) fun _ _ x => x)
  · subst e
    refine onUn_inv (C := fun k => wpAny _ A (eval k env) _ E _) hc fun o k2 p0 hk => eqR (C := fun o => wpAny _ A (eval (.UnaryOp o k2 p0) env) _ E _) (a1 hk) <| onConst_inv (C := fun k => wpAny _ A (eval (.UnaryOp .USub k p0) env) _ E _) (a2 hk) fun c a0 p1 hk => eqR (C := fun c => wpAny _ A (eval (.UnaryOp .USub (.Constant c a0 p1) p0) env) _ E _) hk ?_
    refine wpAny_UnaryOp (wpAny_Constant_int (PyProof.Rows.neg_int (wpAny_mono (fin (-1) _ _ vs.length (by decide) ?_ ?_) (fun _ s₁ hq => wpAny_deleteEach_nil hq) fun _ _ x => x)))
    · have h1 : (-1 : Int) < 0 := by decide
      simp only [seqIndex?, List.size_toArray, List.length_cons, h1, if_true]
      have h2 : (-1 : Int) + ((vs.length + 1 : Nat) : Int) = vs.length := by push_cast; omega
      rw [h2]
      simp
      omega
    · have e : (v :: vs).eraseIdx vs.length = (v :: vs).dropLast := by
        rw [List.dropLast_eq_take, List.eraseIdx_eq_take_drop_succ]
        simp
      rw [e, List.dropLast_eq_take, List.dropLast_eq_take]
      simp only [if_true]
      have : (v :: vs).length = (d :: l).length := by simp [hlen]
      rw [this]
      exact (FVs.cons f1 f2).take _

theorem put_ok {K : Type} [DecidableEq K] {enc : K → D} (henc : ∀ a b, keyEq (enc a) (enc b) = some (decide (a = b))) {h : Heap} {M : Addr → Prop} {k : K} {v : Value} {dv : D} (fv : FV prog w h M v dv) : ∀ {kvs : List (K × Value)} {ds : List D} {l' : List (D × D)}, (kvs.map (·.1)).Nodup → FVs prog w h M (kvs.map (·.2)) ds → dPut (enc k) dv ((kvs.map fun p => enc p.1).zip ds) = some l' →
    ∃ ds', l' = ((stored kvs k v).map fun p => enc p.1).zip ds' ∧ FVs prog w h M ((stored kvs k v).map (·.2)) ds'
  | [], ds, l', nd, f, e => by
    cases f
    cases e
    exact ⟨[dv], rfl, .cons fv .nil⟩
  | (k', v') :: r, ds, l', nd, f, e => by
    cases f with | cons f1 f2 =>
    rename_i d ds
    have nd' := List.nodup_cons.mp (show (k' :: r.map (·.1)).Nodup from nd)
    simp only [List.map_cons, List.zip_cons_cons, dPut, henc, Option.bind_eq_bind, Option.bind_some] at e
    by_cases hk : k = k'
    · subst hk
      simp only [decide_true, if_true] at e
      cases e
      have hst : stored ((k, v') :: r) k v = (k, v) :: r := by
        unfold stored
        have hany : ((k, v') :: r).any (fun kv => decide (kv.1 = k)) = true := by simp
        rw [if_pos hany, List.map_cons, if_pos rfl]
        congr 1
        refine (List.map_congr_left fun kv hkv => ?_).trans (List.map_id r)
        have : kv.1 ≠ k := fun q => nd'.1 (List.mem_map.mpr ⟨kv, hkv, q⟩)
        simp [this]
      rw [hst]
      exact ⟨dv :: ds, rfl, .cons fv f2⟩
    · simp only [hk, decide_false, Bool.false_eq_true, if_false] at e
      obtain ⟨l'', e1, e2⟩ := bind_some e
      cases e2
      obtain ⟨ds', h1, h2⟩ := put_ok henc fv nd'.2 f2 e1
      have hst : stored ((k', v') :: r) k v = (k', v') :: stored r k v := by
        unfold stored
        have hk' : ¬ k' = k := fun q => hk q.symm
        simp only [List.any_cons, hk', decide_false, Bool.false_or]
        split
        · simp [hk']
        · rfl
      rw [hst]
      exact ⟨d :: ds', by rw [h1]; rfl, .cons f1 h2⟩

/-- x[k] = v -/
theorem seti_ok (ok : Ok prog w P g B L n) {ns : Names} {env : Env} {W O : Addr → Prop} {σ : Sg} {x : Str} {q q1 p : Pos} {k v : PySem.Expr} {k' v' : Ex} {i : Nat} {l l' : List (D × D)} {dk dv : D} {Q : Flow → Shared → Prop} (hnc : notComp v = true) (cn : CX g ns (.Name x q) (.var i)) (ck : CX g ns k k') (cv : CX g ns v v') (e1 : L.ev σ v' = some dv) (e2 : L.ev σ k' = some dk) (hs : σ[i]? = some (some (.own (.dict l)))) (hl : l.length ≤ 10000) (hko : keyOk dk = true) (hput : dPut dk dv l = some l') (cx : Cx ns env A n) (R : Rl prog w B ns env W O σ s.heap) (fr : Frame ns env W)
    (h : Ends prog w B ns env W O s none (σ.set i (some (.own (.dict l')))) Q) : wpAny (model prog w) A (exec (.Assign [.Subscript (.Name x q) k q1] v p) env) Q E s := by
  obtain ⟨z1, z2, hx⟩ := cn.nm
  refine R.own hx hs fun a at' wa sv up => ?_
  refine wpAny_Assign_Subscript (ok.ev cv e1 cx R fun vv h1 t1 p1 f1 => ld_at (s := { s with heap := h1, toks := t1 }) cx.kind (at'.pur p1) (ok.ev ck e2 cx (R.pur p1) fun kv h2 t2 p2 f2 => ?_) z1 z2) (swaps_no cv hnc _ _ _)
  have p12 := p1.trans p2
  have fin : ∀ {K : Type} [DecidableEq K] {knd : KeyKind prog w K} {enc : K → D} {kvs : List (K × Value)} {ds : List D} {j : K}, (∀ a b, keyEq (enc a) (enc b) = some (decide (a = b))) → knd.is j kv = true → enc j = dk → s.heap.DictOf knd a kvs → FVs prog w s.heap (Mw W O) (kvs.map (·.2)) ds → l = (kvs.map fun p => enc p.1).zip ds →
      (∀ {h3 : Heap} {kvs' : List (K × Value)} {ds' : List D}, h3.DictOf knd a kvs' → FVs prog w h3 (Mw W O) (kvs'.map (·.2)) ds' → l' = (kvs'.map fun p => enc p.1).zip ds' → SV prog w B h3 (Mw W O) (.own (.dict l')) (.ref a) [a]) →
      wpAny (model prog w) A (setItem (.ref a) kv vv) (fun _ => Q .next) E { s with heap := h2, toks := t2 } := fun {K _ knd enc kvs ds j} henc hk hj hdo f hz mk => by
    subst hj hz
    obtain ⟨o, es, ep, ho, hc', hd', hk', hp', hn'⟩ := id hdo
    obtain ⟨ds', q1, q2⟩ := put_ok henc (f1.pur p2) hn' (f.pur p12) hput
    have hlen : kvs.length ≤ 10000 := by
      have := f.length
      simp only [List.length_map] at this
      rw [List.length_zip, List.length_map, ← this, Nat.min_self] at hl
      exact hl
    refine wpAny_setItem_pairs (s := { s with heap := h2, toks := t2 }) hk (hdo.keep p12) (fun h3 hd3 same => ?_) (by rw [sizeLine_eq]; omega)
    obtain ⟨R', gr⟩ := up h2 h3 (.dict l') p12 same (mk hd3 (q2.stp fun b o nb e => ⟨nb, (same.2 b fun q => nb (.inl (q ▸ wa))).trans e⟩) q1)
    exact h .next h3 _ W gr R' fr rfl
  have intK : ∀ {kvs : List (Int × Value)} {ds : List D}, a ≠ sysModules → s.heap.DictOf (intKind prog w) a kvs → FVs prog w s.heap (Mw W O) (kvs.map (·.2)) ds → l = (kvs.map fun p => PyData.int p.1).zip ds → ∀ j, dk = .int j → Mw W O a →
      wpAny (model prog w) A (setItem (.ref a) kv vv) (fun _ => Q .next) E { s with heap := h2, toks := t2 } := fun {kvs ds} hm hdo f hz j hj ma =>
    fin encI (f2.I (C := fun kv => (intKind prog w).is j kv = true) (by rw [hj]; rfl) fun t => intKind_is prog w _ _) hj.symm hdo f hz fun hd3 f3 q1 => q1 ▸ .dictI ma hm hd3 f3
  have strK : ∀ {kvs : List (Str × Value)} {ds : List D}, a ≠ sysModules → s.heap.DictOf (strKind prog w) a kvs → FVs prog w s.heap (Mw W O) (kvs.map (·.2)) ds → l = (kvs.map fun p => PyData.str p.1).zip ds → ∀ j, dk = .str j → Mw W O a →
      wpAny (model prog w) A (setItem (.ref a) kv vv) (fun _ => Q .next) E { s with heap := h2, toks := t2 } := fun {kvs ds} hm hdo f hz j hj ma =>
    fin encS (f2.S (C := fun kv => (strKind prog w).is j kv = true) (by rw [hj]; rfl) fun t => strKind_is prog w _ _) hj.symm hdo f hz fun hd3 f3 q1 => q1 ▸ .dictS ma hm hd3 f3
  have hkk : (∃ j, dk = .int j) ∨ ∃ j, dk = .str j := by cases dk <;> first | exact .inl ⟨_, rfl⟩ | exact .inr ⟨_, rfl⟩ | cases hko
  generalize hd : PyData.dict l = dd at sv
  cases sv with
  | list m e f => cases hd
  | dictI m hm hdo f =>
    cases hd
    rename_i kvs ds
    rcases hkk with ⟨j, hj⟩ | ⟨j, hj⟩
    · exact intK hm hdo f rfl j hj m
    · cases kvs with
      | nil => cases f; exact strK (kvs := []) (ds := []) hm (dictOf_nil hdo) .nil rfl j hj m
      | cons p kvs => cases f with | cons f1 f2 => subst hj; simp [dPut, keyEq] at hput
  | dictS m hm hdo f =>
    cases hd
    rename_i kvs ds
    rcases hkk with ⟨j, hj⟩ | ⟨j, hj⟩
    · cases kvs with
      | nil => cases f; exact intK (kvs := []) (ds := []) hm (dictOf_nil hdo) .nil rfl j hj m
      | cons p kvs => cases f with | cons f1 f2 => subst hj; simp [dPut, keyEq] at hput
    · exact strK hm hdo f rfl j hj m
end
end Mine
end
section
/-! Statements: two names at once; loops; rows of statements. -/
open PySem PySem.Calls PyProof.Rows PySem.W PySem.Spec
namespace Mine
section
variable {prog : Program} {w : World} {A : Around} {E : Value → Shared → Prop} {s : Shared} {P : Pg} {g : Gl} {B : Heap} {L : Lo} {n : Nat}

noncomputable def isStar : PySem.Expr → Bool
  | .Starred .. => true
  | _ => false
theorem CX.noStar {g : Gl} {ns : Names} {pe : PySem.Expr} {e : Ex} (h : CX g ns pe e) : isStar pe = false := by induction h.inv <;> rfl

noncomputable def nmF (env : Env) (l : Nat) : PySem.Expr → Option Str
  | .Name id pos => if (env.kindOf id == some .local && pos.line == l) = true then some id else none
  | _ => none
theorem two_form (env : Env) (x y : Str) (q1 q2 q3 q4 : Pos) (k1 k2 : Nat) (a b : PySem.Expr) : swappedStores [.Tuple [.Name x q1, .Name y q2] k1 q3] (.Tuple [a, b] k2 q4) env =
    (if (env.blockKind != .function) = true then pure none else if (isStar a || (isStar b || false)) = true then pure none else
      let names := List.filterMap (nmF env q1.line) [.Name x q1, .Name y q2]
      if (names.length != 2 || names.eraseDups.length != names.length) = true then pure none else if [a, b].all (foldedForSure 8) = true then pure none else
        if [a, b].all (constantsAlone 8) = true then (do unsupported "assign.tuple-of-constant-expressions:order-of-the-stores"; pure (some names)) else pure (some names)) := by
  rfl
theorem two_swapped {ns : Names} {env : Env} {x y : Str} {q1 q2 q3 q4 : Pos} {a b : PySem.Expr} {a' b' : Ex} {k1 k2 : Nat} (cx : Cx ns env A n) (h : okTwo ns x q1 y q2 a b = true) (ca : CX g ns a a') (cb : CX g ns b b') :
    swappedStores [.Tuple [.Name x q1, .Name y q2] k1 q3] (.Tuple [a, b] k2 q4) env = pure (some [x, y]) := by
  unfold okTwo at h
  simp only [Bool.and_eq_true, beq_iff_eq, bne_iff_ne, ne_eq, Bool.not_eq_true', Bool.and_eq_false_iff] at h
  obtain ⟨⟨⟨⟨⟨h1, h2⟩, h3⟩, h4⟩, h5⟩, h6⟩ := h
  have kx : env.kindOf x = some .local := by unfold Env.kindOf; rw [cx.names]; exact h1
  have ky : env.kindOf y = some .local := by unfold Env.kindOf; rw [cx.names]; exact h2
  have bk : env.blockKind = .function := by unfold Env.blockKind; rw [cx.kind]; rfl
  have sa := ca.noStar
  have sb := cb.noStar
  have h5' : [a, b].all (foldedForSure 8) = false := by
    simp only [List.all_cons, List.all_nil, Bool.and_true]
    rcases h5 with h | h <;> simp [h]
  have h6' : [a, b].all (constantsAlone 8) = false := by
    simp only [List.all_cons, List.all_nil, Bool.and_true]
    rcases h6 with h | h <;> simp [h]
  have hne : ([x, y] : List Str).eraseDups.length = 2 := by
    have : (y == x) = false := by simpa using fun q => h4 q.symm
    simp [List.eraseDups_cons, this]
  have hnames : List.filterMap (nmF env q1.line) [.Name x q1, .Name y q2] = [x, y] := by
    simp [nmF, kx, ky, h3]
  rw [two_form, bk, sa, sb]
  dsimp only
  rw [hnames, h5', h6', hne]
  rfl

/-- x, y = a, b -/
theorem asg2_ok (ok : Ok prog w P g B L n) {ns : Names} {env : Env} {W O : Addr → Prop} {σ : Sg} {x y : Str} {q1 q2 q3 q4 p : Pos} {k1 k2 : Nat} {a b : PySem.Expr} {a' b' : Ex} {i j : Nat} {d e : D} {Q : Flow → Shared → Prop} (hok : okTwo ns x q1 y q2 a b = true) (hx : varIx ns x = some i) (hy : varIx ns y = some j) (ca : CX g ns a a') (cb : CX g ns b b') (e1 : L.ev σ a' = some d) (e2 : L.ev σ b' = some e) (cx : Cx ns env A n) (R : Rl prog w B ns env W O σ s.heap) (fr : Frame ns env W)
    (h : Ends prog w B ns env W O s none ((σ.set i (some (.val d))).set j (some (.val e))) Q) : wpAny (model prog w) A (exec (.Assign [.Tuple [.Name x q1, .Name y q2] k1 q3] (.Tuple [a, b] k2 q4) p) env) Q E s := by
  refine Assign_Tuple_swapped (names := [x, y]) ?_ rfl (two_swapped cx hok ca cb)
  refine wpAny_Tuple (wpAny_items_cons (ok.ev ca e1 cx R fun v1 h1 t1 p1 f1 => wpAny_items_cons (ok.ev cb e2 cx (R.pur p1) fun v2 h2 t2 p2 f2 => wpAny_items_nil ?_) (cb.star [] env)) (ca.star [b] env))
  refine ⟨by rw [sizeLine_eq]; simp, ?_⟩
  have ne : i ≠ j := fun q => by
    subst q
    have z1 := varIx_at hx
    have z2 := varIx_at hy
    rw [z1] at z2
    unfold okTwo at hok
    simp only [Bool.and_eq_true, bne_iff_ne, ne_eq] at hok
    exact hok.1.1.2 (Option.some.inj z2)
  refine unpackItems_tuple (items := #[v1, v2]) (s := { s with heap := h2.push { cls := .type "tuple", data := .seq [v1, v2].toArray }, toks := t2 }) cx.handled ⟨_, Heap.get?_push_size _ rfl, rfl, _, rfl⟩ fun h3 ext => ?_
  have p3 : Pur (h2.push { cls := .type "tuple", data := .seq [v1, v2].toArray }) h3 := fun b o e => ext b o (Nat.ne_of_lt (Heap.lt_size e)) e
  have p03 : Pur h2 h3 := (Pur.push _ _).trans p3
  have pAll : Pur s.heap h3 := p1.trans (p2.trans p03)
  show wpAny _ A (do holding [v1] (bindName env y v2); assignInOrder [fun n => bindName env x n] [v1]) _ _ _
  refine wpAny_bind (wpAny_holding (wpAny_bindName ?_))
  refine store_val2 (s := { s with heap := h3, toks := t2 }) cx (R.pur pAll) fr hy (f2.pur p03) fun h4 tk4 g4 R4 => ?_
  show wpAny _ A (do holding [] (bindName env x v1); assignInOrder [] []) _ _ _
  refine wpAny_bind (wpAny_holding (wpAny_bindName ?_))
  refine store_val2 (s := { s with heap := h4, toks := tk4 }) cx R4 fr hx ((f1.pur (p2.trans p03)).stp fun b o nb e => ⟨nb, (g4.stp b o (fun q => nb (.inl q)) e).2⟩) fun h5 tk5 g5 R5 => ?_
  refine wpAny_pure ?_
  refine h .next h5 tk5 W ((Gr.ofPur pAll).trans (g4.trans g5)) ?_ fr rfl
  rw [List.set_comm _ _ ne]
  exact R5

/-- while c: body -/
theorem while_ok (ok : Ok prog w P g B L n) {ns : Names} {env : Env} {O : Addr → Prop} {c : PySem.Expr} {c' : Ex} {body : List PySem.Stmt} {body' : List S} {p : Pos} {k : Nat} {W : Addr → Prop} {σ : Sg} {r : Option D × Sg} {Q : Flow → Shared → Prop} (cc : CX g ns c c') (cb : SXs g ns body body') (he : whileL L c' body' k σ = some r) (cx : Cx ns env A n) (R : Rl prog w B ns env W O σ s.heap) (fr : Frame ns env W)
    (h : Ends prog w B ns env W O s r.1 r.2 Q) : wpAny (model prog w) A (exec (.While c body [] p) env) Q E s := by
  refine wpAny_While ?_
  refine codeAny_whileLoop (fun k s' => ∃ h tk σi W', s' = { s with heap := h, toks := tk } ∧ whileL L c' body' k σi = some r ∧ Rl prog w B ns env W' O σi h ∧ Frame ns env W' ∧ Gr W s.heap W' h) ?_ k ⟨s.heap, s.toks, σ, W, rfl, he, R, fr, Gr.refl _ _⟩
  rintro k s' ⟨h1, tk, σi, W1, rfl, he, R1, fr1, g1⟩
  cases k with
  | zero => cases he
  | succ k =>
    obtain ⟨b, e1, he⟩ := bind_some (show (L.tst σi c' >>= fun b => _) = _ from he)
    refine ok.tst cc e1 cx R1 fun h2 t2 p2 => ?_
    cases b
    · cases he
      exact wpAny_execs_nil (h .next h2 t2 W1 (g1.trans (Gr.ofPur p2)) (R1.pur p2) fr1 rfl)
    · obtain ⟨⟨rr, σ2⟩, e2, he⟩ := bind_some (show (L.run σi body' >>= fun x => _) = _ from he)
      refine ok.run' cb e2 cx (R1.pur p2) fr1 fun f h3 t3 W3 g3 R3 fr3 hr => ?_
      have gAll := g1.trans ((Gr.ofPur p2).trans g3)
      cases rr with
      | some d =>
        cases he
        obtain ⟨v, rfl, ov⟩ := hr
        exact h _ h3 t3 W3 gAll R3 fr3 ⟨v, rfl, ov⟩
      | none =>
        cases hr
        exact ⟨k, Nat.lt_succ_self _, h3, t3, σ2, W3, rfl, he, R3, fr3, gAll⟩

/-- for target in it: body -/
theorem for_core (ok : Ok prog w P g B L n) {ns : Names} {env : Env} {W O : Addr → Prop} {σ : Sg} {target it : PySem.Expr} {it' : Ex} {body : List PySem.Stmt} {body' : List S} {p : Pos} {src : List D} {r : Option D × Sg} {Q : Flow → Shared → Prop} (ci : CX g ns it it') (cb : SXs g ns body body') (e1 : L.it σ it' = some src)
    (fl : Sg → List D → Option (Option D × Sg)) (set : Sg → D → Sg) (good : D → Prop) (hnil : ∀ σ, fl σ [] = some (none, σ)) (hcons : ∀ σ d rest, fl σ (d :: rest) = some r → good d ∧ ∃ rr σ', L.run (set σ d) body' = some (rr, σ') ∧ (match rr with | some v => r = (some v, σ') | none => fl σ' rest = some r))
    (he : fl (frz σ it') src = some r) (cx : Cx ns env A n) (R : Rl prog w B ns env W O σ s.heap) (fr : Frame ns env W)
    (hstore : ∀ {s' : Shared} {E' : Value → Shared → Prop} {W' O' : Addr → Prop} {σ' : Sg} {I : Addr} {v : Value} {d : D} {Q' : Unit → Shared → Prop}, (∃ o, s'.heap.get? I = some o ∧ PlainIt o) → good d → Rl prog w B ns env W' O' σ' s'.heap → Frame ns env W' → FV prog w s'.heap (Mw W' O') v d →
      (∀ h' tk, Gr W' s'.heap W' h' → Rl prog w B ns env W' O' (set σ' d) h' → Q' () { s' with heap := h', toks := tk }) → wpAny (model prog w) A (letOwnedTupleGo target (.ref I) v) (fun _ s₁ => wpAny (model prog w) A (assign target env v) Q' E' s₁) E' s')
    (h : Ends prog w B ns env W O s r.1 r.2 Q) : wpAny (model prog w) A (exec (.For target it body [] p) env) Q E s := by
  refine wpAny_For (ok.it ci e1 cx R fun I h1 t1 fp Pi St p1 itok => ?_) (ci.noFold env)
  obtain ⟨W1, w1, w2, R1, w4⟩ := itok.frz
  have hW := itok.walks A cx.handled
  have newI : ∀ {b o}, s.heap.get? b = some o → b ≠ I := fun {b o} e q => by rw [q, itok.newI] at e; cases e
  have cellI : ∀ z, env.cells.lookup z ≠ some I := fun z q => by obtain ⟨_, _, v, o, ho, _⟩ := R.cell z I q; exact newI ho rfl
  have oI : (fun b => O b ∨ b = I) I := .inr rfl
  have g1 : Gr W s.heap W1 h1 := ⟨fun b o nb e => ⟨fun q => nb (w1 b q), p1 b o e⟩, fun a q => .inl (w1 a q), fun a o e => ⟨o, p1 a o e⟩⟩
  have hO : ∀ b, ((O b ∨ b = I) ∧ b ≠ I) ↔ O b := fun b => ⟨fun q => q.1.elim id fun z => absurd z q.2, fun q => ⟨.inl q, by obtain ⟨o, e⟩ := R.live b (.inr q); exact newI e⟩⟩
  -- what is kept from turn to turn
  refine codeAny_forLoop_any (fun k s' => ∃ i h tk σi W', s' = { s with heap := h, toks := tk } ∧ k = src.length + 1 - i ∧ i ≤ src.length ∧ St i h ∧ fl σi (src.drop i) = some r ∧ Rl prog w B ns env W' (fun b => O b ∨ b = I) σi h ∧ Frame ns env W' ∧
      Gr W s.heap W' h ∧ (∀ b ∈ fp, b ≠ I → ¬ W' b ∧ ∃ o, h1.get? b = some o ∧ h.get? b = some o) ∧ (∀ b o, ¬ Mw W1 (fun b => O b ∨ b = I) b → h1.get? b = some o → ¬ Mw W' (fun b => O b ∨ b = I) b ∧ h.get? b = some o)) ?_ (src.length + 1)
    ⟨0, h1, t1, frz σ it', W1, rfl, rfl, Nat.zero_le _, itok.st0, he, R1, (fun x hx => w2 x (fr x hx)), g1, (fun b hb nb => ⟨fun q => w4 b hb nb (.inl q), let ⟨o, e⟩ := itok.fpl b hb; ⟨o, e, e⟩⟩), fun b o nb e => ⟨nb, e⟩⟩
  rintro k s' ⟨i, h2, t2, σi, W2, rfl, rfl, hi, hst, hfl, R2, fr2, g2, hfp, hk⟩
  rcases Nat.lt_or_ge i src.length with hlt | hge
  · refine hW.item i _ _ _ hlt hst fun v h3 t3 hPv hst3 hk3 => ?_
    have hk3' : ∀ b o, b ≠ I → h2.get? b = some o → h3.get? b = some o := fun b o nb e => hk3 b o (by simpa using nb) e
    have R3 := R2.changeO oI cellI (itok.liveI _ _ hst3) hk3'
    have hdi : src[i]? = some src[i] := List.getElem?_eq_getElem hlt
    have hdrop : src.drop i = src[i] :: src.drop (i + 1) := List.drop_eq_getElem_cons hlt
    generalize src[i] = d at hdi hdrop
    rw [hdrop] at hfl
    obtain ⟨hg, rr, σ4, e4, e5⟩ := hcons σi d _ hfl
    have g3 : Gr W s.heap W2 h3 := ⟨fun b o nb e => ⟨(g2.stp b o nb e).1, hk3' b o (newI e) (g2.stp b o nb e).2⟩, g2.new, fun a o e => by
      obtain ⟨o', e'⟩ := g2.kp a o e
      exact ⟨o', hk3' a o' (newI e) e'⟩⟩
    have fv : FV prog w h3 (Mw W2 fun b => O b ∨ b = I) v d := by
      have f0 := itok.items i v d hPv hdi
      have f1 : FV prog w h1 (Mw W1 fun b => O b ∨ b = I) v d := f0.stp fun b o nb e => ⟨fun q => nb (q.elim (fun q => .inl (w1 b q)) .inr), e⟩
      have f2 := f1.stp (h' := h2) (M' := Mw W2 fun b => O b ∨ b = I) hk
      exact f2.stp fun b o nb e => ⟨nb, hk3' b o (fun q => nb (.inr (.inr q))) e⟩
    refine hstore (s' := { s with heap := h3, toks := t3 }) (let ⟨o, e⟩ := itok.liveI _ _ hst3; ⟨o, e, itok.pl _ _ o hst3 e⟩) hg R3 fr2 fv fun h4 t4 g4 R4 => ?_
    have keep34 : ∀ b o, ¬ W2 b → h3.get? b = some o → h4.get? b = some o := fun b o nb e => (g4.stp b o nb e).2
    refine ok.run' cb e4 cx R4 fr2 fun f h5 t5 W5 g5 R5 fr5 hr => ?_
    have nI2 : ¬ W2 I := fun q => R2.disj I q oI
    have nI5 : ¬ W5 I := fun q => R5.disj I q oI
    have step : ∀ b o, b ≠ I → ¬ W2 b → h2.get? b = some o → ¬ W5 b ∧ h5.get? b = some o := fun b o nb nw e =>
      g5.stp b o nw (keep34 b o nw (hk3' b o nb e))
    have g35 : Gr W s.heap W5 h5 := g3.trans (g4.trans g5)
    cases rr with
    | some dv =>
      cases e5
      obtain ⟨v', rfl, ov⟩ := hr
      have R6 := (R5.dropO oI cellI (h' := h5) fun _ _ _ e => e).sameO hO
      have st : Stp (Mw W5 fun b => O b ∨ b = I) h5 (Mw W5 O) h5 := fun b o nb e => ⟨fun q => nb (q.elim .inl fun q => .inr (.inl q)), e⟩
      refine h _ h5 t5 W5 g35 R6 fr5 ⟨v', rfl, ?_⟩
      obtain ⟨z1, z2⟩ := ov
      refine ⟨?_, z2.elim (fun q => .inl (q.stp st)) .inr⟩
      cases z1 with
      | of x => exact .of (x.stp st)
      | list x f => exact .list x (f.stp st)
      | dictI m x f => exact .dictI m x (f.stp st)
      | dictS m x f => exact .dictS m x (f.stp st)
    | none =>
      cases hr
      have hst5 : St (i + 1) h5 := by
        refine hW.frame _ _ _ hst3 fun b hb o e => ?_
        by_cases q : b = I
        · subst q
          exact (g5.stp b o nI2 (keep34 b o nI2 e)).2
        · exact (g5.stp b o (hfp b hb q).1 (keep34 b o (hfp b hb q).1 e)).2
      refine ⟨src.length + 1 - (i + 1), by omega, i + 1, h5, t5, σ4, W5, rfl, rfl, hlt, hst5, e5, R5, fr5, g35, fun b hb nb => ?_, fun b o nb e => ?_⟩
      · obtain ⟨z1, o, z2, z3⟩ := hfp b hb nb
        obtain ⟨y1, y2⟩ := step b o nb z1 z3
        exact ⟨y1, o, z2, y2⟩
      · obtain ⟨z1, z2⟩ := hk b o nb e
        obtain ⟨y1, y2⟩ := step b o (fun q => nb (.inr (.inr q))) (fun q => z1 (.inl q)) z2
        exact ⟨fun q => q.elim y1 fun q => nb (.inr q), y2⟩
  · have : i = src.length := by omega
    subst this
    rw [List.drop_length, hnil] at hfl
    cases hfl
    refine hW.done _ _ _ hst fun h3 t3 hk3 => ?_
    have hk3' : ∀ b o, b ≠ I → h2.get? b = some o → h3.get? b = some o := fun b o nb e => hk3 b o (by simpa using nb) e
    have R3 := (R2.dropO oI cellI hk3').sameO hO
    refine wpAny_execs_nil (h .next h3 t3 W2 ⟨fun b o nb e => ⟨(g2.stp b o nb e).1, hk3' b o (newI e) (g2.stp b o nb e).2⟩, g2.new, fun a o e => ?_⟩ R3 fr2 rfl)
    obtain ⟨o', e'⟩ := g2.kp a o e
    exact ⟨o', hk3' a o' (newI e) e'⟩

theorem for1_ok (ok : Ok prog w P g B L n) {ns : Names} {env : Env} {W O : Addr → Prop} {σ : Sg} {x : Str} {q p : Pos} {i : Nat} {it : PySem.Expr} {it' : Ex} {body : List PySem.Stmt} {body' : List S} {src : List D} {r : Option D × Sg} {Q : Flow → Shared → Prop} (hx : varIx ns x = some i) (ci : CX g ns it it') (cb : SXs g ns body body') (e1 : L.it σ it' = some src)
    (he : forL L i body' (frz σ it') src = some r) (cx : Cx ns env A n) (R : Rl prog w B ns env W O σ s.heap) (fr : Frame ns env W) (h : Ends prog w B ns env W O s r.1 r.2 Q) : wpAny (model prog w) A (exec (.For (.Name x q) it body [] p) env) Q E s := by
  refine for_core ok ci cb e1 (forL L i body') (fun σ d => σ.set i (some (.val d))) (fun _ => True) (fun _ => rfl) (fun σ d rest h => ?_) he cx R fr (fun {s' E' W' O' σ' I v d Q'} _ _ R' fr' fv hQ => ?_) h
  · obtain ⟨⟨rr, σ'⟩, h1, h2⟩ := bind_some (show (L.run (σ.set i (some (.val d))) body' >>= fun x => _) = _ from h)
    refine ⟨trivial, rr, σ', h1, ?_⟩
    cases rr with
    | some v => cases h2; rfl
    | none => exact h2
  · exact wpAny_pure (wpAny_assign_Name (store_val2 cx R' fr' hx fv hQ))

theorem letGo_plain {elts : List PySem.Expr} {k : Nat} {p : Pos} {I : Addr} {v : Value} {Q : Unit → Shared → Prop} (hI : ∃ o, s.heap.get? I = some o ∧ PlainIt o) (h : Q () s) : wpAny (model prog w) A (letOwnedTupleGo (.Tuple elts k p) (.ref I) v) Q E s := by
  obtain ⟨o, ho, nm, hc, hn⟩ := hI
  unfold letOwnedTupleGo
  dsimp only
  cases v <;> try (exact wpAny_pure h)
  refine wpAny_bind (wpAny_load ho ?_)
  rw [hc]
  cases o.data <;> try (exact wpAny_pure h)
  dsimp only
  rw [hn]
  exact wpAny_pure h

theorem for2_ok (ok : Ok prog w P g B L n) {ns : Names} {env : Env} {W O : Addr → Prop} {σ : Sg} {x y : Str} {q1 q2 q3 p : Pos} {k : Nat} {i j : Nat} {it : PySem.Expr} {it' : Ex} {body : List PySem.Stmt} {body' : List S} {src : List D} {r : Option D × Sg} {Q : Flow → Shared → Prop} (hx : varIx ns x = some i) (hy : varIx ns y = some j) (ci : CX g ns it it') (cb : SXs g ns body body') (e1 : L.it σ it' = some src)
    (he : for2L L i j body' (frz σ it') src = some r) (cx : Cx ns env A n) (R : Rl prog w B ns env W O σ s.heap) (fr : Frame ns env W) (h : Ends prog w B ns env W O s r.1 r.2 Q) : wpAny (model prog w) A (exec (.For (.Tuple [.Name x q1, .Name y q2] k q3) it body [] p) env) Q E s := by
  refine for_core ok ci cb e1 (for2L L i j body') (fun σ d => match d with | .tuple [a, b] => (σ.set i (some (.val a))).set j (some (.val b)) | _ => σ) (fun d => ∃ a b, d = .tuple [a, b]) (fun _ => by simp [for2L]) (fun σ d rest h => ?_) he cx R fr (fun {s' E' W' O' σ' I v d Q'} hI hg R' fr' fv hQ => ?_) h
  · unfold for2L at h
    split at h
    · cases ‹_ :: _ = []›
    · rename_i a b r' heq
      cases heq
      obtain ⟨⟨rr, σ'⟩, h1, h2⟩ := bind_some h
      refine ⟨⟨a, b, rfl⟩, rr, σ', h1, ?_⟩
      cases rr with
      | some v => cases h2; rfl
      | none => exact h2
    · cases h
  · obtain ⟨a, b, rfl⟩ := hg
    refine letGo_plain hI ?_
    cases fv with | tuple nM it f =>
    rename_i T items
    have hsz : items.size = 2 := by have := f.length; simpa using this
    obtain ⟨va, vb, hitems, fa, fb⟩ := f.two
    refine assign_Tuple_tuple cx.handled it (by rw [hsz]; rfl) rfl fun h1 ext => ?_
    have p1 : Pur s'.heap h1 := fun b o e => ext b o (Nat.ne_of_lt (Heap.lt_size e)) e
    rw [hitems]
    show wpAny _ A (do holding [vb] (assign (.Name x q1) env va); assignInOrder [assign (.Name y q2) env] [vb]) _ _ _
    refine wpAny_bind (wpAny_holding (wpAny_assign_Name ?_))
    refine store_val2 (s := { s' with heap := h1 }) cx (R'.pur p1) fr' hx (fa.pur p1) fun h4 tk4 g4 R4 => ?_
    show wpAny _ A (do holding [] (assign (.Name y q2) env vb); assignInOrder [] []) _ _ _
    refine wpAny_bind (wpAny_holding (wpAny_assign_Name ?_))
    refine store_val2 (s := { s' with heap := h4, toks := tk4 }) cx R4 fr' hy ((fb.pur p1).stp fun b o nb e => ⟨nb, (g4.stp b o (fun q => nb (.inl q)) e).2⟩) fun h5 tk5 g5 R5 => ?_
    exact wpAny_pure (hQ h5 tk5 ((Gr.ofPur p1).trans (g4.trans g5)) R5)

/-- a row of statements -/
theorem run_ok (ok : Ok prog w P g B L n) {ns : Names} {ps : List PySem.Stmt} {l : List S} {env : Env} {W O : Addr → Prop} {σ : Sg} {r : Option D × Sg} {Q : Flow → Shared → Prop} (c : SXs g ns ps l) (he : runF L σ l = some r) (cx : Cx ns env A n) (R : Rl prog w B ns env W O σ s.heap) (fr : Frame ns env W)
    (h : Ends prog w B ns env W O s r.1 r.2 Q) : wpAny (model prog w) A (execs ps env) Q E s := by
  induction c.inv with
  | nil =>
    cases he
    exact wpAny_execs_nil (h .next s.heap s.toks W (Gr.refl _ _) R fr rfl)
  | cons c1 c2 =>
    rename_i S l
    obtain ⟨⟨rr, σ'⟩, e1, he⟩ := bind_some (show (L.ex σ S >>= fun x => _) = _ from he)
    refine wpAny_execs_cons (ok.ex' c1 e1 cx R fr fun f h1 t1 W1 g1 R1 fr1 hf => ?_)
    cases rr with
    | some d =>
      cases he
      obtain ⟨v, rfl, ov⟩ := hf
      exact h _ h1 t1 W1 g1 R1 fr1 ⟨v, rfl, ov⟩
    | none =>
      cases hf
      exact ok.run' c2 he cx R1 fr1 fun f h2 t2 W2 g2 R2 fr2 hf => h f h2 t2 W2 (g1.trans g2) R2 fr2 hf
end
end Mine
end
section
/-! All levels. -/
open PySem PySem.Calls PyProof.Rows PySem.W PySem.Spec
namespace Mine
section
variable (prog : Program) (w : World)
/-- what is to be shown of a Headers -/
structure Book (g : Gl) (B : Heap) (L : Lo) (n : Nat) : Prop where
  get : BookGet prog w g B L n
  new : ∀ {ns x q p1 p2 p3 p i σ env W O A E s Q}, varIx ns x = some i → isGlob ns ("Headers" : Str) = true → Cx ns env A (n + 1) → Rl prog w B ns env W O σ s.heap → Frame ns env W → Ends prog w B ns env W O s none (σ.set i (some (.book []))) Q →
    wpAny (model prog w) A (exec (.Assign [.Name x q] (.Call (.Name ("Headers" : Str) p1) [.List [] p2] [] p3) p) env) Q E s
  add : ∀ {ns x q ap u v q1 a1 a2 z a p i u' v' l c d σ env W O A E s Q}, (ap.endLine == q1.line) = true → CX g ns (.Name x q) (.var i) → CX g ns u u' → CX g ns v v' → σ[i]? = some (some (.book l)) → L.ev σ u' = some (.str c) → L.ev σ v' = some (.str d) → okHdr c = true → okHdr d = true → l.length ≤ 1000 → Cx ns env A (n + 1) → Rl prog w B ns env W O σ s.heap → Frame ns env W →
    Ends prog w B ns env W O s none (σ.set i (some (.book (l ++ [(c, d)])))) Q → wpAny (model prog w) A (exec (.If (.Compare (.Call (.Attribute (.Name x q) ("add_header" : Str) ap) [u, v] [] q1) [.IsNot] [.Constant .none a1 a2] z) a [] p) env) Q E s
  sdf : ∀ {ns x q ap u v q1 r z a p i u' v' r' l c d σ env W O A E s Q}, (ap.endLine == q1.line) = true → CX g ns (.Name x q) (.var i) → CX g ns u u' → CX g ns v v' → CX g ns r r' → σ[i]? = some (some (.book l)) → L.ev σ u' = some (.str c) → L.ev σ v' = some (.str d) → okHdr c = true → okHdr d = true → (l.all fun p => okHdr p.1) = true → l.length ≤ 1000 →
    L.ev (σ.set i (some (.book (sdL l c d)))) r' = some (.str (bGet l c d)) → Cx ns env A (n + 1) → Rl prog w B ns env W O σ s.heap → Frame ns env W →
    Ends prog w B ns env W O s none (σ.set i (some (.book (sdL l c d)))) Q → wpAny (model prog w) A (exec (.If (.Compare (.Call (.Attribute (.Name x q) ("setdefault" : Str) ap) [u, v] [] q1) [.NotEq] [r] z) a [] p) env) Q E s
  items : ∀ {ns x q ap q1 p i l σ env W O A E s Q}, (ap.endLine == q1.line) = true → CX g ns (.Name x q) (.var i) → σ[i]? = some (some (.book l)) → l.length ≤ 1000 → Cx ns env A (n + 1) → Rl prog w B ns env W O σ s.heap → Frame ns env W →
    Ends prog w B ns env W O s (some (.list (l.map fun p => .tuple [.str p.1, .str p.2]))) σ Q → wpAny (model prog w) A (exec (.Return (some (.Call (.Attribute (.Name x q) ("items" : Str) ap) [] [] q1)) p) env) Q E s
variable {prog w}
variable {A : Around} {E : Value → Shared → Prop} {s : Shared} {P : Pg} {g : Gl} {B : Heap} {n : Nat}

theorem ex_ok (ok : Ok prog w P g B (lo P n) n) (hprev : ∀ m, n = m + 1 → Ok prog w P g B (lo P m) m) (bk : Book prog w g B (lo P n) n) (hB : ∃ o, B.get? mainGlobals = some o) {ns : Names} {ps : PySem.Stmt} {S : S} {env : Env} {W O : Addr → Prop} {σ : Sg} {r : Option D × Sg} {Q : Flow → Shared → Prop}
    (c : SX g ns ps S) (he : exF (lo P n) σ S = some r) (cx' : Cx ns env A (n + 1)) (R : Rl prog w B ns env W O σ s.heap) (fr : Frame ns env W) (h : Ends prog w B ns env W O s r.1 r.2 Q) : wpAny (model prog w) A (exec ps env) Q E s := by
  have cx := cx'.down
  have fin : ∀ {c : Prop} [Decidable c] {x : Option D × Sg} {C : Prop}, (if c then some x else none) = some r → (c → Ends prog w B ns env W O s x.1 x.2 Q → C) → C := fun he H => iteG he fun hc e => H hc (by cases e; exact h)
  induction c.inv with
  | asgNew hx hl cl => exact bnd he fun ds h1 he => by cases he; exact asgNew_ok ok hx hl cl h1 cx R fr h
  | asgDict hx => cases he; exact asgDict_ok hx cx R fr hB h
  | newBook hx hf hg => cases he; subst hf; exact bk.new hx hg cx' R fr h
  | asgSplit hx hm hp hb co cs =>
    subst hm
    exact bnd he fun a h1 he => bnd he fun x e1 he => bnd he fun b h2 he => bnd he fun y e2 he => fin he (fun hc h =>
      asgSplit_ok ok hx hp hb co cs (eS (P := fun d => _ = some d) e1 h1) (eS (P := fun d => _ = some d) e2 h2) hc.1 hc.2.1 hc.2.2 cx R fr h)
  | asg hx cv =>
    refine bnd he fun d h1 he => ?_
    cases he
    refine asg_ok ok hx cv h1 (fun caps elt t it ifs more hv => ?_) cx R fr h
    cases n with
    | zero => cases h1
    | succ m => exact ⟨lo P m, m, hprev m rfl, Nat.le_succ _, h1⟩
  | seti hnc cn ck cv =>
    refine bnd he fun w' h1 he => bnd he fun k2 h2 he => bnd he fun x hs he => bnd he fun l e1 he => iteG he fun hc he => bnd he fun d hd he => ownD_inv hs fun hs => ?_
    cases he
    exact seti_ok ok hnc cn ck cv h1 h2 (eM (P := fun d => _ = some (some (Slot.own d))) e1 hs) hc.1 hc.2 hd cx R fr h
  | asg2 hok hx hy ca cb => exact bnd he fun x' h1 he => bnd he fun y' h2 he => by cases he; exact asg2_ok ok hok hx hy ca cb h1 h2 cx R fr h
  | aug cn ho cv =>
    refine bnd he fun x hs he => bnd he fun a e1 he => bnd he fun y h1 he => bnd he fun b e2 he => bnd he fun d h2 he => valD_inv hs fun hs => ?_
    cases he
    exact aug_ok ok cn ho cv (eI (P := fun d => _ = some (some (Slot.val d))) e1 hs) (eI (P := fun d => _ = some d) e2 h1) h2 cx R fr h
  | app hp hm cn ce =>
    subst hm
    exact bnd he fun x hs he => bnd he fun l e1 he => bnd he fun d h1 he => ownD_inv hs fun hs => fin he (fun hl h =>
      app_ok ok hp cn ce (eL (P := fun d => _ = some (some (Slot.own d))) e1 hs) hl h1 cx R fr h)
  | ext hp hm cn ce =>
    subst hm
    exact bnd he fun x hs he => bnd he fun l e1 he => bnd he fun d h1 he => bnd he fun k e2 he => ownD_inv hs fun hs => fin he (fun hl h =>
      ext_ok ok hp cn ce (eL (P := fun d => _ = some (some (Slot.own d))) e1 hs) hl (eL (P := fun d => _ = some d) e2 h1) cx R fr h)
  | del cn hk =>
    refine bnd he fun x hs he => bnd he fun l e1 he => bnd he fun l2 e2 he => ownD_inv hs fun hs => ?_
    have hs := eL (P := fun d => _ = some (some (Slot.own d))) e1 hs
    cases he
    cases l with
    | nil => cases e2
    | cons d l => exact iteS (C := fun l2 => Ends prog w B ns env W O s none (σ.set _ (some (.own (.list l2)))) Q → _) e2 (fun hl h => del_ok cn hk hs hl cx R fr h) h
  | addHdr hm hp cn cu cv ca =>
    subst hm
    exact bnd he fun l hs he => bnd he fun a h1 he => bnd he fun x e1 he => bnd he fun b h2 he => bnd he fun y e2 he => bookD_inv hs fun hs => fin he (fun hc h =>
      bk.add hp cn cu cv hs (eS (P := fun d => _ = some d) e1 h1) (eS (P := fun d => _ = some d) e2 h2) hc.1 hc.2.1 hc.2.2 cx' R fr h)
  | setDef hm hp cn cu cv cr ca =>
    subst hm
    refine bnd he fun l hs he => bnd he fun a h1 he => bnd he fun x e1 he => bnd he fun b h2 he => bnd he fun y e2 he => bookD_inv hs fun hs => iteG he fun hc he => bnd he fun z h3 he => bnd he fun z' e3 he => fin he (fun hq h => ?_)
    subst hq
    exact bk.sdf hp cn cu cv cr hs (eS (P := fun d => _ = some d) e1 h1) (eS (P := fun d => _ = some d) e2 h2) hc.1 hc.2.1 hc.2.2.1 hc.2.2.2 (eS (P := fun d => _ = some d) e3 h3) cx' R fr h
  | ifs cc ca cb => exact bnd he fun t h1 he => if_ok ok cc ca cb h1 he cx R fr h
  | for1 hx ci cb => exact bnd he fun src h1 he => for1_ok ok hx ci cb h1 he cx R fr h
  | for2 hne hx hy ci cb => exact bnd he fun src h1 he => for2_ok ok hx hy ci cb h1 he cx R fr h
  | «while» cc cb => exact while_ok ok cc cb he cx R fr h
  | retItems hm hp cn =>
    subst hm
    exact bnd he fun l hs he => bookD_inv hs fun hs => fin he (fun hl h => bk.items hp cn hs hl cx' R fr h)
  | ret ce => exact bnd he fun d h1 he => by cases he; exact ret_ok ok ce h1 cx R fr h
  | asrt ce => exact bnd he fun t h1 he => fin he (fun ht h => asrt_ok ok ce (ht ▸ h1) cx R fr h)
  | raise => cases he

theorem ok_zero : Ok prog w P g B (lo P 0) 0 where
  ev := fun _ he => nomatch he
  pk := fun _ he => nomatch he
  it := fun _ he => nomatch he
  tst := fun _ he => nomatch he
  ex := fun _ he => nomatch he
  run := fun _ he => nomatch he

theorem ok_succ {mg mb : Str → Option Value} (st : Stat prog w P g B mg mb) (hB : ∃ o, B.get? mainGlobals = some o) (ok : Ok prog w P g B (lo P n) n) (hprev : ∀ m, n = m + 1 → Ok prog w P g B (lo P m) m) (bk : Book prog w g B (lo P n) n) : Ok prog w P g B (lo P (n + 1)) (n + 1) where
  ev := fun c he cx R r => ev_ok st ok (call_ok st ok) (comp_ok ok) bk.get c he cx R r
  pk := fun c he cx R r => pk_ok ok c he cx R r
  it := fun c he cx R r => it_ok st ok c he cx R r
  tst := fun c he cx R r => tst_ok ok c he cx R r
  ex := fun c he cx R fr h => ex_ok ok hprev bk hB ⟨_, c⟩ he cx R fr h
  run := fun c he cx R fr h => run_ok ok ⟨_, c⟩ he cx.down R fr h

theorem ok_all {mg mb : Str → Option Value} (st : Stat prog w P g B mg mb) (hB : ∃ o, B.get? mainGlobals = some o) (hbk : ∀ L n, Ok prog w P g B L n → Book prog w g B L n) : ∀ n, Ok prog w P g B (lo P n) n ∧ ∀ m, n = m + 1 → Ok prog w P g B (lo P m) m
  | 0 => ⟨ok_zero, fun m h => nomatch h⟩
  | n + 1 => by
    obtain ⟨h1, h2⟩ := ok_all st hB hbk n
    exact ⟨ok_succ st hB h1 h2 (hbk _ _ h1), fun m e => by cases e; exact h1⟩
end
end Mine
end
section
/-! The fixed facts, read off the heap behind the top's run. -/
open PySem PySem.Calls PyProof.Rows PySem.W PySem.Spec
set_option maxRecDepth 100000
namespace Mine
noncomputable abbrev KF := KD
/-- the names of the text's block -/
noncomputable def gEs (P : Params) : Array DictEntry := match (KF P).lookup 3 with
  | some ⟨_, _, .dict es _, _⟩ => es
  | _ => #[]
theorem g_lookup (P : Params) : ∃ c d n sl, (KF P).lookup 3 = some ⟨c, d, .dict (gEs P) n, sl⟩ := ⟨_, _, _, _, rfl⟩
theorem mg_eq {P : Params} {h : Heap} {mg : Str → Option Value} (X : (KF P).In h) (g : h.Ns mainGlobals mg) (x : Str) : mg x = nsFind (gEs P) x := by
  obtain ⟨o, es, ep, ho, hd, _, hm⟩ := g
  obtain ⟨c, d, n, sl, e⟩ := g_lookup P
  have := X 3 _ e
  have ho' : h.get? 3 = some o := ho
  rw [this] at ho'
  cases ho'
  cases hd
  exact (hm x).symm
theorem bindsK {K : Frag} {s : Shared} {fd : FuncData} {args : Args} {binds : List (Str × Value)} (X : K.In s.heap) (e : ∀ S, peek K S (bindArgs fd args) = some binds) : BindsTo s fd args binds :=
  fun M _ _ _ q => (Looks.of_peek (M := M) X (e _)).here q

noncomputable def fdOf (P : Params) (a : Addr) : FuncData := match (KF P).lookup a with
  | some ⟨_, _, .func fd, _⟩ => fd
  | _ => default
noncomputable def bodyOf (fd : FuncData) : List PySem.Stmt := match fd.body with
  | .stmts b => b
  | _ => []
/-- what is looked at of a function's object -/
structure FnLook (P : Params) (f : Str) (a : Addr) (fn : Fn) : Prop where
  mg : nsFind (gEs P) f = some (.ref a)
  obj : ∃ c d sl, (KF P).lookup a = some ⟨c, d, .func (fdOf P a), sl⟩
  body : (fdOf P a).body = .stmts (bodyOf (fdOf P a))
  code : codeIn (KF P) (fdOf P a).code (fdOf P a).qualname = true
  clo : (fdOf P a).closure = []
  glo : (fdOf P a).globals = mainGlobals
  blt : (fdOf P a).builtins = builtinsNs
  co : (fdOf P a).scope.isCoroutine = false
  gen : (fdOf P a).scope.isGenerator = false
  kind : (fdOf P a).scope.kind = .function
  comp : chkM (chkS theGl 60 (fdOf P a).scope.names) (bodyOf (fdOf P a)) fn.body = true
  wf : wfN (fdOf P a).scope.names = true
  free : (fdOf P a).scope.names.all (fun p => match p.2 with | .free => false | _ => true) = true
  n : fn.n = (nmOf (fdOf P a).scope.names).length


section
variable {prog : Program} {w : World}
/-- how the values come to stand -/
noncomputable def BindOk (prog : Program) (w : World) (K : Frag) (fd : FuncData) (fn : Fn) : Prop := ∀ (s : Shared) (vals : List Value), K.In s.heap → vals.length + fn.dflts.length = fn.params → ∃ rest, BindsTo s fd ⟨vals, []⟩ (((nmOf fd.scope.names).take fn.params).zip (vals ++ rest)) ∧ ∀ M, FVs prog w s.heap M rest fn.dflts
theorem fnok_of {P : Params} {h : Heap} {mg : Str → Option Value} {f : Str} {a : Addr} {fn : Fn} (X : (KF P).In h) (g : h.Ns mainGlobals mg) (l : FnLook P f a fn) (hb : BindOk prog w (KF P) (fdOf P a) fn) : FnOk prog w theGl h mg f fn := by
  obtain ⟨c, d, sl, ho⟩ := l.obj
  refine ⟨a, _, fdOf P a, bodyOf (fdOf P a), 60, (mg_eq X g f).trans l.mg, X a _ ho, rfl, l.body, codeRec_of X l.code, l.clo, l.glo, l.blt, l.co, l.gen, l.kind, l.comp, l.wf, fun p hp q => ?_, l.n, fun s vals pur hl => hb s vals (X.keeps pur) hl⟩
  have := List.all_eq_true.mp l.free p hp
  rw [q] at this
  cases this
theorem len0 {vals : List Value} (h : vals.length = 0) : vals = [] := List.length_eq_zero_iff.mp h
theorem len1 {vals : List Value} (h : vals.length = 1) : ∃ a, vals = [a] := by
  cases vals with
  | nil => cases h
  | cons a r => exact ⟨a, by rw [len0 (Nat.succ.inj h)]⟩
theorem len2 {vals : List Value} (h : vals.length = 2) : ∃ a b, vals = [a, b] := by
  cases vals with
  | nil => cases h
  | cons a r => obtain ⟨b, e⟩ := len1 (Nat.succ.inj h); exact ⟨a, b, by rw [e]⟩
theorem len3 {vals : List Value} (h : vals.length = 3) : ∃ a b c, vals = [a, b, c] := by
  cases vals with
  | nil => cases h
  | cons a r => obtain ⟨b, c, e⟩ := len2 (Nat.succ.inj h); exact ⟨a, b, c, by rw [e]⟩
theorem len5 {vals : List Value} (h : vals.length = 5) : ∃ a b c d e, vals = [a, b, c, d, e] := by
  match vals, h with
  | [a, b, c, d, e], _ => exact ⟨a, b, c, d, e, rfl⟩
theorem ifS {α : Type} {c : Bool} {v x : α} {r : Option α} (h : (if c = true then some v else r) = some x) : (c = true ∧ v = x) ∨ r = some x := by
  cases c
  · exact .inr h
  · exact .inl ⟨rfl, Option.some.inj h⟩
theorem bindOk_of {K : Frag} {fd : FuncData} {fn : Fn} {xs : List Str} {rest : List Value} {n : Nat} (hx : (nmOf fd.scope.names).take fn.params = xs) (hn : fn.params = n + fn.dflts.length) (hr : ∀ h M, FVs prog w h M rest fn.dflts)
    (hb : ∀ S (vals : List Value), vals.length = n → peek K S (bindArgs fd ⟨vals, []⟩) = some (xs.zip (vals ++ rest))) : BindOk prog w K fd fn := fun s vals X hl => by
  refine ⟨rest, ?_, hr _⟩
  rw [hx]
  exact bindsK X fun S => hb S vals (by omega)
theorem l_bisectright (P : Params) : FnLook P ("bisect_right" : Str) 47 b_bisectright := ⟨rfl, ⟨_, _, _, rfl⟩, rfl, rfl, rfl, rfl, rfl, rfl, rfl, rfl, by kernel_rfl, by kernel_rfl, by kernel_rfl, by kernel_rfl⟩
theorem p_bisectright (P : Params) (S : Setting) (u0 u1 : Value) : peek (KF P) S (bindArgs (fdOf P 47) ⟨[u0, u1], []⟩) = some (([("a" : Str), ("x" : Str), ("lo" : Str), ("hi" : Str), ("key" : Str)] : List Str).zip ([u0, u1] ++ [.int 0 291, .none, .none])) := by kernel_rfl
theorem k_bisectright (P : Params) : BindOk prog w (KF P) (fdOf P 47) b_bisectright :=
  bindOk_of (n := 2) (xs := [("a" : Str), ("x" : Str), ("lo" : Str), ("hi" : Str), ("key" : Str)]) (rest := [.int 0 291, .none, .none]) (by kernel_rfl) rfl (fun h M => .cons (.int 0 _) (.cons .none (.cons .none .nil))) fun S vals hl => by
    obtain ⟨u0, u1, rfl⟩ := len2 hl
    exact p_bisectright P S u0 u1
theorem l_bisectleft (P : Params) : FnLook P ("bisect_left" : Str) 56 b_bisectleft := ⟨rfl, ⟨_, _, _, rfl⟩, rfl, rfl, rfl, rfl, rfl, rfl, rfl, rfl, by kernel_rfl, by kernel_rfl, by kernel_rfl, by kernel_rfl⟩
theorem p_bisectleft (P : Params) (S : Setting) (u0 u1 : Value) : peek (KF P) S (bindArgs (fdOf P 56) ⟨[u0, u1], []⟩) = some (([("a" : Str), ("x" : Str), ("lo" : Str), ("hi" : Str), ("key" : Str)] : List Str).zip ([u0, u1] ++ [.int 0 305, .none, .none])) := by kernel_rfl
theorem k_bisectleft (P : Params) : BindOk prog w (KF P) (fdOf P 56) b_bisectleft :=
  bindOk_of (n := 2) (xs := [("a" : Str), ("x" : Str), ("lo" : Str), ("hi" : Str), ("key" : Str)]) (rest := [.int 0 305, .none, .none]) (by kernel_rfl) rfl (fun h M => .cons (.int 0 _) (.cons .none (.cons .none .nil))) fun S vals hl => by
    obtain ⟨u0, u1, rfl⟩ := len2 hl
    exact p_bisectleft P S u0 u1
theorem l_ellipsismatch (P : Params) : FnLook P ("_ellipsis_match" : Str) 63 b_ellipsismatch := ⟨rfl, ⟨_, _, _, rfl⟩, rfl, rfl, rfl, rfl, rfl, rfl, rfl, rfl, by kernel_rfl, by kernel_rfl, by kernel_rfl, by kernel_rfl⟩
theorem p_ellipsismatch (P : Params) (S : Setting) (u0 u1 : Value) : peek (KF P) S (bindArgs (fdOf P 63) ⟨[u0, u1], []⟩) = some (([("want" : Str), ("got" : Str)] : List Str).zip ([u0, u1] ++ [])) := by kernel_rfl
theorem k_ellipsismatch (P : Params) : BindOk prog w (KF P) (fdOf P 63) b_ellipsismatch :=
  bindOk_of (n := 2) (xs := [("want" : Str), ("got" : Str)]) (rest := []) (by kernel_rfl) rfl (fun h M => .nil) fun S vals hl => by
    obtain ⟨u0, u1, rfl⟩ := len2 hl
    exact p_ellipsismatch P S u0 u1
theorem l_ISTERMINAL (P : Params) : FnLook P ("ISTERMINAL" : Str) 70 b_ISTERMINAL := ⟨rfl, ⟨_, _, _, rfl⟩, rfl, rfl, rfl, rfl, rfl, rfl, rfl, rfl, by kernel_rfl, by kernel_rfl, by kernel_rfl, by kernel_rfl⟩
theorem p_ISTERMINAL (P : Params) (S : Setting) (u0 : Value) : peek (KF P) S (bindArgs (fdOf P 70) ⟨[u0], []⟩) = some (([("x" : Str)] : List Str).zip ([u0] ++ [])) := by kernel_rfl
theorem k_ISTERMINAL (P : Params) : BindOk prog w (KF P) (fdOf P 70) b_ISTERMINAL :=
  bindOk_of (n := 1) (xs := [("x" : Str)]) (rest := []) (by kernel_rfl) rfl (fun h M => .nil) fun S vals hl => by
    obtain ⟨u0, rfl⟩ := len1 hl
    exact p_ISTERMINAL P S u0
theorem l_ISNONTERMINAL (P : Params) : FnLook P ("ISNONTERMINAL" : Str) 77 b_ISNONTERMINAL := ⟨rfl, ⟨_, _, _, rfl⟩, rfl, rfl, rfl, rfl, rfl, rfl, rfl, rfl, by kernel_rfl, by kernel_rfl, by kernel_rfl, by kernel_rfl⟩
theorem p_ISNONTERMINAL (P : Params) (S : Setting) (u0 : Value) : peek (KF P) S (bindArgs (fdOf P 77) ⟨[u0], []⟩) = some (([("x" : Str)] : List Str).zip ([u0] ++ [])) := by kernel_rfl
theorem k_ISNONTERMINAL (P : Params) : BindOk prog w (KF P) (fdOf P 77) b_ISNONTERMINAL :=
  bindOk_of (n := 1) (xs := [("x" : Str)]) (rest := []) (by kernel_rfl) rfl (fun h M => .nil) fun S vals hl => by
    obtain ⟨u0, rfl⟩ := len1 hl
    exact p_ISNONTERMINAL P S u0
theorem l_ISEOF (P : Params) : FnLook P ("ISEOF" : Str) 84 b_ISEOF := ⟨rfl, ⟨_, _, _, rfl⟩, rfl, rfl, rfl, rfl, rfl, rfl, rfl, rfl, by kernel_rfl, by kernel_rfl, by kernel_rfl, by kernel_rfl⟩
theorem p_ISEOF (P : Params) (S : Setting) (u0 : Value) : peek (KF P) S (bindArgs (fdOf P 84) ⟨[u0], []⟩) = some (([("x" : Str)] : List Str).zip ([u0] ++ [])) := by kernel_rfl
theorem k_ISEOF (P : Params) : BindOk prog w (KF P) (fdOf P 84) b_ISEOF :=
  bindOk_of (n := 1) (xs := [("x" : Str)]) (rest := []) (by kernel_rfl) rfl (fun h M => .nil) fun S vals hl => by
    obtain ⟨u0, rfl⟩ := len1 hl
    exact p_ISEOF P S u0
theorem l_lawcells (P : Params) : FnLook P ("_law_cells" : Str) 239 b_lawcells := ⟨rfl, ⟨_, _, _, rfl⟩, rfl, rfl, rfl, rfl, rfl, rfl, rfl, rfl, by kernel_rfl, by kernel_rfl, by kernel_rfl, by kernel_rfl⟩
theorem p_lawcells (P : Params) (S : Setting) (u0 : Value) : peek (KF P) S (bindArgs (fdOf P 239) ⟨[u0], []⟩) = some (([("script" : Str)] : List Str).zip ([u0] ++ [])) := by kernel_rfl
theorem k_lawcells (P : Params) : BindOk prog w (KF P) (fdOf P 239) b_lawcells :=
  bindOk_of (n := 1) (xs := [("script" : Str)]) (rest := []) (by kernel_rfl) rfl (fun h M => .nil) fun S vals hl => by
    obtain ⟨u0, rfl⟩ := len1 hl
    exact p_lawcells P S u0
theorem l_lawrules (P : Params) : FnLook P ("_law_rules" : Str) 244 b_lawrules := ⟨rfl, ⟨_, _, _, rfl⟩, rfl, rfl, rfl, rfl, rfl, rfl, rfl, rfl, by kernel_rfl, by kernel_rfl, by kernel_rfl, by kernel_rfl⟩
theorem p_lawrules (P : Params) (S : Setting) (u0 : Value) : peek (KF P) S (bindArgs (fdOf P 244) ⟨[u0], []⟩) = some (([("cells" : Str)] : List Str).zip ([u0] ++ [])) := by kernel_rfl
theorem k_lawrules (P : Params) : BindOk prog w (KF P) (fdOf P 244) b_lawrules :=
  bindOk_of (n := 1) (xs := [("cells" : Str)]) (rest := []) (by kernel_rfl) rfl (fun h M => .nil) fun S vals hl => by
    obtain ⟨u0, rfl⟩ := len1 hl
    exact p_lawrules P S u0
theorem l_lawwords (P : Params) : FnLook P ("_law_words" : Str) 249 b_lawwords := ⟨rfl, ⟨_, _, _, rfl⟩, rfl, rfl, rfl, rfl, rfl, rfl, rfl, rfl, by kernel_rfl, by kernel_rfl, by kernel_rfl, by kernel_rfl⟩
theorem p_lawwords (P : Params) (S : Setting) (u0 : Value) : peek (KF P) S (bindArgs (fdOf P 249) ⟨[u0], []⟩) = some (([("rules" : Str)] : List Str).zip ([u0] ++ [])) := by kernel_rfl
theorem k_lawwords (P : Params) : BindOk prog w (KF P) (fdOf P 249) b_lawwords :=
  bindOk_of (n := 1) (xs := [("rules" : Str)]) (rest := []) (by kernel_rfl) rfl (fun h M => .nil) fun S vals hl => by
    obtain ⟨u0, rfl⟩ := len1 hl
    exact p_lawwords P S u0
theorem l_lawfigures (P : Params) : FnLook P ("_law_figures" : Str) 256 b_lawfigures := ⟨rfl, ⟨_, _, _, rfl⟩, rfl, rfl, rfl, rfl, rfl, rfl, rfl, rfl, by kernel_rfl, by kernel_rfl, by kernel_rfl, by kernel_rfl⟩
theorem p_lawfigures (P : Params) (S : Setting) (u0 : Value) : peek (KF P) S (bindArgs (fdOf P 256) ⟨[u0], []⟩) = some (([("x" : Str)] : List Str).zip ([u0] ++ [])) := by kernel_rfl
theorem k_lawfigures (P : Params) : BindOk prog w (KF P) (fdOf P 256) b_lawfigures :=
  bindOk_of (n := 1) (xs := [("x" : Str)]) (rest := []) (by kernel_rfl) rfl (fun h M => .nil) fun S vals hl => by
    obtain ⟨u0, rfl⟩ := len1 hl
    exact p_lawfigures P S u0
theorem l_lawname (P : Params) : FnLook P ("_law_name" : Str) 263 b_lawname := ⟨rfl, ⟨_, _, _, rfl⟩, rfl, rfl, rfl, rfl, rfl, rfl, rfl, rfl, by kernel_rfl, by kernel_rfl, by kernel_rfl, by kernel_rfl⟩
theorem p_lawname (P : Params) (S : Setting) (u0 : Value) : peek (KF P) S (bindArgs (fdOf P 263) ⟨[u0], []⟩) = some (([("symbol" : Str)] : List Str).zip ([u0] ++ [])) := by kernel_rfl
theorem k_lawname (P : Params) : BindOk prog w (KF P) (fdOf P 263) b_lawname :=
  bindOk_of (n := 1) (xs := [("symbol" : Str)]) (rest := []) (by kernel_rfl) rfl (fun h M => .nil) fun S vals hl => by
    obtain ⟨u0, rfl⟩ := len1 hl
    exact p_lawname P S u0
theorem l_lawled (P : Params) : FnLook P ("_law_led" : Str) 268 b_lawled := ⟨rfl, ⟨_, _, _, rfl⟩, rfl, rfl, rfl, rfl, rfl, rfl, rfl, rfl, by kernel_rfl, by kernel_rfl, by kernel_rfl, by kernel_rfl⟩
theorem p_lawled (P : Params) (S : Setting) (u0 u1 u2 : Value) : peek (KF P) S (bindArgs (fdOf P 268) ⟨[u0, u1, u2], []⟩) = some (([("row" : Str), ("a" : Str), ("b" : Str)] : List Str).zip ([u0, u1, u2] ++ [])) := by kernel_rfl
theorem k_lawled (P : Params) : BindOk prog w (KF P) (fdOf P 268) b_lawled :=
  bindOk_of (n := 3) (xs := [("row" : Str), ("a" : Str), ("b" : Str)]) (rest := []) (by kernel_rfl) rfl (fun h M => .nil) fun S vals hl => by
    obtain ⟨u0, u1, u2, rfl⟩ := len3 hl
    exact p_lawled P S u0 u1 u2
theorem l_lawasked (P : Params) : FnLook P ("_law_asked" : Str) 273 b_lawasked := ⟨rfl, ⟨_, _, _, rfl⟩, rfl, rfl, rfl, rfl, rfl, rfl, rfl, rfl, by kernel_rfl, by kernel_rfl, by kernel_rfl, by kernel_rfl⟩
theorem p_lawasked (P : Params) (S : Setting) : peek (KF P) S (bindArgs (fdOf P 273) ⟨[], []⟩) = some (([] : List Str).zip ([] ++ [])) := by kernel_rfl
theorem k_lawasked (P : Params) : BindOk prog w (KF P) (fdOf P 273) b_lawasked :=
  bindOk_of (n := 0) (xs := []) (rest := []) (by kernel_rfl) rfl (fun h M => .nil) fun S vals hl => by
    obtain rfl := len0 hl
    exact p_lawasked P S 
theorem l_lawstands (P : Params) : FnLook P ("_law_stands" : Str) 280 b_lawstands := ⟨rfl, ⟨_, _, _, rfl⟩, rfl, rfl, rfl, rfl, rfl, rfl, rfl, rfl, by kernel_rfl, by kernel_rfl, by kernel_rfl, by kernel_rfl⟩
theorem p_lawstands (P : Params) (S : Setting) (u0 u1 : Value) : peek (KF P) S (bindArgs (fdOf P 280) ⟨[u0, u1], []⟩) = some (([("text" : Str), ("word" : Str)] : List Str).zip ([u0, u1] ++ [])) := by kernel_rfl
theorem k_lawstands (P : Params) : BindOk prog w (KF P) (fdOf P 280) b_lawstands :=
  bindOk_of (n := 2) (xs := [("text" : Str), ("word" : Str)]) (rest := []) (by kernel_rfl) rfl (fun h M => .nil) fun S vals hl => by
    obtain ⟨u0, u1, rfl⟩ := len2 hl
    exact p_lawstands P S u0 u1
theorem l_lawspans (P : Params) : FnLook P ("_law_spans" : Str) 287 b_lawspans := ⟨rfl, ⟨_, _, _, rfl⟩, rfl, rfl, rfl, rfl, rfl, rfl, rfl, rfl, by kernel_rfl, by kernel_rfl, by kernel_rfl, by kernel_rfl⟩
theorem p_lawspans (P : Params) (S : Setting) (u0 u1 : Value) : peek (KF P) S (bindArgs (fdOf P 287) ⟨[u0, u1], []⟩) = some (([("text" : Str), ("word" : Str)] : List Str).zip ([u0, u1] ++ [])) := by kernel_rfl
theorem k_lawspans (P : Params) : BindOk prog w (KF P) (fdOf P 287) b_lawspans :=
  bindOk_of (n := 2) (xs := [("text" : Str), ("word" : Str)]) (rest := []) (by kernel_rfl) rfl (fun h M => .nil) fun S vals hl => by
    obtain ⟨u0, u1, rfl⟩ := len2 hl
    exact p_lawspans P S u0 u1
theorem l_lawwalk (P : Params) : FnLook P ("_law_walk" : Str) 294 b_lawwalk := ⟨rfl, ⟨_, _, _, rfl⟩, rfl, rfl, rfl, rfl, rfl, rfl, rfl, rfl, by kernel_rfl, by kernel_rfl, by kernel_rfl, by kernel_rfl⟩
theorem p_lawwalk (P : Params) (S : Setting) (u0 u1 u2 : Value) : peek (KF P) S (bindArgs (fdOf P 294) ⟨[u0, u1, u2], []⟩) = some (([("x" : Str), ("word" : Str), ("maps" : Str)] : List Str).zip ([u0, u1, u2] ++ [])) := by kernel_rfl
theorem k_lawwalk (P : Params) : BindOk prog w (KF P) (fdOf P 294) b_lawwalk :=
  bindOk_of (n := 3) (xs := [("x" : Str), ("word" : Str), ("maps" : Str)]) (rest := []) (by kernel_rfl) rfl (fun h M => .nil) fun S vals hl => by
    obtain ⟨u0, u1, u2, rfl⟩ := len3 hl
    exact p_lawwalk P S u0 u1 u2
theorem l_lawdue (P : Params) : FnLook P ("_law_due" : Str) 299 b_lawdue := ⟨rfl, ⟨_, _, _, rfl⟩, rfl, rfl, rfl, rfl, rfl, rfl, rfl, rfl, by kernel_rfl, by kernel_rfl, by kernel_rfl, by kernel_rfl⟩
theorem p_lawdue (P : Params) (S : Setting) (u0 u1 u2 u3 u4 : Value) : peek (KF P) S (bindArgs (fdOf P 299) ⟨[u0, u1, u2, u3, u4], []⟩) = some (([("rules" : Str), ("words" : Str), ("found" : Str), ("a" : Str), ("b" : Str)] : List Str).zip ([u0, u1, u2, u3, u4] ++ [])) := by kernel_rfl
theorem k_lawdue (P : Params) : BindOk prog w (KF P) (fdOf P 299) b_lawdue :=
  bindOk_of (n := 5) (xs := [("rules" : Str), ("words" : Str), ("found" : Str), ("a" : Str), ("b" : Str)]) (rest := []) (by kernel_rfl) rfl (fun h M => .nil) fun S vals hl => by
    obtain ⟨u0, u1, u2, u3, u4, rfl⟩ := len5 hl
    exact p_lawdue P S u0 u1 u2 u3 u4
theorem l_law (P : Params) : FnLook P ("law" : Str) 304 b_law := ⟨rfl, ⟨_, _, _, rfl⟩, rfl, rfl, rfl, rfl, rfl, rfl, rfl, rfl, by kernel_rfl, by kernel_rfl, by kernel_rfl, by kernel_rfl⟩
theorem p_law (P : Params) (S : Setting) (u0 : Value) : peek (KF P) S (bindArgs (fdOf P 304) ⟨[u0], []⟩) = some (([("script" : Str)] : List Str).zip ([u0] ++ [])) := by kernel_rfl
theorem k_law (P : Params) : BindOk prog w (KF P) (fdOf P 304) b_law :=
  bindOk_of (n := 1) (xs := [("script" : Str)]) (rest := []) (by kernel_rfl) rfl (fun h M => .nil) fun S vals hl => by
    obtain ⟨u0, rfl⟩ := len1 hl
    exact p_law P S u0

theorem fn_all {P : Params} {h : Heap} {mg : Str → Option Value} (X : (KF P).In h) (g : h.Ns mainGlobals mg) (f : Str) (fn : Fn) (hf : thePg.fn f = some fn) : FnOk prog w theGl h mg f fn := by
  rcases ifS hf with ⟨e, rfl⟩ | hf
  · rw [beq_iff_eq.mp e]; exact fnok_of X g (l_bisectright P) (k_bisectright P)
  rcases ifS hf with ⟨e, rfl⟩ | hf
  · rw [beq_iff_eq.mp e]; exact fnok_of X g (l_bisectleft P) (k_bisectleft P)
  rcases ifS hf with ⟨e, rfl⟩ | hf
  · rw [beq_iff_eq.mp e]; exact fnok_of X g (l_ellipsismatch P) (k_ellipsismatch P)
  rcases ifS hf with ⟨e, rfl⟩ | hf
  · rw [beq_iff_eq.mp e]; exact fnok_of X g (l_ISTERMINAL P) (k_ISTERMINAL P)
  rcases ifS hf with ⟨e, rfl⟩ | hf
  · rw [beq_iff_eq.mp e]; exact fnok_of X g (l_ISNONTERMINAL P) (k_ISNONTERMINAL P)
  rcases ifS hf with ⟨e, rfl⟩ | hf
  · rw [beq_iff_eq.mp e]; exact fnok_of X g (l_ISEOF P) (k_ISEOF P)
  rcases ifS hf with ⟨e, rfl⟩ | hf
  · rw [beq_iff_eq.mp e]; exact fnok_of X g (l_lawcells P) (k_lawcells P)
  rcases ifS hf with ⟨e, rfl⟩ | hf
  · rw [beq_iff_eq.mp e]; exact fnok_of X g (l_lawrules P) (k_lawrules P)
  rcases ifS hf with ⟨e, rfl⟩ | hf
  · rw [beq_iff_eq.mp e]; exact fnok_of X g (l_lawwords P) (k_lawwords P)
  rcases ifS hf with ⟨e, rfl⟩ | hf
  · rw [beq_iff_eq.mp e]; exact fnok_of X g (l_lawfigures P) (k_lawfigures P)
  rcases ifS hf with ⟨e, rfl⟩ | hf
  · rw [beq_iff_eq.mp e]; exact fnok_of X g (l_lawname P) (k_lawname P)
  rcases ifS hf with ⟨e, rfl⟩ | hf
  · rw [beq_iff_eq.mp e]; exact fnok_of X g (l_lawled P) (k_lawled P)
  rcases ifS hf with ⟨e, rfl⟩ | hf
  · rw [beq_iff_eq.mp e]; exact fnok_of X g (l_lawasked P) (k_lawasked P)
  rcases ifS hf with ⟨e, rfl⟩ | hf
  · rw [beq_iff_eq.mp e]; exact fnok_of X g (l_lawstands P) (k_lawstands P)
  rcases ifS hf with ⟨e, rfl⟩ | hf
  · rw [beq_iff_eq.mp e]; exact fnok_of X g (l_lawspans P) (k_lawspans P)
  rcases ifS hf with ⟨e, rfl⟩ | hf
  · rw [beq_iff_eq.mp e]; exact fnok_of X g (l_lawwalk P) (k_lawwalk P)
  rcases ifS hf with ⟨e, rfl⟩ | hf
  · rw [beq_iff_eq.mp e]; exact fnok_of X g (l_lawdue P) (k_lawdue P)
  rcases ifS hf with ⟨e, rfl⟩ | hf
  · rw [beq_iff_eq.mp e]; exact fnok_of X g (l_law P) (k_law P)
  cases hf

theorem con_all {P : Params} {h : Heap} {mg : Str → Option Value} (X : (KF P).In h) (g : h.Ns mainGlobals mg) (x : Str) (d : D) (hd : thePg.con x = some d) : ∃ v, mg x = some v ∧ ∀ h M, FV prog w h M v d := by
  rcases ifS hd with ⟨e, rfl⟩ | hd
  · rw [beq_iff_eq.mp e]; exact ⟨.str "..." 321, (mg_eq X g _).trans (by kernel_rfl), fun h M => .str _ _⟩
  rcases ifS hd with ⟨e, rfl⟩ | hd
  · rw [beq_iff_eq.mp e]; exact ⟨.int 0 337, (mg_eq X g _).trans (by kernel_rfl), fun h M => .int _ _⟩
  rcases ifS hd with ⟨e, rfl⟩ | hd
  · rw [beq_iff_eq.mp e]; exact ⟨.int 256 339, (mg_eq X g _).trans (by kernel_rfl), fun h M => .int _ _⟩
  cases hd

theorem bi_all {P : Params} {h : Heap} {mg mb : Str → Option Value} (X : (KF P).In h) (g : h.Ns mainGlobals mg) (hb : ∀ x : Str, x ≠ "__name__" → mb x = bootBuiltins x) (x : Str) (f : BI) (hx : cBI x = some f) : mg x = none ∧ mb x = some (biVal f) := by
  rcases ifS hx with ⟨e, rfl⟩ | hx
  · rw [beq_iff_eq.mp e]; exact ⟨(mg_eq X g _).trans (by kernel_rfl), (hb _ (by decide)).trans (by decide +kernel)⟩
  rcases ifS hx with ⟨e, rfl⟩ | hx
  · rw [beq_iff_eq.mp e]; exact ⟨(mg_eq X g _).trans (by kernel_rfl), (hb _ (by decide)).trans (by decide +kernel)⟩
  rcases ifS hx with ⟨e, rfl⟩ | hx
  · rw [beq_iff_eq.mp e]; exact ⟨(mg_eq X g _).trans (by kernel_rfl), (hb _ (by decide)).trans (by decide +kernel)⟩
  rcases ifS hx with ⟨e, rfl⟩ | hx
  · rw [beq_iff_eq.mp e]; exact ⟨(mg_eq X g _).trans (by kernel_rfl), (hb _ (by decide)).trans (by decide +kernel)⟩
  rcases ifS hx with ⟨e, rfl⟩ | hx
  · rw [beq_iff_eq.mp e]; exact ⟨(mg_eq X g _).trans (by kernel_rfl), (hb _ (by decide)).trans (by decide +kernel)⟩
  rcases ifS hx with ⟨e, rfl⟩ | hx
  · rw [beq_iff_eq.mp e]; exact ⟨(mg_eq X g _).trans (by kernel_rfl), (hb _ (by decide)).trans (by decide +kernel)⟩
  cases hx

theorem stat_of {P : Params} {h : Heap} {mg mb : Str → Option Value} (X : (KF P).In h) (lim : h.NoLimit) (g : h.Ns mainGlobals mg) (b : h.Ns builtinsNs mb) (hb : ∀ x : Str, x ≠ "__name__" → mb x = bootBuiltins x) : Stat prog w thePg theGl h mg mb where
  lim := lim
  ng := g
  nb := b
  con := fun x d _ hd => con_all X g x d hd
  bi := fun x f hx _ => bi_all X g hb x f hx
  fn := fun f fn _ hf => fn_all X g f fn hf
  nodbg := fun f hf => by
    cases e : f == ("__debug__" : Str) with
    | false => rfl
    | true =>
      rw [beq_iff_eq.mp e] at hf
      revert hf
      decide +kernel
end
end Mine
end
section
/-! The entry: from the head's premise to a call of the law. -/
open PySem PySem.Calls PyProof.Rows PySem.W PySem.Spec
set_option maxRecDepth 100000
namespace Mine

theorem ints_read {prog : Program} {w : World} {R : WRecords} {cl : Str → Option Addr} {h : Heap} {M : Addr → Prop} : ∀ {ns : List Int} {vs : List Value} {as : List Addr}, ReadsAllW R cl h vs (ns.map .int) as → FVs prog w h M vs (ns.map .int)
  | [], _, _, r => by cases r; exact .nil
  | n :: ns, _, _, r => by
    cases r with | cons r1 r2 =>
    cases r1
    exact .cons (.int _ _) (ints_read r2)

theorem entry (N : Nat) (hN : N < 600) (hplain : ∀ ns : List Int, ns.length ≤ 63 → callF thePg (lo thePg N) "law" [.list (ns.map .int)] = some (.bool true))
    (hbk : ∀ (w : World) (B : Heap) (mg mb : Str → Option Value), (KF w.params).In B → Stat PySem.Challenge.rw_uk0008_01.prog w thePg theGl B mg mb → (∀ x : Str, x ≠ "__name__" → mb x = bootBuiltins x) → ∀ L n, Ok PySem.Challenge.rw_uk0008_01.prog w thePg theGl B L n → Book PySem.Challenge.rw_uk0008_01.prog w theGl B L n) : PySem.Challenge.rw_uk0008_01.Holds := by
  refine hd fun w s₀ s₁ mg mb G Y a o pm cd doc dV kV ho hd hcd hD hmg hg args vals as hpre hlay hrd hwl hlo => ?_
  have X : (KF w.params).In s₁.heap := kIn_of Y
  have T := G.T
  have st : Stat PySem.Challenge.rw_uk0008_01.prog w thePg theGl s₁.heap mg mb := stat_of X T.nolimit T.g T.b T.builtins
  obtain ⟨h1, h2⟩ := pre_splitW hpre
  obtain ⟨d, r, rfl, hd1, hr⟩ := hasAllW_cons h1
  have := hasAllW_nil hr
  subst this
  have hl : ∃ ns : List Int, d = .list (ns.map .int) := by
    obtain ⟨xs, e, hx⟩ := hasW_list hd1
    obtain ⟨ns, e'⟩ := items_int hx
    exact ⟨ns, by rw [e, e']⟩
  obtain ⟨ns, rfl⟩ := hl
  have hlen : ns.length ≤ 63 := by
    w_cond h2
    have := List.length_map (f := WData.int) (as := ns)
    omega
  cases hrd with
  | cons r1 r2 =>
    cases r2
    cases r1 with
    | list e1 e2 e3 e4 =>
      have hB : ∃ o, s₁.heap.get? mainGlobals = some o := let ⟨o, _, _, ho, _⟩ := T.g; ⟨o, ho⟩
      have ok := (ok_all st hB (hbk w s₁.heap mg mb X st T.builtins) N).1
      have good : Ret PySem.Challenge.rw_uk0008_01.prog w (fun _ => False) s₁ (.bool true) (fun v s' => GoodWG PySem.Challenge.rw_uk0008_01.row.toRowW.claim (classAt s₀.heap) (ExcName.means s₀.heap) [.list (ns.map .int)] s₁ (.ok (.ret v)) s') := by
        intro v h' tk pur fv
        cases fv
        refine ⟨.inl ⟨_, _, _, rfl, fun cls => ?_, .bool _, ?_, fun _ => ⟨List.nodup_nil, fun _ h => nomatch h⟩⟩, .of_keep pur, rfl, .of_eq hg⟩
        · rfl
        · wrow_post
      have C : CallOk PySem.Challenge.rw_uk0008_01.prog w thePg theGl s₁.heap mg (lo thePg N) N := call_ok st ok
      obtain ⟨a', o', fd, z1, z2, z3, z4⟩ := C (A := callerA) (E := fun e s' => GoodWG PySem.Challenge.rw_uk0008_01.row.toRowW.claim (classAt s₀.heap) (ExcName.means s₀.heap) [.list (ns.map .int)] s₁ (.error e) s') (s := s₁) (f := ("law" : Str)) (by decide) (hplain ns hlen) rfl (by show 301 + (N + 1) + 10 < 1000; omega) (by show 4 + 4 * (N + 1) + 200 < 9900; omega) (fun b o e => ⟨id, e⟩) (fun a h => h.elim) (.cons (.list id ⟨_, e1, e2, _, e3⟩ (ints_read e4)) .nil) good
      rw [show mg ("law" : Str) = some (.ref a) from dk_name ▸ hmg] at z1
      cases z1
      exact z4
end Mine
end
section
/-! The compiled patterns: search of the law's short texts finds nothing. -/
open PySem PySem.Calls PyProof.Rows PySem.W PySem.Spec
set_option maxRecDepth 100000
namespace Mine
theorem plainAttrs_pat : PlainAttrs "re.Pattern" := ⟨⟨"object.__getattribute__", by rw [typeLookup_type, builtinLookup_eq_fast]; kernel_rfl, by decide +kernel⟩, by rw [typeLookup_type, builtinLookup_eq_fast]; kernel_rfl⟩
theorem slot_search : PySem.Slot "re.Pattern" "search" "re.Pattern.search" :=
  .of (owner := "re.Pattern") (n := "search") (by rw [typeLookup_type, builtinLookup_eq_fast]; kernel_rfl) (by decide +kernel) (by decide +kernel) (by decide +kernel)
    (by first | exact .inl (by decide +kernel) | exact .inr (by decide +kernel)) (by rw [isSubtype_type]; kernel_rfl)
theorem type_search : typeOf (.builtin "re.Pattern.search") = pure (.type "method_descriptor") := by show builtinType _ = _; rw [builtinType_eq_fast]; kernel_rfl
theorem entry_search : entryFor table "re.Pattern.search" = some Builtin.«re.Pattern.search» := entryFor_of_tree (by kernel_rfl)
theorem args_search (a b : Value) : argsOk "re.Pattern.search" ⟨[a, b], []⟩ := by
  unfold argsOk; kernel_rfl
noncomputable def hdrAll : List Str := hdrNames ++ hdrVals
theorem pk_tab (P : Params) (S : Setting) (t : Tok) : hdrAll.map (fun x => peek (KF P) S (Builtin.«re.Pattern.search» ⟨[.ref 94, .str x t], []⟩)) = hdrAll.map fun _ => some (.done (.ret .none)) := by kernel_rfl
theorem pk_tab2 (P : Params) (S : Setting) (t : Tok) : hdrAll.map (fun x => peek (KF P) S (Builtin.«re.Pattern.search» ⟨[.ref 99, .str x t], []⟩)) = hdrAll.map fun _ => some (.done (.ret .none)) := by kernel_rfl
theorem low_hdr_tab : hdrAll.map (fun x => okHdr (Txt.lower x)) = hdrAll.map fun _ => true := by kernel_rfl
theorem low_len_tab : hdrAll.map (fun x => Builtin.Str.tooLong (Txt.lower x).length) = hdrAll.map fun _ => false := by kernel_rfl
theorem hdr_mem {x : Str} (h : okHdr x = true) : x ∈ hdrAll := by simpa [okHdr, hdrAll, List.contains_iff_mem] using h
theorem low_hdr {x : Str} (h : okHdr x = true) : okHdr (Txt.lower x) = true := List.map_inj_left.mp low_hdr_tab x (hdr_mem h)
theorem low_len {x : Str} (h : okHdr x = true) : Builtin.Str.tooLong (Txt.lower x).length = false := List.map_inj_left.mp low_len_tab x (hdr_mem h)
noncomputable def patOf (b : Bool) : Addr := if b then 94 else 99
theorem pk_search (P : Params) (S : Setting) (t : Tok) (b : Bool) {x : Str} (h : okHdr x = true) : peek (KF P) S (Builtin.«re.Pattern.search» ⟨[.ref (patOf b), .str x t], []⟩) = some (.done (.ret .none)) := by
  cases b
  · exact List.map_inj_left.mp (pk_tab2 P S t) x (hdr_mem h)
  · exact List.map_inj_left.mp (pk_tab P S t) x (hdr_mem h)
section
variable {prog : Program} {w : World} {A : Around} {E : Value → Shared → Prop} {s : Shared}
theorem pat_type (X : (KF w.params).In s.heap) (b : Bool) : s.TypeIs (.ref (patOf b)) "re.Pattern" := by
  cases b
  · exact ⟨_, X 99 _ rfl, rfl⟩
  · exact ⟨_, X 94 _ rfl, rfl⟩
theorem pat_nodict (X : (KF w.params).In s.heap) (b : Bool) : ∃ ob, s.heap.get? (patOf b) = some ob ∧ ob.dict = none := by
  cases b
  · exact ⟨_, X 99 _ rfl, rfl⟩
  · exact ⟨_, X 94 _ rfl, rfl⟩
/-- regex.search(x) is None -/
theorem call_search {x : Str} {t : Tok} {b : Bool} {Q : Value → Shared → Prop} (X : (KF w.params).In s.heap) (h : okHdr x = true) (q : Q .none s) : wpAny (model prog w) A (call (.builtin "re.Pattern.search") [.ref (patOf b), .str x t]) Q E s := by
  refine wpAny_call (codeAny_call_builtin slot_search.plain entry_search (slot_search.check _ _ _ _ _ _ _ _ (pat_type X b) (args_search _ _) ?_))
  exact (Looks.of_peek X (pk_search w.params _ t b h)).here q
end
end Mine
end
section
/-! Frames of methods: all names local. -/
open PySem PySem.Calls PyProof.Rows PySem.W PySem.Spec
set_option maxRecDepth 100000
namespace Mine
section
variable {prog : Program} {w : World} {A : Around} {E : Value → Shared → Prop} {s : Shared}
/-- what is looked at of a method's object -/
structure MLook (P : Params) (a : Addr) : Prop where
  obj : ∃ c d sl, (KF P).lookup a = some ⟨c, d, .func (fdOf P a), sl⟩
  body : (fdOf P a).body = .stmts (bodyOf (fdOf P a))
  code : codeIn (KF P) (fdOf P a).code (fdOf P a).qualname = true
  clo : (fdOf P a).closure = []
  glo : (fdOf P a).globals = mainGlobals
  blt : (fdOf P a).builtins = builtinsNs
  co : (fdOf P a).scope.isCoroutine = false
  gen : (fdOf P a).scope.isGenerator = false
  kind : (fdOf P a).scope.kind = .function
theorem l_init (P : Params) : MLook P 122 := ⟨⟨_, _, _, rfl⟩, rfl, rfl, rfl, rfl, rfl, rfl, rfl, rfl⟩
theorem l_conv (P : Params) : MLook P 129 := ⟨⟨_, _, _, rfl⟩, rfl, rfl, rfl, rfl, rfl, rfl, rfl, rfl⟩
theorem l_get (P : Params) : MLook P 177 := ⟨⟨_, _, _, rfl⟩, rfl, rfl, rfl, rfl, rfl, rfl, rfl, rfl⟩
theorem l_items (P : Params) : MLook P 194 := ⟨⟨_, _, _, rfl⟩, rfl, rfl, rfl, rfl, rfl, rfl, rfl, rfl⟩
theorem l_sdf (P : Params) : MLook P 220 := ⟨⟨_, _, _, rfl⟩, rfl, rfl, rfl, rfl, rfl, rfl, rfl, rfl⟩
theorem l_add (P : Params) : MLook P 227 := ⟨⟨_, _, _, rfl⟩, rfl, rfl, rfl, rfl, rfl, rfl, rfl, rfl⟩
/-- what stands still below a method's frame -/
structure Blw (w : World) (B : Heap) (mg mb : Str → Option Value) : Prop where
  X : (KF w.params).In B
  lim : B.NoLimit
  ng : B.Ns mainGlobals mg
  nb : B.Ns builtinsNs mb
  hb : ∀ x : Str, x ≠ "__name__" → mb x = bootBuiltins x
/-- a method's environment -/
structure Ev0 (P : Params) (a : Addr) (env : Env) : Prop where
  scope : env.scope = (fdOf P a).scope
  glo : env.globals = mainGlobals
  blt : env.builtins = builtinsNs
  kind : env.scope.kind = .function
theorem Ev0.kd {P : Params} {a : Addr} {env : Env} (e : Ev0 P a env) (x : Str) : env.kindOf x = (fdOf P a).scope.names.lookup x := by
  unfold Env.kindOf; rw [e.scope]
/-- the heap behind the call, and the frame's names -/
structure Fm (s0 : Heap) (env : Env) (h : Heap) (m : Str → Option Value) : Prop where
  pur : Pur s0 h
  new : s0.get? env.locals = none
  ns : h.Ns env.locals m
theorem Fm.keep {s0 : Heap} {env : Env} {h h' : Heap} {m : Str → Option Value} (f : Fm s0 env h m) (p : Pur h h') : Fm s0 env h' m := ⟨f.pur.trans p, f.new, f.ns.keeps p⟩
noncomputable def upd (m : Str → Option Value) (x : Str) (v : Value) : Str → Option Value := fun y => if y = x then some v else m y
theorem fm_store {s0 : Heap} {env : Env} {m : Str → Option Value} {x : Str} {v : Value} {Q : Unit → Shared → Prop} (f : Fm s0 env s.heap m) (hk : env.kindOf x = some .local) (hf : env.scope.kind = .function)
    (h : ∀ h', Fm s0 env h' (upd m x v) → Heap.SameBut env.locals s.heap h' → Q () { s with heap := h', toks := s.toks + 1 }) : wpAny (model prog w) A (storeName env x v) Q E s := by
  refine wpAny_storeName_local hk f.ns (fun h' hn' same => h h' ⟨fun b o e => ?_, f.new, hn'⟩ same) (by rw [hf]; rfl)
  have hne : b ≠ env.locals := fun q => by rw [q, f.new] at e; cases e
  exact (same.2 b hne).trans (f.pur b o e)
theorem fm_load {s0 : Heap} {env : Env} {m : Str → Option Value} {x : Str} {pos : Pos} {v : Value} {Q : Value → Shared → Prop} (f : Fm s0 env s.heap m) (hk : env.kindOf x = some .local) (hf : env.scope.kind = .function) (hm : m x = some v) (h : Q v s)
    (h1 : (x == ("__debug__" : Str)) = false := by decide) : wpAny (model prog w) A (eval (.Name x pos) env) Q E s :=
  wpAny_Name (wpAny_loadName_local hf hk f.ns hm h) h1
/-- how the arguments come to stand -/
structure BT (s : Shared) (P : Params) (a : Addr) (args : Args) (binds : List (Str × Value)) : Prop where
  b : BindsTo s (fdOf P a) args binds
  loc : (binds.all fun y => (fdOf P a).scope.names.lookup y.1 == some .local) = true
  nd : (binds.map (·.1)).Nodup
theorem bindsG {K : Frag} {fd : FuncData} {args : Args} {binds : List (Str × Value)} (X : K.In s.heap) (e : ∀ S, peek K S (bindArgs fd args) = some binds) : BindsTo s fd args binds := bindsK X e
theorem BT.of {P : Params} {a : Addr} {args : Args} {binds : List (Str × Value)} (X : (KF P).In s.heap) (e : ∀ (K : Frag) (fd : FuncData), K = KF P → fd = fdOf P a → ∀ S, peek K S (bindArgs fd args) = some binds)
    (hloc : (binds.all fun y => (fdOf P a).scope.names.lookup y.1 == some .local) = true) (hnd : (binds.map (·.1)).Nodup) : BT s P a args binds := by
  refine ⟨?_, hloc, hnd⟩
  have e' := e (KF P) (fdOf P a) rfl rfl
  revert e' X
  clear e hloc
  generalize KF P = K
  generalize fdOf P a = fd
  exact fun X e' => bindsG X e'
/-- a function of the block is called -/
theorem fn_call0 {B : Heap} {mg mb : Str → Option Value} (bw : Blw w B mg mb) (pB : Pur B s.heap) {f : Addr} (l : MLook w.params f) {args : Args} {binds : List (Str × Value)} (bt : BT s w.params f args binds) (hdep : A.depth < recursionLimit) {R : Result → Shared → Prop}
    (h : ∀ env h1 t1 m E', Ev0 w.params f env → Fm s.heap env h1 m → env.locals = s.heap.objs.size → (∀ y ∈ binds, m y.1 = some y.2) → wpAny (model prog w) (A.deeper env) (execs (bodyOf (fdOf w.params f)) env) (fun fl s' => R (.ok (.ret (match fl with | .ret v => v | _ => .none))) s') E' { s with heap := h1, toks := t1 }) :
    codeAny (model prog w) A (.call (.ref f) args) R s := by
  obtain ⟨c, d, sl, ho⟩ := l.obj
  have X := bw.X.keeps pB
  have hlc : ∀ y ∈ binds, (fdOf w.params f).scope.names.lookup y.1 = some .local := fun y hy => beq_iff_eq.mp (List.all_eq_true.mp bt.loc y hy)
  refine codeAny_call_function hdep (X _ _ ho) rfl l.co l.gen l.body (codeRec_of X l.code) (bt.b _ _ _ _ ?_)
  rw [l.clo]
  refine wpAny_newFunctionEnv_cells l.kind (fun y hy => .inl (hlc y hy)) fun env henv s' ic => ⟨bw.lim.keeps fun b o e => ic.toInCall.keep b o (pB b o e), codeAny_func ?_⟩
  have e1 : env.scope = (fdOf w.params f).scope := by rw [henv]; rfl
  have e2 : env.locals = s.heap.objs.size := by rw [henv]; rfl
  have ev : Ev0 w.params f env := ⟨e1, by rw [henv]; exact l.glo, by rw [henv]; exact l.blt, by rw [e1]; exact l.kind⟩
  have hnew : s.heap.get? env.locals = none := by
    cases q : s.heap.get? env.locals with
    | none => rfl
    | some o =>
      have hlt := Heap.lt_size q
      rw [e2] at hlt
      exact absurd hlt (Nat.lt_irrefl _)
  obtain ⟨h1, t1, hs1⟩ := ic.toInCall.same
  have hfm : Fm s.heap env s'.heap (bindL env.kindOf binds fun _ => none) := ⟨ic.toInCall.keep, hnew, ic.toInCall.ns⟩
  subst hs1
  exact h env h1 t1 _ _ ev hfm e2 fun y hy => bindL_on (by rw [ev.kd]; exact hlc y hy) _ _ bt.nd hy
theorem fn_call {B : Heap} {mg mb : Str → Option Value} (bw : Blw w B mg mb) (pB : Pur B s.heap) {f : Addr} (l : MLook w.params f) {args : Args} {binds : List (Str × Value)} (bt : BT s w.params f args binds) (hdep : A.depth < recursionLimit) {R : Result → Shared → Prop}
    (h : ∀ env h1 t1 m E', Ev0 w.params f env → Fm s.heap env h1 m → (∀ y ∈ binds, m y.1 = some y.2) → wpAny (model prog w) (A.deeper env) (execs (bodyOf (fdOf w.params f)) env) (fun fl s' => R (.ok (.ret (match fl with | .ret v => v | _ => .none))) s') E' { s with heap := h1, toks := t1 }) :
    codeAny (model prog w) A (.call (.ref f) args) R s := fn_call0 bw pB l bt hdep fun env h1 t1 m E' ev fm _ hm => h env h1 t1 m E' ev fm hm
end
end Mine
end
section
/-! _convert_string_type. -/
open PySem PySem.Calls PyProof.Rows PySem.W PySem.Spec
set_option maxRecDepth 100000
namespace Mine
section
variable {prog : Program} {w : World} {A : Around} {E : Value → Shared → Prop} {s : Shared} {B : Heap} {mg mb : Str → Option Value}
/-- a name of the block, and one of the built-in ones -/
theorem glob_load {a : Addr} {env : Env} {x : Str} {pos : Pos} {v : Value} {Q : Value → Shared → Prop} (bw : Blw w B mg mb) (pB : Pur B s.heap) (ev : Ev0 w.params a env) (hk : (fdOf w.params a).scope.names.lookup x = some .globalImplicit) (hv : nsFind (gEs w.params) x = some v)
    (h : Q v s) (h1 : (x == ("__debug__" : Str)) = false := by decide) : wpAny (model prog w) A (eval (.Name x pos) env) Q E s :=
  Name_function_global ev.kind (by rw [ev.kd]; exact hk) (loadGlobal_global (by rw [ev.glo]; exact bw.ng.keeps pB) ((mg_eq bw.X bw.ng x).trans hv) h) h1
theorem blt_load {a : Addr} {env : Env} {x : Str} {pos : Pos} {v : Value} {Q : Value → Shared → Prop} (bw : Blw w B mg mb) (pB : Pur B s.heap) (ev : Ev0 w.params a env) (hk : (fdOf w.params a).scope.names.lookup x = some .globalImplicit) (hm : nsFind (gEs w.params) x = none) (hn : x ≠ "__name__") (hv : bootBuiltins x = some v)
    (h : Q v s) (h1 : (x == ("__debug__" : Str)) = false := by decide) : wpAny (model prog w) A (eval (.Name x pos) env) Q E s :=
  Name_function_global ev.kind (by rw [ev.kd]; exact hk) (loadGlobal_builtin (by rw [ev.glo]; exact bw.ng.keeps pB) ((mg_eq bw.X bw.ng x).trans hm) (by rw [ev.blt]; exact bw.nb.keeps pB) ((bw.hb x hn).trans hv) h) h1
theorem bb_type : bootBuiltins ("type" : Str) = some (.type "type") := by decide +kernel
theorem bb_str : bootBuiltins ("str" : Str) = some (.type "str") := by decide +kernel
theorem bb_list : bootBuiltins ("list" : Str) = some (.type "list") := by decide +kernel
/-- type(x) of a name that holds it -/
theorem type_of {a : Addr} {env : Env} {x : Str} {p1 p2 p3 : Pos} {v : Value} {T : String} {s0 : Heap} {m : Str → Option Value} {Q : Value → Shared → Prop} (bw : Blw w B mg mb) (pB : Pur B s.heap) (ev : Ev0 w.params a env) (fm : Fm s0 env s.heap m)
    (hk : (fdOf w.params a).scope.names.lookup ("type" : Str) = some .globalImplicit) (hx : (fdOf w.params a).scope.names.lookup x = some .local) (hm : m x = some v) (hT : s.TypeIs v T) (hnb : (Value.type T == Value.type "builtin_function_or_method") = false) (h : Q (.type T) s)
    (h1 : (x == ("__debug__" : Str)) = false := by decide) : wpAny (model prog w) A (eval (.Call (.Name "type" p1) [.Name x p2] [] p3) env) Q E s := by
  rw [arm_eval_Call_Name']
  refine wpAny_bind (blt_load bw pB ev hk (by kernel_rfl) (by decide) bb_type (PySem.callWith_type1 ?_))
  exact fm_load fm (by rw [ev.kd]; exact hx) ev.kind hm (call_type_of hT hnb h) h1
theorem p_conv (P : Params) (S : Setting) (u0 u1 u2 : Value) : peek (KF P) S (bindArgs (fdOf P 129) ⟨[u0, u1], [("name", u2)]⟩) = some [(("self" : Str), u0), (("value" : Str), u1), (("name" : Str), u2)] := by kernel_rfl
theorem b_conv {P : Params} (X : (KF P).In s.heap) (u0 u1 u2 : Value) : BT s P 129 ⟨[u0, u1], [("name", u2)]⟩ [(("self" : Str), u0), (("value" : Str), u1), (("name" : Str), u2)] :=
  .of X (fun K fd hK hf S => by rw [hK, hf]; exact p_conv P S u0 u1 u2) (by kernel_rfl) (of_decide_eq_true (by kernel_rfl))
theorem conv_call (bw : Blw w B mg mb) (pB : Pur B s.heap) (hh : A.handled = none) (hdep : A.depth < recursionLimit) {self : Value} {x : Str} {t : Tok} {b : Bool} (hx : okHdr x = true) {R : Result → Shared → Prop}
    (h : ∀ h' tk, Pur s.heap h' → R (.ok (.ret (.str x t))) { s with heap := h', toks := tk }) : codeAny (model prog w) A (.call (.ref 129) ⟨[self, .str x t], [("name", .bool b)]⟩) R s := by
  refine fn_call bw pB (l_conv _) (b_conv (bw.X.keeps pB) self (.str x t) (.bool b)) hdep fun env h1 t1 m E' ev fm hm => ?_
  have hv : m ("value" : Str) = some (.str x t) := hm (("value" : Str), .str x t) (by simp)
  have hn : m ("name" : Str) = some (.bool b) := hm (("name" : Str), .bool b) (by simp)
  have pB1 : Pur B h1 := pB.trans fm.pur
  have klv : (fdOf w.params 129).scope.names.lookup ("value" : Str) = some .local := by kernel_rfl
  refine wpAny_execs_cons (wpAny_If (wpAny_isTrue_Compare1 (type_of (s := { s with heap := h1, toks := t1 }) bw pB1 ev fm (by kernel_rfl) klv hv (typeIs_str _ _ _) (by decide) ?_)))
  refine blt_load (s := { s with heap := h1, toks := t1 }) bw pB1 ev (by kernel_rfl) (by kernel_rfl) (by decide) bb_str ?_
  refine wpAny_is_self rfl (wpAny_truthy_bool ?_)
  refine wpAny_execs_cons (wpAny_Assign_Name (wpAny_IfExp (wpAny_isTrue_value (fm_load (s := { s with heap := h1, toks := t1 }) fm (by rw [ev.kd]; kernel_rfl) ev.kind hn (wpAny_truthy_bool ?_)))))
  have hpat : ∀ (Q : Value → Shared → Prop) E'' p1 p2, Q (.ref (patOf b)) { s with heap := h1, toks := t1 } → (if b = true then wpAny (model prog w) (A.deeper env) (eval (.Name "_name_disallowed_re" p1) env) Q E'' { s with heap := h1, toks := t1 } else wpAny (model prog w) (A.deeper env) (eval (.Name "_value_disallowed_re" p2) env) Q E'' { s with heap := h1, toks := t1 }) := fun Q E'' p1 p2 hq => by
    cases b
    · exact glob_load (s := { s with heap := h1, toks := t1 }) bw pB1 ev (by kernel_rfl) (by kernel_rfl) hq
    · exact glob_load (s := { s with heap := h1, toks := t1 }) bw pB1 ev (by kernel_rfl) (by kernel_rfl) hq
  refine hpat _ _ _ _ ?_
  refine fm_store (s := { s with heap := h1, toks := t1 }) fm (by rw [ev.kd]; kernel_rfl) ev.kind fun h2 fm2 _ => ?_
  have pB2 : Pur B h2 := pB.trans fm2.pur
  have hv2 : upd m ("regex" : Str) (.ref (patOf b)) ("value" : Str) = some (.str x t) := by rw [← hv]; rfl
  refine wpAny_execs_cons (wpAny_If (wpAny_isTrue_value (wpAny_Call_method rfl rfl rfl plainAttrs_pat slot_search type_search (fm_load (s := { s with heap := h2, toks := t1 + 1 }) fm2 (by rw [ev.kd]; kernel_rfl) ev.kind rfl ⟨pat_type (s := { s with heap := h2, toks := t1 + 1 }) (bw.X.keeps pB2) b, fun a ha => ?_, ?_⟩))))
  · cases ha; exact pat_nodict (s := { s with heap := h2, toks := t1 + 1 }) (bw.X.keeps pB2) b
  refine callWith_builtin rfl (evalArgs_plain (spliced_cons (fm_load (s := { s with heap := h2, toks := t1 + 1 }) fm2 (by rw [ev.kd]; kernel_rfl) ev.kind hv2 (spliced_nil ?_))))
  refine call_search (s := { s with heap := h2, toks := t1 + 1 }) (bw.X.keeps pB2) hx (truthy_none ?_)
  refine wpAny_execs_nil ?_
  refine wpAny_execs_cons (wpAny_Return_some (fm_load (s := { s with heap := h2, toks := t1 + 1 }) fm2 (by rw [ev.kd]; kernel_rfl) ev.kind hv2 ?_))
  exact h h2 (t1 + 1) fm2.pur
end
end Mine
end
section
/-! A Headers in the heap: its attributes and its methods. -/
open PySem PySem.Calls PyProof.Rows PySem.W PySem.Spec
set_option maxRecDepth 100000
namespace Mine
theorem nsMap_hdr {P : Params} {B : Heap} (X : (KF P).In B) : B.nsMap mainGlobals (Str.ofString "Headers") = some (.ref 230) := by
  obtain ⟨c, d, n, sl, e⟩ := g_lookup P
  have h := X 3 _ e
  have h' : B.get? mainGlobals = some ⟨c, d, .dict (gEs P) n, sl⟩ := h
  unfold Heap.nsMap
  rw [h']
  kernel_rfl
/-- the object and its dict -/
structure Hd (h : Heap) (x dx hl : Addr) (hs : Int) (t : Tok) (n : Nat) : Prop where
  ox : h.get? x = some (instObj 230 dx)
  od : h.get? dx = some (dictOf [⟨hs, .str ("_headers" : Str) t, .ref hl⟩] n)
theorem Hd.keep {h h' : Heap} {x dx hl : Addr} {hs : Int} {t : Tok} {n : Nat} (b : Hd h x dx hl hs t n) (p : Pur h h') : Hd h' x dx hl hs t n := ⟨p _ _ b.ox, p _ _ b.od⟩
theorem Hd.inst {h : Heap} {x dx hl : Addr} {hs : Int} {t : Tok} {n : Nat} (b : Hd h x dx hl hs t n) : InstAt h x (instObj 230 dx) 230 (some (dictOf [⟨hs, .str ("_headers" : Str) t, .ref hl⟩] n)) := ⟨b.ox, rfl, rfl, b.od⟩
theorem f_ga (P : Params) : findIn (KF P) (.ref 230) "__getattribute__" = some (some (.builtin "object.__getattribute__")) := by kernel_rfl
theorem f_gt (P : Params) : findIn (KF P) (.ref 230) "__getattr__" = some none := by kernel_rfl
theorem f_conv (P : Params) : findIn (KF P) (.ref 230) "_convert_string_type" = some (some (.ref 129)) := by kernel_rfl
theorem f_get (P : Params) : findIn (KF P) (.ref 230) "get" = some (some (.ref 177)) := by kernel_rfl
theorem f_items (P : Params) : findIn (KF P) (.ref 230) "items" = some (some (.ref 194)) := by kernel_rfl
theorem f_sdf (P : Params) : findIn (KF P) (.ref 230) "setdefault" = some (some (.ref 220)) := by kernel_rfl
theorem f_add (P : Params) : findIn (KF P) (.ref 230) "add_header" = some (some (.ref 227)) := by kernel_rfl
theorem f_init (P : Params) : findIn (KF P) (.ref 230) "__init__" = some (some (.ref 122)) := by kernel_rfl
theorem f_hd (P : Params) : findIn (KF P) (.ref 230) "_headers" = some none := by kernel_rfl
theorem f_dict (P : Params) : hasDictIn (KF P) 230 = true := by kernel_rfl
section
variable {prog : Program} {w : World} {A : Around} {E : Value → Shared → Prop} {s : Shared} {B : Heap} {mg mb : Str → Option Value}
/-- a method is found on the class -/
theorem meth_of {x dx hl : Addr} {hs : Int} {t : Tok} {n : Nat} {name : Str} {f : Addr} {pl : Sem Bool} {Q : Value × List Value → Shared → Prop} (X : (KF w.params).In s.heap) (b : Hd s.heap x dx hl hs t n) (hf : findIn (KF w.params) (.ref 230) name = some (some (.ref f))) (ht : typeIn (KF w.params) (.ref f) = some (.type "function"))
    (hsh : ∀ (hs : Int) (t : Tok) (hl : Addr) (n : Nat), shadowIn (some (dictOf [⟨hs, .str ("_headers" : Str) t, .ref hl⟩] n)) name = some false) (h : Q (.ref f, [.ref x]) s) : wpAny (model prog w) A (getMethod (.ref x) name pl) Q E s :=
  method_fn X b.inst (f_ga _) (f_gt _) hf ht (hsh _ _ _ _) h
/-- self._headers -/
theorem hd_attr {x dx hl : Addr} {hs : Int} {t : Tok} {n : Nat} {o : PySem.Expr} {env : Env} {pos : Pos} {Q : Value → Shared → Prop} (hb : attributeBase o "_headers" env (eval o env) = eval o env) (hlt : ∀ v r, letTemporaryGo o v r = pure ())
    (h : wpAny (model prog w) A (eval o env) (fun v s₁ => ∃ x dx hl hs t n, v = .ref x ∧ (KF w.params).In s₁.heap ∧ Hd s₁.heap x dx hl hs t n ∧ Q (.ref hl) { s₁ with toks := s₁.toks + 1 }) E s) :
    wpAny (model prog w) A (eval (.Attribute o "_headers" pos) env) Q E s := by
  rw [arm_eval_Attribute, hb]
  refine wpAny_bind (wpAny_mono h (fun v s₁ h₁ => ?_) fun _ _ e => e)
  obtain ⟨x, dx, hl, hs, t, n, rfl, X, b, q⟩ := h₁
  refine wpAny_bind (wpAny_standAt (wpAny_bind (wpAny_holding ?_)))
  refine get_value (v := .ref hl) X b.inst (f_ga _) (findObj_own (f_dict _) (f_hd _) (by rfl) (by kernel_rfl)) rfl ?_
  rw [hlt]
  exact wpAny_bind (wpAny_pure (wpAny_pure q))
/-- the call of a method of such an object -/
theorem inst_call {o : PySem.Expr} {name : Str} {apos pos : Pos} {args : List PySem.Expr} {kws : List Keyword} {env : Env} {Q : Value → Shared → Prop}
    (hbase : attributeBase o name env (eval o env) = eval o env) (hfew : methodCallForm (args.length + kws.length) (backTo pos (starEach args env)) (backToKw pos (keywordEach kws env)) = true) (hline : (apos.endLine == pos.line) = true)
    (h : wpAny (model prog w) A (eval o env) (fun ov s₁ => ∀ pl, wpAny (model prog w) A (getMethod ov name pl) (fun fx s₂ => wpAny (model prog w) A (callWith pos fx.1 fx.2 (backTo pos (starEach args env)) (backToKw pos (keywordEach kws env))) Q E s₂) E s₁) E s) :
    wpAny (model prog w) A (eval (.Call (.Attribute o name apos) args kws pos) env) Q E s := by
  rw [arm_eval_Call, hbase]
  refine wpAny_bind (wpAny_mono h (fun ov s₁ h₁ => ?_) fun _ _ e => e)
  refine wpAny_bind (wpAny_standAt ?_)
  have hpos : methodCallPos true o env apos pos = pure pos := by unfold methodCallPos; simp [hline]
  unfold methodCall
  rw [hfew]
  refine wpAny_bind (wpAny_holding (wpAny_mono (h₁ _) (fun fx s₂ h₂ => ?_) fun _ _ e => e))
  exact wpAny_bind (wpAny_of_eq hpos h₂)
theorem t_conv (P : Params) : typeIn (KF P) (.ref 129) = some (.type "function") := by kernel_rfl
theorem t_get (P : Params) : typeIn (KF P) (.ref 177) = some (.type "function") := by kernel_rfl
theorem t_items (P : Params) : typeIn (KF P) (.ref 194) = some (.type "function") := by kernel_rfl
theorem t_sdf (P : Params) : typeIn (KF P) (.ref 220) = some (.type "function") := by kernel_rfl
theorem t_add (P : Params) : typeIn (KF P) (.ref 227) = some (.type "function") := by kernel_rfl
theorem t_init (P : Params) : typeIn (KF P) (.ref 122) = some (.type "function") := by kernel_rfl
theorem k_conv (P : Params) : keepIn (KF P) (.ref 129) = true := by kernel_rfl
theorem k_get (P : Params) : keepIn (KF P) (.ref 177) = true := by kernel_rfl
theorem k_items (P : Params) : keepIn (KF P) (.ref 194) = true := by kernel_rfl
theorem k_sdf (P : Params) : keepIn (KF P) (.ref 220) = true := by kernel_rfl
theorem k_add (P : Params) : keepIn (KF P) (.ref 227) = true := by kernel_rfl
/-- self._convert_string_type(e, name=b) -/
theorem self_conv (bw : Blw w B mg mb) {s0 : Heap} {a x dx hl : Addr} {hs : Int} {t : Tok} {n : Nat} {env : Env} {m : Str → Option Value} (pB : Pur B s0) (hd : Hd s0 x dx hl hs t n) (ev : Ev0 w.params a env) (fm : Fm s0 env s.heap m)
    (ks : (fdOf w.params a).scope.names.lookup ("self" : Str) = some .local) (hm : m ("self" : Str) = some (.ref x)) (hh : A.handled = none) (hdep : A.depth < recursionLimit)
    {e : PySem.Expr} {p1 p2 p3 p4 p5 : Pos} {k : Nat} {b : Bool} {Q : Value → Shared → Prop} (hst : starEach [e] env = [(false, eval e env)]) (hline : (p2.endLine == p5.line) = true)
    (h : wpAny (model prog w) A (eval e env) (fun v s₁ => ∃ y u, v = .str y u ∧ okHdr y = true ∧ Pur s.heap s₁.heap ∧ ∀ h' tk, Pur s₁.heap h' → Q (.str y u) { s₁ with heap := h', toks := tk }) E s) :
    wpAny (model prog w) A (eval (.Call (.Attribute (.Name ("self" : Str) p1) ("_convert_string_type" : Str) p2) [e] [⟨some ("name" : Str), .Constant (.bool b) k p3, p4⟩] p5) env) Q E s := by
  have pBs : Pur B s.heap := pB.trans fm.pur
  refine inst_call rfl (by rw [hst]; rfl) hline (fm_load fm (by rw [ev.kd]; exact ks) ev.kind hm fun pl => ?_)
  refine meth_of (bw.X.keeps pBs) (hd.keep fm.pur) (f_conv _) (t_conv _) (fun _ _ _ _ => by kernel_rfl) ?_
  refine callWith_KW (h₀ := s.heap) (K := KF w.params) (bw.X.keeps pBs) (k_conv _) rfl ?_ (by rw [hst]; rfl) hst
  rw [hst]
  refine spliced_cons (wpAny_mono h (fun v s₁ h₁ => ?_) fun _ _ x => x)
  obtain ⟨y, u, rfl, hy, p1, hq⟩ := h₁
  refine spliced_nil (wpAny_evalAll_cons (wpAny_bind (wpAny_Constant_bool (wpAny_bind (wpAny_standAt (wpAny_pure (wpAny_evalAll_nil ?_)))))))
  refine ⟨(bw.X.keeps pBs).keeps p1, wpAny_call ?_⟩
  exact conv_call (s := s₁) bw (pBs.trans p1) hh hdep hy fun h' tk p2 => hq h' tk p2
end
end Mine
end
section
/-! get of a Headers. -/
open PySem PySem.Calls PyProof.Rows PySem.W PySem.Spec
set_option maxRecDepth 100000
namespace Mine
section
variable {prog : Program} {w : World} {A : Around} {E : Value → Shared → Prop} {s : Shared} {B : Heap} {mg mb : Str → Option Value}
/-- the pairs as they stand -/
noncomputable def Pairs (h : Heap) : List Value → List (Str × Str) → Prop
  | [], [] => True
  | v :: vs, p :: l => (∃ T t1 t2, v = .ref T ∧ IsTup h T #[.str p.1 t1, .str p.2 t2]) ∧ Pairs h vs l
  | _, _ => False
theorem Pairs.len {h : Heap} : ∀ {vs : List Value} {l : List (Str × Str)}, Pairs h vs l → vs.length = l.length
  | [], [], _ => rfl
  | _ :: _, _ :: _, x => by simp [Pairs.len x.2]
  | [], _ :: _, x => x.elim
  | _ :: _, [], x => x.elim
theorem Pairs.get {h : Heap} : ∀ {vs : List Value} {l : List (Str × Str)}, Pairs h vs l → ∀ {i : Nat} {v : Value}, vs[i]? = some v → ∃ p T t1 t2, l[i]? = some p ∧ v = .ref T ∧ IsTup h T #[.str p.1 t1, .str p.2 t2]
  | [], [], _, _, _, e => by cases e
  | _ :: _, p :: _, x, 0, _, e => by cases e; obtain ⟨T, t1, t2, h1, h2⟩ := x.1; exact ⟨p, T, t1, t2, rfl, h1, h2⟩
  | _ :: _, _ :: _, x, i + 1, _, e => x.2.get (i := i) e
  | [], _ :: _, x, _, _, _ => x.elim
  | _ :: _, [], x, _, _, _ => x.elim
theorem pairs_of {h : Heap} {M : Addr → Prop} : ∀ {vs : List Value} {l : List (Str × Str)}, FVs prog w h M vs (l.map fun p => .tuple [.str p.1, .str p.2]) → Pairs h vs l
  | [], [], _ => trivial
  | v :: vs, p :: l, f => by
    cases f with | cons x y =>
    cases x with | tuple nM it f =>
    rename_i T items
    obtain ⟨v1, v2, he, f1, f2⟩ := f.two
    cases f1; cases f2
    rename_i t1 t2
    have e : items = #[.str p.1 t1, .str p.2 t2] := by
      rw [← Array.toList_inj, he]
    exact ⟨⟨T, t1, t2, rfl, e ▸ it⟩, pairs_of y⟩
  | [], _ :: _, f => by cases f
  | _ :: _, [], f => by cases f
theorem p_get3 (P : Params) (S : Setting) (u0 u1 u2 : Value) : peek (KF P) S (bindArgs (fdOf P 177) ⟨[u0, u1, u2], []⟩) = some [(("self" : Str), u0), (("name" : Str), u1), (("default" : Str), u2)] := by kernel_rfl
theorem p_get2 (P : Params) (S : Setting) (u0 u1 : Value) : peek (KF P) S (bindArgs (fdOf P 177) ⟨[u0, u1], []⟩) = some [(("self" : Str), u0), (("name" : Str), u1), (("default" : Str), .none)] := by kernel_rfl
theorem b_get3 {P : Params} (X : (KF P).In s.heap) (u0 u1 u2 : Value) : BT s P 177 ⟨[u0, u1, u2], []⟩ [(("self" : Str), u0), (("name" : Str), u1), (("default" : Str), u2)] :=
  .of X (fun K fd hK hf S => by rw [hK, hf]; exact p_get3 P S u0 u1 u2) (by kernel_rfl) (of_decide_eq_true (by kernel_rfl))
theorem b_get2 {P : Params} (X : (KF P).In s.heap) (u0 u1 : Value) : BT s P 177 ⟨[u0, u1], []⟩ [(("self" : Str), u0), (("name" : Str), u1), (("default" : Str), .none)] :=
  .of X (fun K fd hK hf S => by rw [hK, hf]; exact p_get2 P S u0 u1) (by kernel_rfl) (of_decide_eq_true (by kernel_rfl))
/-- what get gives -/
noncomputable def GetIs (l : List (Str × Str)) (c : Str) (dv v : Value) : Prop := match l.find? fun p => Txt.lower p.1 == Txt.lower c with
  | some p => ∃ t, v = .str p.2 t
  | none => v = dv
theorem get_run (bw : Blw w B mg mb) (pB : Pur B s.heap) (hh : A.handled = none) (hdep : A.depth + 1 < recursionLimit) {x dx hl : Addr} {hs : Int} {t : Tok} {n k : Nat} (hd : Hd s.heap x dx hl hs t n) {items : List Value} {l : List (Str × Str)}
    (hL : s.heap.get? hl = some (listOf items.toArray k)) (hP : Pairs s.heap items l) (hok : (l.all fun p => okHdr p.1) = true) {c : Str} {u : Tok} (hc : okHdr c = true) {dv : Value} {args : Args} (bt : BT s w.params 177 args [(("self" : Str), .ref x), (("name" : Str), .str c u), (("default" : Str), dv)])
    {R : Result → Shared → Prop} (h : ∀ v h' tk, Pur s.heap h' → GetIs l c dv v → R (.ok (.ret v)) { s with heap := h', toks := tk }) : codeAny (model prog w) A (.call (.ref 177) args) R s := by
  refine fn_call bw pB (l_get _) bt (Nat.lt_trans (Nat.lt_succ_self _) hdep) fun env h1 t1 m E' ev fm hm => ?_
  have hself : m ("self" : Str) = some (.ref x) := hm (("self" : Str), .ref x) (by simp)
  have hname : m ("name" : Str) = some (.str c u) := hm (("name" : Str), .str c u) (by simp)
  have hdflt : m ("default" : Str) = some dv := hm (("default" : Str), dv) (by simp)
  have hA : (A.deeper env).handled = none := hh
  have hD : (A.deeper env).depth < recursionLimit := hdep
  have kself : (fdOf w.params 177).scope.names.lookup ("self" : Str) = some .local := by kernel_rfl
  have kname : (fdOf w.params 177).scope.names.lookup ("name" : Str) = some .local := by kernel_rfl
  have kdf : (fdOf w.params 177).scope.names.lookup ("default" : Str) = some .local := by kernel_rfl
  have kk : (fdOf w.params 177).scope.names.lookup ("k" : Str) = some .local := by kernel_rfl
  have kv : (fdOf w.params 177).scope.names.lookup ("v" : Str) = some .local := by kernel_rfl
  -- name = self._convert_string_type(name.lower(), name=True)
  refine wpAny_execs_cons (wpAny_Assign_Name (self_conv (s := { s with heap := h1, toks := t1 }) bw pB hd ev fm kself hself hA hD rfl rfl ?_))
  refine Call_method0 rfl rfl (fm_load (s := { s with heap := h1, toks := t1 }) fm (by rw [ev.kd]; exact kname) ev.kind hname (SB.lower (low_len hc) ?_))
  refine ⟨_, _, rfl, low_hdr hc, Pur.refl _, fun h2 t2 p2 => ?_⟩
  refine fm_store (s := { s with heap := h2, toks := t2 }) (fm.keep p2) (by rw [ev.kd]; exact kname) ev.kind fun h3 fm3 _ => ?_
  have hself3 : upd m ("name" : Str) (.str (Txt.lower c) t1) ("self" : Str) = some (.ref x) := by rw [← hself]; rfl
  have hname3 : upd m ("name" : Str) (.str (Txt.lower c) t1) ("name" : Str) = some (.str (Txt.lower c) t1) := rfl
  have hdflt3 : upd m ("name" : Str) (.str (Txt.lower c) t1) ("default" : Str) = some dv := by rw [← hdflt]; rfl
  generalize upd m ("name" : Str) (.str (Txt.lower c) t1) = m3 at *
  -- for k, v in self._headers
  refine wpAny_execs_cons (wpAny_For ?_)
  refine hd_attr (x := x) (dx := dx) (hl := hl) (hs := hs) (t := t) (n := n) rfl (fun _ _ => rfl) (fm_load (s := { s with heap := h3, toks := t2 + 1 }) fm3 (by rw [ev.kd]; exact kself) ev.kind hself3 ⟨x, dx, hl, hs, t, n, rfl, bw.X.keeps (pB.trans fm3.pur), hd.keep fm3.pur, ?_⟩)
  have hL3 : h3.IsList hl items.toArray := ⟨_, fm3.pur _ _ hL, rfl, _, rfl⟩
  refine wpAny_pyIter_list (s := { s with heap := h3, toks := t2 + 1 + 1 }) hL3 ?_
  have hIlt : ∀ {b o}, h3.get? b = some o → b ≠ h3.objs.size := fun e => Nat.ne_of_lt (Heap.lt_size e)
  have hs0I : ∀ {b o}, s.heap.get? b = some o → b ≠ h3.objs.size := fun e => hIlt (fm3.pur _ _ e)
  have hlocI : env.locals ≠ h3.objs.size := by obtain ⟨o, _, _, ho, _⟩ := fm3.ns; exact hIlt ho
  have hlI : hl ≠ h3.objs.size := hs0I hL
  have hlL : hl ≠ env.locals := fun q => by have := fm3.new; rw [← q, hL] at this; cases this
  have W := Walks.list (prog := prog) (w := w) hA h3.objs.size hl hlI items.toArray
  generalize hI : h3.objs.size = I at *
  have hlen : items.length = l.length := hP.len
  refine codeAny_forLoop_any (fun j s' => ∃ i h' tk m', s' = { s with heap := h', toks := tk } ∧ j = items.length + 1 - i ∧ i ≤ items.length ∧ Fm s.heap env h' m' ∧ (h'.IsListIter I hl i ∧ h'.IsList hl items.toArray) ∧
    m' ("name" : Str) = some (.str (Txt.lower c) t1) ∧ m' ("default" : Str) = some dv ∧ (l.find? fun p => Txt.lower p.1 == Txt.lower c) = (l.drop i).find? fun p => Txt.lower p.1 == Txt.lower c) ?_ (items.length + 1)
    ⟨0, _, t2 + 1 + 1, m3, rfl, rfl, Nat.zero_le _, fm3.keep (Pur.push _ _), ⟨⟨_, by rw [← hI]; exact Heap.get?_push_size _ rfl, rfl, rfl⟩, let ⟨o, ho, r⟩ := hL3; ⟨o, Heap.get?_push_of_some _ ho, r⟩⟩, hname3, hdflt3, rfl⟩
  rintro j s' ⟨i, h4, t4, m4, rfl, rfl, hi, fm4, st4, hn4, hd4, hf4⟩
  rcases Nat.lt_or_ge i items.length with hlt | hge
  · refine W.item i _ _ _ (by simpa using hlt) st4 fun v h5 t5 hPv st5 hk5 => ?_
    have hk5' : ∀ b o, b ≠ I → h4.get? b = some o → h5.get? b = some o := fun b o nb e => hk5 b o (by simpa using nb) e
    have fm5 : Fm s.heap env h5 m4 := ⟨fun b o e => hk5' b o (hs0I e) (fm4.pur b o e), fm4.new, fm4.ns.at' fun o e => hk5' _ o hlocI e⟩
    obtain ⟨p, T, a1, a2, hp, rfl, hT⟩ := hP.get (i := i) (v := v) (by simpa using hPv)
    have hT5 : IsTup h5 T #[.str p.1 a1, .str p.2 a2] := by obtain ⟨o, ho, r⟩ := hT; exact ⟨o, fm5.pur _ _ ho, r⟩
    have hdrop : l.drop i = p :: l.drop (i + 1) := by
      obtain ⟨hlt', rfl⟩ := List.getElem?_eq_some_iff.mp hp
      exact List.drop_eq_getElem_cons hlt'
    have hokp : okHdr p.1 = true := List.all_eq_true.mp hok p (List.mem_of_getElem? hp)
    refine letGo_plain (s := { s with heap := h5, toks := t5 }) (by obtain ⟨o, ho, hcl, _⟩ := st5.1; exact ⟨o, ho, _, hcl, by decide⟩) ?_
    refine assign_Tuple_tuple (s := { s with heap := h5, toks := t5 }) hA hT5 rfl rfl fun h6 ext => ?_
    have p6 : Pur h5 h6 := fun b o e => ext b o (Nat.ne_of_lt (Heap.lt_size e)) e
    show wpAny _ (A.deeper env) (do holding [.str p.2 a2] (assign (.Name ("k" : Str) _) env (.str p.1 a1)); assignInOrder [assign (.Name ("v" : Str) _) env] [.str p.2 a2]) _ _ _
    refine wpAny_bind (wpAny_holding (wpAny_assign_Name ?_))
    refine fm_store (s := { s with heap := h6, toks := t5 }) (fm5.keep p6) (by rw [ev.kd]; exact kk) ev.kind fun h7 fm7 same7 => ?_
    show wpAny _ (A.deeper env) (do holding [] (assign (.Name ("v" : Str) _) env (.str p.2 a2)); assignInOrder [] []) _ _ _
    refine wpAny_bind (wpAny_holding (wpAny_assign_Name ?_))
    refine fm_store (s := { s with heap := h7, toks := t5 + 1 }) fm7 (by rw [ev.kd]; exact kv) ev.kind fun h8 fm8 same8 => wpAny_pure ?_
    have hk8 : upd (upd m4 ("k" : Str) (.str p.1 a1)) ("v" : Str) (.str p.2 a2) ("k" : Str) = some (.str p.1 a1) := rfl
    have hv8 : upd (upd m4 ("k" : Str) (.str p.1 a1)) ("v" : Str) (.str p.2 a2) ("v" : Str) = some (.str p.2 a2) := rfl
    have hn8 : upd (upd m4 ("k" : Str) (.str p.1 a1)) ("v" : Str) (.str p.2 a2) ("name" : Str) = some (.str (Txt.lower c) t1) := by rw [← hn4]; rfl
    have hd8 : upd (upd m4 ("k" : Str) (.str p.1 a1)) ("v" : Str) (.str p.2 a2) ("default" : Str) = some dv := by rw [← hd4]; rfl
    generalize upd (upd m4 ("k" : Str) (.str p.1 a1)) ("v" : Str) (.str p.2 a2) = m8 at *
    have st8 : h8.IsListIter I hl (i + 1) ∧ h8.IsList hl items.toArray := W.frame _ _ _ st5 fun b hb o e => by
      have nb : b ≠ env.locals := by
        simp only [List.mem_cons, List.not_mem_nil, or_false] at hb
        rcases hb with rfl | rfl
        · exact Ne.symm hlocI
        · exact hlL
      exact (same8.2 b nb).trans ((same7.2 b nb).trans (p6 b o e))
    -- if k.lower() == name: return v
    refine wpAny_execs_cons (wpAny_If (wpAny_isTrue_Compare1 (Call_method0 rfl rfl (fm_load (s := { s with heap := h8, toks := t5 + 1 + 1 }) fm8 (by rw [ev.kd]; exact kk) ev.kind hk8 (SB.lower (low_len hokp) ?_)))))
    refine fm_load (s := { s with heap := h8, toks := t5 + 1 + 1 + 1 }) fm8 (by rw [ev.kd]; exact kname) ev.kind hn8 ?_
    refine PyProof.Rows.eq_str (wpAny_truthy_bool ?_)
    cases hq : Txt.lower p.1 == Txt.lower c with
    | true =>
      refine wpAny_execs_cons (wpAny_Return_some (fm_load (s := { s with heap := h8, toks := t5 + 1 + 1 + 1 }) fm8 (by rw [ev.kd]; exact kv) ev.kind hv8 ?_))
      refine h _ h8 _ fm8.pur ?_
      unfold GetIs
      rw [hf4, hdrop, List.find?_cons, hq]
      exact ⟨_, rfl⟩
    | false =>
      refine wpAny_execs_nil (wpAny_execs_nil ⟨items.length + 1 - (i + 1), by omega, i + 1, h8, _, m8, rfl, rfl, hlt, fm8, st8, hn8, hd8, ?_⟩)
      rw [hf4, hdrop, List.find?_cons, hq]
  · have : i = items.length := by omega
    subst this
    refine W.done _ _ _ (by simpa using st4) fun h5 t5 hk5 => ?_
    have hk5' : ∀ b o, b ≠ I → h4.get? b = some o → h5.get? b = some o := fun b o nb e => hk5 b o (by simpa using nb) e
    have fm5 : Fm s.heap env h5 m4 := ⟨fun b o e => hk5' b o (hs0I e) (fm4.pur b o e), fm4.new, fm4.ns.at' fun o e => hk5' _ o hlocI e⟩
    refine wpAny_execs_nil (wpAny_execs_cons (wpAny_Return_some (fm_load (s := { s with heap := h5, toks := t5 }) fm5 (by rw [ev.kd]; exact kdf) ev.kind hd4 ?_)))
    refine h _ h5 _ fm5.pur ?_
    unfold GetIs
    rw [hf4, hlen, List.drop_length]
    rfl
end
end Mine
end
section
/-! add_header, setdefault and items of a Headers. -/
open PySem PySem.Calls PyProof.Rows PySem.W PySem.Spec
set_option maxRecDepth 100000
namespace Mine
section
variable {prog : Program} {w : World} {A : Around} {E : Value → Shared → Prop} {s : Shared} {B : Heap} {mg mb : Str → Option Value}
/-- a pair is put behind the others -/
structure Apd (h0 h' : Heap) (hl : Addr) (items : List Value) (k : Nat) (c d : Str) : Prop where
  ex : ∃ h1 T t1 t2, Pur h0 h1 ∧ Heap.SameBut hl h1 h' ∧ h'.get? hl = some (listOf (items ++ [Value.ref T]).toArray (k + 1)) ∧ IsTup h' T #[.str c t1, .str d t2] ∧ T ≠ hl ∧ h0.get? T = none
theorem hd_append (bw : Blw w B mg mb) {s0 : Heap} {a x dx hl : Addr} {hs : Int} {t : Tok} {n k : Nat} {env : Env} {m : Str → Option Value} (pB : Pur B s0) (hd : Hd s0 x dx hl hs t n) (ev : Ev0 w.params a env) (fm : Fm s0 env s.heap m)
    (ks : (fdOf w.params a).scope.names.lookup ("self" : Str) = some .local) (hm : m ("self" : Str) = some (.ref x)) {items : List Value} (hL : s0.get? hl = some (listOf items.toArray k)) (hlen : items.length ≤ 2000) {c d : Str}
    {ec ed : PySem.Expr} {p1 p2 p3 p4 p5 p6 : Pos} {kk : Nat} {Q : Flow → Shared → Prop} (hst : starEach [.Tuple [ec, ed] kk p4] env = [(false, eval (.Tuple [ec, ed] kk p4) env)]) (hline : (p3.endLine == p5.line) = true)
    (hsw : swapsWith (.Call (.Attribute (.Attribute (.Name ("self" : Str) p1) ("_headers" : Str) p2) ("append" : Str) p3) [.Tuple [ec, ed] kk p4] [] p5) none p6.line env = pure false)
    (he : ∀ {Q' : List Value → Shared → Prop} {h1 : Heap} {k1 : Nat}, Pur s.heap h1 → Fm s0 env h1 m → (∀ h2 tk t1 t2, Pur h1 h2 → Q' [.str c t1, .str d t2] { s with heap := h2, toks := tk }) → wpAny (model prog w) A (spliced (backTo p4 (starEach [ec, ed] env))) Q' E { s with heap := h1, toks := k1 })
    (h : ∀ h' tk, Apd s0 h' hl items k c d → h'.Ns env.locals m → Q .next { s with heap := h', toks := tk }) :
    wpAny (model prog w) A (exec (.Expr (.Call (.Attribute (.Attribute (.Name ("self" : Str) p1) ("_headers" : Str) p2) ("append" : Str) p3) [.Tuple [ec, ed] kk p4] [] p5) p6) env) Q E s := by
  have hL1 : s.heap.get? hl = some (listOf items.toArray k) := fm.pur _ _ hL
  refine wpAny_Expr ?_ (by unfold interactive; rw [ev.kind]; rfl) hsw
  refine wpAny_Call_method rfl (by rw [hst]; rfl) hline F.plainAttrs_list F.slot_list_append F.type_list_append ?_
  refine hd_attr (x := x) (dx := dx) (hl := hl) (hs := hs) (t := t) (n := n) rfl (fun _ _ => rfl) (fm_load fm (by rw [ev.kd]; exact ks) ev.kind hm ⟨x, dx, hl, hs, t, n, rfl, bw.X.keeps (pB.trans fm.pur), hd.keep fm.pur, ⟨_, hL1, rfl⟩, fun a ha => ?_, ?_⟩)
  · cases ha; exact ⟨_, hL1, rfl⟩
  rw [hst]
  refine callWith_builtin rfl (evalArgs_plain (spliced_cons (wpAny_Tuple (k := kk) (he (Pur.refl _) fm fun h2 tk t1 t2 p => ⟨by rw [sizeLine_eq]; simp, spliced_nil ?_⟩))))
  have hL2 : (h2.push { cls := .type "tuple", data := .seq [Value.str c t1, .str d t2].toArray }).get? hl = some { cls := .type "list", data := .seq items.toArray k } := Heap.get?_push_of_some _ (p _ _ hL1)
  refine append_at (s := { s with heap := h2.push { cls := .type "tuple", data := .seq [Value.str c t1, .str d t2].toArray }, toks := tk }) hL2 (fun h3 same e3 => ?_) (by simp; rw [sizeLine_eq]; omega)
  have hT : (h2.push { cls := .type "tuple", data := .seq [Value.str c t1, .str d t2].toArray }).get? h2.objs.size = some { cls := .type "tuple", data := .seq [Value.str c t1, .str d t2].toArray } := Heap.get?_push_size _ rfl
  have hne : h2.objs.size ≠ hl := Nat.ne_of_gt (Heap.lt_size (p _ _ hL1))
  have hlL : env.locals ≠ hl := fun q => by have := fm.new; rw [q, hL] at this; cases this
  refine h h3 tk ?_ (((fm.ns.keeps p).keeps (Pur.push _ _)).sameBut same hlL)
  refine ⟨_, h2.objs.size, t1, t2, (fm.pur.trans p).trans (Pur.push _ _), same, ?_, ⟨_, (same.2 _ hne).trans hT, rfl, _, rfl⟩, hne, ?_⟩
  · rw [e3]; simp
  · cases q : s0.get? h2.objs.size with
    | none => rfl
    | some o => exact absurd (Heap.lt_size (p _ _ (fm.pur _ _ q))) (Nat.lt_irrefl _)
/-! ### setdefault -/
theorem p_sdf (P : Params) (S : Setting) (u0 u1 u2 : Value) : peek (KF P) S (bindArgs (fdOf P 220) ⟨[u0, u1, u2], []⟩) = some [(("self" : Str), u0), (("name" : Str), u1), (("value" : Str), u2)] := by kernel_rfl
theorem b_sdf {P : Params} (X : (KF P).In s.heap) (u0 u1 u2 : Value) : BT s P 220 ⟨[u0, u1, u2], []⟩ [(("self" : Str), u0), (("name" : Str), u1), (("value" : Str), u2)] :=
  .of X (fun K fd hK hf S => by rw [hK, hf]; exact p_sdf P S u0 u1 u2) (by kernel_rfl) (of_decide_eq_true (by kernel_rfl))
theorem sdf_run (bw : Blw w B mg mb) (pB : Pur B s.heap) (hh : A.handled = none) (hdep : A.depth + 2 < recursionLimit) {x dx hl : Addr} {hs : Int} {t : Tok} {n k : Nat} (hd : Hd s.heap x dx hl hs t n) {items : List Value} {l : List (Str × Str)}
    (hL : s.heap.get? hl = some (listOf items.toArray k)) (hP : Pairs s.heap items l) (hok : (l.all fun p => okHdr p.1) = true) (hlen : l.length ≤ 2000) {c d : Str} {u u2 : Tok} (hc : okHdr c = true) (hd' : okHdr d = true)
    {R : Result → Shared → Prop} (h1 : ∀ p h' tk t', (l.find? fun p => Txt.lower p.1 == Txt.lower c) = some p → Pur s.heap h' → R (.ok (.ret (.str p.2 t'))) { s with heap := h', toks := tk })
    (h2 : ∀ h' tk, (l.find? fun p => Txt.lower p.1 == Txt.lower c) = none → Apd s.heap h' hl items k c d → R (.ok (.ret (.str d u2))) { s with heap := h', toks := tk }) : codeAny (model prog w) A (.call (.ref 220) ⟨[.ref x, .str c u, .str d u2], []⟩) R s := by
  refine fn_call bw pB (l_sdf _) (b_sdf (bw.X.keeps pB) _ _ _) (by omega) fun env h3 t3 m E' ev fm hm => ?_
  have hself : m ("self" : Str) = some (.ref x) := hm (("self" : Str), .ref x) (by simp)
  have hname : m ("name" : Str) = some (.str c u) := hm (("name" : Str), .str c u) (by simp)
  have hval : m ("value" : Str) = some (.str d u2) := hm (("value" : Str), .str d u2) (by simp)
  have hA : (A.deeper env).handled = none := hh
  have hD : (A.deeper env).depth + 1 < recursionLimit := by show A.depth + 1 + 1 < _; omega
  have kself : (fdOf w.params 220).scope.names.lookup ("self" : Str) = some .local := by kernel_rfl
  have kname : (fdOf w.params 220).scope.names.lookup ("name" : Str) = some .local := by kernel_rfl
  have kval : (fdOf w.params 220).scope.names.lookup ("value" : Str) = some .local := by kernel_rfl
  have kres : (fdOf w.params 220).scope.names.lookup ("result" : Str) = some .local := by kernel_rfl
  have X3 : (KF w.params).In h3 := bw.X.keeps (pB.trans fm.pur)
  -- result = self.get(name)
  refine wpAny_execs_cons (wpAny_Assign_Name (inst_call rfl rfl rfl (fm_load (s := { s with heap := h3, toks := t3 }) fm (by rw [ev.kd]; exact kself) ev.kind hself fun pl => ?_)))
  refine meth_of (s := { s with heap := h3, toks := t3 }) X3 (hd.keep fm.pur) (f_get _) (t_get _) (fun _ _ _ _ => by kernel_rfl) ?_
  refine callWith_of (P := fun h => (KF w.params).In h) rfl (keeps_K (k_get _)) (evalArgs_plain (spliced_cons (fm_load (s := { s with heap := h3, toks := t3 }) fm (by rw [ev.kd]; exact kname) ev.kind hname (spliced_nil ⟨X3, wpAny_call ?_⟩))))
  have hP3 : Pairs h3 items l := by
    have key : ∀ {vs : List Value} {l : List (Str × Str)}, Pairs s.heap vs l → Pairs h3 vs l := fun {vs l} => by
      induction vs generalizing l with
      | nil => cases l with | nil => exact id | cons _ _ => exact id
      | cons v vs ih =>
        cases l with
        | nil => exact id
        | cons p l => exact fun ⟨⟨T, t1, t2, e, ⟨o, ho, r⟩⟩, r'⟩ => ⟨⟨T, t1, t2, e, ⟨o, fm.pur _ _ ho, r⟩⟩, ih r'⟩
    exact key hP
  refine get_run (s := { s with heap := h3, toks := t3 }) bw (pB.trans fm.pur) hA hD (hd.keep fm.pur) (fm.pur _ _ hL) hP3 hok hc (b_get2 (s := { s with heap := h3, toks := t3 }) X3 _ _) fun v h4 t4 p4 hv => ?_
  refine fm_store (s := { s with heap := h4, toks := t4 }) (fm.keep p4) (by rw [ev.kd]; exact kres) ev.kind fun h5 fm5 _ => ?_
  have hself5 : upd m ("result" : Str) v ("self" : Str) = some (.ref x) := by rw [← hself]; rfl
  have hname5 : upd m ("result" : Str) v ("name" : Str) = some (.str c u) := by rw [← hname]; rfl
  have hval5 : upd m ("result" : Str) v ("value" : Str) = some (.str d u2) := by rw [← hval]; rfl
  have hres5 : upd m ("result" : Str) v ("result" : Str) = some v := rfl
  generalize upd m ("result" : Str) v = m5 at *
  have hitems : items.length ≤ 2000 := by rw [hP.len]; exact hlen
  unfold GetIs at hv
  refine wpAny_execs_cons (wpAny_If (wpAny_isTrue_Compare1 (fm_load (s := { s with heap := h5, toks := t4 + 1 }) fm5 (by rw [ev.kd]; exact kres) ev.kind hres5 (wpAny_Constant_none ?_))))
  cases hf : l.find? fun p => Txt.lower p.1 == Txt.lower c with
  | some p =>
    rw [hf] at hv
    obtain ⟨t', rfl⟩ := hv
    refine is_str_none (wpAny_truthy_bool ?_)
    refine wpAny_execs_cons (wpAny_Return_some (fm_load (s := { s with heap := h5, toks := t4 + 1 }) fm5 (by rw [ev.kd]; exact kres) ev.kind hres5 ?_))
    exact h1 p h5 _ t' hf fm5.pur
  | none =>
    rw [hf] at hv
    subst hv
    refine wpAny_is_self rfl (wpAny_truthy_bool ?_)
    refine wpAny_execs_cons ?_
    refine hd_append (s := { s with heap := h5, toks := t4 + 1 }) (c := c) (d := d) bw pB hd ev fm5 kself hself5 hL hitems rfl rfl rfl (fun {Q' h6 k6} _ fm6 hq => ?_) fun h' tk ap hns => ?_
    · refine spliced_cons (self_conv (s := { s with heap := h6, toks := k6 }) bw pB hd ev fm6 kself hself5 hA (by omega) rfl rfl (fm_load (s := { s with heap := h6, toks := k6 }) fm6 (by rw [ev.kd]; exact kname) ev.kind hname5 ⟨_, _, rfl, hc, Pur.refl _, fun h7 t7 p7 => ?_⟩))
      refine spliced_cons (self_conv (s := { s with heap := h7, toks := t7 }) bw pB hd ev (fm6.keep p7) kself hself5 hA (by omega) rfl rfl (fm_load (s := { s with heap := h7, toks := t7 }) (fm6.keep p7) (by rw [ev.kd]; exact kval) ev.kind hval5 ⟨_, _, rfl, hd', Pur.refl _, fun h8 t8 p8 => spliced_nil ?_⟩))
      exact hq h8 t8 u u2 (p7.trans p8)
    · refine wpAny_execs_cons (wpAny_Return_some (wpAny_Name (wpAny_loadName_local ev.kind (by rw [ev.kd]; exact kval) hns hval5 ?_) (by decide)))
      exact h2 h' tk hf ap
end
end Mine
end
section
/-! add_header of a Headers. -/
open PySem PySem.Calls PyProof.Rows PySem.W PySem.Spec
set_option maxRecDepth 100000
namespace Mine
section
variable {prog : Program} {w : World} {A : Around} {E : Value → Shared → Prop} {s : Shared} {B : Heap} {mg mb : Str → Option Value}
/-- a call whose binding makes a dict -/
theorem fn_callD (bw : Blw w B mg mb) (pB : Pur B s.heap) {f : Addr} (l : MLook w.params f) {args : Args} {bindsF : Addr → List (Str × Value)}
    (hb : bindArgs (fdOf w.params f) args = (alloc { cls := .type "dict", data := .dict #[] } >>= fun a => pure (bindsF a)))
    (hloc : ∀ a, ((bindsF a).all fun y => (fdOf w.params f).scope.names.lookup y.1 == some .local) = true) (hnd : ∀ a, ((bindsF a).map (·.1)).Nodup) (hdep : A.depth < recursionLimit) {R : Result → Shared → Prop}
    (h : ∀ env h1 t1 m E', Ev0 w.params f env → Fm (s.heap.push { cls := .type "dict", data := .dict #[] }) env h1 m → (∀ y ∈ bindsF s.heap.objs.size, m y.1 = some y.2) → wpAny (model prog w) (A.deeper env) (execs (bodyOf (fdOf w.params f)) env) (fun fl s' => R (.ok (.ret (match fl with | .ret v => v | _ => .none))) s') E' { s with heap := h1, toks := t1 }) :
    codeAny (model prog w) A (.call (.ref f) args) R s := by
  obtain ⟨c, d, sl, ho⟩ := l.obj
  have X := bw.X.keeps pB
  have hlc : ∀ y ∈ bindsF s.heap.objs.size, (fdOf w.params f).scope.names.lookup y.1 = some .local := fun y hy => beq_iff_eq.mp (List.all_eq_true.mp (hloc _) y hy)
  refine codeAny_call_function hdep (X _ _ ho) rfl l.co l.gen l.body (codeRec_of X l.code) ?_
  rw [hb]
  refine wpAny_bind (wpAny_alloc (wpAny_pure ?_))
  rw [l.clo]
  refine wpAny_newFunctionEnv_cells l.kind (fun y hy => .inl (hlc y hy)) fun env henv s' ic => ⟨bw.lim.keeps fun b o e => ic.toInCall.keep b o (Heap.get?_push_of_some _ (pB b o e)), codeAny_func ?_⟩
  have e1 : env.scope = (fdOf w.params f).scope := by rw [henv]; rfl
  have e2 : env.locals = (s.heap.push { cls := .type "dict", data := .dict #[] }).objs.size := by rw [henv]; rfl
  have ev : Ev0 w.params f env := ⟨e1, by rw [henv]; exact l.glo, by rw [henv]; exact l.blt, by rw [e1]; exact l.kind⟩
  have hnew : (s.heap.push { cls := .type "dict", data := .dict #[] }).get? env.locals = none := by
    cases q : (s.heap.push { cls := .type "dict", data := .dict #[] }).get? env.locals with
    | none => rfl
    | some o =>
      have hlt := Heap.lt_size q
      rw [e2] at hlt
      exact absurd hlt (Nat.lt_irrefl _)
  obtain ⟨h1, t1, hs1⟩ := ic.toInCall.same
  have hfm : Fm (s.heap.push { cls := .type "dict", data := .dict #[] }) env s'.heap (bindL env.kindOf (bindsF s.heap.objs.size) fun _ => none) := ⟨ic.toInCall.keep, hnew, ic.toInCall.ns⟩
  subst hs1
  exact h env h1 t1 _ _ ev hfm fun y hy => bindL_on (by rw [ev.kd]; exact hlc y hy) _ _ (hnd _) hy
theorem p_add (P : Params) (u0 u1 u2 : Value) : bindArgs (fdOf P 227) ⟨[u0, u1, u2], []⟩ = (alloc { cls := .type "dict", data := .dict #[] } >>= fun a => pure [(("self" : Str), u0), (("_name" : Str), u1), (("_value" : Str), u2), (("_params" : Str), .ref a)]) := by kernel_rfl
theorem loc_add (P : Params) (u0 u1 u2 u3 : Value) : (([(("self" : Str), u0), (("_name" : Str), u1), (("_value" : Str), u2), (("_params" : Str), u3)] : List (Str × Value)).all fun y => (fdOf P 227).scope.names.lookup y.1 == some .local) = true := by kernel_rfl
theorem nd_add (u0 u1 u2 u3 : Value) : (([(("self" : Str), u0), (("_name" : Str), u1), (("_value" : Str), u2), (("_params" : Str), u3)] : List (Str × Value)).map (·.1)).Nodup := of_decide_eq_true (by kernel_rfl)
theorem join_tab : hdrAll.map (fun x => (Txt.join ⟨#[59, 32]⟩ [x], JoinOk ⟨#[59, 32]⟩ [x])) = hdrAll.map fun x => (x, true) := by kernel_rfl
theorem Apd.down {h0 h1 h' : Heap} {hl : Addr} {items : List Value} {k : Nat} {c d : Str} (p : Pur h0 h1) (x : Apd h1 h' hl items k c d) : Apd h0 h' hl items k c d := by
  obtain ⟨q1, T, t1, t2, e1, e2, e3, e4, e5, e6⟩ := x.ex
  refine ⟨q1, T, t1, t2, p.trans e1, e2, e3, e4, e5, ?_⟩
  cases q : h0.get? T with
  | none => rfl
  | some o => rw [p _ _ q] at e6; cases e6
theorem add_run (bw : Blw w B mg mb) (pB : Pur B s.heap) (hh : A.handled = none) (hdep : A.depth + 2 < recursionLimit) {x dx hl : Addr} {hs : Int} {t : Tok} {n k : Nat} (hd : Hd s.heap x dx hl hs t n) {items : List Value}
    (hL : s.heap.get? hl = some (listOf items.toArray k)) (hlen : items.length ≤ 2000) {c d : Str} {u u2 : Tok} (hc : okHdr c = true) (hd' : okHdr d = true) (hB : ∃ o, B.get? mainGlobals = some o)
    {R : Result → Shared → Prop} (h : ∀ h' tk, Apd s.heap h' hl items k c d → R (.ok (.ret .none)) { s with heap := h', toks := tk }) : codeAny (model prog w) A (.call (.ref 227) ⟨[.ref x, .str c u, .str d u2], []⟩) R s := by
  refine fn_callD bw pB (l_add _) (p_add _ _ _ _) (fun a => loc_add _ _ _ _ _) (fun a => nd_add _ _ _ _) (by omega) fun env h3 t3 m E' ev fm hm => ?_
  have hself : m ("self" : Str) = some (.ref x) := hm (("self" : Str), .ref x) (by simp)
  have hname : m ("_name" : Str) = some (.str c u) := hm (("_name" : Str), .str c u) (by simp)
  have hval : m ("_value" : Str) = some (.str d u2) := hm (("_value" : Str), .str d u2) (by simp)
  have hpar : m ("_params" : Str) = some (.ref s.heap.objs.size) := hm (("_params" : Str), .ref s.heap.objs.size) (by simp)
  generalize hD0 : s.heap.objs.size = D0 at *
  have pP : Pur s.heap (s.heap.push { cls := .type "dict", data := .dict #[] }) := Pur.push _ _
  have hdct : (s.heap.push { cls := .type "dict", data := .dict #[] }).DictOf (intKind prog w) D0 ([] : List (Int × Value)) := by rw [← hD0]; exact dict_new _
  have hdS : (D0 == sysModules) = false := by
    apply beq_false_of_ne
    intro q
    obtain ⟨o, ho⟩ := hB
    have lt := Heap.lt_size (pB _ _ ho)
    rw [hD0, q] at lt
    exact absurd lt (by decide)
  have pB0 := pB.trans pP
  have hd0 := hd.keep pP
  have hL0 := pP _ _ hL
  have down : ∀ {h'}, Apd (s.heap.push { cls := .type "dict", data := .dict #[] }) h' hl items k c d → Apd s.heap h' hl items k c d := fun x => x.down pP
  generalize s.heap.push { cls := .type "dict", data := .dict #[] } = s0 at *
  have hA : (A.deeper env).handled = none := hh
  have hD : (A.deeper env).depth + 1 < recursionLimit := by show A.depth + 1 + 1 < _; omega
  have kself : (fdOf w.params 227).scope.names.lookup ("self" : Str) = some .local := by kernel_rfl
  have kname : (fdOf w.params 227).scope.names.lookup ("_name" : Str) = some .local := by kernel_rfl
  have kval : (fdOf w.params 227).scope.names.lookup ("_value" : Str) = some .local := by kernel_rfl
  have kpar : (fdOf w.params 227).scope.names.lookup ("_params" : Str) = some .local := by kernel_rfl
  have kparts : (fdOf w.params 227).scope.names.lookup ("parts" : Str) = some .local := by kernel_rfl
  have kk : (fdOf w.params 227).scope.names.lookup ("k" : Str) = some .local := by kernel_rfl
  have kv : (fdOf w.params 227).scope.names.lookup ("v" : Str) = some .local := by kernel_rfl
  -- parts = []
  refine wpAny_execs_cons (wpAny_Assign_Name (wpAny_List (wpAny_items_nil ⟨Nat.zero_le _, ?_⟩)))
  have hnewP : s0.get? h3.objs.size = none := by
    cases q : s0.get? h3.objs.size with
    | none => rfl
    | some o => exact absurd (Heap.lt_size (fm.pur _ _ q)) (Nat.lt_irrefl _)
  have hPL : h3.objs.size ≠ env.locals := by obtain ⟨o, _, _, ho, _⟩ := fm.ns; exact Nat.ne_of_gt (Heap.lt_size ho)
  have hPo : (h3.push { cls := .type "list", data := .seq ([] : List Value).toArray }).get? h3.objs.size = some { cls := .type "list", data := .seq #[] } := Heap.get?_push_size _ rfl
  generalize h3.objs.size = Pa at *
  refine fm_store (s := { s with heap := h3.push { cls := .type "list", data := .seq ([] : List Value).toArray }, toks := t3 }) (fm.keep (Pur.push _ _)) (by rw [ev.kd]; exact kparts) ev.kind fun h4 fm4 same4 => ?_
  have hP4 : h4.get? Pa = some { cls := .type "list", data := .seq #[] } := (same4.2 _ hPL).trans hPo
  have hself4 : upd m ("parts" : Str) (.ref Pa) ("self" : Str) = some (.ref x) := by rw [← hself]; rfl
  have hname4 : upd m ("parts" : Str) (.ref Pa) ("_name" : Str) = some (.str c u) := by rw [← hname]; rfl
  have hval4 : upd m ("parts" : Str) (.ref Pa) ("_value" : Str) = some (.str d u2) := by rw [← hval]; rfl
  have hpar4 : upd m ("parts" : Str) (.ref Pa) ("_params" : Str) = some (.ref D0) := by rw [← hpar]; rfl
  have hparts4 : upd m ("parts" : Str) (.ref Pa) ("parts" : Str) = some (.ref Pa) := rfl
  generalize upd m ("parts" : Str) (.ref Pa) = m4 at *
  -- if _value is not None
  refine wpAny_execs_cons (wpAny_If (wpAny_isTrue_Compare1 (fm_load (s := { s with heap := h4, toks := t3 + 1 }) fm4 (by rw [ev.kd]; exact kval) ev.kind hval4 (wpAny_Constant_none (isnot_str_none (wpAny_truthy_bool ?_))))))
  refine wpAny_execs_cons (wpAny_Assign_Name (self_conv (s := { s with heap := h4, toks := t3 + 1 }) bw pB0 hd0 ev fm4 kself hself4 hA (by omega) rfl rfl (fm_load (s := { s with heap := h4, toks := t3 + 1 }) fm4 (by rw [ev.kd]; exact kval) ev.kind hval4 ⟨_, _, rfl, hd', Pur.refl _, fun h5 t5 p5 => ?_⟩)))
  refine fm_store (s := { s with heap := h5, toks := t5 }) (fm4.keep p5) (by rw [ev.kd]; exact kval) ev.kind fun h6 fm6 same6 => ?_
  have hP6 : h6.get? Pa = some { cls := .type "list", data := .seq #[] } := (same6.2 _ hPL).trans (p5 _ _ hP4)
  have hself6 : upd m4 ("_value" : Str) (.str d u2) ("self" : Str) = some (.ref x) := by rw [← hself4]; rfl
  have hname6 : upd m4 ("_value" : Str) (.str d u2) ("_name" : Str) = some (.str c u) := by rw [← hname4]; rfl
  have hval6 : upd m4 ("_value" : Str) (.str d u2) ("_value" : Str) = some (.str d u2) := rfl
  have hpar6 : upd m4 ("_value" : Str) (.str d u2) ("_params" : Str) = some (.ref D0) := by rw [← hpar4]; rfl
  have hparts6 : upd m4 ("_value" : Str) (.str d u2) ("parts" : Str) = some (.ref Pa) := by rw [← hparts4]; rfl
  generalize upd m4 ("_value" : Str) (.str d u2) = m6 at *
  -- parts.append(_value)
  refine wpAny_execs_cons (wpAny_Expr ?_ (by unfold interactive; rw [ev.kind]; rfl) rfl)
  refine wpAny_Call_method rfl rfl rfl F.plainAttrs_list F.slot_list_append F.type_list_append (fm_load (s := { s with heap := h6, toks := t5 + 1 }) fm6 (by rw [ev.kd]; exact kparts) ev.kind hparts6 ⟨⟨_, hP6, rfl⟩, fun a ha => ?_, ?_⟩)
  · cases ha; exact ⟨_, hP6, rfl⟩
  refine callWith_builtin rfl (evalArgs_plain (spliced_cons (fm_load (s := { s with heap := h6, toks := t5 + 1 }) fm6 (by rw [ev.kd]; exact kval) ev.kind hval6 (spliced_nil ?_))))
  refine append_at (s := { s with heap := h6, toks := t5 + 1 }) (n := 0) hP6 (fun h7 same7 e7 => ?_) (by rw [sizeLine_eq]; simp)
  have fm7 : Fm s0 env h7 m6 := ⟨fun b o e => (same7.2 b fun q => by rw [q, hnewP] at e; cases e).trans (fm6.pur b o e), fm6.new, fm6.ns.sameBut same7 (Ne.symm hPL)⟩
  refine wpAny_execs_nil ?_
  -- for k, v in _params.items()
  obtain ⟨ep, hdA⟩ := hdct.dictAt
  have hdA7 := hdA.keep fm7.pur
  have hD0L : D0 ≠ env.locals := fun q => by
    obtain ⟨o, _, ho, _⟩ := hdA
    have := fm7.new
    rw [← q, ho] at this; cases this
  have hPD0 : Pa ≠ D0 := fun q => by
    obtain ⟨o, _, ho, _⟩ := hdA
    rw [← q, hnewP] at ho; cases ho
  refine wpAny_execs_cons (wpAny_For (wpAny_Call_items (s := { s with heap := h7, toks := t5 + 1 }) hdS hdA7.dictOf rfl rfl (fun Q' q => fm_load (s := { s with heap := h7, toks := t5 + 1 }) fm7 (by rw [ev.kd]; exact kpar) ev.kind hpar6 q) ?_))
  refine wpAny_pyIter_items (knd := intKind prog w) (d := D0) (kvs := []) (ep := ep) ⟨_, Heap.get?_push_size _ rfl, rfl, rfl⟩ (hdA7.push _) ?_
  have p8 : Pur h7 ((h7.push { cls := .type "dict_items", data := .fields #[.ref D0] }).push { cls := .type "dict_itemiterator", data := .fields #[.none, .bool false, .ref D0, .int 0 0, .int (([] : List (Int × Value)).length) 0, .int ep 0, .none, .none] }) := (Pur.push _ _).trans (Pur.push _ _)
  have hsz : h7.objs.size < (h7.push { cls := .type "dict_items", data := .fields #[.ref D0] }).objs.size := by rw [Heap.size_push]; exact Nat.lt_succ_self _
  have hIt : ∀ {b o}, h7.get? b = some o → b ≠ (h7.push { cls := .type "dict_items", data := .fields #[.ref D0] }).objs.size := fun e => Nat.ne_of_lt (Nat.lt_trans (Heap.lt_size e) hsz)
  have hItL : (h7.push { cls := .type "dict_items", data := .fields #[.ref D0] }).objs.size ≠ env.locals := by obtain ⟨o, _, _, ho, _⟩ := fm7.ns; exact Ne.symm (hIt ho)
  have hItD : D0 ≠ (h7.push { cls := .type "dict_items", data := .fields #[.ref D0] }).objs.size := by obtain ⟨o, _, ho, _⟩ := hdA7; exact hIt ho
  have hItP : Pa ≠ (h7.push { cls := .type "dict_items", data := .fields #[.ref D0] }).objs.size := hIt e7
  refine codeAny_forLoop_items_locals (knd := intKind prog w) (kvs := ([] : List (Int × Value))) (m := m6) hA (by rw [ev.kd]; exact kk) (by rw [ev.kd]; exact kv) (by rw [ev.kind]; rfl) (Ne.symm (Ne.symm hItL)) hD0L hItD (Heap.get?_push_size _ rfl) ((hdA7.push _).push _) (fm7.ns.keeps p8) (fun _ m' => m' = m6) rfl (fun i k v key m₁ s₁ hk => by simp at hk) fun h8 t8 m8 hns8 hj hk8 => ?_
  subst hj
  have fm8 : Fm s0 env h8 m8 := ⟨fun b o e => hk8 b o (fun q => by rw [q, fm7.new] at e; cases e) (hIt (fm7.pur _ _ e)) (p8 _ _ (fm7.pur _ _ e)), fm7.new, hns8⟩
  have hP8 : h8.get? Pa = some { cls := .type "list", data := .seq ((#[] : Array Value).push (.str d u2)) (0 + 1) } := hk8 _ _ hPL hItP (p8 _ _ e7)
  -- self._headers.append((.., ..))
  refine wpAny_execs_cons (hd_append (s := { s with heap := h8, toks := t8 }) (c := c) (d := d) bw pB0 hd0 ev fm8 kself hself6 hL0 hlen rfl rfl rfl (fun {Q' h9 k9} p9 fm9 hq => ?_) fun h' tk ap hns => wpAny_execs_nil (h h' tk (down ap)))
  refine spliced_cons (self_conv (s := { s with heap := h9, toks := k9 }) bw pB0 hd0 ev fm9 kself hself6 hA (by omega) rfl rfl (fm_load (s := { s with heap := h9, toks := k9 }) fm9 (by rw [ev.kd]; exact kname) ev.kind hname6 ⟨_, _, rfl, hc, Pur.refl _, fun h10 t10 p10 => ?_⟩))
  have hP10 : h10.IsList Pa (strValues [(d, u2)]).toArray := ⟨_, p10 _ _ (p9 _ _ hP8), rfl, _, rfl⟩
  refine spliced_cons (Call_method1 rfl rfl rfl (wpAny_Constant_str (SB.join (fm_load (s := { s with heap := h10, toks := t10 + 1 }) (fm9.keep p10) (by rw [ev.kd]; exact kparts) ev.kind hparts6 ⟨Pa, [(d, u2)], rfl, hP10, [d], rfl, ?_, fun t' k' => spliced_nil ?_⟩))))
  · exact congrArg Prod.snd (List.map_inj_left.mp join_tab d (hdr_mem hd'))
  · exact hq h10 k' u t' p10
end
end Mine
end
section
/-! items of a Headers, and a new one. -/
open PySem PySem.Calls PyProof.Rows PySem.W PySem.Spec
set_option maxRecDepth 100000
namespace Mine
section
variable {prog : Program} {w : World} {A : Around} {E : Value → Shared → Prop} {s : Shared} {B : Heap} {mg mb : Str → Option Value}
theorem p_items (P : Params) (S : Setting) (u0 : Value) : peek (KF P) S (bindArgs (fdOf P 194) ⟨[u0], []⟩) = some [(("self" : Str), u0)] := by kernel_rfl
theorem b_items {P : Params} (X : (KF P).In s.heap) (u0 : Value) : BT s P 194 ⟨[u0], []⟩ [(("self" : Str), u0)] :=
  .of X (fun K fd hK hf S => by rw [hK, hf]; exact p_items P S u0) (by kernel_rfl) (of_decide_eq_true (by kernel_rfl))
theorem items_run (bw : Blw w B mg mb) (pB : Pur B s.heap) (hdep : A.depth < recursionLimit) {x dx hl : Addr} {hs : Int} {t : Tok} {n k : Nat} (hd : Hd s.heap x dx hl hs t n) {items : List Value} {ds : List D} {M : Addr → Prop} (live : Live M s.heap)
    (hL : s.heap.get? hl = some (listOf items.toArray k)) (f : FVs prog w s.heap M items ds) (hlen : ds.length ≤ 1000)
    {R : Result → Shared → Prop} (h : ∀ v h' tk, Pur s.heap h' → FV prog w h' M v (.list ds) → R (.ok (.ret v)) { s with heap := h', toks := tk }) : codeAny (model prog w) A (.call (.ref 194) ⟨[.ref x], []⟩) R s := by
  refine fn_call bw pB (l_items _) (b_items (bw.X.keeps pB) _) hdep fun env h3 t3 m E' ev fm hm => ?_
  have hself : m ("self" : Str) = some (.ref x) := hm (("self" : Str), .ref x) (by simp)
  have kself : (fdOf w.params 194).scope.names.lookup ("self" : Str) = some .local := by kernel_rfl
  refine wpAny_execs_cons (wpAny_Return_some (Subscript_ ?_))
  refine hd_attr (x := x) (dx := dx) (hl := hl) (hs := hs) (t := t) (n := n) rfl (fun _ _ => rfl) (fm_load (s := { s with heap := h3, toks := t3 }) fm (by rw [ev.kd]; exact kself) ev.kind hself ⟨x, dx, hl, hs, t, n, rfl, bw.X.keeps (pB.trans fm.pur), hd.keep fm.pur, ?_⟩)
  refine wpAny_Slice ?_
  rw [evalPart_none]
  refine wpAny_pure (wpAny_pure (wpAny_pure ?_))
  have hsl : slc2 (.list ds) none none = some (.list ds) := by
    simp only [slc2]
    rw [if_pos (by omega)]
    simp
  refine slc_ok (s := { s with heap := h3, toks := t3 + 1 }) (M := M) (fun a ha => let ⟨o, e⟩ := live a ha; ⟨o, fm.pur _ _ e⟩) (.list (items := items.toArray) ⟨_, fm.pur _ _ hL, rfl, _, rfl⟩ (by simpa using f.pur fm.pur)) .none .none hsl ?_
  exact fun v h' tk p fv => h v h' tk (fm.pur.trans p) fv
/-! ### a new one -/
theorem p_init (P : Params) (S : Setting) (u0 u1 : Value) : peek (KF P) S (bindArgs (fdOf P 122) ⟨[u0, u1], []⟩) = some [(("self" : Str), u0), (("headers" : Str), u1)] := by kernel_rfl
theorem b_init {P : Params} (X : (KF P).In s.heap) (u0 u1 : Value) : BT s P 122 ⟨[u0, u1], []⟩ [(("self" : Str), u0), (("headers" : Str), u1)] :=
  .of X (fun K fd hK hf S => by rw [hK, hf]; exact p_init P S u0 u1) (by kernel_rfl) (of_decide_eq_true (by kernel_rfl))
theorem f_set (P : Params) : findIn (KF P) (.ref 230) "__setattr__" = some (some (.builtin "object.__setattr__")) := by kernel_rfl
theorem f_over (P : Params) : plainOver (KF P) 230 = true := by kernel_rfl
theorem f_taker (P : Params) : takerIn (KF P) 230 "_headers" = some none := by kernel_rfl
theorem f_makes (P : Params) : makesIn (KF P) 230 = true := by kernel_rfl
theorem k_cls (P : Params) : keepIn (KF P) (.ref 230) = true := by kernel_rfl
theorem init_run (bw : Blw w B mg mb) (hh : A.handled = none) (hdep : A.depth < recursionLimit) {s0 : Heap} (pB : Pur B s0) (p0 : Pur s0 s.heap) (hsz : s0.objs.size ≤ s.heap.objs.size) {x dx hl : Addr} (ox : s.heap.get? x = some (instObj 230 dx)) (od : s.heap.get? dx = some (dictOf [] 0))
    (hL : s.heap.get? hl = some (listOf #[] 0)) (nx : s0.get? x = none) (nd : s0.get? dx = none) (nl : s0.get? hl = none) (h1 : @Ne Nat x dx) (h2 : @Ne Nat x hl) (h3 : @Ne Nat dx hl)
    {R : Result → Shared → Prop} (h : ∀ h' tk t n, Pur s0 h' → Hd h' x dx hl (PyData.keyHash w.params ("_headers" : Str)) t n → h'.get? hl = some (listOf #[] 0) → R (.ok (.ret .none)) { s with heap := h', toks := tk }) :
    codeAny (model prog w) A (.call (.ref 122) ⟨[.ref x, .ref hl], []⟩) R s := by
  refine fn_call0 bw (pB.trans p0) (l_init _) (b_init (bw.X.keeps (pB.trans p0)) _ _) hdep fun env h4 t4 m E' ev fm0 eL hm => ?_
  have hself : m ("self" : Str) = some (.ref x) := hm (("self" : Str), .ref x) (by simp)
  have hhd : m ("headers" : Str) = some (.ref hl) := hm (("headers" : Str), .ref hl) (by simp)
  have hA : (A.deeper env).handled = none := hh
  have kself : (fdOf w.params 122).scope.names.lookup ("self" : Str) = some .local := by kernel_rfl
  have khd : (fdOf w.params 122).scope.names.lookup ("headers" : Str) = some .local := by kernel_rfl
  have hxL : @Ne Nat x env.locals := fun q => by have := fm0.new; rw [← q, ox] at this; cases this
  have hdL : @Ne Nat dx env.locals := fun q => by have := fm0.new; rw [← q, od] at this; cases this
  have hlL : @Ne Nat hl env.locals := fun q => by have := fm0.new; rw [← q, hL] at this; cases this
  have s0L : s0.get? env.locals = none := by
    cases q : s0.get? env.locals with
    | none => rfl
    | some o => have := p0 _ _ q; rw [fm0.new] at this; cases this
  have abv : s0.objs.size ≤ env.locals := by rw [eL]; exact hsz
  have fm : Fm s0 env h4 m := ⟨p0.trans fm0.pur, s0L, fm0.ns⟩
  have ox4 := fm0.pur _ _ ox
  have od4 := fm0.pur _ _ od
  have hL4 := fm0.pur _ _ hL
  -- headers = headers if headers is not None else []
  refine wpAny_execs_cons (wpAny_Assign_Name (wpAny_IfExp (wpAny_isTrue_Compare1 (fm_load (s := { s with heap := h4, toks := t4 }) fm (by rw [ev.kd]; exact khd) ev.kind hhd (wpAny_Constant_none (isnot_ref_none (wpAny_truthy_bool ?_)))))))
  refine fm_load (s := { s with heap := h4, toks := t4 }) fm (by rw [ev.kd]; exact khd) ev.kind hhd ?_
  refine fm_store (s := { s with heap := h4, toks := t4 }) fm (by rw [ev.kd]; exact khd) ev.kind fun h5 fm5 same5 => ?_
  have ox5 := (same5.2 x hxL).trans ox4
  have od5 := (same5.2 dx hdL).trans od4
  have hL5 := (same5.2 hl hlL).trans hL4
  have hself5 : upd m ("headers" : Str) (.ref hl) ("self" : Str) = some (.ref x) := by rw [← hself]; rfl
  have hhd5 : upd m ("headers" : Str) (.ref hl) ("headers" : Str) = some (.ref hl) := rfl
  generalize upd m ("headers" : Str) (.ref hl) = m5 at *
  -- if type(headers) is not list
  refine wpAny_execs_cons (wpAny_If (wpAny_isTrue_Compare1 (type_of (s := { s with heap := h5, toks := t4 + 1 }) (T := "list") bw (pB.trans fm5.pur) ev fm5 (by kernel_rfl) khd hhd5 ⟨_, hL5, rfl⟩ (by decide) ?_)))
  refine blt_load (s := { s with heap := h5, toks := t4 + 1 }) bw (pB.trans fm5.pur) ev (by kernel_rfl) (by kernel_rfl) (by decide) bb_list ?_
  refine wpAny_isNot_self rfl (wpAny_truthy_bool (wpAny_execs_nil ?_))
  -- self._headers = headers
  refine wpAny_execs_cons (plainObj_wpAny_Assign_Attribute (fm_load (s := { s with heap := h5, toks := t4 + 1 }) fm5 (by rw [ev.kd]; exact khd) ev.kind hhd5 (fm_load (s := { s with heap := h5, toks := t4 + 1 }) fm5 (by rw [ev.kd]; exact kself) ev.kind hself5 ?_)))
  have F : Fr s0 env.locals h5 m5 := ⟨fm5.ns, fm5.pur, abv⟩
  have N : News s0 env.locals h5 [(x, instObj 230 dx), (dx, dictOf [] 0), (hl, listOf #[] 0)] := fun p hp => by
    simp only [List.mem_cons, List.not_mem_nil, or_false] at hp
    rcases hp with rfl | rfl | rfl
    · exact ⟨ox5, hxL, nx⟩
    · exact ⟨od5, hdL, nd⟩
    · exact ⟨hL5, hlL, nl⟩
  refine set_dict (s := { s with heap := h5, toks := t4 + 1 }) (K := KF w.params) (es := []) (n := 0) (news' := [(x, instObj 230 dx), (dx, dictOf [⟨PyData.keyHash w.params ("_headers" : Str), .str ("_headers" : Str) (t4 + 1 + 1), .ref hl⟩] 1), (hl, listOf #[] 0)]) F (bw.X.keeps pB) N ⟨ox5, rfl, rfl, od5⟩ rfl (f_set _) (f_over _) (f_taker _) (f_dict _) (by rfl) (by rfl) (.tail h1 (.head (by intro p hp; simp only [List.mem_cons, List.not_mem_nil, or_false] at hp; subst hp; exact Ne.symm h3))) (by simp) fun h6 F6 N6 => ?_
  have ox6 := (N6 (x, instObj 230 dx) (by simp)).1
  have od6 := (N6 (dx, _) (.tail _ (.head _))).1
  have hL6 := (N6 (hl, listOf #[] 0) (by simp)).1
  have fm6 : Fm s0 env h6 m5 := ⟨F6.keep, s0L, F6.ns⟩
  -- if __debug__: for k, v in headers
  refine wpAny_execs_cons (wpAny_If (wpAny_isTrue_value (wpAny_Constant_bool (wpAny_truthy_bool ?_))))
  refine wpAny_execs_cons (wpAny_For (fm_load (s := { s with heap := h6, toks := t4 + 1 + 2 }) fm6 (by rw [ev.kd]; exact khd) ev.kind hhd5 ?_))
  have hI6 : h6.IsList hl #[] := ⟨_, hL6, rfl, _, rfl⟩
  refine wpAny_pyIter_list (s := { s with heap := h6, toks := t4 + 1 + 2 }) hI6 ?_
  have hIlt : ∀ {b o}, h6.get? b = some o → b ≠ h6.objs.size := fun e => Nat.ne_of_lt (Heap.lt_size e)
  have W := Walks.list (prog := prog) (w := w) hA h6.objs.size hl (hIlt hL6) #[]
  refine codeAny_forLoop_any (fun j s' => j = 1 ∧ s' = { s with heap := h6.push { cls := .type "list_iterator", data := .fields #[.ref hl, .int 0 0] }, toks := t4 + 1 + 2 }) ?_ 1 ⟨rfl, rfl⟩
  rintro j s' ⟨rfl, rfl⟩
  refine W.done _ _ _ ⟨⟨_, Heap.get?_push_size _ rfl, rfl, rfl⟩, hI6.push _⟩ fun h7 t7 hk7 => ?_
  have hk7' : ∀ b o, h6.get? b = some o → h7.get? b = some o := fun b o e => hk7 b o (by simpa using hIlt e) (Heap.get?_push_of_some _ e)
  refine wpAny_execs_nil (wpAny_execs_nil (wpAny_execs_nil ?_))
  exact h h7 t7 _ _ (fm6.pur.trans hk7') ⟨hk7' _ _ ox6, hk7' _ _ od6⟩ (hk7' _ _ hL6)
/-- Headers([]) -/
theorem new_run (bw : Blw w B mg mb) (hh : A.handled = none) (hdep : A.depth + 1 < recursionLimit) {s0 : Heap} (pB : Pur B s0) {hl : Addr} (p0 : Pur s0 s.heap) (hsz : s0.objs.size ≤ s.heap.objs.size) (hL : s.heap.get? hl = some (listOf #[] 0)) (nl : s0.get? hl = none)
    {R : Result → Shared → Prop} (h : ∀ h' tk x dx t n, Pur s0 h' → Hd h' x dx hl (PyData.keyHash w.params ("_headers" : Str)) t n → h'.get? hl = some (listOf #[] 0) → s0.get? x = none → s0.get? dx = none → @Ne Nat x dx → @Ne Nat x hl → @Ne Nat dx hl → R (.ok (.ret (.ref x))) { s with heap := h', toks := tk }) :
    codeAny (model prog w) A (.call (.ref 230) ⟨[.ref hl], []⟩) R s := by
  have X := bw.X.keeps (pB.trans p0)
  obtain ⟨hp, g, d, tk, os⟩ := s
  refine make_core (makes_of X (f_makes _)) (looks_findIn X (f_init _)) (fun self => bind_fn X self (t_init _)) (.inl rfl) ?_
  have hne : ∀ {b o}, hp.get? b = some o → @Ne Nat b hp.objs.size ∧ @Ne Nat b (hp.objs.size + 1) := fun e => by
    have h1 := Heap.lt_size e
    exact ⟨Nat.ne_of_lt h1, Nat.ne_of_lt (Nat.lt_succ_of_lt h1)⟩
  have s0n : ∀ {k : Nat}, hp.objs.size ≤ k → s0.get? k = none := fun {k} hk => by
    cases q : s0.get? k with
    | none => rfl
    | some o => exact absurd (Heap.lt_size (p0 _ _ q)) (Nat.not_lt.mpr hk)
  have pp : Pur hp ((hp.push emptyDict).push (instObj 230 hp.objs.size)) := (Pur.push _ _).trans (Pur.push _ _)
  have hx : ((hp.push emptyDict).push (instObj 230 hp.objs.size)).get? (hp.objs.size + 1) = some (instObj 230 hp.objs.size) := by heap_get
  have hd : ((hp.push emptyDict).push (instObj 230 hp.objs.size)).get? hp.objs.size = some emptyDict := Heap.get?_push_of_some _ (Heap.get?_push_size _ rfl)
  refine init_run (A := A.under (.builtin "type.__call__" ⟨[.ref 230, .ref hl], []⟩)) (s := ⟨(hp.push emptyDict).push (instObj 230 hp.objs.size), g, d, tk, os⟩) (x := hp.objs.size + 1) (dx := hp.objs.size) (hl := hl) bw hh (by rw [depth_under_kw]; exact hdep) pB (p0.trans pp) ?_ hx hd (pp _ _ hL) (s0n (Nat.le_succ _)) (s0n (Nat.le_refl _)) nl (Nat.succ_ne_self _) (Ne.symm (hne hL).2) (Ne.symm (hne hL).1) fun h' tk' t n pur hdd hl' => ?_
  · show s0.objs.size ≤ ((hp.push emptyDict).push (instObj 230 hp.objs.size)).objs.size
    rw [Heap.size_push, Heap.size_push]
    exact Nat.le_succ_of_le (Nat.le_succ_of_le hsz)
  · exact ⟨rfl, h h' tk' _ _ t n pur hdd hl' (s0n (Nat.le_succ _)) (s0n (Nat.le_refl _)) (Nat.succ_ne_self _) (Ne.symm (hne hL).2) (Ne.symm (hne hL).1)⟩
end
end Mine
end
section
/-! What a Headers does for the frame that owns it. -/
open PySem PySem.Calls PyProof.Rows PySem.W PySem.Spec
set_option maxRecDepth 100000
namespace Mine
section
variable {prog : Program} {w : World} {A : Around} {E : Value → Shared → Prop} {s : Shared} {B : Heap} {mg mb : Str → Option Value} {L : Lo} {n : Nat} {P : Pg} {g : Gl}
theorem bk_call2 {xn name : Str} {q ap q1 : Pos} {u v : PySem.Expr} {env : Env} {x dx hl f : Addr} {hs : Int} {t : Tok} {n : Nat} {Q : Value → Shared → Prop} (hline : (ap.endLine == q1.line) = true) (hst : starEach [u, v] env = [(false, eval u env), (false, eval v env)])
    (hk : env.scope.kind = .function) (at' : At env s.heap xn (.ref x)) (z1 : (xn == ("__debug__" : Str)) = false) (z2 : (xn == ("__classdict__" : Str)) = false) (X : (KF w.params).In s.heap) (hd : Hd s.heap x dx hl hs t n)
    (hf : findIn (KF w.params) (.ref 230) name = some (some (.ref f))) (ht : typeIn (KF w.params) (.ref f) = some (.type "function")) (hsh : ∀ (hs : Int) (t : Tok) (hl : Addr) (n : Nat), shadowIn (some (dictOf [⟨hs, .str ("_headers" : Str) t, .ref hl⟩] n)) name = some false) (hkp : keepIn (KF w.params) (.ref f) = true)
    (h : wpAny (model prog w) A (eval u env) (fun v1 s₁ => wpAny (model prog w) A (eval v env) (fun v2 s₂ => (KF w.params).In s₂.heap ∧ wpAny (model prog w) A (call (.ref f) [.ref x, v1, v2]) Q E s₂) E s₁) E s) :
    wpAny (model prog w) A (eval (.Call (.Attribute (.Name xn q) name ap) [u, v] [] q1) env) Q E s := by
  refine inst_call rfl (by rw [hst]; rfl) hline (ld_at hk at' (fun pl => ?_) z1 z2)
  refine meth_of X hd hf ht hsh ?_
  rw [hst]
  refine callWith_of (P := fun h => (KF w.params).In h) rfl (keeps_K hkp) (evalArgs_plain (spliced_cons (wpAny_mono h (fun v1 s₁ h₁ => spliced_cons (wpAny_mono h₁ (fun v2 s₂ h₂ => spliced_nil ?_) fun _ _ x => x)) fun _ _ x => x)))
  exact h₂
theorem bk_call0 {xn name : Str} {q ap q1 : Pos} {env : Env} {x dx hl f : Addr} {hs : Int} {t : Tok} {n : Nat} {Q : Value → Shared → Prop} (hline : (ap.endLine == q1.line) = true)
    (hk : env.scope.kind = .function) (at' : At env s.heap xn (.ref x)) (z1 : (xn == ("__debug__" : Str)) = false) (z2 : (xn == ("__classdict__" : Str)) = false) (X : (KF w.params).In s.heap) (hd : Hd s.heap x dx hl hs t n)
    (hf : findIn (KF w.params) (.ref 230) name = some (some (.ref f))) (ht : typeIn (KF w.params) (.ref f) = some (.type "function")) (hsh : ∀ (hs : Int) (t : Tok) (hl : Addr) (n : Nat), shadowIn (some (dictOf [⟨hs, .str ("_headers" : Str) t, .ref hl⟩] n)) name = some false) (hkp : keepIn (KF w.params) (.ref f) = true)
    (h : wpAny (model prog w) A (call (.ref f) [.ref x]) Q E s) :
    wpAny (model prog w) A (eval (.Call (.Attribute (.Name xn q) name ap) [] [] q1) env) Q E s := by
  refine inst_call rfl rfl hline (ld_at hk at' (fun pl => ?_) z1 z2)
  refine meth_of X hd hf ht hsh ?_
  exact callWith_of (P := fun h => (KF w.params).In h) rfl (keeps_K hkp) (evalArgs_nil3 ⟨X, h⟩)
noncomputable abbrev tups (l : List (Str × Str)) : List D := l.map fun p => .tuple [.str p.1, .str p.2]
/-- a name that holds a Headers -/
theorem Rl.bookAt {ns : Names} {env : Env} {W O : Addr → Prop} {σ : Sg} {i : Nat} {l : List (Str × Str)} {h : Heap} {xn : Str} {G : Prop} (X : (KF w.params).In B) (R : Rl prog w B ns env W O σ h) (hx : varIx ns xn = some i) (hs : σ[i]? = some (some (.book l)))
    (H : ∀ x dx hl hsh t n k items, At env h xn (.ref x) → Hd h x dx hl hsh t n → h.get? hl = some (listOf items.toArray k) → FVs prog w h (Mw W O) items (tups l) →
      (∀ h' c d, Apd h h' hl items k c d → Rl prog w B ns env W O (σ.set i (some (.book (l ++ [(c, d)])))) h' ∧ Gr W h W h') → G) : G := by
  refine R.atVar hx hs fun fp v f1 f2 f3 at' sv => ?_
  have key : ∃ fpi, fp i = fpi ∧ SV prog w B h (fun b => W b ∨ O b) (.book l) v fpi := ⟨_, rfl, sv⟩
  obtain ⟨fpi, hfp, sv⟩ := key
  cases sv with | book m bk =>
  obtain ⟨x, dx, hl, es, n, k, items, C, rfl, rfl, e1, e2, e3, e4, ⟨hsh, t, rfl, he⟩, e6, e7, e8, f⟩ := bk
  rw [nsMap_hdr X] at e4
  cases e4
  have hai : hl ∈ fp i := by rw [hfp]; simp
  have wa := (f2 i hl hai).1
  refine H x dx hl hsh t n k items at' ⟨e1, e2⟩ e3 f fun h' c d ap => ?_
  obtain ⟨h1, T, t1, t2, p, same, e3', hT, hTne, hTnew⟩ := ap.ex
  have stay : ∀ b o, b ≠ hl → h.get? b = some o → h'.get? b = some o := fun b o nb e => (same.2 b nb).trans (p b o e)
  have st : Stp (Mw W O) h (Mw W O) h' := fun b o nb e => ⟨nb, stay b o (fun q => nb (.inl (q ▸ wa))) e⟩
  have nT : ¬ Mw W O T := fun q => by obtain ⟨o, e⟩ := R.live T q; rw [hTnew] at e; cases e
  have sv' : SV prog w B h' (Mw W O) (.book (l ++ [(c, d)])) (.ref x) [x, dx, hl] := by
    refine .book m ⟨x, dx, hl, _, n, k + 1, items ++ [.ref T], 230, rfl, rfl, stay _ _ e7 e1, stay _ _ e8 e2, e3', nsMap_hdr X, ⟨hsh, t, rfl, he⟩, e6, e7, e8, ?_⟩
    rw [List.map_append]
    exact (f.stp st).append (.cons (.tuple nT hT (.cons (.str _ _) (.cons (.str _ _) .nil))) .nil)
  exact R.upd f1 f2 f3 (varIx_at hx) at' (List.getElem?_eq_some_iff.mp hs).1 hai ⟨_, e3'⟩ stay (hfp ▸ sv')
end
end Mine
end
section
/-! The five statements about Headers. -/
open PySem PySem.Calls PyProof.Rows PySem.W PySem.Spec
set_option maxRecDepth 100000
namespace Mine
section
variable {prog : Program} {w : World} {A : Around} {E : Value → Shared → Prop} {s : Shared} {B : Heap} {mg mb : Str → Option Value} {L : Lo} {n : Nat} {P : Pg} {g : Gl}
/-- new objects of its own are stored -/
theorem store_owns {ns : Names} {env : Env} {W O : Addr → Prop} {σ : Sg} {x : Str} {i : Nat} {h : Heap} {tk : Nat} {v : Value} {fpn : List Addr} {sl : Slot} {Q : Flow → Shared → Prop} (cx : Cx ns env A n) (R : Rl prog w B ns env W O σ s.heap) (fr : Frame ns env W) (ix : varIx ns x = some i) (p : Pur s.heap h) (new : ∀ a ∈ fpn, s.heap.get? a = none)
    (sv : SV prog w B h (Mw (fun b => W b ∨ b ∈ fpn) O) sl v fpn) (la : ∀ a ∈ fpn, ∃ o, h.get? a = some o) (hE : Ends prog w B ns env W O s none (σ.set i (some sl)) Q) : wpAny (model prog w) A (storeName env x v) (fun _ => Q .next) E { s with heap := h, toks := tk } := by
  have ix' := varIx_at ix
  have lv : ∀ {b o}, s.heap.get? b = some o → b ∉ fpn := fun {b o} e q => by rw [new b q] at e; cases e
  have nL : ∀ a ∈ fpn, a ≠ env.locals := fun a ha => by obtain ⟨m, o, _, _, ho, _⟩ := R.loc.2; exact fun q => lv ho (q ▸ ha)
  have nC : ∀ a ∈ fpn, ∀ z, env.cells.lookup z ≠ some a := fun a ha z q => by obtain ⟨_, _, v, o, ho, _⟩ := R.cell z a q; exact lv ho ha
  have st : Stp (Mw W O) s.heap (Mw (fun b => W b ∨ b ∈ fpn) O) h := fun b o nb e => ⟨fun q => q.elim (fun q => q.elim (fun q => nb (.inl q)) fun q => lv e q) fun q => nb (.inr q), p b o e⟩
  obtain ⟨fp, f1, f2, f3⟩ := R.vars
  have f1' : ∀ i sl, σ[i]? = some (some sl) → ∃ x v, (nmOf ns)[i]? = some x ∧ At env h x v ∧ SV prog w B h (Mw (fun b => W b ∨ b ∈ fpn) O) sl v (fp i) := fun i sl e => by
    obtain ⟨x, v, hx, at', sv⟩ := f1 i sl e
    exact ⟨x, v, hx, at'.pur p, sv.stp st (fun a ha o e => p a o e) fun a ha => .inl (.inl (f2 i a ha).1)⟩
  have f2' : ∀ i b, b ∈ fp i → (W b ∨ b ∈ fpn) ∧ b ≠ env.locals ∧ (∀ x, env.cells.lookup x ≠ some b) := fun i b hb => let ⟨z1, z2, z3⟩ := f2 i b hb; ⟨.inl z1, z2, z3⟩
  have R' : Rl prog w B ns env (fun b => W b ∨ b ∈ fpn) O σ h := by
    refine ⟨fun b o e => st b o (R.base b o e).1 (R.base b o e).2, ⟨.inl R.loc.1, let ⟨m, hm⟩ := R.loc.2; ⟨m, hm.keeps p⟩⟩, fun b hb => ?_, fun b wb ob => ?_, fun z c e => ?_, R.apart, fp, f1', f2', f3⟩
    · rcases hb with (hb | hb) | hb
      · obtain ⟨o, e⟩ := R.live b (.inl hb); exact ⟨o, p _ _ e⟩
      · exact la b hb
      · obtain ⟨o, e⟩ := R.live b (.inr hb); exact ⟨o, p _ _ e⟩
    · rcases wb with wb | wb
      · exact R.disj b wb ob
      · obtain ⟨o, e⟩ := R.live b (.inr ob); exact lv e wb
    · obtain ⟨z1, z2, v, hv⟩ := R.cell z c e
      exact ⟨z1, z2.elim (fun q => .inl (.inl q)) .inr, v, hv.keeps p⟩
  have own' : Frame ns env fun b => W b ∨ b ∈ fpn := fun z hz => by
    rcases fr z hz with k | ⟨k, c, hc, wc⟩
    · exact .inl k
    · exact .inr ⟨k, c, hc, .inl wc⟩
  refine st_at' (s := { s with heap := h, toks := tk }) (fpn := fpn) R' cx.kind cx.wf (own' x (List.mem_of_getElem? ix')) ix' fp f1' f2' f3 sv (fun b hb => ⟨.inr hb, nL b hb, nC b hb⟩) (fun j b hj hb hb' => ?_) fun h' tk' R'' same st' => ?_
  · obtain ⟨o, e⟩ := R.live b (.inl (f2 j b hb').1)
    exact absurd hb (lv e)
  · refine hE .next h' tk' _ ?_ R'' own' rfl
    have g1 : Gr W s.heap (fun b => W b ∨ b ∈ fpn) h := ⟨fun b o nb e => ⟨fun q => q.elim nb fun q => lv e q, p b o e⟩, fun b q => q.elim .inl fun q => .inr (new b q), fun b o e => ⟨o, p b o e⟩⟩
    exact g1.trans (same_gr R'' same st')
theorem star2 {ns : Names} {u v : PySem.Expr} {u' v' : Ex} (cu : CX g ns u u') (cv : CX g ns v v') (env : Env) : starEach [u, v] env = [(false, eval u env), (false, eval v env)] := by
  rw [cu.star [v] env, cv.star [] env]; rfl
theorem bget_is {l : List (Str × Str)} {c d : Str} {t : Tok} {v : Value} (h : GetIs l c (.str d t) v) : ∃ t', v = .str (bGet l c d) t' := by
  unfold GetIs at h
  unfold bGet
  cases hf : l.find? fun p => Txt.lower p.1 == Txt.lower c with
  | some p => rw [hf] at h; obtain ⟨t', rfl⟩ := h; exact ⟨t', rfl⟩
  | none => rw [hf] at h; exact ⟨t, h⟩
theorem bk_get (bw : Blw w B mg mb) (ok : Ok prog w P g B L n) : BookGet prog w g B L n := by
  intro ns o q l p i a b bk x y σ env W O A E s Q c hs h1 h2 hok hbk cx' R r
  have cx := cx'.down
  obtain ⟨hp, co, cl⟩ := c.mthI
  clear c
  refine cl.pair (C := fun l => wpAny _ A (eval (.Call _ l [] p) env) Q E s) fun eu ev ca cb => co.varInv (C := fun o => wpAny _ A (eval (.Call (.Attribute o _ q) _ [] p) env) Q E s) fun xn0 xp0 z1 z2 hx => ?_
  have base : Pur B s.heap := fun b o e => (R.base b o e).2
  refine Rl.bookAt bw.X R hx hs fun X dx hl hsh t nn k items at' hd hL f up => ?_
  refine bk_call2 hp (star2 ca cb env) cx.kind at' z1 z2 (bw.X.keeps base) hd (f_get _) (t_get _) (fun _ _ _ _ => by kernel_rfl) (k_get _) ?_
  refine ok.ev ca h1 cx R fun v1 k1 t1 p1 f1 => ok.ev cb h2 cx (R.pur p1) fun v2 k2 t2 p2 f2 => ⟨(bw.X.keeps base).keeps (p1.trans p2), ?_⟩
  obtain ⟨ta, rfl⟩ := f1.strV
  obtain ⟨tb, rfl⟩ := f2.strV
  have pp := p1.trans p2
  have X2 : (KF w.params).In k2 := (bw.X.keeps base).keeps pp
  refine wpAny_call (get_run (s := { s with heap := k2, toks := t2 }) bw (base.trans pp) cx.handled (by have := cx'.depth; omega) (hd.keep pp) (pp _ _ hL) (pairs_of (f.pur pp)) hbk hok (b_get3 (s := { s with heap := k2, toks := t2 }) X2 _ _ _) fun v h' tk p3 hv => ?_)
  obtain ⟨t', rfl⟩ := bget_is hv
  exact r _ h' tk (pp.trans p3) (.str _ _)
theorem bk_add (bw : Blw w B mg mb) (ok : Ok prog w P g B L n) (hB : ∃ o, B.get? mainGlobals = some o) {ns x q ap u v q1 a1 a2 z a p i u' v' l c d σ env W O A E s Q} (hp : (ap.endLine == q1.line) = true) (cn : CX g ns (.Name x q) (.var i)) (cu : CX g ns u u') (cv : CX g ns v v') (hs : σ[i]? = some (some (.book l))) (h1 : L.ev σ u' = some (.str c)) (h2 : L.ev σ v' = some (.str d)) (hc : okHdr c = true) (hd' : okHdr d = true) (hlen : l.length ≤ 1000) (cx' : Cx ns env A (n + 1)) (R : Rl prog w B ns env W O σ s.heap) (fr : Frame ns env W)
    (h : Ends prog w B ns env W O s none (σ.set i (some (.book (l ++ [(c, d)])))) Q) : wpAny (model prog w) A (exec (.If (.Compare (.Call (.Attribute (.Name x q) ("add_header" : Str) ap) [u, v] [] q1) [.IsNot] [.Constant .none a1 a2] z) a [] p) env) Q E s := by
  have cx := cx'.down
  obtain ⟨z1, z2, hx⟩ := cn.nm
  have base : Pur B s.heap := fun b o e => (R.base b o e).2
  refine Rl.bookAt bw.X R hx hs fun X dx hl hsh t nn k items at' hd hL f up => ?_
  refine wpAny_If (wpAny_isTrue_Compare1 (bk_call2 hp (star2 cu cv env) cx.kind at' z1 z2 (bw.X.keeps base) hd (f_add _) (t_add _) (fun _ _ _ _ => by kernel_rfl) (k_add _) ?_))
  refine ok.ev cu h1 cx R fun v1 k1 t1 p1 f1 => ok.ev cv h2 cx (R.pur p1) fun v2 k2 t2 p2 f2 => ⟨(bw.X.keeps base).keeps (p1.trans p2), ?_⟩
  obtain ⟨ta, rfl⟩ := f1.strV
  obtain ⟨tb, rfl⟩ := f2.strV
  have pp := p1.trans p2
  have hil : items.length = l.length := by have := f.length; simpa using this
  refine wpAny_call (add_run (s := { s with heap := k2, toks := t2 }) bw (base.trans pp) cx.handled (by have := cx'.depth; omega) (hd.keep pp) (pp _ _ hL) (by omega) hc hd' hB fun h' tk ap' => ?_)
  obtain ⟨R', gr⟩ := up h' c d (ap'.down pp)
  refine wpAny_Constant_none (wpAny_isNot_self rfl (wpAny_truthy_bool (wpAny_execs_nil ?_)))
  exact h .next h' tk W gr R' fr rfl
theorem bk_sdf (bw : Blw w B mg mb) (ok : Ok prog w P g B L n) {ns x q ap u v q1 r z a p i u' v' r' l c d σ env W O A E s Q} (hp : (ap.endLine == q1.line) = true) (cn : CX g ns (.Name x q) (.var i)) (cu : CX g ns u u') (cv : CX g ns v v') (cr : CX g ns r r') (hs : σ[i]? = some (some (.book l))) (h1 : L.ev σ u' = some (.str c)) (h2 : L.ev σ v' = some (.str d)) (hc : okHdr c = true) (hd' : okHdr d = true) (hok : (l.all fun p => okHdr p.1) = true) (hlen : l.length ≤ 1000)
    (h3 : L.ev (σ.set i (some (.book (sdL l c d)))) r' = some (.str (bGet l c d))) (cx' : Cx ns env A (n + 1)) (R : Rl prog w B ns env W O σ s.heap) (fr : Frame ns env W)
    (h : Ends prog w B ns env W O s none (σ.set i (some (.book (sdL l c d)))) Q) : wpAny (model prog w) A (exec (.If (.Compare (.Call (.Attribute (.Name x q) ("setdefault" : Str) ap) [u, v] [] q1) [.NotEq] [r] z) a [] p) env) Q E s := by
  have cx := cx'.down
  obtain ⟨z1, z2, hx⟩ := cn.nm
  have base : Pur B s.heap := fun b o e => (R.base b o e).2
  refine Rl.bookAt bw.X R hx hs fun X dx hl hsh t nn k items at' hd hL f up => ?_
  have hil : items.length = l.length := by have := f.length; simpa using this
  refine wpAny_If (wpAny_isTrue_Compare1 (hm := cr.noMark _) (bk_call2 hp (star2 cu cv env) cx.kind at' z1 z2 (bw.X.keeps base) hd (f_sdf _) (t_sdf _) (fun _ _ _ _ => by kernel_rfl) (k_sdf _) ?_))
  refine ok.ev cu h1 cx R fun v1 k1 t1 p1 f1 => ok.ev cv h2 cx (R.pur p1) fun v2 k2 t2 p2 f2 => ⟨(bw.X.keeps base).keeps (p1.trans p2), ?_⟩
  obtain ⟨ta, rfl⟩ := f1.strV
  obtain ⟨tb, rfl⟩ := f2.strV
  have pp := p1.trans p2
  -- what comes behind, wherever the book stands
  have tail : ∀ {h' : Heap} {tk : Nat} {tt : Tok} {y : Str}, bGet l c d = y → Gr W s.heap W h' → Rl prog w B ns env W O (σ.set i (some (.book (sdL l c d)))) h' →
      wpAny (model prog w) A (eval r env) (fun b s₂ => wpAny (model prog w) A (compareOp .NotEq (.str y tt) b) (fun c s₃ => wpAny (model prog w) A (truthy c) (fun b s₁ => if b = true then wpAny (model prog w) A (execs a env) Q E s₁ else wpAny (model prog w) A (execs [] env) Q E s₁) E s₃) E s₂) E { s with heap := h', toks := tk } := fun {h' tk tt y} hy gr R' => by
    subst hy
    refine ok.ev cr h3 cx R' fun v3 k3 t3 p3 f3 => ?_
    obtain ⟨tc, rfl⟩ := f3.strV
    refine PyProof.Rows.ne_str (wpAny_truthy_bool ?_)
    rw [show (bGet l c d != bGet l c d) = false by simp]
    exact wpAny_execs_nil (h .next k3 t3 W (gr.trans (Gr.ofPur p3)) (R'.pur p3) fr rfl)
  refine wpAny_call (sdf_run (s := { s with heap := k2, toks := t2 }) bw (base.trans pp) cx.handled (by have := cx'.depth; omega) (hd.keep pp) (pp _ _ hL) (pairs_of (f.pur pp)) hok (by omega) hc hd' (fun p' h' tk t' hf p3 => ?_) fun h' tk hf ap' => ?_)
  · have hs1 : sdL l c d = l := by unfold sdL; rw [hf]
    have hs2 : bGet l c d = p'.2 := by unfold bGet; rw [hf]
    have R' : Rl prog w B ns env W O (σ.set i (some (.book (sdL l c d)))) h' := by
      rw [hs1]
      refine (R.pur (pp.trans p3)).less fun j sl ej => ?_
      by_cases hj : i = j
      · subst hj
        rw [List.getElem?_set_self (List.getElem?_eq_some_iff.mp hs).1] at ej
        rw [hs]; exact ej
      · rw [List.getElem?_set_ne hj] at ej; exact ej
    exact tail hs2 (Gr.ofPur (pp.trans p3)) R'
  · have hs1 : sdL l c d = l ++ [(c, d)] := by unfold sdL; rw [hf]
    have hs2 : bGet l c d = d := by unfold bGet; rw [hf]
    obtain ⟨R', gr⟩ := up h' c d (ap'.down pp)
    rw [← hs1] at R'
    exact tail hs2 gr R'
end
end Mine
end
section
/-! A new Headers, its items; all five. -/
open PySem PySem.Calls PyProof.Rows PySem.W PySem.Spec
set_option maxRecDepth 100000
namespace Mine
section
variable {prog : Program} {w : World} {A : Around} {E : Value → Shared → Prop} {s : Shared} {B : Heap} {mg mb : Str → Option Value} {L : Lo} {n : Nat} {P : Pg} {g : Gl}
theorem bk_items (bw : Blw w B mg mb) {ns x q ap q1 p i l σ env W O A E s Q} (hp : (ap.endLine == q1.line) = true) (cn : CX g ns (.Name x q) (.var i)) (hs : σ[i]? = some (some (.book l))) (hlen : l.length ≤ 1000) (cx' : Cx ns env A (n + 1)) (R : Rl prog w B ns env W O σ s.heap) (fr : Frame ns env W)
    (h : Ends prog w B ns env W O s (some (.list (l.map fun p => .tuple [.str p.1, .str p.2]))) σ Q) : wpAny (model prog w) A (exec (.Return (some (.Call (.Attribute (.Name x q) ("items" : Str) ap) [] [] q1)) p) env) Q E s := by
  have cx := cx'.down
  obtain ⟨z1, z2, hx⟩ := cn.nm
  have base : Pur B s.heap := fun b o e => (R.base b o e).2
  refine Rl.bookAt bw.X R hx hs fun X dx hl hsh t nn k items at' hd hL f up => ?_
  refine wpAny_Return_some (bk_call0 hp cx.kind at' z1 z2 (bw.X.keeps base) hd (f_items _) (t_items _) (fun _ _ _ _ => by kernel_rfl) (k_items _) ?_)
  refine wpAny_call (items_run bw base (by have := cx'.depth; omega) hd R.alive hL f (by rw [List.length_map]; exact hlen) fun v h' tk p fv => ?_)
  exact h _ h' tk W (Gr.ofPur p) (R.pur p) fr ⟨v, rfl, .of fv⟩
theorem bk_new (bw : Blw w B mg mb) {ns x q p1 p2 p3 p i σ env W O A E s Q} (hx : varIx ns x = some i) (hg : isGlob ns ("Headers" : Str) = true) (cx' : Cx ns env A (n + 1)) (R : Rl prog w B ns env W O σ s.heap) (fr : Frame ns env W)
    (h : Ends prog w B ns env W O s none (σ.set i (some (.book []))) Q) : wpAny (model prog w) A (exec (.Assign [.Name x q] (.Call (.Name ("Headers" : Str) p1) [.List [] p2] [] p3) p) env) Q E s := by
  have cx := cx'.down
  have base : Pur B s.heap := fun b o e => (R.base b o e).2
  refine wpAny_Assign_Name ?_ rfl
  rw [arm_eval_Call_Name']
  refine wpAny_bind (Name_function_global cx.kind (glob_kind cx hg) (loadGlobal_global (v := .ref 230) (by rw [cx.globals]; exact bw.ng.keeps base) ((mg_eq bw.X bw.ng _).trans (by kernel_rfl)) ?_) (by decide))
  have pl : Pur s.heap (s.heap.push { cls := .type "list", data := .seq ([] : List Value).toArray }) := Pur.push _ _
  have nl : s.heap.get? s.heap.objs.size = none := pur_new (Pur.refl _)
  refine callWith_of (P := fun h => (KF w.params).In h) rfl (keeps_K (k_cls _)) (evalArgs_plain (spliced_cons (wpAny_List (wpAny_items_nil ⟨Nat.zero_le _, spliced_nil ⟨(bw.X.keeps base).keeps pl, wpAny_call ?_⟩⟩))))
  refine new_run (s := { s with heap := s.heap.push { cls := .type "list", data := .seq ([] : List Value).toArray } }) (s0 := s.heap) (hl := s.heap.objs.size) bw cx.handled (by have := cx'.depth; omega) base pl ?_ (Heap.get?_push_size _ rfl) nl fun h' tk X dx t nn pur hd hl' nX nd h1 h2 h3 => ?_
  · show s.heap.objs.size ≤ (s.heap.push { cls := .type "list", data := .seq ([] : List Value).toArray }).objs.size
    rw [Heap.size_push]; exact Nat.le_succ _
  refine store_owns (s := s) (fpn := [X, dx, s.heap.objs.size]) cx R fr hx pur (fun a ha => ?_) ?_ (fun a ha => ?_) h
  · simp only [List.mem_cons, List.not_mem_nil, or_false] at ha
    rcases ha with rfl | rfl | rfl
    · exact nX
    · exact nd
    · exact nl
  · exact .book (fun a ha => .inl (.inr ha)) ⟨X, dx, s.heap.objs.size, _, nn, 0, [], 230, rfl, rfl, hd.ox, hd.od, hl', nsMap_hdr bw.X, ⟨_, t, rfl, rfl⟩, h1, h2, h3, .nil⟩
  · simp only [List.mem_cons, List.not_mem_nil, or_false] at ha
    rcases ha with rfl | rfl | rfl
    · exact ⟨_, hd.ox⟩
    · exact ⟨_, hd.od⟩
    · exact ⟨_, hl'⟩
theorem book_all (bw : Blw w B mg mb) (hB : ∃ o, B.get? mainGlobals = some o) (ok : Ok prog w P g B L n) : Book prog w g B L n where
  get := bk_get bw ok
  new := bk_new bw
  add := bk_add bw ok hB
  sdf := bk_sdf bw ok
  items := bk_items bw
end
end Mine
end
open PySem PySem.Calls PyProof.Rows PySem.W PySem.Spec
theorem PySem.Challenge.cw_uk0008_01_holds : PySem.Challenge.rw_uk0008_01.Holds :=
  Mine.entry 250 (by omega) Mine.plain fun w B mg mb X st hb L n ok => Mine.book_all ⟨X, st.lim, st.ng, st.nb, hb⟩ (let ⟨o, _, _, ho, _⟩ := st.ng; ⟨o, ho⟩) ok
