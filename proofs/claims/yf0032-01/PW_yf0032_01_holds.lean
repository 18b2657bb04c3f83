import PyProof.Rows.All
import Wide.All
import OpenK.AllK
import Wide.FinOn
import KE.KTurns
import KE.KxBytes
import KE.KBytesCut
import KE.KxDecode
import KE.KxPercentT
import KE.BytesMake
import Lean
import PySem.Challenge.RW_yf0032_01
set_option Elab.async false
set_option linter.unusedVariables false
set_option maxRecDepth 100000
set_option maxHeartbeats 4000000
namespace Mine
section
open PySem PySem.W PyProof.Rows
set_option maxRecDepth 100000
set_option maxHeartbeats 4000000
abbrev pw : Program := PySem.Challenge.pw_yf0032_01

/-- the text's defs and methods, by their qualified names -/
noncomputable def defsIn (pre : Str) : List Stmt → List (Str × Arguments × List Stmt × Scope)
  | [] => []
  | .FunctionDef n a b _ _ _ sc _ _ _ :: r => (pre ++ n, a, b, sc) :: defsIn pre r
  | _ :: r => defsIn pre r
noncomputable def allDefs : List Stmt → List (Str × Arguments × List Stmt × Scope)
  | [] => []
  | .FunctionDef n a b _ _ _ sc _ _ _ :: r => (n, a, b, sc) :: allDefs r
  | .ClassDef n _ _ b _ _ _ _ _ _ _ :: r => defsIn (n ++ ".") b ++ allDefs r
  | _ :: r => allDefs r
noncomputable def noArgs : Arguments := { posonlyargs := [], args := [], vararg := none, kwonlyargs := [], kw_defaults := [], kwarg := none, defaults := [] }
noncomputable def noScope : Scope := { kind := .function, names := [], isGenerator := false, isCoroutine := false, more := [] }
noncomputable def defOfQ (q : Str) : Arguments × List Stmt × Scope := ((allDefs pw.main.body).lookup q).getD (noArgs, [], noScope)
noncomputable def fnData (name q : Str) (dV pm cd : Value) : FuncData :=
  { name, qualname := q, params := (defOfQ q).1, body := .stmts (defOfQ q).2.1, scope := (defOfQ q).2.2, globals := 3, closure := [], defaults := dV, kwdefaults := .none, doc := .none, pyModule := pm,
    annotations := none, code := cd, closureTuple := .none, builtins := 0 }
noncomputable def fnO (name q : Str) (dV pm cd : Value) : Obj := ⟨.type "function", none, .func (fnData name q dV pm cd), #[]⟩
noncomputable def ent (P : Params) (n : Str) (t : Tok) (v : Value) : DictEntry := ⟨PyData.keyHash P n, .str n t, v⟩
/-- what the text's top leaves, as far as it is asked for -/
noncomputable def K0 (P : Params) : Frag := [
  (47, ⟨.type "tuple", none, .seq #[.int 14 0, .int 10 0, .int 4 0, .int 1 0, .int 1 0, .int 22 0, .int 0 0, .int 31 0, .int 16 0, .int 127 0, .int 0 0, .int 13 0, .int 7 0, .int 22 0, .int 0 0, .int 31 0, .int 16 0, .int 127 0, .int 0 0, .int 1 0] 0, #[]⟩),
  (48, ⟨.type "re.Pattern", none, .fields #[.str "[\\x00-\\x1F\\x7F]" 326, .int 32 349, .int 0 0, .none, .none, .ref 47, .int 0 0], #[]⟩),
  (52, ⟨.type "tuple", none, .seq #[.int 14 0, .int 14 0, .int 4 0, .int 1 0, .int 1 0, .int 9 0, .int 4294966783 0, .int 0 0, .int 0 0, .int 2147483648 0, .int 0 0, .int 0 0, .int 0 0, .int 0 0, .int 0 0, .int 13 0, .int 11 0, .int 9 0, .int 4294966783 0, .int 0 0, .int 0 0, .int 2147483648 0, .int 0 0, .int 0 0, .int 0 0, .int 0 0, .int 0 0, .int 1 0] 0, #[]⟩),
  (53, ⟨.type "re.Pattern", none, .fields #[.str "[\\x00-\\x08\\x0A-\\x1F\\x7F]" 352, .int 32 383, .int 0 0, .none, .none, .ref 52, .int 0 0], #[]⟩),
  (181, ⟨.type "dict", none, .dict #[ent P "__module__" 402 (.str "cpy313.wsgiref.headers" 289), ent P "__firstlineno__" 406 (.int 18 405), ent P "__init__" 416 (.ref 76), ent P "_convert_string_type" 426 (.ref 83), ent P "__len__" 433 (.ref 90), ent P "__setitem__" 442 (.ref 97), ent P "__delitem__" 448 (.ref 102), ent P "__getitem__" 456 (.ref 109), ent P "__contains__" 464 (.ref 116), ent P "get_all" 470 (.ref 121), ent P "get" 481 (.ref 129), ent P "keys" 487 (.ref 134), ent P "values" 493 (.ref 139), ent P "items" 500 (.ref 146), ent P "__repr__" 507 (.ref 153), ent P "__str__" 513 (.ref 158), ent P "__bytes__" 520 (.ref 165), ent P "setdefault" 529 (.ref 172), ent P "add_header" 542 (.ref 179), ent P "__static_attributes__" 544 (.ref 180), ent P "__dict__" 546 (.ref 183), ent P "__weakref__" 548 (.ref 184), ent P "__doc__" 549 (.none)] 4, #[]⟩),
  (182, ⟨.type "type", none, .cls { name := "Headers", bases := [.type "object"], mro := [.ref 182, .type "object"], ns := 181, qualname := "Headers", hasDict := true, slotNames := [], subclasses := [], abstract := false, collection := none, hasDel := false }, #[none, none, some (.str "Headers" 395), some (.str "Headers" 403), some (.builtin "object.__new__"), some (.bool true)]⟩),
  (188, ⟨.type "dict", none, .dict #[ent P "flags" 597 (.int 1 598)] 1, #[]⟩),
  (189, ⟨.type "tuple", none, .seq #[.none, .str "flags" 600] 0, #[]⟩),
  (190, ⟨.type "tuple", none, .seq #[.int 14 0, .int 4 0, .int 0 0, .int 8 0, .int 4294967295 0, .int 24 0, .int 5 0, .int 0 0, .int 4294967295 0, .int 2 0, .int 1 0, .int 16 0, .int 70 0, .int 16 0, .int 76 0, .int 16 0, .int 65 0, .int 16 0, .int 71 0, .int 16 0, .int 83 0, .int 16 0, .int 32 0, .int 16 0, .int 40 0, .int 17 0, .int 0 0, .int 24 0, .int 6 0, .int 0 0, .int 4294967295 0, .int 20 0, .int 41 0, .int 1 0, .int 17 0, .int 1 0, .int 16 0, .int 41 0, .int 1 0] 0, #[]⟩),
  (191, ⟨.type "re.Pattern", none, .fields #[.bytes #[46, 42, 70, 76, 65, 71, 83, 32, 92, 40, 40, 63, 80, 60, 102, 108, 97, 103, 115, 62, 91, 94, 92, 41, 93, 42, 41, 92, 41] 555, .int 0 601, .int 1 0, .ref 188, .ref 189, .ref 190, .int 1 0], #[]⟩),
  (69, ⟨.type "tuple", none, .seq #[.none] 0, #[]⟩),
  (122, ⟨.type "tuple", none, .seq #[.none] 0, #[]⟩),
  (38, fnO "_wall" "_wall" (.none) (.str "__main__" 164) (.ref 37)),
  (37, ⟨.type "code", none, .fields #[.str "_wall" 282, .str "_wall" 283, .str "/claim/cut.py" 284, .int 2 0, .int 1 0, .int 0 0, .int 0 0, .int 3 0, .ref 32, .bool true, .int 276 0, .ref 33, .none, .ref 34, .ref 35, .ref 36, .int 286 0, .int 2 0, .str "/claim/cut.py" 287], #[]⟩),
  (61, fnO "_formatparam" "_formatparam" (.ref 54) (.str "cpy313.wsgiref.headers" 289) (.ref 60)),
  (60, ⟨.type "code", none, .fields #[.str "_formatparam" 386, .str "_formatparam" 387, .str "/claim/cut.py" 388, .int 9 0, .int 3 0, .int 0 0, .int 0 0, .int 3 0, .ref 55, .bool true, .int 276 0, .ref 56, .none, .ref 57, .ref 58, .ref 59, .int 392 0, .int 9 0, .str "/claim/cut.py" 393], #[]⟩),
  (76, fnO "__init__" "Headers.__init__" (.ref 69) (.str "cpy313.wsgiref.headers" 289) (.ref 75)),
  (75, ⟨.type "code", none, .fields #[.str "__init__" 407, .str "Headers.__init__" 408, .str "/claim/cut.py" 409, .int 20 0, .int 2 0, .int 0 0, .int 0 0, .int 3 0, .ref 70, .bool true, .int 276 0, .ref 71, .none, .ref 72, .ref 73, .ref 74, .int 414 0, .int 20 0, .str "/claim/cut.py" 415], #[]⟩),
  (83, fnO "_convert_string_type" "Headers._convert_string_type" (.none) (.str "cpy313.wsgiref.headers" 289) (.ref 82)),
  (82, ⟨.type "code", none, .fields #[.str "_convert_string_type" 417, .str "Headers._convert_string_type" 418, .str "/claim/cut.py" 419, .int 30 0, .int 2 0, .int 0 0, .int 1 0, .int 3 0, .ref 77, .bool true, .int 276 0, .ref 78, .none, .ref 79, .ref 80, .ref 81, .int 424 0, .int 30 0, .str "/claim/cut.py" 425], #[]⟩),
  (90, fnO "__len__" "Headers.__len__" (.none) (.str "cpy313.wsgiref.headers" 289) (.ref 89)),
  (89, ⟨.type "code", none, .fields #[.str "__len__" 427, .str "Headers.__len__" 428, .str "/claim/cut.py" 429, .int 38 0, .int 1 0, .int 0 0, .int 0 0, .int 3 0, .ref 84, .bool true, .int 276 0, .ref 85, .none, .ref 86, .ref 87, .ref 88, .int 431 0, .int 38 0, .str "/claim/cut.py" 432], #[]⟩),
  (97, fnO "__setitem__" "Headers.__setitem__" (.none) (.str "cpy313.wsgiref.headers" 289) (.ref 96)),
  (96, ⟨.type "code", none, .fields #[.str "__setitem__" 434, .str "Headers.__setitem__" 435, .str "/claim/cut.py" 436, .int 41 0, .int 3 0, .int 0 0, .int 0 0, .int 3 0, .ref 91, .bool true, .int 276 0, .ref 92, .none, .ref 93, .ref 94, .ref 95, .int 440 0, .int 41 0, .str "/claim/cut.py" 441], #[]⟩),
  (102, fnO "__delitem__" "Headers.__delitem__" (.none) (.str "cpy313.wsgiref.headers" 289) (.ref 101)),
  (101, ⟨.type "code", none, .fields #[.str "__delitem__" 443, .str "Headers.__delitem__" 444, .str "/claim/cut.py" 445, .int 45 0, .int 2 0, .int 0 0, .int 0 0, .int 3 0, .ref 98, .bool true, .int 276 0, .ref 99, .none, .none, .none, .ref 100, .int 446 0, .int 45 0, .str "/claim/cut.py" 447], #[]⟩),
  (109, fnO "__getitem__" "Headers.__getitem__" (.none) (.str "cpy313.wsgiref.headers" 289) (.ref 108)),
  (108, ⟨.type "code", none, .fields #[.str "__getitem__" 449, .str "Headers.__getitem__" 450, .str "/claim/cut.py" 451, .int 49 0, .int 2 0, .int 0 0, .int 0 0, .int 3 0, .ref 103, .bool true, .int 276 0, .ref 104, .none, .ref 105, .ref 106, .ref 107, .int 454 0, .int 49 0, .str "/claim/cut.py" 455], #[]⟩),
  (116, fnO "__contains__" "Headers.__contains__" (.none) (.str "cpy313.wsgiref.headers" 289) (.ref 115)),
  (115, ⟨.type "code", none, .fields #[.str "__contains__" 457, .str "Headers.__contains__" 458, .str "/claim/cut.py" 459, .int 52 0, .int 2 0, .int 0 0, .int 0 0, .int 3 0, .ref 110, .bool true, .int 276 0, .ref 111, .none, .ref 112, .ref 113, .ref 114, .int 462 0, .int 52 0, .str "/claim/cut.py" 463], #[]⟩),
  (121, fnO "get_all" "Headers.get_all" (.none) (.str "cpy313.wsgiref.headers" 289) (.ref 120)),
  (120, ⟨.type "code", none, .fields #[.str "get_all" 465, .str "Headers.get_all" 466, .str "/claim/cut.py" 467, .int 55 0, .int 2 0, .int 0 0, .int 0 0, .int 3 0, .ref 117, .bool true, .int 276 0, .ref 118, .none, .none, .none, .ref 119, .int 468 0, .int 55 0, .str "/claim/cut.py" 469], #[]⟩),
  (129, fnO "get" "Headers.get" (.ref 122) (.str "cpy313.wsgiref.headers" 289) (.ref 128)),
  (128, ⟨.type "code", none, .fields #[.str "get" 471, .str "Headers.get" 472, .str "/claim/cut.py" 473, .int 59 0, .int 3 0, .int 0 0, .int 0 0, .int 3 0, .ref 123, .bool true, .int 276 0, .ref 124, .none, .ref 125, .ref 126, .ref 127, .int 479 0, .int 59 0, .str "/claim/cut.py" 480], #[]⟩),
  (134, fnO "keys" "Headers.keys" (.none) (.str "cpy313.wsgiref.headers" 289) (.ref 133)),
  (133, ⟨.type "code", none, .fields #[.str "keys" 482, .str "Headers.keys" 483, .str "/claim/cut.py" 484, .int 66 0, .int 1 0, .int 0 0, .int 0 0, .int 3 0, .ref 130, .bool true, .int 276 0, .ref 131, .none, .none, .none, .ref 132, .int 485 0, .int 66 0, .str "/claim/cut.py" 486], #[]⟩),
  (139, fnO "values" "Headers.values" (.none) (.str "cpy313.wsgiref.headers" 289) (.ref 138)),
  (138, ⟨.type "code", none, .fields #[.str "values" 488, .str "Headers.values" 489, .str "/claim/cut.py" 490, .int 69 0, .int 1 0, .int 0 0, .int 0 0, .int 3 0, .ref 135, .bool true, .int 276 0, .ref 136, .none, .none, .none, .ref 137, .int 491 0, .int 69 0, .str "/claim/cut.py" 492], #[]⟩),
  (146, fnO "items" "Headers.items" (.none) (.str "cpy313.wsgiref.headers" 289) (.ref 145)),
  (145, ⟨.type "code", none, .fields #[.str "items" 494, .str "Headers.items" 495, .str "/claim/cut.py" 496, .int 72 0, .int 1 0, .int 0 0, .int 0 0, .int 3 0, .ref 140, .bool true, .int 276 0, .ref 141, .none, .ref 142, .ref 143, .ref 144, .int 498 0, .int 72 0, .str "/claim/cut.py" 499], #[]⟩),
  (153, fnO "__repr__" "Headers.__repr__" (.none) (.str "cpy313.wsgiref.headers" 289) (.ref 152)),
  (152, ⟨.type "code", none, .fields #[.str "__repr__" 501, .str "Headers.__repr__" 502, .str "/claim/cut.py" 503, .int 75 0, .int 1 0, .int 0 0, .int 0 0, .int 3 0, .ref 147, .bool true, .int 276 0, .ref 148, .none, .ref 149, .ref 150, .ref 151, .int 505 0, .int 75 0, .str "/claim/cut.py" 506], #[]⟩),
  (158, fnO "__str__" "Headers.__str__" (.none) (.str "cpy313.wsgiref.headers" 289) (.ref 157)),
  (157, ⟨.type "code", none, .fields #[.str "__str__" 508, .str "Headers.__str__" 509, .str "/claim/cut.py" 510, .int 78 0, .int 1 0, .int 0 0, .int 0 0, .int 3 0, .ref 154, .bool true, .int 276 0, .ref 155, .none, .none, .none, .ref 156, .int 511 0, .int 78 0, .str "/claim/cut.py" 512], #[]⟩),
  (165, fnO "__bytes__" "Headers.__bytes__" (.none) (.str "cpy313.wsgiref.headers" 289) (.ref 164)),
  (164, ⟨.type "code", none, .fields #[.str "__bytes__" 514, .str "Headers.__bytes__" 515, .str "/claim/cut.py" 516, .int 81 0, .int 1 0, .int 0 0, .int 0 0, .int 3 0, .ref 159, .bool true, .int 276 0, .ref 160, .none, .ref 161, .ref 162, .ref 163, .int 518 0, .int 81 0, .str "/claim/cut.py" 519], #[]⟩),
  (172, fnO "setdefault" "Headers.setdefault" (.none) (.str "cpy313.wsgiref.headers" 289) (.ref 171)),
  (171, ⟨.type "code", none, .fields #[.str "setdefault" 521, .str "Headers.setdefault" 522, .str "/claim/cut.py" 523, .int 84 0, .int 3 0, .int 0 0, .int 0 0, .int 3 0, .ref 166, .bool true, .int 276 0, .ref 167, .none, .ref 168, .ref 169, .ref 170, .int 527 0, .int 84 0, .str "/claim/cut.py" 528], #[]⟩),
  (179, fnO "add_header" "Headers.add_header" (.none) (.str "cpy313.wsgiref.headers" 289) (.ref 178)),
  (178, ⟨.type "code", none, .fields #[.str "add_header" 530, .str "Headers.add_header" 531, .str "/claim/cut.py" 532, .int 87 0, .int 3 0, .int 0 0, .int 0 0, .int 11 0, .ref 173, .bool true, .int 276 0, .ref 174, .none, .ref 175, .ref 176, .ref 177, .int 540 0, .int 87 0, .str "/claim/cut.py" 541], #[]⟩),
  (198, fnO "Int2AP" "Int2AP" (.none) (.str "cpy313.imaplib" 552) (.ref 197)),
  (197, ⟨.type "code", none, .fields #[.str "Int2AP" 603, .str "Int2AP" 604, .str "/claim/cut.py" 605, .int 102 0, .int 1 0, .int 0 0, .int 0 0, .int 3 0, .ref 192, .bool true, .int 276 0, .ref 193, .none, .ref 194, .ref 195, .ref 196, .int 610 0, .int 102 0, .str "/claim/cut.py" 611], #[]⟩),
  (205, fnO "ParseFlags" "ParseFlags" (.none) (.str "cpy313.imaplib" 552) (.ref 204)),
  (204, ⟨.type "code", none, .fields #[.str "ParseFlags" 613, .str "ParseFlags" 614, .str "/claim/cut.py" 615, .int 110 0, .int 1 0, .int 0 0, .int 0 0, .int 3 0, .ref 199, .bool true, .int 276 0, .ref 200, .none, .ref 201, .ref 202, .ref 203, .int 618 0, .int 110 0, .str "/claim/cut.py" 619], #[]⟩),
  (212, fnO "_strip_padding" "_strip_padding" (.none) (.str "cpy313.locale" 621) (.ref 211)),
  (211, ⟨.type "code", none, .fields #[.str "_strip_padding" 623, .str "_strip_padding" 624, .str "/claim/cut.py" 625, .int 116 0, .int 2 0, .int 0 0, .int 0 0, .int 3 0, .ref 206, .bool true, .int 276 0, .ref 207, .none, .ref 208, .ref 209, .ref 210, .int 630 0, .int 116 0, .str "/claim/cut.py" 631], #[]⟩),
  (219, fnO "_build_localename" "_build_localename" (.none) (.str "cpy313.locale" 621) (.ref 218)),
  (218, ⟨.type "code", none, .fields #[.str "_build_localename" 633, .str "_build_localename" 634, .str "/claim/cut.py" 635, .int 126 0, .int 1 0, .int 0 0, .int 0 0, .int 3 0, .ref 213, .bool true, .int 276 0, .ref 214, .none, .ref 215, .ref 216, .ref 217, .int 639 0, .int 126 0, .str "/claim/cut.py" 640], #[]⟩),
  (226, fnO "_law_name" "_law_name" (.none) (.str "law_yf0032_01" 642) (.ref 225)),
  (225, ⟨.type "code", none, .fields #[.str "_law_name" 644, .str "_law_name" 645, .str "/claim/cut.py" 646, .int 138 0, .int 3 0, .int 0 0, .int 0 0, .int 3 0, .ref 220, .bool true, .int 276 0, .ref 221, .none, .ref 222, .ref 223, .ref 224, .int 652 0, .int 138 0, .str "/claim/cut.py" 653], #[]⟩),
  (233, fnO "_law_plain" "_law_plain" (.none) (.str "law_yf0032_01" 642) (.ref 232)),
  (232, ⟨.type "code", none, .fields #[.str "_law_plain" 655, .str "_law_plain" 656, .str "/claim/cut.py" 657, .int 142 0, .int 3 0, .int 0 0, .int 0 0, .int 3 0, .ref 227, .bool true, .int 276 0, .ref 228, .none, .ref 229, .ref 230, .ref 231, .int 662 0, .int 142 0, .str "/claim/cut.py" 663], #[]⟩),
  (240, fnO "_law_lay" "_law_lay" (.none) (.str "law_yf0032_01" 642) (.ref 239)),
  (239, ⟨.type "code", none, .fields #[.str "_law_lay" 665, .str "_law_lay" 666, .str "/claim/cut.py" 667, .int 145 0, .int 4 0, .int 0 0, .int 0 0, .int 3 0, .ref 234, .bool true, .int 276 0, .ref 235, .none, .ref 236, .ref 237, .ref 238, .int 672 0, .int 145 0, .str "/claim/cut.py" 673], #[]⟩),
  (245, fnO "_law_store" "_law_store" (.none) (.str "law_yf0032_01" 642) (.ref 244)),
  (244, ⟨.type "code", none, .fields #[.str "_law_store" 675, .str "_law_store" 676, .str "/claim/cut.py" 677, .int 148 0, .int 4 0, .int 0 0, .int 0 0, .int 3 0, .ref 241, .bool true, .int 276 0, .ref 242, .none, .none, .none, .ref 243, .int 678 0, .int 148 0, .str "/claim/cut.py" 679], #[]⟩),
  (252, fnO "_law_picture" "_law_picture" (.none) (.str "law_yf0032_01" 642) (.ref 251)),
  (251, ⟨.type "code", none, .fields #[.str "_law_picture" 681, .str "_law_picture" 682, .str "/claim/cut.py" 683, .int 151 0, .int 3 0, .int 0 0, .int 0 0, .int 3 0, .ref 246, .bool true, .int 276 0, .ref 247, .none, .ref 248, .ref 249, .ref 250, .int 691 0, .int 151 0, .str "/claim/cut.py" 692], #[]⟩),
  (259, fnO "_law_pay" "_law_pay" (.none) (.str "law_yf0032_01" 642) (.ref 258)),
  (258, ⟨.type "code", none, .fields #[.str "_law_pay" 694, .str "_law_pay" 695, .str "/claim/cut.py" 696, .int 160 0, .int 5 0, .int 0 0, .int 0 0, .int 3 0, .ref 253, .bool true, .int 276 0, .ref 254, .none, .ref 255, .ref 256, .ref 257, .int 705 0, .int 160 0, .str "/claim/cut.py" 706], #[]⟩),
  (266, fnO "_law_hand" "_law_hand" (.none) (.str "law_yf0032_01" 642) (.ref 265)),
  (265, ⟨.type "code", none, .fields #[.str "_law_hand" 708, .str "_law_hand" 709, .str "/claim/cut.py" 710, .int 167 0, .int 4 0, .int 0 0, .int 0 0, .int 3 0, .ref 260, .bool true, .int 276 0, .ref 261, .none, .ref 262, .ref 263, .ref 264, .int 719 0, .int 167 0, .str "/claim/cut.py" 720], #[]⟩),
  (273, fnO "_law_reckon" "_law_reckon" (.none) (.str "law_yf0032_01" 642) (.ref 272)),
  (272, ⟨.type "code", none, .fields #[.str "_law_reckon" 722, .str "_law_reckon" 723, .str "/claim/cut.py" 724, .int 188 0, .int 4 0, .int 0 0, .int 0 0, .int 3 0, .ref 267, .bool true, .int 276 0, .ref 268, .none, .ref 269, .ref 270, .ref 271, .int 736 0, .int 188 0, .str "/claim/cut.py" 737], #[]⟩),
  (278, fnO "_law_due" "_law_due" (.none) (.str "law_yf0032_01" 642) (.ref 277)),
  (277, ⟨.type "code", none, .fields #[.str "_law_due" 739, .str "_law_due" 740, .str "/claim/cut.py" 741, .int 202 0, .int 3 0, .int 0 0, .int 0 0, .int 3 0, .ref 274, .bool true, .int 276 0, .ref 275, .none, .none, .none, .ref 276, .int 742 0, .int 202 0, .str "/claim/cut.py" 743], #[]⟩),
  (283, fnO "_law_told" "_law_told" (.none) (.str "law_yf0032_01" 642) (.ref 282)),
  (282, ⟨.type "code", none, .fields #[.str "_law_told" 745, .str "_law_told" 746, .str "/claim/cut.py" 747, .int 216 0, .int 2 0, .int 0 0, .int 0 0, .int 3 0, .ref 279, .bool true, .int 276 0, .ref 280, .none, .none, .none, .ref 281, .int 748 0, .int 216 0, .str "/claim/cut.py" 749], #[]⟩),
  (288, fnO "law" "law" (.none) (.str "law_yf0032_01" 642) (.ref 287)),
  (287, ⟨.type "code", none, .fields #[.str "law" 751, .str "law" 752, .str "/claim/cut.py" 753, .int 222 0, .int 1 0, .int 0 0, .int 0 0, .int 3 0, .ref 284, .bool true, .int 276 0, .ref 285, .none, .none, .none, .ref 286, .int 754 0, .int 222 0, .str "/claim/cut.py" 755], #[]⟩)]
noncomputable def gtab : List (Str × Value) := [("_name_disallowed_re", .ref 48), ("_value_disallowed_re", .ref 53), ("Headers", .ref 182), ("Flags", .ref 191), ("Int2AP", .ref 198), ("ParseFlags", .ref 205), ("_strip_padding", .ref 212), ("_build_localename", .ref 219), ("_law_name", .ref 226), ("_law_plain", .ref 233), ("_law_lay", .ref 240), ("_law_store", .ref 245), ("_law_picture", .ref 252), ("_law_pay", .ref 259), ("_law_hand", .ref 266), ("_law_reckon", .ref 273), ("_law_due", .ref 278), ("_law_told", .ref 283), ("law", .ref 288)]

noncomputable def btab : List Str := ["type", "len", "list", "range", "bytes", "tuple", "divmod", "int", "abs", "min", "str", "TypeError", "ValueError"]
noncomputable def isLaw : Stmt → Bool
  | .FunctionDef n .. => n == ("law" : Str)
  | _ => false
noncomputable def qv : Program := { pw with main := { pw.main with body := pw.main.body.filter isLaw } }
noncomputable def loose : List Str := ["_sre", "_wall", "__name__", "tspecials", "_name_disallowed_re", "_value_disallowed_re", "_formatparam", "Headers", "Flags", "Int2AP", "ParseFlags", "_strip_padding", "_build_localename", "_law_name", "_law_plain", "_law_lay", "_law_store", "_law_picture", "_law_pay", "_law_hand", "_law_reckon", "_law_due", "_law_told"]
noncomputable abbrev Obs := List (Option Obj) × Bool × List (Option Value)
noncomputable def obs (s : Shared) : Obs := ((K0 (aWorld 1).params).map (fun p => s.heap.get? p.1), (s.heap.isNs mainGlobals && (s.heap.get? sysModules).isSome), gtab.map (fun p => s.heap.nsMap mainGlobals p.1) ++ btab.map fun x => s.heap.nsMap mainGlobals x)
noncomputable def seen (w : World) : Obs := ((K0 w.params).map (fun p => some p.2), true, gtab.map (fun p => some p.2) ++ btab.map fun _ => none)
theorem map_both {α β γ : Type} {x : Option α} {f : α → β} {g : α → γ} {a : β} {b : γ} (h : x.map f = some a) (h' : x.map g = some b) : x.map (fun s => (f s, g s)) = some (a, b) := by
  cases x with
  | none => cases h
  | some s => cases h; cases h'; rfl
theorem leftA (w : World) : (fencedOpening treeTable pw w 3400).map (fun s₀ => (topFrom treeTable pw (w.withFollow "special-get-raises" false) 3400 s₀).map fun s => (openSeen qv loose (importedModules pw.main.body) (fun _ => true) true s, obs s)) = some (some (openGood qv loose, seen (w.withFollow "special-get-raises" false))) := by kernel_rfl
theorem leftB (w : World) : (fencedOpening treeTable pw w 3400).map (fun s₀ => (topFrom treeTable pw (w.withFollow "special-get-raises" true) 3400 s₀).map fun s => (openSeen qv loose (importedModules pw.main.body) (fun _ => true) true s, obs s)) = some (some (openGood qv loose, seen (w.withFollow "special-get-raises" true))) := by kernel_rfl
theorem left : LeftO pw qv loose (fun _ => true) obs seen 3400 :=
  LeftO.of_split "special-get-raises" fun w => map_both (leftA w) (leftB w)
end
section
open PySem PySem.W PyProof.Rows
set_option maxRecDepth 100000
set_option maxHeartbeats 4000000
abbrev rwL : OpenLaw := PySem.Challenge.rw_yf0032_01
theorem said : rwL.wellSaid = true := by kernel_rfl
end
section
open PySem PySem.W PyProof.Rows
set_option maxRecDepth 100000
set_option maxHeartbeats 4000000
noncomputable def TopG (w : World) (h : Heap) : Prop := (K0 w.params).In h ∧ ∃ m, h.Ns mainGlobals m ∧ (∀ p ∈ gtab, m p.1 = some p.2) ∧ (∀ x ∈ btab, m x = none) ∧ h.get? sysModules ≠ none
theorem topG_of (w : World) (s : Shared) (e : obs s = seen w) : TopG w s.heap := by
  have e1 : (K0 (aWorld 1).params).map (fun p => s.heap.get? p.1) = (K0 w.params).map (fun p => some p.2) := congrArg Prod.fst e
  have e2' : (s.heap.isNs mainGlobals && (s.heap.get? sysModules).isSome) = true := congrArg (fun x => x.2.1) e
  rw [Bool.and_eq_true] at e2'
  obtain ⟨e2, e6⟩ := e2'
  have e3 : gtab.map (fun p => s.heap.nsMap mainGlobals p.1) ++ btab.map (fun x => s.heap.nsMap mainGlobals x) = gtab.map (fun p => some p.2) ++ btab.map (fun _ => none) := congrArg (fun x => x.2.2) e
  obtain ⟨e4, e5⟩ := List.append_inj e3 (by simp)
  have ek : (K0 (aWorld 1).params).map (·.1) = (K0 w.params).map (·.1) := by kernel_rfl
  refine ⟨Frag.in_of (as := (K0 (aWorld 1).params).map (·.1)) ek (by rw [List.map_map]; exact e1), _, Heap.Ns.of_isNs e2, fun p hp => List.map_inj_left.mp e4 p hp, fun x hx => List.map_inj_left.mp e5 x hx, fun q => by rw [q] at e6; cases e6⟩
theorem topG_keeps (w : World) (h h' : Heap) (x : TopG w h) (k : ∀ b o, h.get? b = some o → h'.get? b = some o) : TopG w h' :=
  ⟨x.1.keeps k, let ⟨m, a, b, c, d⟩ := x.2; ⟨m, a.keeps k, b, c, fun q => d (by
    cases e : h.get? sysModules with
    | none => rfl
    | some o => rw [k _ _ e] at q; cases q)⟩⟩
noncomputable def lawD : DefRec := { name := "law", params := (defOfQ "law").1, body := (defOfQ "law").2.1, scope := (defOfQ "law").2.2, pos := ⟨222, 0, 259, 58⟩ }
theorem law_def : defOf qv rwL.row.name = some (lawD, []) := by kernel_rfl
theorem head (walk : WalkO qv loose (fun _ _ => True) TopG rwL.row.toRowW lawD [] fun f vs => PySem.call f vs) : rwL.Holds :=
  holds_law said fun said => holds_open (q := qv) (loose := loose) (Xt := fun _ => true) (XP := fun _ _ => True) (Yf := obs) (Ya := seen) (YP := TopG) (d := lawD) (kwd := []) (N := 3400) left topG_of topG_keeps
    (fun _ _ => trivial) (fun _ _ _ _ _ => trivial) law_def (by kernel_rfl) (by kernel_rfl) (fun s e => recFacts_nil rfl) rfl said (by kernel_rfl) ⟨rfl, rfl, rfl, rfl, rfl, by decide +kernel⟩
    (by w_witness2) walk
end
section
open PySem PySem.W PyProof.Rows
set_option maxRecDepth 100000

/-- values without addresses or tokens; a list that nobody changes is a value, a thing that changes is a place -/
inductive AV where
  | none | bool (b : Bool) | int (i : Int) | str (s : List Nat) | bytes (b : List UInt8)
  | tup (l : List AV) | lst (l : List AV) | loc (n : Nat) | val (v : Value)

inductive Plc where
  | free
  | list (l : List AV)
  | dict (es : List (Str × AV))
  | hdr (c : Addr) (d : Nat)
  | idict (l : Nat)

noncomputable abbrev Store := Nat → Plc
/-- where the places lie; what is barred besides: lists that are being built -/
structure Place where
  «at» : Nat → Addr
  bar : Addr → Prop

noncomputable def Kept (h h' : Heap) : Prop := ∀ b o, h.get? b = some o → h'.get? b = some o
theorem Kept.refl (h : Heap) : Kept h h := fun _ _ e => e
theorem Kept.trans {a b c : Heap} (x : Kept a b) (y : Kept b c) : Kept a c := fun i o e => y i o (x i o e)
theorem Kept.push (h : Heap) (o : Obj) : Kept h (h.push o) := fun _ _ e => Heap.get?_push_of_some _ e

theorem ex_none {h : Heap} {a b : Addr} {o : Obj} {p : Prop} (e : h.get? b = some o) (z : h.get? a = none) (q : b = a) : p := by rw [q, z] at e; cases e
theorem ex_none' {h : Heap} {a : Addr} {o : Obj} {p : Prop} (e : h.get? a = some o) (z : h.get? a = none) : p := ex_none e z rfl
theorem Kept.none {h h' : Heap} {a : Addr} (k : Kept h h') (z : h'.get? a = none) : h.get? a = none := by
  cases e : h.get? a with
  | none => rfl
  | some o => exact ex_none' (k _ _ e) z
theorem same_obj {h : Heap} {a : Addr} {o o' : Obj} (e : h.get? a = some o) (e' : h.get? a = some o') : o = o' := Option.some.inj (e.symm.trans e')
theorem size_none (h : Heap) : h.get? h.objs.size = none := by
  cases e : h.get? h.objs.size with
  | none => rfl
  | some o => exact absurd (Heap.lt_size e) (Nat.lt_irrefl _)

noncomputable def Tracked (ρ : Place) (σ : Store) (a : Addr) : Prop := (∃ n, σ n ≠ .free ∧ ρ.at n = a) ∨ ρ.bar a

mutual
inductive VRel (ρ : Place) (σ : Store) (h : Heap) : AV → Value → Prop where
  | none : VRel ρ σ h .none .none
  | bool (b : Bool) : VRel ρ σ h (.bool b) (.bool b)
  | int (i : Int) (t : Tok) : VRel ρ σ h (.int i) (.int i t)
  | str (s : List Nat) (t : Tok) : VRel ρ σ h (.str s) (.str ⟨s.toArray⟩ t)
  | bytes (b : List UInt8) (t : Tok) : VRel ρ σ h (.bytes b) (.bytes b.toArray t)
  | tup {a : Addr} {l : List AV} {vs : List Value} (x : h.IsTuple a vs.toArray) (y : VRels ρ σ h l vs) : VRel ρ σ h (.tup l) (.ref a)
  | lst {a : Addr} {l : List AV} {vs : List Value} (x : h.IsList a vs.toArray) (u : ¬ Tracked ρ σ a) (y : VRels ρ σ h l vs) : VRel ρ σ h (.lst l) (.ref a)
  | loc (n : Nat) (u : σ n ≠ .free) : VRel ρ σ h (.loc n) (.ref (ρ.at n))
  | val (v : Value) : VRel ρ σ h (.val v) v
inductive VRels (ρ : Place) (σ : Store) (h : Heap) : List AV → List Value → Prop where
  | nil : VRels ρ σ h [] []
  | cons {a : AV} {v : Value} {l : List AV} {vs : List Value} (x : VRel ρ σ h a v) (y : VRels ρ σ h l vs) : VRels ρ σ h (a :: l) (v :: vs)
end

/-- a mutual induction without the machine's helpers -/
theorem VRels.ind {ρ : Place} {σ : Store} {h : Heap} {P : List AV → List Value → Prop} (n : P [] []) (c : ∀ {a V l vs}, VRel ρ σ h a V → VRels ρ σ h l vs → P l vs → P (a :: l) (V :: vs)) {l : List AV} {vs : List Value} (x : VRels ρ σ h l vs) : P l vs :=
  VRels.rec (motive_1 := fun _ _ _ => True) (motive_2 := fun l vs _ => P l vs) trivial (fun _ => trivial) (fun _ _ => trivial) (fun _ _ => trivial) (fun _ _ => trivial) (fun _ _ _ => trivial) (fun _ _ _ _ => trivial) (fun _ _ => trivial) (fun _ => trivial) n (fun x y _ p => c x y p) x
theorem VRels.unc {ρ : Place} {σ : Store} {h : Heap} {a : AV} {V : Value} {l : List AV} {vs : List Value} (r : VRels ρ σ h (a :: l) (V :: vs)) : VRel ρ σ h a V ∧ VRels ρ σ h l vs := by
  cases r with
  | cons a b => exact ⟨a, b⟩
/-- what a value needs of two states to tell the same in both -/
structure Carry (ρ : Place) (σ : Store) (h : Heap) (ρ' : Place) (σ' : Store) (h' : Heap) : Prop where
  tup : ∀ {a vs}, h.IsTuple a vs → h'.IsTuple a vs
  lst : ∀ {a vs}, h.IsList a vs → ¬ Tracked ρ σ a → h'.IsList a vs ∧ ¬ Tracked ρ' σ' a
  loc : ∀ {n}, σ n ≠ .free → ρ'.at n = ρ.at n ∧ σ' n ≠ .free
theorem VRel.via {ρ ρ' : Place} {σ σ' : Store} {h h' : Heap} {v : AV} {V : Value} (x : VRel ρ σ h v V) (m : Carry ρ σ h ρ' σ' h') : VRel ρ' σ' h' v V :=
  VRel.rec (motive_1 := fun v V _ => VRel ρ' σ' h' v V) (motive_2 := fun l vs _ => VRels ρ' σ' h' l vs) .none .bool .int .str .bytes (fun t _ y => .tup (m.tup t) y) (fun t u _ y => .lst (m.lst t u).1 (m.lst t u).2 y)
    (fun n u => (m.loc u).1 ▸ .loc n (m.loc u).2) .val .nil (fun _ _ a b => .cons a b) x
theorem VRels.via {ρ ρ' : Place} {σ σ' : Store} {h h' : Heap} {v : List AV} {V : List Value} (x : VRels ρ σ h v V) (m : Carry ρ σ h ρ' σ' h') : VRels ρ' σ' h' v V :=
  x.ind (P := fun v V => VRels ρ' σ' h' v V) .nil fun a _ y => .cons (a.via m) y
/-- what is known of a value -/
noncomputable def VEl (ρ : Place) (σ : Store) (h : Heap) (P : Value → Prop) : AV → Prop
  | .none => P .none
  | .bool b => P (.bool b)
  | .int i => ∀ t, P (.int i t)
  | .str s => ∀ t, P (.str ⟨s.toArray⟩ t)
  | .bytes b => ∀ t, P (.bytes b.toArray t)
  | .tup l => ∀ a vs, h.IsTuple a (List.toArray vs) → VRels ρ σ h l vs → P (.ref a)
  | .lst l => ∀ a vs, h.IsList a (List.toArray vs) → ¬ Tracked ρ σ a → VRels ρ σ h l vs → P (.ref a)
  | .loc n => σ n ≠ .free → P (.ref (ρ.at n))
  | .val v => P v
@[elab_as_elim] theorem VRel.el {ρ : Place} {σ : Store} {h : Heap} {a : AV} {P : Value → Prop} {V : Value} (u : VRel ρ σ h a V) (x : VEl ρ σ h P a) : P V :=
  VRel.rec (motive_1 := fun a V _ => VEl ρ σ h P a → P V) (motive_2 := fun _ _ _ => True) (fun x => x) (fun _ x => x) (fun _ t x => x t) (fun _ t x => x t) (fun _ t x => x t) (fun t y _ x => x _ _ t y) (fun t u y _ x => x _ _ t u y) (fun _ u x => x u) (fun _ x => x) trivial (fun _ _ _ _ => trivial) u x
@[elab_as_elim] theorem VRel.elN {ρ : Place} {σ : Store} {h : Heap} {P : Value → Prop} {V : Value} (u : VRel ρ σ h .none V) (x : P .none) : P V := u.el x
@[elab_as_elim] theorem VRel.elB {ρ : Place} {σ : Store} {h : Heap} {b : Bool} {P : Value → Prop} {V : Value} (u : VRel ρ σ h (.bool b) V) (x : P (.bool b)) : P V := u.el x
@[elab_as_elim] theorem VRel.elV {ρ : Place} {σ : Store} {h : Heap} {v : Value} {P : Value → Prop} {V : Value} (u : VRel ρ σ h (.val v) V) (x : P v) : P V := u.el x
noncomputable def VEls (ρ : Place) (σ : Store) (h : Heap) (P : List Value → Prop) : List AV → Prop
  | [] => P []
  | a :: l => ∀ V vs, VRel ρ σ h a V → VRels ρ σ h l vs → P (V :: vs)
@[elab_as_elim] theorem VRels.el {ρ : Place} {σ : Store} {h : Heap} {a : List AV} {P : List Value → Prop} {V : List Value} (u : VRels ρ σ h a V) (x : VEls ρ σ h P a) : P V :=
  VRels.ind (P := fun a V => VEls ρ σ h P a → P V) (fun x => x) (fun a b _ x => x _ _ a b) u x
@[elab_as_elim] theorem VRels.el0 {ρ : Place} {σ : Store} {h : Heap} {P : List Value → Prop} {V : List Value} (u : VRels ρ σ h [] V) (x : P []) : P V := u.el x
@[elab_as_elim] theorem VRels.el1 {ρ : Place} {σ : Store} {h : Heap} {a : AV} {P : List Value → Prop} {V : List Value} (u : VRels ρ σ h [a] V) (x : ∀ v, VRel ρ σ h a v → P [v]) : P V := u.el fun _ _ r z => z.el0 (P := fun l => P (_ :: l)) (x _ r)
@[elab_as_elim] theorem VRels.el2 {ρ : Place} {σ : Store} {h : Heap} {a b : AV} {P : List Value → Prop} {V : List Value} (u : VRels ρ σ h [a, b] V) (x : ∀ v v', VRel ρ σ h a v → VRel ρ σ h b v' → P [v, v']) : P V := u.el fun _ _ r z => z.el1 (P := fun l => P (_ :: l)) fun _ r' => x _ _ r r'
@[elab_as_elim] theorem VRels.el3 {ρ : Place} {σ : Store} {h : Heap} {a b c : AV} {P : List Value → Prop} {V : List Value} (u : VRels ρ σ h [a, b, c] V) (x : ∀ v v' v'', VRel ρ σ h a v → VRel ρ σ h b v' → VRel ρ σ h c v'' → P [v, v', v'']) : P V := u.el fun _ _ r z => z.el2 (P := fun l => P (_ :: l)) fun _ _ r' r'' => x _ _ _ r r' r''

noncomputable abbrev hdrC : Addr := 182

/-- what the heap holds at a place -/
noncomputable def SRel (w : World) (H0 : Heap) (ρ : Place) (σ : Store) (h : Heap) (a : Addr) : Plc → Prop
  | .free => True
  | .list l => ∃ vs, h.PlainList a (List.toArray vs) ∧ VRels ρ σ h l vs
  | .dict es => ∃ kvs : List (Str × Value), h.DictOf (strKind pw w) a kvs ∧ kvs.map (·.1) = es.map (·.1) ∧ VRels ρ σ h (es.map (·.2)) (kvs.map (·.2)) ∧ es.length ≤ 1000
  | .hdr c d => h.get? a = some (instObj c (ρ.at d)) ∧ σ d ≠ .free
  | .idict l => ∃ (m : Nat) (hs : Int) (t : Tok), h.get? a = some (dictOf [⟨hs, .str (Str.ofString "_headers") t, .ref (ρ.at l)⟩] m) ∧ σ l ≠ .free
section
variable {w : World} {H0 : Heap} {ρ : Place} {σ : Store} {h : Heap} {a : Addr}
theorem SRel.free : SRel w H0 ρ σ h a .free := trivial
theorem SRel.list {l : List AV} {vs : List Value} (x : h.PlainList a vs.toArray) (y : VRels ρ σ h l vs) : SRel w H0 ρ σ h a (.list l) := ⟨vs, x, y⟩
theorem SRel.dict {es : List (Str × AV)} {kvs : List (Str × Value)} (x : h.DictOf (strKind pw w) a kvs) (z : kvs.map (·.1) = es.map (·.1)) (y : VRels ρ σ h (es.map (·.2)) (kvs.map (·.2))) (q : es.length ≤ 1000) : SRel w H0 ρ σ h a (.dict es) := ⟨kvs, x, z, y, q⟩
theorem SRel.hdr {c : Addr} {d : Nat} (x : h.get? a = some (instObj c (ρ.at d))) (v : σ d ≠ .free) : SRel w H0 ρ σ h a (.hdr c d) := ⟨x, v⟩
theorem SRel.idict {l n : Nat} {hs : Int} {t : Tok} (x : h.get? a = some (dictOf [⟨hs, .str (Str.ofString "_headers") t, .ref (ρ.at l)⟩] n)) (v : σ l ≠ .free) : SRel w H0 ρ σ h a (.idict l) := ⟨n, hs, t, x, v⟩
end

structure Rel (w : World) (H0 : Heap) (ρ : Place) (σ : Store) (h : Heap) : Prop where
  top : Kept H0 h
  obj : ∀ n, SRel w H0 ρ σ h (ρ.at n) (σ n)
  inj : ∀ n m, σ n ≠ .free → σ m ≠ .free → ρ.at n = ρ.at m → n = m
  new : ∀ n, σ n ≠ .free → H0.get? (ρ.at n) = none
  bars : ∀ a, ρ.bar a → (∃ vs, h.IsList a vs) ∧ H0.get? a = none ∧ ∀ n, σ n ≠ .free → ρ.at n ≠ a

/-- W: the places that may be written; the rest stands as it stood -/
structure Evo (W : Nat → Prop) (X : Addr → Prop) (ρ : Place) (σ : Store) (h : Heap) (ρ' : Place) (σ' : Store) (h' : Heap) : Prop where
  keep : ∀ b o, h.get? b = some o → (∀ n, W n → σ n ≠ .free → ρ.at n ≠ b) → ¬ X b → h'.get? b = some o
  there : ∀ b o, h.get? b = some o → ∃ o', h'.get? b = some o'
  dom : ∀ n, σ n ≠ .free → ρ'.at n = ρ.at n ∧ σ' n ≠ .free
  same : ∀ n, ¬ W n → σ' n = σ n
  new : ∀ n, σ n = .free → σ' n ≠ .free → h.get? (ρ'.at n) = none
  bar : ρ'.bar = ρ.bar

/-- the same, but that nothing need stand there -/
structure Evw (W : Nat → Prop) (X : Addr → Prop) (ρ : Place) (σ : Store) (h : Heap) (ρ' : Place) (σ' : Store) (h' : Heap) : Prop where
  keep : ∀ b o, h.get? b = some o → (∀ n, W n → σ n ≠ .free → ρ.at n ≠ b) → ¬ X b → h'.get? b = some o
  dom : ∀ n, σ n ≠ .free → ρ'.at n = ρ.at n ∧ σ' n ≠ .free
  same : ∀ n, ¬ W n → σ' n = σ n
  new : ∀ n, σ n = .free → σ' n ≠ .free → h.get? (ρ'.at n) = none
  bar : ρ'.bar = ρ.bar

section
variable {w : World} {H0 : Heap} {ρ ρ' ρ'' : Place} {σ σ' σ'' : Store} {h h' h'' : Heap} {W : Nat → Prop}

variable {X : Addr → Prop}
noncomputable def notTup : Value → Bool
  | .type c => c != "tuple"
  | _ => true
theorem slot_there {a : Addr} {s : Plc} (x : SRel w H0 ρ σ h a s) (hf : s ≠ .free) : ∃ o, h.get? a = some o ∧ notTup o.cls = true := by
  cases s with
  | free => exact absurd rfl hf
  | list l => obtain ⟨_, ⟨_, e⟩, _⟩ := x; exact ⟨_, e, rfl⟩
  | dict es => obtain ⟨_, ⟨_, _, _, e, c, _⟩, _⟩ := x; exact ⟨_, e, c.1 ▸ rfl⟩
  | hdr c d => exact ⟨_, x.1, rfl⟩
  | idict l => obtain ⟨_, _, _, e, _⟩ := x; exact ⟨_, e, rfl⟩
theorem Rel.there (R : Rel w H0 ρ σ h) {n : Nat} (u : σ n ≠ .free) : ∃ o, h.get? (ρ.at n) = some o := by obtain ⟨o, e, _⟩ := slot_there (R.obj n) u; exact ⟨o, e⟩

theorem Evo.refl (W : Nat → Prop) (X : Addr → Prop) (ρ : Place) (σ : Store) (h : Heap) : Evo W X ρ σ h ρ σ h :=
  ⟨fun _ _ e _ _ => e, fun _ o e => ⟨o, e⟩, fun _ u => ⟨rfl, u⟩, fun _ _ => rfl, fun _ a b => absurd a b, rfl⟩
theorem Evo.trans (x : Evo W X ρ σ h ρ' σ' h') (y : Evo W X ρ' σ' h' ρ'' σ'' h'') : Evo W X ρ σ h ρ'' σ'' h'' where
  keep b o e u ux := y.keep b o (x.keep b o e u ux) (fun n hw hn hb => by
    by_cases q : σ n = .free
    · have := x.new n q hn; rw [hb, e] at this; cases this
    · exact u n hw q ((x.dom n q).1 ▸ hb)) ux
  there b o e := by obtain ⟨o', e'⟩ := x.there b o e; exact y.there b o' e'
  dom n u := ⟨(y.dom n (x.dom n u).2).1.trans (x.dom n u).1, (y.dom n (x.dom n u).2).2⟩
  same n u := (y.same n u).trans (x.same n u)
  new n u v := by
    by_cases q : σ' n = .free
    · cases e : h.get? (ρ''.at n) with
      | none => rfl
      | some o => obtain ⟨o', e'⟩ := x.there _ _ e; rw [y.new n q v] at e'; cases e'
    · rw [(y.dom n q).1]; exact x.new n u q
  bar := y.bar.trans x.bar
theorem Evo.mono {W' : Nat → Prop} {X' : Addr → Prop} (x : Evo W X ρ σ h ρ' σ' h') (hw : ∀ n, W n → W' n) (hx : ∀ b o, h.get? b = some o → X b → X' b) : Evo W' X' ρ σ h ρ' σ' h' :=
  ⟨fun b o e u ux => x.keep b o e (fun n a => u n (hw n a)) fun q => ux (hx b o e q), x.there, x.dom, fun n u => x.same n fun a => u (hw n a), x.new, x.bar⟩
theorem Kept.evo (k : Kept h h') (W : Nat → Prop) (X : Addr → Prop) (ρ : Place) (σ : Store) : Evo W X ρ σ h ρ σ h' :=
  ⟨fun b o e _ _ => k b o e, fun b o e => ⟨o, k b o e⟩, fun _ u => ⟨rfl, u⟩, fun _ _ => rfl, fun _ a b => absurd a b, rfl⟩

theorem Evo.wk (x : Evo W X ρ σ h ρ' σ' h') : Evw W X ρ σ h ρ' σ' h' := ⟨x.keep, x.dom, x.same, x.new, x.bar⟩
theorem Evw.untracked (x : Evw W X ρ σ h ρ' σ' h') {a : Addr} {o : Obj} (e : h.get? a = some o) (u : ¬ Tracked ρ σ a) : ¬ Tracked ρ' σ' a := by
  rintro (⟨n, hn', rfl⟩ | hb)
  · by_cases q : σ n = .free
    · rw [x.new n q hn'] at e; cases e
    · exact u (.inl ⟨n, q, (x.dom n q).1.symm⟩)
  · exact u (.inr (x.bar ▸ hb))
theorem Evw.keepU (x : Evw W X ρ σ h ρ' σ' h') {a : Addr} {o : Obj} (e : h.get? a = some o) (u : ¬ Tracked ρ σ a) (ux : ¬ X a) : h'.get? a = some o :=
  x.keep a o e (fun n _ q z => u (.inl ⟨n, q, z⟩)) ux

/-- what a frame owns is no tuple and no list, and no place -/
noncomputable def OwnOk (X : Addr → Prop) (ρ : Place) (σ : Store) (h : Heap) : Prop := ∀ b, X b → ¬ Tracked ρ σ b ∧ ∀ o vs n, h.get? b = some o → o.data ≠ .seq vs n

theorem Rel.tuple_untracked (R : Rel w H0 ρ σ h) {a : Addr} {vs : Array Value} (x : h.IsTuple a vs) : ¬ Tracked ρ σ a := by
  obtain ⟨o, e, c, _⟩ := x
  have no : ∀ o', h.get? a = some o' → notTup o'.cls = true → False := fun o' e' t => by
    cases e.symm.trans e'; rw [c] at t; cases t
  rintro (⟨n, hn, rfl⟩ | hb)
  · obtain ⟨_, e', t⟩ := slot_there (R.obj n) hn; exact no _ e' t
  · obtain ⟨⟨_, _, e', c', _⟩, _⟩ := R.bars a hb; exact no _ e' (c' ▸ rfl)

theorem Evw.carry (R : Rel w H0 ρ σ h) (x : Evw W X ρ σ h ρ' σ' h') (O : OwnOk X ρ σ h) : Carry ρ σ h ρ' σ' h' where
  tup := fun ⟨o, e, c, n, d⟩ => ⟨o, x.keepU e (R.tuple_untracked ⟨o, e, c, n, d⟩) (fun q => (O _ q).2 o _ _ e d), c, n, d⟩
  lst := fun ⟨o, e, c, n, d⟩ u => ⟨⟨o, x.keepU e u (fun q => (O _ q).2 o _ _ e d), c, n, d⟩, x.untracked e u⟩
  loc := fun u => x.dom _ u
theorem VRel.evw (R : Rel w H0 ρ σ h) (x : Evw W X ρ σ h ρ' σ' h') (O : OwnOk X ρ σ h) {v : AV} {V : Value} (r : VRel ρ σ h v V) : VRel ρ' σ' h' v V := r.via (x.carry R O)
theorem VRels.evw (R : Rel w H0 ρ σ h) (x : Evw W X ρ σ h ρ' σ' h') (O : OwnOk X ρ σ h) {v : List AV} {V : List Value} (r : VRels ρ σ h v V) : VRels ρ' σ' h' v V := r.via (x.carry R O)
theorem Kept.carry (k : Kept h h') : Carry ρ σ h ρ σ h' := ⟨fun ⟨o, e, r⟩ => ⟨o, k _ _ e, r⟩, fun ⟨o, e, r⟩ u => ⟨⟨o, k _ _ e, r⟩, u⟩, fun u => ⟨rfl, u⟩⟩
theorem VRel.keeps (k : Kept h h') {v : AV} {V : Value} (r : VRel ρ σ h v V) : VRel ρ σ h' v V := r.via k.carry
theorem VRels.keeps (k : Kept h h') {v : List AV} {V : List Value} (r : VRels ρ σ h v V) : VRels ρ σ h' v V := r.via k.carry
theorem SRel.via (m : Carry ρ σ h ρ' σ' h') {a : Addr} (k : ∀ o, h.get? a = some o → h'.get? a = some o) {s : Plc} (S : SRel w H0 ρ σ h a s) : SRel w H0 ρ' σ' h' a s := by
  cases s with
  | free => trivial
  | list l => obtain ⟨vs, x, y⟩ := S; exact ⟨vs, x.at k, y.via m⟩
  | dict es => obtain ⟨kvs, ⟨o, es, ep, e, r⟩, z, y, q⟩ := S; exact ⟨kvs, ⟨o, es, ep, k _ e, r⟩, z, y.via m, q⟩
  | hdr c d => exact ⟨(m.loc S.2).1 ▸ k _ S.1, (m.loc S.2).2⟩
  | idict l => obtain ⟨n, hs, t, x, v⟩ := S; exact ⟨n, hs, t, (m.loc v).1 ▸ k _ x, (m.loc v).2⟩
theorem SRel.keeps (k : Kept h h') {a : Addr} {s : Plc} (S : SRel w H0 ρ σ h a s) : SRel w H0 ρ σ h' a s := S.via k.carry fun o e => k _ o e
/-- what stands at a place -/
theorem Rel.at (R : Rel w H0 ρ σ h) {n : Nat} {p : Plc} (e : σ n = p) : SRel w H0 ρ σ h (ρ.at n) p := e ▸ R.obj n
theorem Rel.list (R : Rel w H0 ρ σ h) {n : Nat} {l : List AV} (e : σ n = .list l) : ∃ vs, h.PlainList (ρ.at n) (List.toArray vs) ∧ VRels ρ σ h l vs := R.at e
theorem Rel.dict (R : Rel w H0 ρ σ h) {n : Nat} {es : List (Str × AV)} (e : σ n = .dict es) : ∃ kvs : List (Str × Value), h.DictOf (strKind pw w) (ρ.at n) kvs ∧ kvs.map (·.1) = es.map (·.1) ∧ VRels ρ σ h (es.map (·.2)) (kvs.map (·.2)) ∧ es.length ≤ 1000 := R.at e
theorem Rel.hdr (R : Rel w H0 ρ σ h) {n : Nat} {c : Addr} {d : Nat} (e : σ n = .hdr c d) : h.get? (ρ.at n) = some (instObj c (ρ.at d)) ∧ σ d ≠ .free := R.at e
theorem Rel.idict (R : Rel w H0 ρ σ h) {n l : Nat} (e : σ n = .idict l) : ∃ (m : Nat) (hs : Int) (t : Tok), h.get? (ρ.at n) = some (dictOf [⟨hs, .str (Str.ofString "_headers") t, .ref (ρ.at l)⟩] m) ∧ σ l ≠ .free := R.at e
theorem Rel.keeps (R : Rel w H0 ρ σ h) (k : Kept h h') : Rel w H0 ρ σ h' := ⟨R.top.trans k, fun n => (R.obj n).keeps k, R.inj, R.new, fun a b => by obtain ⟨⟨vs, o, e, r⟩, q⟩ := R.bars a b; exact ⟨⟨vs, o, k _ _ e, r⟩, q⟩⟩

/-- the slot at n is left alone: it tells the same behind -/
theorem SRel.evw (R : Rel w H0 ρ σ h) (x : Evw W X ρ σ h ρ' σ' h') (O : OwnOk X ρ σ h) {n : Nat} (hw : ¬ W n) (hn : σ n ≠ .free) (hi : ∀ d l, σ d = .idict l → σ' d = .idict l) : SRel w H0 ρ' σ' h' (ρ'.at n) (σ' n) := by
  rw [x.same n hw, (x.dom n hn).1]
  exact (R.obj n).via (x.carry R O) fun o e => x.keep _ _ e (fun m hm q z => hw ((R.inj m n q hn z) ▸ hm)) fun q => (O _ q).1 (.inl ⟨n, hn, rfl⟩)
theorem Evo.untracked (x : Evo W X ρ σ h ρ' σ' h') {a : Addr} {o : Obj} (e : h.get? a = some o) (u : ¬ Tracked ρ σ a) : ¬ Tracked ρ' σ' a := x.wk.untracked e u
theorem Evo.keepU (x : Evo W X ρ σ h ρ' σ' h') {a : Addr} {o : Obj} (e : h.get? a = some o) (u : ¬ Tracked ρ σ a) (ux : ¬ X a) : h'.get? a = some o := x.wk.keepU e u ux
theorem VRel.evo (R : Rel w H0 ρ σ h) (x : Evo W X ρ σ h ρ' σ' h') (O : OwnOk X ρ σ h) {v : AV} {V : Value} (r : VRel ρ σ h v V) : VRel ρ' σ' h' v V := r.evw R x.wk O
theorem VRels.evo (R : Rel w H0 ρ σ h) (x : Evo W X ρ σ h ρ' σ' h') (O : OwnOk X ρ σ h) {v : List AV} {V : List Value} (r : VRels ρ σ h v V) : VRels ρ' σ' h' v V := r.evw R x.wk O
theorem SRel.evo (R : Rel w H0 ρ σ h) (x : Evo W X ρ σ h ρ' σ' h') (O : OwnOk X ρ σ h) {n : Nat} (hw : ¬ W n) (hn : σ n ≠ .free) (hi : ∀ d l, σ d = .idict l → σ' d = .idict l) : SRel w H0 ρ' σ' h' (ρ'.at n) (σ' n) := SRel.evw R x.wk O hw hn hi
end
end
section
open PySem PySem.W PyProof.Rows
set_option maxRecDepth 100000
structure Shut (p : Prop) : Prop where
  out : p

noncomputable def btabV : List (Str × Value) := [("type", .type "type"), ("len", .builtin "len"), ("list", .type "list"), ("range", .type "range"), ("bytes", .type "bytes"), ("tuple", .type "tuple"), ("divmod", .builtin "divmod"), ("int", .type "int"), ("abs", .builtin "abs"), ("min", .builtin "min"), ("str", .type "str")]
theorem btabV_ok : ∀ p ∈ btabV, p.1 ∈ btab ∧ p.1 ≠ "__name__" ∧ bootBuiltins p.1 = some p.2 := by decide +kernel

structure Tp (w : World) (H0 : Heap) : Prop where
  K : (K0 w.params).In H0
  lim : H0.NoLimit
  sys : H0.get? sysModules ≠ none
  glob : ∃ mg mb, H0.Ns mainGlobals mg ∧ H0.Ns builtinsNs mb ∧ (∀ p ∈ gtab, mg p.1 = some p.2) ∧ ∀ p ∈ btabV, mg p.1 = none ∧ mb p.1 = some p.2

structure Rm (k : Nat) (A : Around) : Prop where
  handled : A.handled = none
  depth : A.depth + 3 * k + 4 ≤ 700
  units : A.units + 12 * k + 60 ≤ 5000
theorem Rm.mono {k j : Nat} {A : Around} (r : Rm k A) (h : j ≤ k) : Rm j A := ⟨r.handled, by have := r.depth; omega, by have := r.units; omega⟩
theorem Rm.deeper {k : Nat} {A : Around} (r : Rm (k + 1) A) (env : Env) : Rm k (A.deeper env) :=
  ⟨r.handled, by have := r.depth; show A.depth + 1 + 3 * k + 4 ≤ 700; omega, by have := r.units; show A.units + 3 + 12 * k + 60 ≤ 5000; omega⟩
theorem Rm.in1 {k : Nat} {A : Around} (r : Rm (k + 1) A) : Rm k A.in1 := ⟨r.handled, by have := r.depth; show A.depth + 3 * k + 4 ≤ 700; omega, by have := r.units; show A.units + 1 + 12 * k + 60 ≤ 5000; omega⟩
theorem Rm.room {k : Nat} {A : Around} (r : Rm k A) : A.depth < recursionLimit := by have := r.depth; show A.depth < 1000; omega
theorem Rm.line {k : Nat} {A : Around} (r : Rm k A) : A.units < cLine := by have := r.units; show A.units < 9900; omega

noncomputable abbrev Vars := List (Str × AV)

/-- the frame: its locals, its cells -/
structure Fra (w : World) (H0 : Heap) (env : Env) (μ : Vars) (ρ : Place) (σ : Store) (h : Heap) : Prop where
  kind : env.scope.kind = .function
  globals : env.globals = mainGlobals
  builtins : env.builtins = builtinsNs
  ns : ∃ m, h.Ns env.locals m ∧ ∀ x v, μ.lookup x = some v → env.kindOf x = some .local → ∃ V, m x = some V ∧ VRel ρ σ h v V
  cell : ∀ x v, μ.lookup x = some v → env.kindOf x = some .cell ∨ env.kindOf x = some .free → ∃ c V, env.cells.lookup x = some c ∧ h.IsCell c (some V) ∧ VRel ρ σ h v V
  locU : ¬ Tracked ρ σ env.locals ∧ H0.get? env.locals = none
  celU : ∀ x c, (x, c) ∈ env.cells → (∃ v, h.IsCell c v) ∧ ¬ Tracked ρ σ c ∧ H0.get? c = none
  apart : env.cells.Pairwise fun x y => x.2 ≠ y.2

section
variable {w : World} {H0 : Heap} {ρ ρ' : Place} {σ σ' : Store} {h h' : Heap} {W : Nat → Prop} {env : Env} {μ : Vars}
variable {X : Addr → Prop}
noncomputable def Own (env : Env) (b : Addr) : Prop := b = env.locals ∨ ∃ x, (x, b) ∈ env.cells
theorem Fra.own (F : Fra w H0 env μ ρ σ h) : OwnOk (Own env) ρ σ h := by
  rintro b (rfl | ⟨x, m⟩)
  · obtain ⟨_, ⟨o, es, ep, e, d, _⟩, _⟩ := F.ns
    exact ⟨F.locU.1, fun o' vs n e' d' => by rw [e] at e'; cases e'; rw [d] at d'; cases d'⟩
  · obtain ⟨⟨v, o, e, d⟩, u, _⟩ := F.celU x b m
    exact ⟨u, fun o' vs n e' d' => by rw [e] at e'; cases e'; rw [d] at d'; cases d'⟩
theorem Fra.ownL (F : Fra w H0 env μ ρ σ h) : OwnOk (fun b => b = env.locals) ρ σ h := fun b e => F.own b (.inl e)
/-- a frame in another state -/
theorem Fra.via (F : Fra w H0 env μ ρ σ h) (m : Carry ρ σ h ρ' σ' h') (k : ∀ b o, Own env b → h.get? b = some o → h'.get? b = some o) (u : ∀ b o, Own env b → h.get? b = some o → ¬ Tracked ρ' σ' b) : Fra w H0 env μ ρ' σ' h' where
  kind := F.kind
  globals := F.globals
  builtins := F.builtins
  ns := by
    obtain ⟨m', ⟨o, es, ep, e, r⟩, b⟩ := F.ns
    exact ⟨m', ⟨o, es, ep, k _ o (.inl rfl) e, r⟩, fun y v e l => by obtain ⟨V, p, q⟩ := b y v e l; exact ⟨V, p, q.via m⟩⟩
  cell := fun y v e l => by
    obtain ⟨c, V, p, ⟨o, a, b⟩, r⟩ := F.cell y v e l
    exact ⟨c, V, p, ⟨o, k c o (.inr ⟨y, mem_of_lookup p⟩) a, b⟩, r.via m⟩
  locU := by
    obtain ⟨_, ⟨o, _, _, e, _⟩, _⟩ := F.ns
    exact ⟨u _ o (.inl rfl) e, F.locU.2⟩
  celU := fun y c z => by
    obtain ⟨⟨v, o, e, d⟩, _, q⟩ := F.celU y c z
    exact ⟨⟨v, o, k c o (.inr ⟨y, z⟩) e, d⟩, u c o (.inr ⟨y, z⟩) e, q⟩
  apart := F.apart
theorem Fra.keeps (F : Fra w H0 env μ ρ σ h) (k : Kept h h') : Fra w H0 env μ ρ σ h' := F.via k.carry (fun b o _ e => k b o e) fun b o q _ => (F.own b q).1
/-- another frame than the one that runs -/
theorem Fra.evw (R : Rel w H0 ρ σ h) (F : Fra w H0 env μ ρ σ h) (x : Evw W X ρ σ h ρ' σ' h') (O : OwnOk X ρ σ h) (n : ∀ b, Own env b → ¬ X b) : Fra w H0 env μ ρ' σ' h' :=
  F.via (x.carry R O) (fun b o q e => x.keepU e (F.own b q).1 (n b q)) fun b o q e => x.untracked e (F.own b q).1
theorem Fra.evo (R : Rel w H0 ρ σ h) (F : Fra w H0 env μ ρ σ h) (x : Evo W X ρ σ h ρ' σ' h') (O : OwnOk X ρ σ h) (n : ∀ b, Own env b → ¬ X b) : Fra w H0 env μ ρ' σ' h' := F.evw R x.wk O n
end

/-- a tree that gives the value v, changing nothing that stood -/
noncomputable def PV (w : World) (H0 : Heap) (k : Nat) (t : Sem Value) (env : Env) (μ : Vars) (σ : Store) (v : AV) : Prop := Shut <|
  ∀ A, Rm k A → ∀ ρ s, Rel w H0 ρ σ s.heap → Fra w H0 env μ ρ σ s.heap → ∀ Q E,
    (∀ h' tk V, Kept s.heap h' → VRel ρ σ h' v V → Q V { s with heap := h', toks := tk }) → wpAny (model pw w) A t Q E s
noncomputable def PB (w : World) (H0 : Heap) (k : Nat) (t : Sem Bool) (env : Env) (μ : Vars) (σ : Store) (b : Bool) : Prop := Shut <|
  ∀ A, Rm k A → ∀ ρ s, Rel w H0 ρ σ s.heap → Fra w H0 env μ ρ σ s.heap → ∀ Q E,
    (∀ h' tk, Kept s.heap h' → Q b { s with heap := h', toks := tk }) → wpAny (model pw w) A t Q E s
noncomputable def PVs (w : World) (H0 : Heap) (k : Nat) (t : Sem (List Value)) (env : Env) (μ : Vars) (σ : Store) (v : List AV) : Prop := Shut <|
  ∀ A, Rm k A → ∀ ρ s, Rel w H0 ρ σ s.heap → Fra w H0 env μ ρ σ s.heap → ∀ Q E,
    (∀ h' tk V, Kept s.heap h' → VRels ρ σ h' v V → Q V { s with heap := h', toks := tk }) → wpAny (model pw w) A t Q E s

section
variable {w : World} {H0 : Heap} {k : Nat} {env : Env} {μ : Vars} {σ : Store}

noncomputable def constAV : Const → Option AV
  | .none => some .none
  | .bool b => some (.bool b)
  | .int i => some (.int i)
  | .str s => some (.str s.cps.toList)
  | .bytes b => some (.bytes b)
  | _ => none
theorem PV.const {c : Const} {j : Nat} {pos : Pos} {v : AV} (e : constAV c = some v) : PV w H0 k (eval (.Constant c j pos) env) env μ σ v := by
  refine ⟨?_⟩; intro A rm ρ s R F Q E hq
  cases c <;> simp only [constAV, Option.some.injEq, reduceCtorEq] at e <;> subst e
  · exact wpAny_pure (hq s.heap s.toks _ (.refl _) .none)
  · exact wpAny_pure (hq s.heap s.toks _ (.refl _) (.bool _))
  · exact wpAny_Constant_int (hq s.heap _ _ (.refl _) (.int _ _))
  · exact Calls.Constant_str (hq s.heap _ _ (.refl _) (.str _ _))
  · exact wpAny_mkTextBytes (hq s.heap _ _ (.refl _) (.bytes _ _))
theorem PV.local {x : Str} {pos : Pos} {v : AV} (hl : env.kindOf x = some .local) (e : μ.lookup x = some v) (hd : (x == ("__debug__" : Str)) = false) : PV w H0 k (eval (.Name x pos) env) env μ σ v := by
  refine ⟨?_⟩; intro A rm ρ s R F Q E hq
  obtain ⟨m, hn, hm⟩ := F.ns
  obtain ⟨V, hV, r⟩ := hm x v e hl
  exact wpAny_Name (wpAny_loadName_local F.kind hl hn hV (hq s.heap s.toks _ (.refl _) r)) hd
theorem PV.cell {x : Str} {pos : Pos} {v : AV} (hl : env.kindOf x = some .cell ∨ env.kindOf x = some .free) (e : μ.lookup x = some v) (hd : (x == ("__debug__" : Str)) = false) (hc : (x == ("__classdict__" : Str)) = false) : PV w H0 k (eval (.Name x pos) env) env μ σ v := by
  refine ⟨?_⟩; intro A rm ρ s R F Q E hq
  obtain ⟨c, V, p, q, r⟩ := F.cell x v e hl
  rcases hl with hl | hl
  · exact wpAny_Name (wpAny_loadName_cell F.kind hl p q (hq s.heap s.toks _ (.refl _) r)) hd
  · exact wpAny_Name (wpAny_loadName_free F.kind hl p q (hq s.heap s.toks _ (.refl _) r) hc) hd
theorem PV.glob (T : Tp w H0) {x : Str} {pos : Pos} {v : Value} (hl : env.kindOf x = some .globalImplicit) (e : gtab.lookup x = some v ∨ btabV.lookup x = some v) (hd : (x == ("__debug__" : Str)) = false) : PV w H0 k (eval (.Name x pos) env) env μ σ (.val v) := by
  refine ⟨?_⟩; intro A rm ρ s R F Q E hq
  obtain ⟨mg, mb, g, b, h1, h2⟩ := T.glob
  have hQ := hq s.heap s.toks v (.refl _) (.val v)
  refine Calls.Name_function_global F.kind hl ?_ hd
  rcases e with e | e
  · exact Calls.loadGlobal_global (F.globals ▸ g.keeps R.top) (h1 _ (mem_of_lookup e)) hQ
  · exact Calls.loadGlobal_builtin (F.globals ▸ g.keeps R.top) (h2 _ (mem_of_lookup e)).1 (F.builtins ▸ b.keeps R.top) (h2 _ (mem_of_lookup e)).2 hQ
end
end
section
open PySem PySem.W PyProof.Rows
set_option maxRecDepth 100000
section
variable {w : World} {H0 : Heap} {k : Nat} {env : Env} {μ : Vars} {σ : Store} {ρ : Place} {h : Heap}

theorem Rel.fresh (R : Rel w H0 ρ σ h) {a : Addr} (e : h.objs.size ≤ a) : ¬ Tracked ρ σ a := by
  rintro (⟨n, hn, rfl⟩ | hb)
  · obtain ⟨o, q⟩ := R.there hn
    exact absurd (Heap.lt_size q) (Nat.not_lt.mpr e)
  · obtain ⟨⟨_, o, q, _⟩, _⟩ := R.bars a hb
    exact absurd (Heap.lt_size q) (Nat.not_lt.mpr e)
theorem VRels.length {l : List AV} {vs : List Value} : VRels ρ σ h l vs → vs.length = l.length := VRels.ind (P := fun l vs => vs.length = l.length) rfl fun _ _ e => congrArg (· + 1) e

/-- an operation on two values -/
noncomputable def O2 (w : World) (H0 : Heap) (k : Nat) (f : Value → Value → Sem Value) (σ : Store) (a b v : AV) : Prop := Shut <|
  ∀ A, Rm k A → ∀ ρ s U V, Rel w H0 ρ σ s.heap → VRel ρ σ s.heap a U → VRel ρ σ s.heap b V → ∀ Q E,
    (∀ h' tk r, Kept s.heap h' → VRel ρ σ h' v r → Q r { s with heap := h', toks := tk }) → wpAny (model pw w) A (f U V) Q E s
noncomputable def O1 (w : World) (H0 : Heap) (k : Nat) (f : Value → Sem Value) (σ : Store) (a v : AV) : Prop := Shut <|
  ∀ A, Rm k A → ∀ ρ s U, Rel w H0 ρ σ s.heap → VRel ρ σ s.heap a U → ∀ Q E,
    (∀ h' tk r, Kept s.heap h' → VRel ρ σ h' v r → Q r { s with heap := h', toks := tk }) → wpAny (model pw w) A (f U) Q E s
noncomputable def O1B (w : World) (H0 : Heap) (k : Nat) (f : Value → Sem Bool) (σ : Store) (a : AV) (b : Bool) : Prop := Shut <|
  ∀ A, Rm k A → ∀ ρ s U, Rel w H0 ρ σ s.heap → VRel ρ σ s.heap a U → ∀ Q E,
    (∀ h' tk, Kept s.heap h' → Q b { s with heap := h', toks := tk }) → wpAny (model pw w) A (f U) Q E s

theorem PV.binop {l r : Expr} {op : Operator} {pos : Pos} {a b v : AV} (x : PV w H0 k (eval l env) env μ σ a) (y : PV w H0 k (eval r env) env μ σ b) (z : O2 w H0 k (binaryOp op) σ a b v) :
    PV w H0 k (eval (.BinOp l op r pos) env) env μ σ v := by
  refine ⟨?_⟩; intro A rm ρ s R F Q E hq
  refine wpAny_BinOp (x.out A rm ρ s R F _ E fun h₁ t₁ U k₁ u => y.out A rm ρ _ (R.keeps k₁) (F.keeps k₁) _ E fun h₂ t₂ V k₂ v => ?_)
  exact z.out A rm ρ _ U V (R.keeps (k₁.trans k₂)) (u.keeps k₂) v Q E fun h₃ t₃ r k₃ q => hq h₃ t₃ r ((k₁.trans k₂).trans k₃) q
theorem PV.cmp {l r : Expr} {op : CmpOp} {pos : Pos} {a b v : AV} (x : PV w H0 k (eval l env) env μ σ a) (y : PV w H0 k (eval r env) env μ σ b) (z : O2 w H0 k (compareOp op) σ a b v)
    (hm : behindInMarks op r = false) : PV w H0 k (eval (.Compare l [op] [r] pos) env) env μ σ v := by
  refine ⟨?_⟩; intro A rm ρ s R F Q E hq
  refine wpAny_Compare1 (x.out A rm ρ s R F _ E fun h₁ t₁ U k₁ u => y.out A rm ρ _ (R.keeps k₁) (F.keeps k₁) _ E fun h₂ t₂ V k₂ v => ?_) hm
  exact z.out A rm ρ _ U V (R.keeps (k₁.trans k₂)) (u.keeps k₂) v Q E fun h₃ t₃ r k₃ q => hq h₃ t₃ r ((k₁.trans k₂).trans k₃) q
theorem PB.cmp {l r : Expr} {op : CmpOp} {pos : Pos} {a b : AV} {c : Bool} {whole : Sem Value} (x : PV w H0 k (eval l env) env μ σ a) (y : PV w H0 k (eval r env) env μ σ b) (z : O2 w H0 k (compareOp op) σ a b (.bool c))
    (hm : behindInMarks op r = false) : PB w H0 k (isTrue (.Compare l [op] [r] pos) env whole) env μ σ c := by
  refine ⟨?_⟩; intro A rm ρ s R F Q E hq
  refine wpAny_isTrue_Compare1 (x.out A rm ρ s R F _ E fun h₁ t₁ U k₁ u => y.out A rm ρ _ (R.keeps k₁) (F.keeps k₁) _ E fun h₂ t₂ V k₂ v => ?_) hm
  refine z.out A rm ρ _ U V (R.keeps (k₁.trans k₂)) (u.keeps k₂) v _ E fun h₃ t₃ r k₃ q => ?_
  exact q.elB (wpAny_truthy_bool (hq h₃ t₃ ((k₁.trans k₂).trans k₃)))
theorem PB.val {e : Expr} {whole : Sem Value} {a : AV} {c : Bool} (x : PV w H0 k whole env μ σ a) (z : O1B w H0 k truthy σ a c)
    (he : isTrue e env whole = (do let v ← whole; standAt e.pos; holding [v] (truthy v))) : PB w H0 k (isTrue e env whole) env μ σ c := by
  refine ⟨?_⟩; intro A rm ρ s R F Q E hq
  refine isTrue_plain (x.out A rm ρ s R F _ E fun h₁ t₁ U k₁ u => ?_) he
  exact z.out A rm ρ _ U (R.keeps k₁) u Q E fun h₂ t₂ k₂ => hq h₂ t₂ (k₁.trans k₂)
theorem PB.not {x : Expr} {pos : Pos} {whole : Sem Value} {c : Bool} (y : PB w H0 k (isTrue x env (eval x env)) env μ σ c) : PB w H0 k (isTrue (.UnaryOp .Not x pos) env whole) env μ σ (!c) := by
  refine ⟨?_⟩; intro A rm ρ s R F Q E hq
  exact isTrue_not (y.out A rm ρ s R F _ E hq)
theorem PB.and_nil {pos : Pos} {whole : Sem Value} : PB w H0 k (isTrue (.BoolOp .And [] pos) env whole) env μ σ true := by
  refine ⟨?_⟩; exact fun A rm ρ s R F Q E hq => isTrue_and_nil (hq s.heap s.toks (.refl _))
theorem PB.or_nil {pos : Pos} {whole : Sem Value} : PB w H0 k (isTrue (.BoolOp .Or [] pos) env whole) env μ σ false := by
  refine ⟨?_⟩; exact fun A rm ρ s R F Q E hq => isTrue_or_nil (hq s.heap s.toks (.refl _))
theorem PB.and_false {x : Expr} {rest : List Expr} {pos : Pos} {whole : Sem Value} (y : PB w H0 k (isTrue x env (eval x env)) env μ σ false) : PB w H0 k (isTrue (.BoolOp .And (x :: rest) pos) env whole) env μ σ false := by
  refine ⟨?_⟩; intro A rm ρ s R F Q E hq
  exact isTrue_and (y.out A rm ρ s R F _ E fun h' tk kp => by rw [if_neg Bool.false_ne_true]; exact hq h' tk kp)
theorem PB.and_true {x : Expr} {rest : List Expr} {pos p' : Pos} {whole whole' : Sem Value} {c : Bool} (y : PB w H0 k (isTrue x env (eval x env)) env μ σ true) (z : PB w H0 k (isTrue (.BoolOp .And rest pos) env whole) env μ σ c) :
    PB w H0 k (isTrue (.BoolOp .And (x :: rest) pos) env whole) env μ σ c := by
  refine ⟨?_⟩; intro A rm ρ s R F Q E hq
  exact isTrue_and (y.out A rm ρ s R F _ E fun h' tk kp => by rw [if_pos rfl]; exact z.out A rm ρ _ (R.keeps kp) (F.keeps kp) _ E fun h₂ t₂ k₂ => hq h₂ t₂ (kp.trans k₂))
theorem PV.ifexp {t b o : Expr} {pos : Pos} {c : Bool} {v : AV} (x : PB w H0 k (isTrue t env (eval t env)) env μ σ c) (y : c = true → PV w H0 k (eval b env) env μ σ v) (z : c = false → PV w H0 k (eval o env) env μ σ v) :
    PV w H0 k (eval (.IfExp t b o pos) env) env μ σ v := by
  refine ⟨?_⟩; intro A rm ρ s R F Q E hq
  refine wpAny_IfExp (x.out A rm ρ s R F _ E fun h₁ t₁ k₁ => ?_)
  cases c with
  | true => exact (y rfl).out A rm ρ _ (R.keeps k₁) (F.keeps k₁) _ E fun h₂ t₂ V k₂ => hq h₂ t₂ V (k₁.trans k₂)
  | false => exact (z rfl).out A rm ρ _ (R.keeps k₁) (F.keeps k₁) _ E fun h₂ t₂ V k₂ => hq h₂ t₂ V (k₁.trans k₂)

-- items of a display, arguments
theorem PVs.nil {pos : Pos} : PVs w H0 k (spliced (backTo pos (starEach [] env))) env μ σ [] := by
  refine ⟨?_⟩; exact fun A rm ρ s R F Q E hq => spliced_none (hq s.heap s.toks _ (.refl _) .nil)
theorem PVs.cons {e : Expr} {rest : List Expr} {pos : Pos} {v : AV} {l : List AV} (x : PV w H0 k (eval e env) env μ σ v) (y : PVs w H0 k (spliced (backTo pos (starEach rest env))) env μ σ l)
    (he : starEach (e :: rest) env = (false, eval e env) :: starEach rest env) : PVs w H0 k (spliced (backTo pos (starEach (e :: rest) env))) env μ σ (v :: l) := by
  refine ⟨?_⟩; intro A rm ρ s R F Q E hq
  rw [he]
  show wpAny _ A (spliced ((false, eval e env) :: backTo pos (starEach rest env))) Q E s
  refine Calls.spliced_cons (x.out A rm ρ s R F _ E fun h₁ t₁ U k₁ u => y.out A rm ρ _ (R.keeps k₁) (F.keeps k₁) _ E fun h₂ t₂ V k₂ v => ?_)
  exact hq h₂ t₂ _ (k₁.trans k₂) (.cons (u.keeps k₂) v)
noncomputable def PKs (w : World) (H0 : Heap) (k : Nat) (pos : Pos) (kws : List Keyword) (env : Env) (μ : Vars) (σ : Store) (v : List AV) : Prop := PVs w H0 k (evalAll ((backToKw pos (keywordEach kws env)).map (·.2))) env μ σ v
theorem PKs.nil {pos : Pos} : PKs w H0 k pos [] env μ σ [] := by
  refine ⟨?_⟩; exact fun A rm ρ s R F Q E hq => kwAll_nil (hq s.heap s.toks _ (.refl _) .nil)
theorem PKs.cons {pos p : Pos} {name : Str} {value : Expr} {rest : List Keyword} {v : AV} {l : List AV} (x : PV w H0 k (eval value env) env μ σ v) (y : PKs w H0 k pos rest env μ σ l) : PKs w H0 k pos (⟨some name, value, p⟩ :: rest) env μ σ (v :: l) := by
  refine ⟨?_⟩; intro A rm ρ s R F Q E hq
  refine kwAll_cons (x.out A rm ρ s R F _ E fun h₁ t₁ U k₁ u => y.out A rm ρ _ (R.keeps k₁) (F.keeps k₁) _ E fun h₂ t₂ V k₂ v => ?_)
  exact hq h₂ t₂ _ (k₁.trans k₂) (.cons (u.keeps k₂) v)

theorem newSeq {s : Shared} {vs : List Value} (cls : String) : Kept s.heap (s.heap.push { cls := .type cls, data := .seq vs.toArray }) ∧ (s.heap.push { cls := .type cls, data := .seq vs.toArray }).get? s.heap.objs.size = some { cls := .type cls, data := .seq vs.toArray } :=
  ⟨Kept.push _ _, Heap.get?_push_size _ rfl⟩
theorem PV.tuple {elts : List Expr} {j : Nat} {pos : Pos} {l : List AV} (x : PVs w H0 k (spliced (backTo pos (starEach elts env))) env μ σ l) (hl : l.length ≤ 1000) : PV w H0 k (eval (.Tuple elts j pos) env) env μ σ (.tup l) := by
  refine ⟨?_⟩; intro A rm ρ s R F Q E hq
  refine wpAny_Tuple_spliced (x.out A rm ρ s R F _ E fun h₁ t₁ vs k₁ u => ⟨by rw [u.length]; exact Nat.le_trans hl (by decide), ?_⟩)
  have kp := Kept.push h₁ { cls := .type "tuple", data := .seq vs.toArray }
  exact hq _ t₁ _ (k₁.trans kp) (.tup ⟨_, Heap.get?_push_size _ rfl, rfl, 0, rfl⟩ (u.keeps kp))
theorem PV.list {elts : List Expr} {pos : Pos} {l : List AV} (x : PVs w H0 k (spliced (backTo pos (starEach elts env))) env μ σ l) (hl : l.length ≤ 1000) : PV w H0 k (eval (.List elts pos) env) env μ σ (.lst l) := by
  refine ⟨?_⟩; intro A rm ρ s R F Q E hq
  refine wpAny_List_spliced (x.out A rm ρ s R F _ E fun h₁ t₁ vs k₁ u => ⟨by rw [u.length]; exact Nat.le_trans hl (by decide), ?_⟩)
  have kp := Kept.push h₁ { cls := .type "list", data := .seq vs.toArray }
  exact hq _ t₁ _ (k₁.trans kp) (.lst ⟨_, Heap.get?_push_size _ rfl, rfl, 0, rfl⟩ ((R.keeps k₁).fresh (Nat.le_refl _)) (u.keeps kp))

/-- a call that changes nothing that stood -/
noncomputable def FnP (w : World) (H0 : Heap) (k : Nat) (f : Value) (args : List AV) (kws : List (Str × AV)) (σ : Store) (v : AV) : Prop := Shut <|
  ∀ A, Rm k A → ∀ ρ s vs ks, Rel w H0 ρ σ s.heap → VRels ρ σ s.heap args vs → VRels ρ σ s.heap (kws.map (·.2)) ks → ∀ Q E,
    (∀ h' tk V, Kept s.heap h' → VRel ρ σ h' v V → Q V { s with heap := h', toks := tk }) → wpAny (model pw w) A (call f vs ((kws.map (·.1)).zip ks)) Q E s
noncomputable def KeepOk (w : World) (f : Value) : Prop := ∀ h, (K0 w.params).In h → ∃ k, (k = Keeper.frame ∨ k = Keeper.machine ∨ k = Keeper.boundFrame) ∧ Looks (model pw w) h (keeperOf f) k
theorem KeepOk.fn {f : Value} (e : keepIn (K0 w.params) f = true) : KeepOk w f := fun h X => keeps_K e h X
theorem KeepOk.builtin (id : String) : KeepOk w (.builtin id) := fun _ _ => ⟨.machine, .inr (.inl rfl), .now⟩
theorem KeepOk.type (T : String) : KeepOk w (.type T) := fun _ _ => ⟨.machine, .inr (.inl rfl), .now⟩

theorem evalArgs_any {A : Around} {f : Value} {L : List (Bool × Sem Value)} {kws : List (Option Str × Sem Value)} {s : Shared} {Q : Args → Shared → Prop} {E : Value → Shared → Prop} (hs : L.any (·.1) = false) (hall : kws.all (·.1.isSome) = true)
    (h : wpAny (model pw w) A (spliced L) (fun vs s₁ => wpAny (model pw w) A (evalAll (kws.map (·.2))) (fun ks s₂ => Q ⟨vs, (kws.filterMap (·.1)).zip ks⟩ s₂) E s₁) E s) : wpAny (model pw w) A (evalArgs f true L kws) Q E s := by
  cases L with
  | nil =>
    unfold evalArgs
    show wpAny _ A (spliced [] >>= _) Q E s
    refine wpAny_bind (wpAny_mono h (fun vs s₁ h₁ => wpAny_holding ?_) fun _ _ x => x)
    rw [if_pos hall]
    exact wpAny_bind (wpAny_mono h₁ (fun ks s₂ h₂ => wpAny_bind (wpAny_pure (wpAny_pure h₂))) fun _ _ x => x)
  | cons q r =>
    obtain ⟨b, x⟩ := q
    cases b with
    | false => exact evalArgs_kw hall h
    | true => cases hs
theorem none_none {α : Type} {l : List (Option Str × α)} (h : l.all (·.1.isSome) = true) : l.any (·.1.isNone) = false := by
  rw [List.any_eq_false]
  intro q hq e
  have := List.all_eq_true.mp h q hq
  rw [Option.isNone_iff_eq_none.mp e] at this
  cases this
/-- arguments and a call, for any callee and any first arguments -/
theorem callArgs (T : Tp w H0) {f : Value} {pos : Pos} {first : List Value} {args : List Expr} {kws : List Keyword} {names : List Str} {l ks : List AV} {A : Around} {s : Shared} {Q : Value → Shared → Prop} {E : Value → Shared → Prop} (kf : KeepOk w f)
    (rm : Rm k A) (R : Rel w H0 ρ σ s.heap) (F : Fra w H0 env μ ρ σ s.heap) (x : PVs w H0 k (spliced (backTo pos (starEach args env))) env μ σ l) (y : PKs w H0 k pos kws env μ σ ks)
    (hn : (backToKw pos (keywordEach kws env)).all (·.1.isSome) = true) (hs : (backTo pos (starEach args env)).any (·.1) = false) (hnm : (backToKw pos (keywordEach kws env)).filterMap (·.1) = names)
    (hq : ∀ h' tk vs kvs, Kept s.heap h' → VRels ρ σ h' l vs → VRels ρ σ h' ks kvs → wpAny (model pw w) A (call f (first ++ vs) (names.zip kvs)) Q E { s with heap := h', toks := tk }) :
    wpAny (model pw w) A (callWith pos f first (backTo pos (starEach args env)) (backToKw pos (keywordEach kws env))) Q E s := by
  have hpl : ((backTo pos (starEach args env)).any (·.1) || (backToKw pos (keywordEach kws env)).any (·.1.isNone)) = false := by
    rw [hs, none_none hn]; rfl
  refine callWith_of (P := (K0 w.params).In) hpl kf (evalArgs_any hs hn ?_)
  refine x.out A rm ρ s R F _ E fun h₁ t₁ vs k₁ u => y.out A rm ρ _ (R.keeps k₁) (F.keeps k₁) _ E fun h₂ t₂ kvs k₂ v => ?_
  rw [hnm]
  exact ⟨T.K.keeps ((R.top.trans k₁).trans k₂), hq h₂ t₂ vs kvs (k₁.trans k₂) (u.keeps k₂) v⟩

theorem PV.call (T : Tp w H0) {x : Str} {p pos : Pos} {args : List Expr} {kws : List Keyword} {names : List Str} {f : Value} {l ks : List AV} {v : AV} (hf : PV w H0 k (eval (.Name x p) env) env μ σ (.val f)) (kf : KeepOk w f)
    (a : PVs w H0 k (spliced (backTo pos (starEach args env))) env μ σ l) (b : PKs w H0 k pos kws env μ σ ks) (fn : FnP w H0 k f l (names.zip ks) σ v)
    (hn : (backToKw pos (keywordEach kws env)).all (·.1.isSome) = true) (hs : (backTo pos (starEach args env)).any (·.1) = false) (hnm : (backToKw pos (keywordEach kws env)).filterMap (·.1) = names) (hlen : names.length = ks.length) :
    PV w H0 k (eval (.Call (.Name x p) args kws pos) env) env μ σ v := by
  refine ⟨?_⟩; intro A rm ρ s R F Q E hq
  show wpAny _ A (eval (.Name x p) env >>= fun f => callWith pos f [] (backTo pos (starEach args env)) (backToKw pos (keywordEach kws env))) Q E s
  refine wpAny_bind (hf.out A rm ρ s R F _ E fun h₁ t₁ V k₁ u => ?_)
  refine u.elV ?_
  refine callArgs T kf rm (R.keeps k₁) (F.keeps k₁) a b hn hs hnm fun h₂ t₂ vs kvs k₂ uv ukv => ?_
  have e1 : (names.zip ks).map (·.1) = names := List.map_fst_zip (Nat.le_of_eq hlen)
  have e2 : (names.zip ks).map (·.2) = ks := List.map_snd_zip (Nat.le_of_eq hlen.symm)
  have := fn.out A rm ρ { s with heap := h₂, toks := t₂ } vs kvs (R.keeps (k₁.trans k₂)) uv (by rw [e2]; exact ukv) Q E fun h₃ t₃ V k₃ q => hq h₃ t₃ V ((k₁.trans k₂).trans k₃) q
  rw [e1] at this
  exact this
end
end
section
open PySem PySem.W PyProof.Rows
set_option maxRecDepth 100000
section
variable {w : World} {H0 : Heap} {k : Nat} {σ : Store}

theorem O2.add (a b : Int) : O2 w H0 k (binaryOp .Add) σ (.int a) (.int b) (.int (a + b)) := by
  refine ⟨?_⟩; intro A rm ρ s U V R u v Q E hq; refine u.el fun _ => v.el fun _ => ?_; exact add_int (hq _ _ _ (.refl _) (.int _ _))
theorem O2.sub (a b : Int) : O2 w H0 k (binaryOp .Sub) σ (.int a) (.int b) (.int (a - b)) := by
  refine ⟨?_⟩; intro A rm ρ s U V R u v Q E hq; refine u.el fun _ => v.el fun _ => ?_; exact sub_int (hq _ _ _ (.refl _) (.int _ _))
theorem O2.mul (a b : Int) (h : -1000000 < a ∧ a < 1000000) : O2 w H0 k (binaryOp .Mult) σ (.int a) (.int b) (.int (a * b)) := by
  refine ⟨?_⟩; intro A rm ρ s U V R u v Q E hq; refine u.el fun _ => v.el fun _ => ?_
  exact P.mul_int (hq _ _ _ (.refl _) (.int _ _)) (.of_left (intBits_le_64 (by omega) (by omega)))
theorem O2.mod (a b : Int) (h : 0 < b) : O2 w H0 k (binaryOp .Mod) σ (.int a) (.int b) (.int (a % b)) := by
  refine ⟨?_⟩; intro A rm ρ s U V R u v Q E hq; refine u.el fun _ => v.el fun _ => ?_
  have e : a.fmod b = a % b := Int.fmod_eq_emod_of_nonneg a (by omega)
  exact mod_int' (by omega) (hq _ _ _ (.refl _) (e ▸ .int _ _))
theorem O2.div (a b : Int) (h : 0 < b ∧ b < 1000000) : O2 w H0 k (binaryOp .FloorDiv) σ (.int a) (.int b) (.int (a / b)) := by
  refine ⟨?_⟩; intro A rm ρ s U V R u v Q E hq; refine u.el fun _ => v.el fun _ => ?_
  have e : a.fdiv b = a / b := Int.fdiv_eq_ediv_of_nonneg a (by omega)
  exact floordiv_int (by omega) (hq _ _ _ (.refl _) (e ▸ .int _ _)) (.inl (PyProof.noPylong_small (by omega)))
theorem O2.iadd (a b : Int) : O2 w H0 k (inplaceOp .Add) σ (.int a) (.int b) (.int (a + b)) := by
  refine ⟨?_⟩; intro A rm ρ s U V R u v Q E hq; refine u.el fun _ => v.el fun _ => ?_; exact P.iadd_int (hq _ _ _ (.refl _) (.int _ _))
theorem O2.isub (a b : Int) : O2 w H0 k (inplaceOp .Sub) σ (.int a) (.int b) (.int (a - b)) := by
  refine ⟨?_⟩; intro A rm ρ s U V R u v Q E hq; refine u.el fun _ => v.el fun _ => ?_; exact P.isub_int (hq _ _ _ (.refl _) (.int _ _))
theorem O1.neg (a : Int) : O1 w H0 k (unaryOp .USub) σ (.int a) (.int (-a)) := by
  refine ⟨?_⟩; intro A rm ρ s U R u Q E hq; refine u.el fun _ => ?_; exact P.neg_int (hq _ _ _ (.refl _) (.int _ _))

theorem O2.eqI (a b : Int) : O2 w H0 k (compareOp .Eq) σ (.int a) (.int b) (.bool (a == b)) := by
  refine ⟨?_⟩; intro A rm ρ s U V R u v Q E hq; refine u.el fun _ => v.el fun _ => ?_; exact P.eq_int (hq s.heap s.toks _ (.refl _) (.bool _))
theorem O2.neI (a b : Int) : O2 w H0 k (compareOp .NotEq) σ (.int a) (.int b) (.bool (a != b)) := by
  refine ⟨?_⟩; intro A rm ρ s U V R u v Q E hq; refine u.el fun _ => v.el fun _ => ?_; exact P.ne_int (hq s.heap s.toks _ (.refl _) (.bool _))
theorem O2.ltI (a b : Int) : O2 w H0 k (compareOp .Lt) σ (.int a) (.int b) (.bool (decide (a < b))) := by
  refine ⟨?_⟩; intro A rm ρ s U V R u v Q E hq; refine u.el fun _ => v.el fun _ => ?_; exact P.lt_int (hq s.heap s.toks _ (.refl _) (.bool _))
theorem O2.gtI (a b : Int) : O2 w H0 k (compareOp .Gt) σ (.int a) (.int b) (.bool (decide (a > b))) := by
  refine ⟨?_⟩; intro A rm ρ s U V R u v Q E hq; refine u.el fun _ => v.el fun _ => ?_; exact P.gt_int (hq s.heap s.toks _ (.refl _) (.bool _))
theorem O2.geI (a b : Int) : O2 w H0 k (compareOp .GtE) σ (.int a) (.int b) (.bool (decide (a ≥ b))) := by
  refine ⟨?_⟩; intro A rm ρ s U V R u v Q E hq; refine u.el fun _ => v.el fun _ => ?_; exact P.ge_int (hq s.heap s.toks _ (.refl _) (.bool _))
theorem O2.eqB (a b : Bool) : O2 w H0 k (compareOp .Eq) σ (.bool a) (.bool b) (.bool (a == b)) := by
  refine ⟨?_⟩; intro A rm ρ s U V R u v Q E hq; refine u.elB (v.elB ?_); exact eq_bool (hq s.heap s.toks _ (.refl _) (.bool _))
theorem O2.eqS (a b : List Nat) : O2 w H0 k (compareOp .Eq) σ (.str a) (.str b) (.bool (a == b)) := by
  refine ⟨?_⟩; intro A rm ρ s U V R u v Q E hq; refine u.el fun _ => v.el fun _ => ?_; exact P.eq_str (hq s.heap s.toks _ (.refl _) (by simpa using .bool _))
theorem O2.neS (a b : List Nat) : O2 w H0 k (compareOp .NotEq) σ (.str a) (.str b) (.bool (a != b)) := by
  refine ⟨?_⟩; intro A rm ρ s U V R u v Q E hq; refine u.el fun _ => v.el fun _ => ?_; exact P.ne_str (hq s.heap s.toks _ (.refl _) (by simpa using .bool _))
theorem O2.addS (a b : List Nat) (h : a.length + b.length ≤ 10000000) : O2 w H0 k (binaryOp .Add) σ (.str a) (.str b) (.str (a ++ b)) := by
  refine ⟨?_⟩; intro A rm ρ s U V R u v Q E hq; refine u.el fun _ => v.el fun _ => ?_
  refine add_str (fun t tk => hq s.heap tk _ (.refl _) ?_) ?_
  · have e : (⟨a.toArray⟩ : Str) ++ ⟨b.toArray⟩ = ⟨(a ++ b).toArray⟩ := by
      show Str.mk (a.toArray ++ b.toArray) = _
      simp
    rw [e]; exact .str _ _
  · show a.toArray.size + b.toArray.size ≤ 2 ^ 24
    simp; omega

/-- is, is not: against a thing of one making -/
noncomputable def isOther : AV → Bool
  | .bool _ | .int _ | .str _ | .bytes _ | .tup _ | .lst _ | .loc _ => true
  | _ => false
noncomputable def isNo : Value → Bool
  | .none => true
  | _ => false
theorem ne_none {U : Value} (h : isNo U = false) : U ≠ .none := fun e => by rw [e] at h; cases h
theorem is_none {ρ : Place} {h : Heap} {a : AV} {U : Value} (u : VRel ρ σ h a U) (o : isOther a = true) : plainIs U .none = true ∧ U ≠ .none := by
  cases u with
  | none => cases o
  | val => cases o
  | bool b => exact ⟨rfl, ne_none rfl⟩
  | int i t => exact ⟨rfl, ne_none rfl⟩
  | str i t => exact ⟨rfl, ne_none rfl⟩
  | bytes i t => exact ⟨rfl, ne_none rfl⟩
  | tup => exact ⟨rfl, ne_none rfl⟩
  | lst => exact ⟨rfl, ne_none rfl⟩
  | loc => exact ⟨rfl, ne_none rfl⟩
theorem O2.isN {a : AV} (o : isOther a = true) : O2 w H0 k (compareOp .Is) σ a .none (.bool false) := by
  refine ⟨?_⟩; intro A rm ρ s U V R u v Q E hq; refine v.elN ?_
  exact wpAny_is_other (is_none u o).1 (is_none u o).2 (hq s.heap s.toks _ (.refl _) (.bool _))
theorem O2.isNN : O2 w H0 k (compareOp .Is) σ .none .none (.bool true) := by
  refine ⟨?_⟩; intro A rm ρ s U V R u v Q E hq; refine u.elN (v.elN ?_)
  exact wpAny_is_self rfl (hq s.heap s.toks _ (.refl _) (.bool _))
theorem O2.isNotN {a : AV} (o : isOther a = true) : O2 w H0 k (compareOp .IsNot) σ a .none (.bool true) := by
  refine ⟨?_⟩; intro A rm ρ s U V R u v Q E hq; refine v.elN ?_
  exact wpAny_isNot_other (is_none u o).1 (is_none u o).2 (hq s.heap s.toks _ (.refl _) (.bool _))
theorem O2.isNotNN : O2 w H0 k (compareOp .IsNot) σ .none .none (.bool false) := by
  refine ⟨?_⟩; intro A rm ρ s U V R u v Q E hq; refine u.elN (v.elN ?_)
  exact wpAny_isNot_self rfl (hq s.heap s.toks _ (.refl _) (.bool _))
theorem O2.isT (T : String) : O2 w H0 k (compareOp .Is) σ (.val (.type T)) (.val (.type T)) (.bool true) := by
  refine ⟨?_⟩; intro A rm ρ s U V R u v Q E hq; refine u.elV (v.elV ?_)
  exact wpAny_is_self rfl (hq s.heap s.toks _ (.refl _) (.bool _))
theorem O2.isNotT (T : String) : O2 w H0 k (compareOp .IsNot) σ (.val (.type T)) (.val (.type T)) (.bool false) := by
  refine ⟨?_⟩; intro A rm ρ s U V R u v Q E hq; refine u.elV (v.elV ?_)
  exact wpAny_isNot_self rfl (hq s.heap s.toks _ (.refl _) (.bool _))

theorem O1B.bool (b : Bool) : O1B w H0 k truthy σ (.bool b) b := by
  refine ⟨?_⟩; intro A rm ρ s U R u Q E hq; refine u.elB ?_; exact wpAny_truthy_bool (hq s.heap s.toks (.refl _))
theorem O1B.int (a : Int) : O1B w H0 k truthy σ (.int a) (a != 0) := by
  refine ⟨?_⟩; intro A rm ρ s U R u Q E hq; refine u.el fun _ => ?_; exact P.truthy_int (hq s.heap s.toks (.refl _))
theorem O1B.none : O1B w H0 k truthy σ .none false := by
  refine ⟨?_⟩; intro A rm ρ s U R u Q E hq; refine u.elN ?_; exact truthy_none (hq s.heap s.toks (.refl _))

-- items
theorem getL {α : Type} {l : List α} {n : Nat} {x : α} (e : l[n]? = some x) : n < l.length := (List.getElem?_eq_some_iff.mp e).1
theorem VRels.at {ρ : Place} {h : Heap} {l : List AV} {vs : List Value} {n : Nat} {v : AV} (r : VRels ρ σ h l vs) (e : l[n]? = some v) : ∃ V, vs[n]? = some V ∧ VRel ρ σ h v V :=
  r.ind (P := fun l vs => ∀ n v, l[n]? = some v → ∃ V, vs[n]? = some V ∧ VRel ρ σ h v V) (fun _ _ e => (Option.some_ne_none _ e.symm).elim) (fun x _ ih n v e => by
    cases n with
    | zero => exact ⟨_, rfl, Option.some.inj e ▸ x⟩
    | succ n => exact ih n v e) n v e
theorem seqIndex_of {i : Int} {n : Nat} (h0 : 0 ≤ i) (h1 : i.toNat < n) : seqIndex? i n = some i.toNat := by
  obtain ⟨j, rfl⟩ := Int.eq_ofNat_of_zero_le h0
  unfold seqIndex?
  simp only [Int.toNat_natCast] at h1 ⊢
  simp; omega
noncomputable def At (l : List AV) (i : Int) (v : AV) : Prop := Shut (0 ≤ i ∧ l[i.toNat]? = some v)
theorem At.lit {l : List AV} {i : Int} {v : AV} (h : 0 ≤ i) (e : l[i.toNat]? = some v) : At l i v := ⟨h, e⟩
theorem At.nat {l : List AV} {i : Nat} {v : AV} (e : l[i]? = some v) : At l (i : Int) v := ⟨Int.natCast_nonneg _, e⟩
theorem O2.itemL {l : List AV} {i : Int} {v : AV} (a : At l i v) (hl : l.length ≤ 1000000) : O2 w H0 k getItem σ (.lst l) (.int i) v := by
  obtain ⟨h0, e⟩ := a.out
  refine ⟨?_⟩; intro A rm ρ s U V R u z Q E hq; refine u.el fun _ _ x tr y => z.el fun t => ?_
  obtain ⟨V, e', r⟩ := y.at e
  have := getL e
  exact wpAny_getItem_list x h0 (by omega) (List.getElem?_toArray.trans e') (hq s.heap s.toks _ (.refl _) r)
theorem O2.itemT {l : List AV} {i : Int} {v : AV} (a : At l i v) (hl : l.length ≤ 1000000) : O2 w H0 k getItem σ (.tup l) (.int i) v := by
  obtain ⟨h0, e⟩ := a.out
  refine ⟨?_⟩; intro A rm ρ s U V R u z Q E hq; refine u.el fun _ _ x y => z.el fun t => ?_
  obtain ⟨V, e', r⟩ := y.at e
  have lt := getL e
  have b := Nat.lt_of_lt_of_le lt hl
  have hy := y.length
  refine getItem_tuple (j := i.toNat) (x := V) x (by clear e; omega) (by clear e; omega) ?_ (List.getElem?_toArray.trans e') (hq s.heap s.toks _ (.refl _) r)
  rw [List.size_toArray, hy]
  exact seqIndex_of h0 lt
theorem O2.itemP {l : List AV} {i : Int} {p : Nat} {v : AV} (hs : σ p = .list l) (a : At l i v) (hl : l.length ≤ 1000000) : O2 w H0 k getItem σ (.loc p) (.int i) v := by
  obtain ⟨h0, e⟩ := a.out
  refine ⟨?_⟩; intro A rm ρ s U V R u z Q E hq; refine u.el fun _ => z.el fun t => ?_
  obtain ⟨_, x, y⟩ := R.list hs
  obtain ⟨V, e', r⟩ := y.at e
  have := getL e
  exact wpAny_getItem_list x.isList h0 (by omega) (List.getElem?_toArray.trans e') (hq s.heap s.toks _ (.refl _) r)
theorem keys_cons {α β : Type} {p : Str × α} {es : List (Str × α)} {kvs : List (Str × β)} (e : kvs.map (·.1) = (p :: es).map (·.1)) : ∃ V r, kvs = (p.1, V) :: r ∧ r.map (·.1) = es.map (·.1) := by
  cases kvs with
  | nil => cases e
  | cons q r => exact ⟨q.2, r, congrArg (fun a => (a, q.2) :: r) (List.cons.inj e).1, (List.cons.inj e).2⟩
theorem dict_at {ρ : Place} {h : Heap} {key : Str} {v : AV} {es : List (Str × AV)} : ∀ {kvs : List (Str × Value)}, kvs.map (·.1) = es.map (·.1) → VRels ρ σ h (es.map (·.2)) (kvs.map (·.2)) → es.lookup key = some v → ∃ V, valueAt kvs key = some V ∧ VRel ρ σ h v V := by
  induction es with
  | nil => exact fun _ _ e => by cases e
  | cons p es ih =>
    intro kvs e r q
    obtain ⟨U, kvs', rfl, e'⟩ := keys_cons e
    have r' := r.unc
    rw [show (p :: es).lookup key = _ from List.lookup_cons (b := p.2)] at q
    cases hx : key == p.1 with
    | true =>
      rw [hx] at q
      exact ⟨U, by unfold valueAt; rw [List.find?_cons, show decide (p.1 = key) = true from decide_eq_true (beq_iff_eq.mp hx).symm]; rfl, Option.some.inj q ▸ r'.1⟩
    | false =>
      rw [hx] at q
      obtain ⟨V, a, z⟩ := ih e' r'.2 q
      exact ⟨V, by rw [← a]; unfold valueAt; rw [List.find?_cons, show decide (p.1 = key) = false from decide_eq_false fun q => by rw [q] at hx; simp at hx], z⟩
theorem O2.itemD {p : Nat} {es : List (Str × AV)} {key : List Nat} {v : AV} (hs : σ p = .dict es) (e : es.lookup ⟨key.toArray⟩ = some v) : O2 w H0 k getItem σ (.loc p) (.str key) v := by
  refine ⟨?_⟩; intro A rm ρ s U V R u i Q E hq; refine u.el fun _ => i.el fun t => ?_
  obtain ⟨_, x, z, y, n⟩ := R.dict hs
  obtain ⟨V, e', r⟩ := dict_at z y e
  exact wpAny_getItem_of (knd := strKind pw w) (k := ⟨key.toArray⟩) (by exact beq_self_eq_true (⟨key.toArray⟩ : Str)) x.mapOf e' (hq s.heap _ _ (.refl _) r)
end
end
section
open PySem PySem.W PyProof.Rows
set_option maxRecDepth 100000
noncomputable def put (x : Str) (v : AV) : Vars → Vars
  | [] => [(x, v)]
  | (y, u) :: r => match y == x with
    | true => (x, v) :: r
    | false => (y, u) :: put x v r
theorem put_lookup (x : Str) (v : AV) (μ : Vars) (y : Str) : (put x v μ).lookup y = if y = x then some v else μ.lookup y := by
  have c : ∀ (z : Str) (u : AV) (r : Vars), ((z, u) :: r).lookup y = if y = z then some u else r.lookup y := fun z u r => by
    rw [List.lookup_cons]
    by_cases h : y = z
    · rw [if_pos h, h, beq_self_eq_true]
    · rw [if_neg h, beq_eq_false_iff_ne.mpr h]
  induction μ with
  | nil => exact c x v []
  | cons p r ih =>
    obtain ⟨z, u⟩ := p
    rw [c]
    show List.lookup y (match z == x with | true => (x, v) :: r | false => (z, u) :: put x v r) = _
    cases hz : z == x with
    | true =>
      have := beq_iff_eq.mp hz
      subst this
      dsimp only
      rw [c]
      by_cases h : y = z
      · rw [if_pos h, if_pos h]
      · rw [if_neg h, if_neg h, if_neg h]
    | false =>
      dsimp only
      rw [c, ih]
      by_cases h : y = z
      · rw [if_pos h, if_neg (fun q => beq_eq_false_iff_ne.mp hz (h ▸ q)), if_pos h]
      · rw [if_neg h, if_neg h]

section
variable {w : World} {H0 : Heap} {k : Nat} {env : Env} {μ μ' : Vars} {σ σ' : Store} {ρ ρ' : Place} {h h' : Heap} {W : Nat → Prop}

theorem Fra.weaken (F : Fra w H0 env μ ρ σ h) (e : ∀ x v, μ'.lookup x = some v → μ.lookup x = some v) : Fra w H0 env μ' ρ σ h :=
  ⟨F.kind, F.globals, F.builtins, by obtain ⟨m, a, b⟩ := F.ns; exact ⟨m, a, fun x v q l => b x v (e x v q) l⟩, fun x v q l => F.cell x v (e x v q) l, F.locU, F.celU, F.apart⟩

theorem sameBut_evo {a : Addr} {o : Obj} (hs : Heap.SameBut a h h') (e : h.get? a = some o) (e' : ∃ o', h'.get? a = some o') {X : Addr → Prop} (ha : X a) : Evo W X ρ σ h ρ σ h' :=
  ⟨fun b o q _ nx => (hs.2 b (fun z => nx (z ▸ ha))).trans q, fun b o q => by
    by_cases z : b = a
    · subst z; exact e'
    · exact ⟨o, (hs.2 b z).trans q⟩, fun _ u => ⟨rfl, u⟩, fun _ _ => rfl, fun _ a b => absurd a b, rfl⟩
theorem Rel.sameBut (R : Rel w H0 ρ σ h) {a : Addr} (hs : Heap.SameBut a h h') (u : ¬ Tracked ρ σ a) (hH : H0.get? a = none) (hseq : ∀ o vs n, h.get? a = some o → o.data ≠ .seq vs n) (x : Evo (fun _ => False) (Own env) ρ σ h ρ σ h') (O : OwnOk (Own env) ρ σ h) : Rel w H0 ρ σ h' where
  top b o e := (hs.2 b (fun z => ex_none e hH z)).trans (R.top b o e)
  obj n := by
    by_cases hn : σ n = .free
    · rw [hn]; exact .free
    · exact SRel.evo R x O (fun a => a) hn fun _ _ e => e
  inj := R.inj
  new := R.new
  bars a b := by obtain ⟨⟨vs, o, e, r⟩, q⟩ := R.bars a b; exact ⟨⟨vs, o, x.keep a o e (fun _ z => z.elim) (fun z => (O a z).1 (.inr b)), r⟩, q⟩

/-- a local is stored -/
theorem store_local (F : Fra w H0 env μ ρ σ h) (R : Rel w H0 ρ σ h) {x : Str} {v : AV} {V : Value} (hx : env.kindOf x = some .local) (r : VRel ρ σ h v V) {m : Str → Option Value} (hn : h.Ns env.locals m)
    (hm : ∀ x v, μ.lookup x = some v → env.kindOf x = some .local → ∃ V, m x = some V ∧ VRel ρ σ h v V)
    (hn' : h'.Ns env.locals fun y => if y = x then some V else m y) (hs : Heap.SameBut env.locals h h') :
    Rel w H0 ρ σ h' ∧ Fra w H0 env (put x v μ) ρ σ h' ∧ ∀ {X : Addr → Prop}, X env.locals → Evo W X ρ σ h ρ σ h' := by
  obtain ⟨o, es, ep, e, d, _⟩ := id hn
  obtain ⟨o', _, _, e', _⟩ := id hn'
  have x1 : ∀ {W : Nat → Prop} {X : Addr → Prop}, X env.locals → Evo W X ρ σ h ρ σ h' := fun hX => sameBut_evo hs e ⟨o', e'⟩ hX
  have x0 : Evo (fun _ => False) (Own env) ρ σ h ρ σ h' := x1 (.inl rfl)
  have c : Carry ρ σ h ρ σ h' := x0.wk.carry R F.own
  have ne : ∀ y c v, (y, c) ∈ env.cells → h.IsCell c v → h'.IsCell c v := fun y c v m ⟨oc, ec, dc⟩ => by
    refine ⟨oc, (hs.2 c fun q => ?_).trans ec, dc⟩
    rw [q] at ec; rw [same_obj e ec, dc] at d; cases d
  refine ⟨R.sameBut hs F.locU.1 F.locU.2 (fun o₂ vs n q z => by rw [same_obj e q, z] at d; cases d) x0 F.own, ⟨F.kind, F.globals, F.builtins, ⟨_, hn', fun y u q l => ?_⟩, fun y u q l => ?_, F.locU, fun y c m => ?_, F.apart⟩, x1⟩
  · rw [put_lookup] at q
    by_cases hy : y = x
    · rw [if_pos hy] at q ⊢; exact ⟨V, rfl, Option.some.inj q ▸ r.via c⟩
    · rw [if_neg hy] at q ⊢
      obtain ⟨V', p, r'⟩ := hm y u q l
      exact ⟨V', p, r'.via c⟩
  · rw [put_lookup, if_neg (fun q => by rw [q, hx] at l; rcases l with l | l <;> cases l)] at q
    obtain ⟨c', V', p, ec, r'⟩ := F.cell y u q l
    exact ⟨c', V', p, ne y c' _ (mem_of_lookup p) ec, r'.via c⟩
  · obtain ⟨⟨u, ec⟩, q2⟩ := F.celU y c m
    exact ⟨⟨u, ne y c u m ec⟩, q2⟩
end

inductive Fl where
  | next | brk | cont | ret (v : AV)
inductive FlRel (ρ : Place) (σ : Store) (h : Heap) : Fl → Flow → Prop where
  | next : FlRel ρ σ h .next .next
  | brk : FlRel ρ σ h .brk .brk
  | cont : FlRel ρ σ h .cont .cont
  | ret {v : AV} {V : Value} (r : VRel ρ σ h v V) : FlRel ρ σ h (.ret v) (.ret V)

/-- a tree of statements: what holds behind it -/
noncomputable def XT (w : World) (H0 : Heap) (k : Nat) (W : Nat → Prop) (env : Env) (t : Sem Flow) (μ : Vars) (σ : Store) (P : Fl → Vars → Store → Prop) : Prop := Shut <|
  ∀ A, Rm k A → ∀ ρ s, Rel w H0 ρ σ s.heap → Fra w H0 env μ ρ σ s.heap → ∀ Q E,
    (∀ f F ρ' h' tk μ' σ', P f μ' σ' → FlRel ρ' σ' h' f F → Evo W (Own env) ρ σ s.heap ρ' σ' h' → Rel w H0 ρ' σ' h' → Fra w H0 env μ' ρ' σ' h' → Q F { s with heap := h', toks := tk }) →
    wpAny (model pw w) A t Q E s

section
variable {w : World} {H0 : Heap} {k : Nat} {env : Env} {μ : Vars} {σ : Store} {W : Nat → Prop} {P : Fl → Vars → Store → Prop}

theorem XT.nil (h : P .next μ σ) : XT w H0 k W env (execs [] env) μ σ P := by
  refine ⟨?_⟩; exact fun A rm ρ s R F Q E hq =>
  wpAny_execs_nil (hq .next .next ρ s.heap s.toks μ σ h .next (.refl ..) R F)
noncomputable def Kont (w : World) (H0 : Heap) (k : Nat) (W : Nat → Prop) (env : Env) (rest : List Stmt) (P : Fl → Vars → Store → Prop) : Fl → Vars → Store → Prop := fun f μ' σ' => Shut (match f with | .next => XT w H0 k W env (execs rest env) μ' σ' P | f => P f μ' σ')
theorem Kont.next {rest : List Stmt} (h : XT w H0 k W env (execs rest env) μ σ P) : Kont w H0 k W env rest P .next μ σ := ⟨h⟩
theorem Kont.ret {rest : List Stmt} {v : AV} (h : P (.ret v) μ σ) : Kont w H0 k W env rest P (.ret v) μ σ := ⟨h⟩
theorem Kont.brk {rest : List Stmt} (h : P .brk μ σ) : Kont w H0 k W env rest P .brk μ σ := ⟨h⟩
theorem Kont.cont {rest : List Stmt} (h : P .cont μ σ) : Kont w H0 k W env rest P .cont μ σ := ⟨h⟩
theorem XT.cons {st : Stmt} {rest : List Stmt} (x : XT w H0 k W env (exec st env) μ σ (Kont w H0 k W env rest P)) :
    XT w H0 k W env (execs (st :: rest) env) μ σ P := by
  refine ⟨?_⟩; intro A rm ρ s R F Q E hq
  refine wpAny_execs_cons (x.out A rm ρ s R F _ E fun f fl ρ' h' tk μ' σ' p fr ev R' F' => ?_)
  cases fr with
  | next => exact p.out.out A rm ρ' _ R' F' Q E fun f fl ρ'' h'' tk' μ'' σ'' p' fr' ev' R'' F'' => hq f fl ρ'' h'' tk' μ'' σ'' p' fr' (ev.trans ev') R'' F''
  | brk => exact hq _ _ ρ' h' tk μ' σ' p.out .brk ev R' F'
  | cont => exact hq _ _ ρ' h' tk μ' σ' p.out .cont ev R' F'
  | ret r => exact hq _ _ ρ' h' tk μ' σ' p.out (.ret r) ev R' F'
theorem XT.mono {t : Sem Flow} {P' : Fl → Vars → Store → Prop} (x : XT w H0 k W env t μ σ P) (h : ∀ f μ' σ', P f μ' σ' → P' f μ' σ') : XT w H0 k W env t μ σ P' := by
  refine ⟨?_⟩; exact fun A rm ρ s R F Q E hq => x.out A rm ρ s R F Q E fun f fl ρ' h' tk μ' σ' p => hq f fl ρ' h' tk μ' σ' (h f μ' σ' p)
theorem XT.weaken {t : Sem Flow} {μ' : Vars} (x : XT w H0 k W env t μ' σ P) (e : ∀ x v, μ'.lookup x = some v → μ.lookup x = some v) : XT w H0 k W env t μ σ P := by
  refine ⟨?_⟩; exact fun A rm ρ s R F Q E hq => x.out A rm ρ s R (F.weaken e) Q E hq
theorem XT.pass {pos : Pos} (h : P .next μ σ) : XT w H0 k W env (exec (.Pass pos) env) μ σ P := by
  refine ⟨?_⟩; exact fun A rm ρ s R F Q E hq =>
  wpAny_Pass (hq .next .next ρ s.heap s.toks μ σ h .next (.refl ..) R F)
theorem XT.ret {e : Expr} {pos : Pos} {v : AV} (x : PV w H0 k (eval e env) env μ σ v) (h : P (.ret v) μ σ) : XT w H0 k W env (exec (.Return (some e) pos) env) μ σ P := by
  refine ⟨?_⟩; exact fun A rm ρ s R F Q E hq =>
  wpAny_Return_some (x.out A rm ρ s R F _ E fun h₁ t₁ V k₁ u => hq (.ret v) (.ret V) ρ h₁ t₁ μ σ h (.ret u) (k₁.evo ..) (R.keeps k₁) (F.keeps k₁))
theorem XT.ret0 {pos : Pos} (h : P (.ret .none) μ σ) : XT w H0 k W env (exec (.Return none pos) env) μ σ P := by
  refine ⟨?_⟩; exact fun A rm ρ s R F Q E hq =>
  wpAny_Return_none (hq (.ret .none) (.ret .none) ρ s.heap s.toks μ σ h (.ret .none) (.refl ..) R F)
theorem XT.if_ {test : Expr} {body orelse : List Stmt} {pos : Pos} {c : Bool} (x : PB w H0 k (isTrue test env (eval test env)) env μ σ c) (y : c = true → XT w H0 k W env (execs body env) μ σ P) (z : c = false → XT w H0 k W env (execs orelse env) μ σ P) :
    XT w H0 k W env (exec (.If test body orelse pos) env) μ σ P := by
  refine ⟨?_⟩; intro A rm ρ s R F Q E hq
  refine wpAny_If (x.out A rm ρ s R F _ E fun h₁ t₁ k₁ => ?_)
  have go : ∀ {t : Sem Flow}, XT w H0 k W env t μ σ P → wpAny (model pw w) A t Q E { s with heap := h₁, toks := t₁ } := fun {t} x =>
    x.out A rm ρ _ (R.keeps k₁) (F.keeps k₁) Q E fun f fl ρ'' h'' tk' μ'' σ'' p' fr' ev' R'' F'' => hq f fl ρ'' h'' tk' μ'' σ'' p' fr' ((k₁.evo ..).trans ev') R'' F''
  cases c with
  | true => rw [if_pos rfl]; exact go (y rfl)
  | false => rw [if_neg Bool.false_ne_true]; exact go (z rfl)
theorem store_hp {env : Env} (hk : env.scope.kind = .function) : (env.scope.kind == .class || (env.scope.kind == .module && env.locals != env.globals)) = false := by rw [hk]; rfl
theorem bind_localX {x : Str} {v : AV} {V : Value} {A : Around} {ρ : Place} {s : Shared} {Q : Unit → Shared → Prop} {E : Value → Shared → Prop} (hx : env.kindOf x = some .local) (R : Rel w H0 ρ σ s.heap) (F : Fra w H0 env μ ρ σ s.heap) (r : VRel ρ σ s.heap v V)
    (hq : ∀ h' tk, (∀ {X : Addr → Prop}, X env.locals → Evo W X ρ σ s.heap ρ σ h') → Rel w H0 ρ σ h' → Fra w H0 env (put x v μ) ρ σ h' → Q () { s with heap := h', toks := tk }) : wpAny (model pw w) A (storeName env x V) Q E s := by
  obtain ⟨m, hn, hm⟩ := F.ns
  refine wpAny_storeName_local hx hn (fun h' hn' hs => ?_) (store_hp F.kind)
  obtain ⟨a, b, c⟩ := store_local (W := W) F R hx r hn hm hn' hs
  exact hq h' _ c a b
theorem bind_local {x : Str} {v : AV} {V : Value} {A : Around} {ρ : Place} {s : Shared} {Q : Unit → Shared → Prop} {E : Value → Shared → Prop} (hx : env.kindOf x = some .local) (R : Rel w H0 ρ σ s.heap) (F : Fra w H0 env μ ρ σ s.heap) (r : VRel ρ σ s.heap v V)
    (hq : ∀ h' tk, Evo W (Own env) ρ σ s.heap ρ σ h' → Rel w H0 ρ σ h' → Fra w H0 env (put x v μ) ρ σ h' → Q () { s with heap := h', toks := tk }) : wpAny (model pw w) A (storeName env x V) Q E s :=
  bind_localX hx R F r fun h' tk ev => hq h' tk (ev (.inl rfl))
theorem XT.assign {x : Str} {p pos : Pos} {value : Expr} {v : AV} (hx : env.kindOf x = some .local) (e : PV w H0 k (eval value env) env μ σ v) (hs : swapsWith value (some (.Name x p)) pos.line env = pure false) (h : P .next (put x v μ) σ) :
    XT w H0 k W env (exec (.Assign [.Name x p] value pos) env) μ σ P := by
  refine ⟨?_⟩; exact fun A rm ρ s R F Q E hq =>
  wpAny_Assign_Name (e.out A rm ρ s R F _ E fun h₁ t₁ V k₁ u => bind_local hx (R.keeps k₁) (F.keeps k₁) u fun h₂ t₂ ev R' F' =>
    hq .next .next ρ h₂ t₂ _ σ h .next ((k₁.evo ..).trans ev) R' F') hs
theorem XT.aug {x : Str} {p pos : Pos} {op : Operator} {value : Expr} {a b v : AV} (hx : env.kindOf x = some .local) (ha : μ.lookup x = some a) (e : PV w H0 k (eval value env) env μ σ b) (z : O2 w H0 k (inplaceOp op) σ a b v) (h : P .next (put x v μ) σ) :
    XT w H0 k W env (exec (.AugAssign (.Name x p) op value pos) env) μ σ P := by
  refine ⟨?_⟩; intro A rm ρ s R F Q E hq
  obtain ⟨m, hn, hm⟩ := F.ns
  obtain ⟨U, hU, u⟩ := hm x a ha hx
  refine wpAny_AugAssign_Name (wpAny_loadName_local F.kind hx hn hU (e.out A rm ρ s R F _ E fun h₁ t₁ V k₁ q => ?_))
  refine z.out A rm ρ _ U V (R.keeps k₁) (u.keeps k₁) q _ E fun h₂ t₂ r k₂ q₂ => ?_
  have k₃ := k₁.trans k₂
  exact bind_local hx (R.keeps k₃) (F.keeps k₃) q₂ fun h₃ t₃ ev R' F' => hq .next .next ρ h₃ t₃ _ σ h .next ((k₃.evo ..).trans ev) R' F'
end
end
section
open PySem PySem.W PyProof.Rows
set_option maxRecDepth 100000
section
variable {w : World} {H0 : Heap} {ρ ρ' : Place} {σ : Store} {h : Heap}
theorem VRel.congr (e : ∀ n, σ n ≠ .free → ρ'.at n = ρ.at n) (eb : ρ'.bar = ρ.bar) {v : AV} {V : Value} (r : VRel ρ' σ h v V) : VRel ρ σ h v V :=
  r.via ⟨fun t => t, fun t u => ⟨t, fun z => z.elim (fun ⟨n, a, b⟩ => u (.inl ⟨n, a, (e n a).trans b⟩)) fun b => u (.inr (eb ▸ b))⟩, fun u => ⟨(e _ u).symm, u⟩⟩
end

/-- a call that may write the places W -/
noncomputable def FnE (w : World) (H0 : Heap) (k : Nat) (W : Nat → Prop) (f : Value) (args : List AV) (kws : List (Str × AV)) (σ : Store) (v : AV) (σ' : Store) : Prop := Shut <|
  ∀ A, Rm k A → ∀ ρ s vs ks, Rel w H0 ρ σ s.heap → VRels ρ σ s.heap args vs → VRels ρ σ s.heap (kws.map (·.2)) ks → ∀ Q E,
    (∀ ρ' h' tk V, Evo W (fun _ => False) ρ σ s.heap ρ' σ' h' → Rel w H0 ρ' σ' h' → VRel ρ' σ' h' v V → Q V { s with heap := h', toks := tk }) → wpAny (model pw w) A (call f vs ((kws.map (·.1)).zip ks)) Q E s
theorem FnE.pure {w : World} {H0 : Heap} {k : Nat} {f : Value} {args : List AV} {kws : List (Str × AV)} {σ : Store} {v : AV} (x : FnE w H0 k (fun _ => False) f args kws σ v σ) : FnP w H0 k f args kws σ v := by
  refine ⟨?_⟩; exact fun A rm ρ s vs ks R a b Q E hq => x.out A rm ρ s vs ks R a b Q E fun ρ' h' tk V ev R' r =>
    hq h' tk V (fun b o e => ev.keep b o e (fun _ a => a.elim) fun a => a) (r.congr (fun n u => (ev.dom n u).1) ev.bar)
theorem FnP.eff {w : World} {H0 : Heap} {k : Nat} {f : Value} {args : List AV} {kws : List (Str × AV)} {σ : Store} {v : AV} {W : Nat → Prop} (x : FnP w H0 k f args kws σ v) : FnE w H0 k W f args kws σ v σ := by
  refine ⟨?_⟩; exact fun A rm ρ s vs ks R a b Q E hq => x.out A rm ρ s vs ks R a b Q E fun h' tk V kp r => hq ρ h' tk V (kp.evo ..) (R.keeps kp) r

noncomputable def RetIs (v : AV) : Fl → Prop
  | .ret u => u = v
  | .next => v = .none
  | _ => False

/-- the body's end: the value given back, the store behind -/
noncomputable def Ends (v : AV) (σ' : Store) : Fl → Vars → Store → Prop := fun fl _ σ'' => Shut (RetIs v fl ∧ σ'' = σ')
theorem Ends.ret {u v : AV} {σ' : Store} {μ : Vars} (e : u = v) : Ends v σ' (.ret u) μ σ' := ⟨e, rfl⟩
theorem Ends.next {σ' : Store} {μ : Vars} : Ends .none σ' .next μ σ' := ⟨rfl, rfl⟩
theorem Ends.ret' {u v : AV} {σ' σ'' : Store} {μ : Vars} (e : u = v) (f : σ'' = σ') : Ends v σ' (.ret u) μ σ'' := ⟨e, f⟩
theorem Ends.next' {σ' σ'' : Store} {μ : Vars} (f : σ'' = σ') : Ends .none σ' .next μ σ'' := ⟨rfl, f⟩

/-- the parameters bound to what is handed -/
noncomputable def Binds (fd : FuncData) (na : Nat) (names xs : List Str) : Prop := ∀ s vs ks, vs.length = na → ks.length = names.length → BindsTo s fd ⟨vs, names.zip ks⟩ (xs.zip (vs ++ ks))

theorem VRels.app {ρ : Place} {σ : Store} {h : Heap} {a b : List AV} {va vb : List Value} (x : VRels ρ σ h a va) (y : VRels ρ σ h b vb) : VRels ρ σ h (a ++ b) (va ++ vb) := x.ind (P := fun a va => VRels ρ σ h (a ++ b) (va ++ vb)) y fun p _ q => .cons p q
end
section
open PySem PySem.W PyProof.Rows
set_option maxRecDepth 100000
section
variable {w : World} {H0 : Heap} {k : Nat} {env : Env} {μ : Vars} {σ : Store} {ρ : Place} {h : Heap}

/-- the value's type reads items by a built-in -/
noncomputable def SubOk (σ : Store) (a : AV) : Prop := ∀ (w : World) (H0 : Heap) (ρ : Place) (s : Shared) (U : Value), Rel w H0 ρ σ s.heap → VRel ρ σ s.heap a U → ∃ T id, s.TypeIs U T ∧ typeLookup (.type T) "__getitem__" = pure (some (.builtin id))
theorem SubOk.str (x : List Nat) : SubOk σ (.str x) := fun w H0 ρ s U R u => u.el fun _ => ⟨"str", _, typeIs_str _ _ _, F.slot_str_getitem.lookup⟩
theorem SubOk.lst (x : List AV) : SubOk σ (.lst x) := fun w H0 ρ s U R u => u.el fun _ _ y _ _ => ⟨"list", _, y.typeIs, slot_list_getitem.lookup⟩
theorem SubOk.tup (x : List AV) : SubOk σ (.tup x) := fun w H0 ρ s U R u => u.el fun _ _ y _ => ⟨"tuple", _, (show IsTup s.heap _ _ from y).typeIs, slot_tuple_getitem.lookup⟩
theorem SubOk.list {n : Nat} {l : List AV} (e : σ n = .list l) : SubOk σ (.loc n) := fun w H0 ρ s U R u => by
  refine u.el fun _ => ?_
  obtain ⟨_, y, _⟩ := R.list e
  exact ⟨"list", _, y.isList.typeIs, slot_list_getitem.lookup⟩
theorem SubOk.dict {n : Nat} {l : List (Str × AV)} (e : σ n = .dict l) : SubOk σ (.loc n) := fun w H0 ρ s U R u => by
  refine u.el fun _ => ?_
  obtain ⟨_, y, _⟩ := R.dict e
  exact ⟨"dict", _, y.typeIs, slot_dict_getitem.lookup⟩

theorem PV.sub {value slice : Expr} {pos : Pos} {a i v : AV} (x : PV w H0 k (eval value env) env μ σ a) (y : PV w H0 k (eval slice env) env μ σ i) (z : O2 w H0 k getItem σ a i v) (so : SubOk σ a)
    (hs : ∀ o i, ∃ ops, subscripted slice false o i = operate ops (getItem o i)) : PV w H0 k (eval (.Subscript value slice pos) env) env μ σ v := by
  refine ⟨?_⟩; intro A rm ρ s R F Q E hq
  refine Subscript_ (x.out A rm ρ s R F _ E fun h₁ t₁ U k₁ u => y.out A rm ρ _ (R.keeps k₁) (F.keeps k₁) _ E fun h₂ t₂ V k₂ v => ?_)
  have R' := R.keeps (k₁.trans k₂)
  have u' := u.keeps k₂
  obtain ⟨T, id, hT, hl⟩ := so w H0 ρ { s with heap := h₂, toks := t₂ } U R' u'
  obtain ⟨ops, ho⟩ := hs U V
  exact tail_any hT hl (z.out A rm ρ _ U V R' u' v Q E fun h₃ t₃ r k₃ q => hq h₃ t₃ r ((k₁.trans k₂).trans k₃) q) ho

theorem O2.itemS {x : List Nat} {i : Int} (h0 : 0 ≤ i) (h1 : i < x.length) (hl : x.length ≤ 1000000) : O2 w H0 k getItem σ (.str x) (.int i) (.str [x.getD i.toNat 0]) := by
  refine ⟨?_⟩; intro A rm ρ s U V R u z Q E hq; refine u.el fun _ => z.el fun t => ?_
  refine P.getItem_str (c := x.getD i.toNat 0) (by simp; omega) ?_ (hq s.heap _ _ (.refl _) (.str _ _))
  have hb : i.toNat < x.length := by clear hl; omega
  have : seqIndex? i (⟨x.toArray⟩ : Str).length = some i.toNat := seqIndex_of h0 hb
  rw [this]
  refine List.getElem?_toArray.trans ?_
  rw [List.getD_eq_getElem?_getD, List.getElem?_eq_getElem hb]; rfl

/-- a method found -/
noncomputable def MethOk (w : World) (H0 : Heap) (k : Nat) (σ : Store) (a : AV) (name : Str) (f : Value) : Prop := Shut <| ∀ A, Rm k A → ∀ ρ s U, Rel w H0 ρ σ s.heap → VRel ρ σ s.heap a U → ∀ (pl : Sem Bool) Q E,
  Q (f, [U]) s → wpAny (model pw w) A (getMethod U name pl) Q E s
theorem PV.meth (T : Tp w H0) {o : Expr} {name : Str} {apos pos : Pos} {args : List Expr} {kws : List Keyword} {names : List Str} {f : Value} {a : AV} {l ks : List AV} {v : AV} (ho : PV w H0 k (eval o env) env μ σ a) (m : MethOk w H0 k σ a name f) (kf : KeepOk w f)
    (x : PVs w H0 k (spliced (backTo pos (starEach args env))) env μ σ l) (y : PKs w H0 k pos kws env μ σ ks) (fn : FnP w H0 k f (a :: l) (names.zip ks) σ v)
    (hn : (backToKw pos (keywordEach kws env)).all (·.1.isSome) = true) (hs : (backTo pos (starEach args env)).any (·.1) = false) (hnm : (backToKw pos (keywordEach kws env)).filterMap (·.1) = names) (hlen : names.length = ks.length)
    (hbase : attributeBase o name env (eval o env) = eval o env) (hform : methodCallForm (args.length + kws.length) (backTo pos (starEach args env)) (backToKw pos (keywordEach kws env)) = true) (hline : (apos.endLine == pos.line) = true) :
    PV w H0 k (eval (.Call (.Attribute o name apos) args kws pos) env) env μ σ v := by
  refine ⟨?_⟩; intro A rm ρ s R F Q E hq
  rw [arm_eval_Call, hbase]
  refine wpAny_bind (ho.out A rm ρ s R F _ E fun h₁ t₁ U k₁ u => ?_)
  refine wpAny_bind (wpAny_standAt ?_)
  have hpos : methodCallPos true o env apos pos = pure pos := by unfold methodCallPos; simp [hline]
  unfold methodCall
  rw [hform]
  refine wpAny_bind (wpAny_holding (m.out A rm ρ _ U (R.keeps k₁) u _ _ _ ?_))
  refine wpAny_bind (wpAny_of_eq hpos ?_)
  refine callArgs T kf rm (R.keeps k₁) (F.keeps k₁) x y hn hs hnm fun h₂ t₂ vs kvs k₂ uv ukv => ?_
  have e1 : (names.zip ks).map (·.1) = names := List.map_fst_zip (Nat.le_of_eq hlen)
  have e2 : (names.zip ks).map (·.2) = ks := List.map_snd_zip (Nat.le_of_eq hlen.symm)
  have := fn.out A rm ρ { s with heap := h₂, toks := t₂ } (U :: vs) kvs (R.keeps (k₁.trans k₂)) (.cons (u.keeps k₂) uv) (by rw [e2]; exact ukv) Q E fun h₃ t₃ V k₃ q => hq h₃ t₃ V ((k₁.trans k₂).trans k₃) q
  rw [e1] at this
  exact this

theorem MethOk.builtin {a : AV} {T : String} {name : Str} {id : String} (pa : PlainAttrs T) (slot : Slot T name id) (hty : typeOf (.builtin id) = pure (.type "method_descriptor"))
    (ht : ∀ (ρ : Place) (s : Shared) (U : Value), Rel w H0 ρ σ s.heap → VRel ρ σ s.heap a U → s.TypeIs U T ∧ ∀ b, U = .ref b → ∃ o, s.heap.get? b = some o ∧ o.dict = none) : MethOk w H0 k σ a name (.builtin id) := by
  refine ⟨?_⟩; exact fun A rm ρ s U R u pl Q E hq => getMethod_builtin (ht ρ s U R u).1 pa slot hty (ht ρ s U R u).2 hq
theorem typ_str {x : List Nat} : ∀ (ρ : Place) (s : Shared) (U : Value), Rel w H0 ρ σ s.heap → VRel ρ σ s.heap (.str x) U → s.TypeIs U "str" ∧ ∀ b, U = .ref b → ∃ o, s.heap.get? b = some o ∧ o.dict = none := by
  intro ρ s U R u; refine u.el fun _ => ?_; exact ⟨typeIs_str _ _ _, fun b e => by cases e⟩
theorem meth_upper (x : List Nat) : MethOk w H0 k σ (.str x) "upper" (.builtin "str.upper") := .builtin F.plainAttrs_str F.slot_str_upper F.type_str_upper typ_str
theorem meth_lower (x : List Nat) : MethOk w H0 k σ (.str x) "lower" (.builtin "str.lower") := .builtin F.plainAttrs_str F.slot_str_lower F.type_str_lower typ_str
theorem fn_upper {x y : List Nat} (e : (Txt.upper ⟨x.toArray⟩) = ⟨y.toArray⟩) (hl : y.length ≤ 100) : FnP w H0 k (.builtin "str.upper") [.str x] [] σ (.str y) := by
  refine ⟨?_⟩; intro A rm ρ s vs ks R u v Q E hq
  refine u.el1 fun _ a => a.el fun _ => ?_
  refine SC.upper (by rw [e]; unfold Builtin.Str.tooLong; exact decide_eq_false (by show ¬ y.toArray.size > 2 ^ 24; simp; omega)) ?_
  rw [e]; exact hq _ _ _ (.refl _) (.str _ _)
theorem fn_lower {x y : List Nat} (e : (Txt.lower ⟨x.toArray⟩) = ⟨y.toArray⟩) (hl : y.length ≤ 100) : FnP w H0 k (.builtin "str.lower") [.str x] [] σ (.str y) := by
  refine ⟨?_⟩; intro A rm ρ s vs ks R u v Q E hq
  refine u.el1 fun _ a => a.el fun _ => ?_
  refine SC.lower (by rw [e]; unfold Builtin.Str.tooLong; exact decide_eq_false (by show ¬ y.toArray.size > 2 ^ 24; simp; omega)) ?_
  rw [e]; exact hq _ _ _ (.refl _) (.str _ _)
end
end
section
open PySem PySem.W PyProof.Rows
set_option maxRecDepth 100000
section
variable {w : World} {H0 : Heap} {k : Nat} {env : Env} {μ : Vars} {σ : Store} {ρ : Place} {h h' : Heap}

/-- a target bound -/
noncomputable def BT (w : World) (H0 : Heap) (k : Nat) (env : Env) (t : Expr) (v : AV) (μ μ' : Vars) (σ : Store) : Prop := Shut <|
  ∀ A, Rm k A → ∀ ρ s V, Rel w H0 ρ σ s.heap → Fra w H0 env μ ρ σ s.heap → VRel ρ σ s.heap v V → ∀ Q E,
    (∀ h' tk, Evo (fun _ => False) (fun b => b = env.locals) ρ σ s.heap ρ σ h' → Rel w H0 ρ σ h' → Fra w H0 env μ' ρ σ h' → Q () { s with heap := h', toks := tk }) → wpAny (model pw w) A (assign t env V) Q E s
theorem BT.name {x : Str} {p : Pos} {v : AV} (hx : env.kindOf x = some .local) : BT w H0 k env (.Name x p) v μ (put x v μ) σ := by
  refine ⟨?_⟩; intro A rm ρ s V R F r Q E hq
  exact wpAny_assign_Name (bind_localX hx R F r fun h' tk ev => hq h' tk (ev rfl))
noncomputable def BTs (w : World) (H0 : Heap) (k : Nat) (env : Env) (t : List Expr) (v : List AV) (μ μ' : Vars) (σ : Store) : Prop := Shut <|
  ((assignEach t env).length = t.length ∧ (assignEach t env).findIdx? (·.1) = none) ∧ ∀ A, Rm k A → ∀ ρ s V, Rel w H0 ρ σ s.heap → Fra w H0 env μ ρ σ s.heap → VRels ρ σ s.heap v V → ∀ Q E,
    (∀ h' tk, Evo (fun _ => False) (fun b => b = env.locals) ρ σ s.heap ρ σ h' → Rel w H0 ρ σ h' → Fra w H0 env μ' ρ σ h' → Q () { s with heap := h', toks := tk }) → wpAny (model pw w) A (assignInOrder ((assignEach t env).map (·.2)) V) Q E s
theorem BTs.nil : BTs w H0 k env [] [] μ μ σ := by
  refine ⟨⟨rfl, rfl⟩, ?_⟩; intro A rm ρ s V R F r Q E hq
  exact r.el0 (wpAny_pure (hq s.heap s.toks (.refl ..) R F))
theorem BTs.cons {x : Str} {p : Pos} {t : List Expr} {v : AV} {vs : List AV} {μ' : Vars} (hx : env.kindOf x = some .local) (y : BTs w H0 k env t vs (put x v μ) μ' σ) : BTs w H0 k env (.Name x p :: t) (v :: vs) μ μ' σ := by
  obtain ⟨⟨i1, i2⟩, y⟩ := y.out
  refine ⟨⟨congrArg (· + 1) i1, ?_⟩, ?_⟩
  · show List.findIdx? _ ((false, assign (.Name x p) env) :: assignEach t env) = none
    rw [List.findIdx?_cons, i2]; rfl
  intro A rm ρ s V R F r Q E hq
  refine r.el fun _ _ a b => ?_
  · show wpAny _ A (assignInOrder (assign (.Name x p) env :: (assignEach t env).map (·.2)) _) _ _ s
    unfold assignInOrder
    refine wpAny_bind (wpAny_holding (wpAny_assign_Name (bind_localX (W := fun _ => False) hx R F a fun h₁ t₁ ev R' F' => ?_)))
    exact y A rm ρ _ _ R' F' (b.evo R (ev (X := fun b => b = env.locals) rfl) F.ownL) Q E fun h₂ t₂ ev' R'' F'' => hq h₂ t₂ ((ev (X := fun b => b = env.locals) rfl).trans ev') R'' F''
/-- (names alone: BTs tells it) -/
noncomputable def allPlain (_ : List Expr) : Bool := true
theorem BT.tuple {t : List Expr} {j : Nat} {p : Pos} {vs : List AV} {μ' : Vars} (y : BTs w H0 k env t vs μ μ' σ) (hp : allPlain t = true) (hn : t.length = vs.length) : BT w H0 k env (.Tuple t j p) (.tup vs) μ μ' σ := by
  obtain ⟨pl, y⟩ := y.out
  refine ⟨?_⟩; intro A rm ρ s V R F r Q E hq
  refine r.el fun _ _ x q => ?_
  have hv := q.length
  refine wpAny_assign_Tuple rm.handled x (by rw [pl.1, List.size_toArray, hv, hn]) pl.2 fun h₁ hk₁ => ?_
  have k₁ : Kept s.heap h₁ := fun b o e => hk₁ b o (Nat.ne_of_lt (Heap.lt_size e)) e
  exact y A rm ρ _ _ (R.keeps k₁) (F.keeps k₁) (q.keeps k₁) Q E fun h₂ t₂ ev' R'' F'' => hq h₂ t₂ ((k₁.evo ..).trans ev') R'' F''

/-- an iterator over ls -/
structure ItOk (w : World) (A : Around) (tgt : Expr) (ρ : Place) (σ : Store) (h : Heap) (ls : List AV) (U : Nat → Prop) (I : Addr) (fp : List Addr) (P Md : Nat → Value → Heap → Prop) (St : Nat → Heap → Prop) : Prop where
  turns : KTurns pw w A tgt I fp [I] ls.length P Md St
  fresh : h.get? I = none
  foot : ∀ b ∈ fp, b = I ∨ (∃ o vs n, h.get? b = some o ∧ o.data = .seq vs n) ∧ ∀ n, σ n ≠ .free → ρ.at n = b → U n
  item : ∀ i v h'', P i v h'' → ∃ a, ls[i]? = some a ∧ VRel ρ σ h a v
  stands : ∀ i h'', St i h'' → ∃ o, h''.get? I = some o ∧ ∀ vs n, o.data ≠ .seq vs n
  self : ∀ (s : Shared) Q E, St 0 s.heap → Q (.ref I) s → wpAny (model pw w) A (pyIter (.ref I)) Q E s
noncomputable def ItE (w : World) (H0 : Heap) (k : Nat) (iter : Expr) (env : Env) (μ : Vars) (σ : Store) (ls : List AV) (tgt : Expr) (U : Nat → Prop) : Prop := Shut <|
  (∀ x, foldedSetIterable iter env x = pure x) ∧ ∀ A, Rm k A → ∀ ρ s, Rel w H0 ρ σ s.heap → Fra w H0 env μ ρ σ s.heap → ∀ Q E,
    (∀ I fp P Md St h₀ h' tk, Kept s.heap h₀ → Kept h₀ h' → ItOk w A tgt ρ σ h₀ ls U I fp P Md St → St 0 h' → Q (.ref I) { s with heap := h', toks := tk }) →
    wpAny (model pw w) A (eval iter env) (fun x s₁ => wpAny (model pw w) A (pyIter x) Q E s₁) E s

theorem letGo_list {A : Around} {s : Shared} {tgt : Expr} {I l : Addr} {i : Nat} {v : Value} {Q : Unit → Shared → Prop} {E : Value → Shared → Prop} (ht : (∃ x p, tgt = .Name x p) ∨ ∃ t j p, tgt = .Tuple t j p) (hit : s.heap.IsListIter I l i) (hQ : Q () s) :
    wpAny (model pw w) A (letOwnedTupleGo tgt (.ref I) v) Q E s := by
  rcases ht with ⟨x, p, rfl⟩ | ⟨t, j, p, rfl⟩
  · exact wpAny_pure hQ
  · cases v with
    | ref T => exact wpAny_letOwnedTupleGo_listiter hit hQ
    | _ => exact wpAny_pure hQ
noncomputable def okTgt (e : Expr) : Bool := e.ctorIdx == Expr.ctorIdx (.Name "" ⟨0, 0, 0, 0⟩) || e.ctorIdx == Expr.ctorIdx (.Tuple [] 0 ⟨0, 0, 0, 0⟩)
theorem okTgt_of {tgt : Expr} (h : okTgt tgt = true) : (∃ x p, tgt = .Name x p) ∨ ∃ t j p, tgt = .Tuple t j p := by
  rcases Bool.or_eq_true_iff.mp h with h | h
  · have h : tgt.ctorIdx = 23 := beq_iff_eq.mp h
    refine Expr.Name.elim tgt h fun x p => ?_
    exact .inl ⟨x, p, rfl⟩
  · have h : tgt.ctorIdx = 25 := beq_iff_eq.mp h
    refine Expr.Tuple.elim tgt h fun t j p => ?_
    exact .inr ⟨t, j, p, rfl⟩

theorem ItOk.list {A : Around} {tgt : Expr} (hh : A.handled = none) (ht : okTgt tgt = true) {ax I : Addr} {ls : List AV} {vs : List Value} {U : Nat → Prop} (hl : h.IsList ax vs.toArray) (y : VRels ρ σ h ls vs) (hI : h.get? I = none)
    (hU : ∀ n, σ n ≠ .free → ρ.at n = ax → U n) :
    ItOk w A tgt ρ σ h ls U I [I, ax] (fun i v _ => vs.toArray[i]? = some v) (fun i v h => vs.toArray[i]? = some v ∧ (h.IsListIter I ax (i + 1) ∧ h.IsList ax vs.toArray)) (fun i h => h.IsListIter I ax i ∧ h.IsList ax vs.toArray) := by
  have hne : ax ≠ I := fun q => by obtain ⟨o, e, _⟩ := hl; exact ex_none e hI q
  have W := Walks.list (prog := pw) (w := w) hh I ax hne vs.toArray
  have hn : vs.toArray.size = ls.length := (List.size_toArray ..).trans y.length
  refine ⟨?_, hI, ?_, ?_, ?_, ?_⟩
  · rw [← hn]
    exact KTurns.ofWalks W fun i v s Q E st hQ => letGo_list (okTgt_of ht) st.1 hQ
  · intro b hb
    rcases List.mem_cons.mp hb with rfl | hb
    · exact .inl rfl
    cases List.mem_singleton.mp hb
    · exact .inr ⟨by obtain ⟨o, e, c, n, d⟩ := hl; exact ⟨o, _, n, e, d⟩, hU⟩
  · intro i v h'' e
    have e' : vs[i]? = some v := List.getElem?_toArray.symm.trans e
    have hi : i < ls.length := by rw [← y.length]; exact (List.getElem?_eq_some_iff.mp e').1
    obtain ⟨V, q, r⟩ := y.at (List.getElem?_eq_getElem hi)
    exact ⟨_, List.getElem?_eq_getElem hi, Option.some.inj (q.symm.trans e') ▸ r⟩
  · intro i h'' st
    obtain ⟨⟨o, e, c, d⟩, _⟩ := st
    exact ⟨o, e, fun vs n => by rw [d]; intro z; cases z⟩
  · intro s Q E st hQ
    exact W.self 0 s Q E st hQ
theorem ItE.lst {iter tgt : Expr} {ls : List AV} (x : PV w H0 k (eval iter env) env μ σ (.lst ls)) (ht : okTgt tgt = true) (hs : ∀ x, foldedSetIterable iter env x = pure x) : ItE w H0 k iter env μ σ ls tgt (fun _ => False) := by
  refine ⟨hs, ?_⟩; intro A rm ρ s R F Q E hq
  refine x.out A rm ρ s R F _ E fun h₁ t₁ V k₁ u => ?_
  refine u.el fun _ _ hl un y => ?_
  · refine wpAny_pyIter_list hl (hq _ _ _ _ _ _ _ t₁ k₁ (Kept.push _ _) (ItOk.list rm.handled ht hl y (size_none _) fun n hn e => un (.inl ⟨n, hn, e⟩)) ⟨⟨_, Heap.get?_push_size _ rfl, rfl, rfl⟩, hl.at fun o e => Heap.get?_push_of_some _ e⟩)
theorem ItE.loc {iter tgt : Expr} {p : Nat} {ls : List AV} (x : PV w H0 k (eval iter env) env μ σ (.loc p)) (e : σ p = .list ls) (ht : okTgt tgt = true) (hs : ∀ x, foldedSetIterable iter env x = pure x) : ItE w H0 k iter env μ σ ls tgt (fun n => n = p) := by
  refine ⟨hs, ?_⟩; intro A rm ρ s R F Q E hq
  refine x.out A rm ρ s R F _ E fun h₁ t₁ V k₁ u => ?_
  refine u.el fun un => ?_
  · have R₁ := R.keeps k₁
    obtain ⟨_, hl', y⟩ := R₁.list e
    · have hl := hl'.isList
      refine wpAny_pyIter_list hl (hq _ _ _ _ _ _ _ t₁ k₁ (Kept.push _ _) (ItOk.list rm.handled ht hl y (size_none _) fun n hn e => R₁.inj _ _ hn un e) ⟨⟨_, Heap.get?_push_size _ rfl, rfl, rfl⟩, hl.at fun o e => Heap.get?_push_of_some _ e⟩)

noncomputable def upto (n : Nat) : List AV := (List.range n).map fun (i : Nat) => AV.int (i : Int)
theorem ItOk.range {A : Around} {x : Str} {px : Pos} (hh : A.handled = none) {I : Addr} {n : Nat} {U : Nat → Prop} (hI : h.get? I = none) :
    ItOk w A (.Name x px) ρ σ h (upto n) U I [I] (fun i v _ => i < n ∧ ∃ t, v = .int (0 + i * 1) t) (fun i v h => i < n ∧ (∃ t, v = .int (0 + i * 1) t) ∧ IsRangeIter h I (0 + (i + 1 : Nat) * 1) ((n : Int) - (i + 1 : Nat)) 1) (fun i h => IsRangeIter h I (0 + (i : Nat) * 1) ((n : Int) - (i : Nat)) 1) := by
  have W := Walks.range (prog := pw) (w := w) hh I 0 1 n
  have hn : n = (upto n).length := by simp [upto]
  refine ⟨?_, hI, ?_, ?_, ?_, ?_⟩
  · rw [← hn]
    exact ⟨W.sub, W.frame, fun i s Q E hi st hQ => W.item i s Q E hi st fun v h' tk hP st' hk => hQ v h' tk ⟨hi, hP, st'⟩ hk,
      fun i v s Q E hm hQ => wpAny_pure (hQ s.heap ⟨hm.1, hm.2.1⟩ hm.2.2 fun _ _ _ e => e), W.done⟩
  · intro b hb
    exact .inl (List.mem_singleton.mp hb)
  · rintro i v h'' ⟨hi, t, rfl⟩
    refine ⟨.int i, ?_, ?_⟩
    · simp [upto, hi]
    · have : (0 + (i : Int) * 1) = i := by omega
      rw [this]; exact .int _ _
  · intro i h'' st
    exact ⟨_, st, fun vs n => by intro z; cases z⟩
  · intro s Q E st hQ
    exact W.self 0 s Q E st hQ
theorem ItE.range (T : Tp w H0) {x : Str} {px p p' pos : Pos} {e : Expr} {n : Nat} (hf : PV w H0 k (eval (.Name x p) env) env μ σ (.val (.type "range"))) (a : PVs w H0 k (spliced (backTo pos (starEach [e] env))) env μ σ [.int n]) (hn : n < 1000000)
    (hst : starEach [e] env = (false, eval e env) :: []) {y : Str}
    (hs : ∀ v, foldedSetIterable (.Call (.Name x p) [e] [] pos) env v = pure v) : ItE w H0 k (.Call (.Name x p) [e] [] pos) env μ σ (upto n) (.Name y p') (fun _ => False) := by
  refine ⟨hs, ?_⟩; intro A rm ρ s R F Q E hq
  show wpAny _ A (eval (.Name x p) env >>= fun f => callWith pos f [] (backTo pos (starEach [e] env)) (backToKw pos (keywordEach [] env))) _ E s
  refine wpAny_bind (hf.out A rm ρ s R F _ E fun h₁ t₁ V k₁ u => ?_)
  refine u.elV ?_
  refine callArgs T (names := []) (KeepOk.type "range") rm (R.keeps k₁) (F.keeps k₁) a PKs.nil rfl (by rw [hst]; rfl) rfl fun h₂ t₂ vs kvs k₂ uv ukv => ?_
  refine uv.el1 fun _ u => u.el fun _ => ukv.el0 ?_
  · refine call_range_1 ?_
    have hr := IsRange.new h₂ 0 (n : Int) 1
    refine wpAny_pyIter_range (IsRange.new h₂ 0 (n : Int) 1 _ _ _) (small_one (by omega) (by omega) (by omega) (by omega)) ?_
    have e0 : Builtin.Range.rangeSize 0 (n : Int) 1 = n := by rw [rangeSize_one]; split <;> omega
    refine hq _ _ _ _ _ _ _ _ ((k₁.trans k₂).trans (Kept.push _ _)) (Kept.push _ _) (ItOk.range rm.handled (size_none _)) ?_
    show IsRangeIter _ _ _ _ _
    rw [e0]
    exact (Heap.get?_push_size _ rfl).trans (by simp [rawInt])
end
end
section
open PySem PySem.W PyProof.Rows
set_option maxRecDepth 100000
section
variable {w : World} {H0 : Heap} {k : Nat} {env : Env} {μ : Vars} {σ : Store} {ρ : Place} {h h' : Heap} {W : Nat → Prop}

/-- an object of the machine's own is changed -/
theorem touch (R : Rel w H0 ρ σ h) {I : Addr} (hI : ¬ Tracked ρ σ I) (hH : H0.get? I = none) (hd : ∃ o, h.get? I = some o ∧ ∀ vs n, o.data ≠ .seq vs n) (hk : ∀ b o, b ≠ I → h.get? b = some o → h'.get? b = some o) :
    OwnOk (fun b => b = I) ρ σ h ∧ (∀ W, Evw W (fun b => b = I) ρ σ h ρ σ h') ∧ Rel w H0 ρ σ h' := by
  obtain ⟨oI, eI, dI⟩ := hd
  have O : OwnOk (fun b => b = I) ρ σ h := by
    rintro b rfl
    exact ⟨hI, fun o vs n e => same_obj eI e ▸ dI vs n⟩
  have ev : ∀ W, Evw W (fun b => b = I) ρ σ h ρ σ h' := fun W => ⟨fun b o e _ nb => hk b o nb e, fun _ u => ⟨rfl, u⟩, fun _ _ => rfl, fun _ a b => absurd a b, rfl⟩
  refine ⟨O, ev, ⟨fun b o e => hk b o (fun q => ex_none e hH q) (R.top b o e), fun n => ?_, R.inj, R.new, fun a ha => ?_⟩⟩
  · by_cases hn : σ n = .free
    · rw [hn]; exact .free
    · exact SRel.evw R (ev fun _ => False) O (fun a => a) hn fun _ _ e => e
  · obtain ⟨⟨vs, o, e, r⟩, q⟩ := R.bars a ha
    exact ⟨⟨vs, o, hk a o (fun q => hI (q ▸ .inr ha)) e, r⟩, q⟩

/-- the turn of a loop -/
noncomputable def Turn (J : Nat → Vars → Store → Prop) (i : Nat) (P : Fl → Vars → Store → Prop) : Fl → Vars → Store → Prop := fun f μ σ => Shut (match f with
  | .next | .cont => J (i + 1) μ σ
  | .brk => P .next μ σ
  | .ret v => P (.ret v) μ σ)
theorem Turn.next {J : Nat → Vars → Store → Prop} {i : Nat} {P : Fl → Vars → Store → Prop} (h : J (i + 1) μ σ) : Turn J i P .next μ σ := ⟨h⟩
theorem Turn.ret {J : Nat → Vars → Store → Prop} {i : Nat} {P : Fl → Vars → Store → Prop} {v : AV} (h : P (.ret v) μ σ) : Turn J i P (.ret v) μ σ := ⟨h⟩

theorem ItOk.alien {A : Around} {tgt : Expr} {ls : List AV} {U : Nat → Prop} {I : Addr} {fp : List Addr} {P Md : Nat → Value → Heap → Prop} {St : Nat → Heap → Prop} (ok : ItOk w A tgt ρ σ h ls U I fp P Md St) (R : Rel w H0 ρ σ h) (F : Fra w H0 env μ ρ σ h) : H0.get? I = none ∧ ¬ Own env I ∧ ¬ Tracked ρ σ I := by
  refine ⟨Kept.none R.top ok.fresh, ?_, ?_⟩
  · rintro (e | ⟨x, m⟩)
    · obtain ⟨_, ⟨o, _, _, q, _⟩, _⟩ := F.ns
      exact ex_none q ok.fresh e.symm
    · obtain ⟨⟨_, o, q, _⟩, _⟩ := F.celU x I m
      exact ex_none' q ok.fresh
  · rintro (⟨n, hn, e⟩ | hb)
    · obtain ⟨o, q⟩ := R.there hn; exact ex_none q ok.fresh e
    · obtain ⟨⟨_, o, q, _⟩, _⟩ := R.bars I hb; exact ex_none' q ok.fresh
/-- where a loop stands -/
inductive ForAt (w : World) (H0 : Heap) (env : Env) (W : Nat → Prop) (n : Nat) (I : Addr) (St : Nat → Heap → Prop) (J : Nat → Vars → Store → Prop) (ρ : Place) (σ : Store) (h : Heap) (s : Shared) : Nat → Shared → Prop where
  | mk {i : Nat} {ρ' : Place} {σ' : Store} {μ' : Vars} {h' : Heap} {tk : Tok} (hi : i ≤ n) (hJ : J i μ' σ') (ev : Evo W (Own env) ρ σ h ρ' σ' h') (R : Rel w H0 ρ' σ' h') (F : Fra w H0 env μ' ρ' σ' h') (st : St i h') (un : ¬ Tracked ρ' σ' I) :
    ForAt w H0 env W n I St J ρ σ h s (n - i) { s with heap := h', toks := tk }
theorem Evo.touched {I : Addr} {h'' : Heap} {X : Addr → Prop} {σ' : Store} {ρ' : Place} (ev : Evo W X ρ σ h ρ' σ' h') (fr : h.get? I = none) (hk : ∀ b o, b ≠ I → h'.get? b = some o → h''.get? b = some o) : Evo W X ρ σ h ρ' σ' h'' := by
  have ne : ∀ b o, h.get? b = some o → b ≠ I := fun b o e z => ex_none e fr z
  exact ⟨fun b o e u ux => hk b o (ne b o e) (ev.keep b o e u ux), fun b o e => by obtain ⟨o', e'⟩ := ev.there b o e; exact ⟨o', hk b o' (ne b o e) e'⟩, ev.dom, ev.same, ev.new, ev.bar⟩
theorem XT.for_ {target iter : Expr} {body : List Stmt} {pos : Pos} {ls : List AV} {U : Nat → Prop} {P : Fl → Vars → Store → Prop} (J : Nat → Vars → Store → Prop) (it : ItE w H0 k iter env μ σ ls target U) (hU : ∀ n, U n → ¬ W n) (h0 : J 0 μ σ)
    (step : ∀ i v μ' σ', ls[i]? = some v → J i μ' σ' → ∃ μ'', BT w H0 k env target v μ' μ'' σ' ∧ XT w H0 k W env (execs body env) μ'' σ' (Turn J i P))
    (hend : ∀ μ' σ', J ls.length μ' σ' → P .next μ' σ') : XT w H0 k W env (exec (.For target iter body [] pos) env) μ σ P := by
  refine ⟨?_⟩; intro A rm ρ s R F Q E hq
  refine wpAny_For (it.out.2 A rm ρ s R F _ E fun I fp Pt Md St h₀ h₁ t₁ k₀ k₁ ok st => ?_) it.out.1
  have R₀ := R.keeps k₀
  have F₀ := F.keeps k₀
  have al := ok.alien R₀ F₀
  refine codeAny_forLoop_any (ForAt w H0 env W ls.length I St J ρ σ h₀ s) ?_ (ls.length - 0) (ForAt.mk (tk := t₁) (Nat.zero_le _) h0 (k₁.evo ..) (R₀.keeps k₁) (F₀.keeps k₁) st al.2.2)
  clear st t₁ k₁ h₁
  rintro n s' ⟨hi, hJ, ev, R', F', st', hI'⟩
  rename_i i ρ' σ' μ' h' tk
  have fin : ∀ {h''}, (∀ b o, b ∉ [I] → h'.get? b = some o → h''.get? b = some o) → Evo W (Own env) ρ σ h₀ ρ' σ' h'' ∧ Rel w H0 ρ' σ' h'' ∧ Fra w H0 env μ' ρ' σ' h'' := fun hk =>
    have hk' := fun b o q e => hk b o (fun z => q (List.mem_singleton.mp z)) e
    have t := touch R' hI' al.1 (ok.stands _ _ st') hk'
    ⟨ev.touched ok.fresh hk', t.2.2, F'.evw R' (t.2.1 W) t.1 fun b hb q => al.2.1 (q ▸ hb)⟩
  by_cases hlt : i < ls.length
  · refine ok.turns.item i _ _ _ hlt st' fun v h₂ t₂ md hk₂ => ok.turns.go i v _ _ _ md fun h₃ hp st₃ hk₃ => ?_
    have f₃ := fin (fun b o q e => hk₃ b o q (hk₂ b o q e))
    clear hk₂ hk₃ st' hi fin
    obtain ⟨a, ha, ra⟩ := ok.item i v _ hp
    obtain ⟨μ'', bt, body⟩ := step i a μ' σ' ha hJ
    refine bt.out A rm ρ' _ _ f₃.2.1 f₃.2.2 (ra.evo R₀ f₃.1 F₀.own) _ _ fun h₄ t₄ ev₄ R₄ F₄ => ?_
    have ev₄' : Evo W (Own env) ρ' σ' h₃ ρ' σ' h₄ := ev₄.mono (fun _ a => a.elim) fun b o _ q => .inl q
    refine body.out A rm ρ' _ R₄ F₄ _ _ fun f Fl ρ₅ h₅ t₅ μ₅ σ₅ pf fr ev₅ R₅ F₅ => ?_
    have e45 := ev₄'.trans ev₅
    have e5 := f₃.1.trans e45
    have st₅ : St (i + 1) h₅ := ok.turns.frame _ _ _ st₃ fun b hb o e => e45.keep b o e (fun n hw hn q => by
      rcases ok.foot b hb with z | ⟨⟨ob, vs, m, eb, db⟩, hu⟩
      · exact hI' (.inl ⟨n, hn, q.trans z⟩)
      · by_cases z : σ n = .free
        · exact ex_none eb (f₃.1.new n z hn) q.symm
        · exact hU n (hu n z ((f₃.1.dom n z).1 ▸ q)) hw) fun q => by
      rcases ok.foot b hb with z | ⟨⟨ob, vs, m, eb, db⟩, hu⟩
      · exact al.2.1 (z ▸ q)
      · exact (F₀.own b q).2 ob vs m eb db
    have un₅ : ¬ Tracked ρ₅ σ₅ I := by
      obtain ⟨o, e, _⟩ := ok.stands _ _ st₃
      exact e45.untracked e hI'
    have again : J (i + 1) μ₅ σ₅ → ∃ m, m < ls.length - i ∧ ForAt w H0 env W ls.length I St J ρ σ h₀ s m { s with heap := h₅, toks := t₅ } := fun hj =>
      ⟨ls.length - (i + 1), by clear e5 e45; omega, .mk hlt hj e5 R₅ F₅ st₅ un₅⟩
    have k₀' : Evo W (Own env) ρ σ s.heap ρ₅ σ₅ h₅ := (k₀.evo ..).trans e5
    clear st₅ un₅ e5 e45 ev₅
    cases fr with
    | next => exact again pf.out
    | cont => exact again pf.out
    | brk => exact hq .next .next ρ₅ h₅ t₅ μ₅ σ₅ pf.out .next k₀' R₅ F₅
    | ret r => exact hq _ _ ρ₅ h₅ t₅ μ₅ σ₅ pf.out (.ret r) k₀' R₅ F₅
  · obtain rfl : i = ls.length := Nat.le_antisymm hi (Nat.le_of_not_lt hlt)
    refine ok.turns.done _ _ _ st' fun h₂ t₂ hk₂ => ?_
    have f₂ := fin hk₂
    exact wpAny_execs_nil (hq .next .next ρ' h₂ t₂ μ' σ' (hend _ _ hJ) .next ((k₀.evo ..).trans f₂.1) f₂.2.1 f₂.2.2)
end
end
section
open PySem PySem.W PyProof.Rows
set_option maxRecDepth 100000
section
variable {w : World} {H0 : Heap} {k : Nat} {env : Env} {μ : Vars} {σ : Store} {ρ : Place} {h h' : Heap} {W : Nat → Prop}
-- a list that is tracked changes: values tell the same
section
variable {D : Addr} (hD : Tracked ρ σ D) (hl : ∃ vs, h.IsList D vs) (hk : ∀ b o, b ≠ D → h.get? b = some o → h'.get? b = some o)
include hD hl hk
theorem but_carry : Carry ρ σ h ρ σ h' where
  tup := fun ⟨o, e, c, r⟩ => ⟨o, hk _ o (fun q => by
    obtain ⟨_, o', e', c', _⟩ := hl
    rw [q] at e; rw [same_obj e e', c'] at c; exact absurd c (by simp)) e, c, r⟩
  lst := fun ⟨o, e, r⟩ u => ⟨⟨o, hk _ o (fun q => u (q ▸ hD)) e, r⟩, u⟩
  loc := fun u => ⟨rfl, u⟩
theorem VRel.but {v : AV} {V : Value} (r : VRel ρ σ h v V) : VRel ρ σ h' v V := r.via (but_carry hD hl hk)
theorem VRels.but {v : List AV} {V : List Value} (r : VRels ρ σ h v V) : VRels ρ σ h' v V := r.via (but_carry hD hl hk)
theorem Fra.but (F : Fra w H0 env μ ρ σ h) : Fra w H0 env μ ρ σ h' := F.via (but_carry hD hl hk) (fun b o q e => hk b o (fun z => (F.own b q).1 (z ▸ hD)) e) fun b o q _ => (F.own b q).1
end
/-- the bar, D besides -/
noncomputable def Place.also (ρ : Place) (D : Addr) : Place := ⟨ρ.at, fun b => ρ.bar b ∨ b = D⟩
theorem also_tr {D b : Addr} (h : Tracked ρ σ b) : Tracked (ρ.also D) σ b := h.elim .inl fun x => .inr (.inl x)
theorem VRel.less {D : Addr} {v : AV} {V : Value} (r : VRel (ρ.also D) σ h v V) : VRel ρ σ h v V := r.via ⟨fun t => t, fun t u => ⟨t, fun z => u (also_tr z)⟩, fun u => ⟨rfl, u⟩⟩
theorem VRels.less {D : Addr} {v : List AV} {V : List Value} (r : VRels (ρ.also D) σ h v V) : VRels ρ σ h v V := r.via ⟨fun t => t, fun t u => ⟨t, fun z => u (also_tr z)⟩, fun u => ⟨rfl, u⟩⟩
theorem also_un {D a : Addr} {o : Obj} {h₀ : Heap} (hD : h₀.get? D = none) (e : h₀.get? a = some o) (u : ¬ Tracked ρ σ a) : ¬ Tracked (ρ.also D) σ a := fun z => z.elim (fun z => u (.inl z)) fun z => z.elim (fun z => u (.inr z)) fun z => ex_none e hD z
theorem more_carry {D : Addr} {h₀ : Heap} (hD : h₀.get? D = none) : Carry ρ σ h₀ (ρ.also D) σ h₀ := ⟨fun t => t, fun t u => ⟨t, by obtain ⟨o, e, _⟩ := t; exact also_un hD e u⟩, fun u => ⟨rfl, u⟩⟩
theorem VRel.more {D : Addr} {h₀ : Heap} (hD : h₀.get? D = Option.none) {v : AV} {V : Value} (r : VRel ρ σ h₀ v V) : VRel (ρ.also D) σ h₀ v V := r.via (more_carry hD)
theorem VRels.more {D : Addr} {h₀ : Heap} (hD : h₀.get? D = Option.none) {v : List AV} {V : List Value} (r : VRels ρ σ h₀ v V) : VRels (ρ.also D) σ h₀ v V := r.via (more_carry hD)
theorem Rel.none_top (R : Rel w H0 ρ σ h) {a : Addr} (e : h.get? a = none) : H0.get? a = none := by
  exact Kept.none R.top e
theorem Rel.fresh' (R : Rel w H0 ρ σ h) {a : Addr} (e : h.get? a = none) : ¬ Tracked ρ σ a := by
  rintro (⟨n, hn, rfl⟩ | hb)
  · obtain ⟨o, q⟩ := R.there hn
    exact ex_none' q e
  · obtain ⟨⟨_, o, q, _⟩, _⟩ := R.bars a hb
    exact ex_none' q e
/-- a list that is being built is barred -/
theorem Rel.more (R : Rel w H0 ρ σ h) {D : Addr} (hD : h.get? D = none) (hk : Kept h h') (hl : ∃ vs, h'.IsList D vs) : Rel w H0 (ρ.also D) σ h' := by
  refine Rel.mk ?_ ?_ ?_ ?_ ?_
  · exact R.top.trans hk
  · exact fun n => ((R.obj n).via (more_carry hD) fun _ e => e).keeps hk
  · exact R.inj
  · exact R.new
  · rintro a (ha | rfl)
    · exact (R.keeps hk).bars a ha
    · exact ⟨hl, R.none_top hD, fun n hn q => by obtain ⟨o, e⟩ := R.there hn; exact ex_none e hD q⟩
theorem Rel.but (R : Rel w H0 ρ σ h) {D : Addr} (hb : ρ.bar D) (hk : ∀ b o, b ≠ D → h.get? b = some o → h'.get? b = some o) (hl' : ∃ vs, h'.IsList D vs) : Rel w H0 ρ σ h' := by
  obtain ⟨hl, hH, hn⟩ := R.bars D hb
  refine ⟨fun b o e => hk b o (fun q => ex_none e hH q) (R.top b o e), fun n => ?_, R.inj, R.new, fun a ha => ?_⟩
  · by_cases z : σ n = .free
    · rw [z]; exact .free
    · exact (R.obj n).via (but_carry (.inr hb) hl hk) fun o e => hk _ o (hn n z) e
  · by_cases q : a = D
    · subst q; exact ⟨hl', hH, hn⟩
    · obtain ⟨⟨vs, o, e, r⟩, z⟩ := R.bars a ha
      exact ⟨⟨vs, o, hk a o q e, r⟩, z⟩
/-- a new list -/
noncomputable def PVn (w : World) (H0 : Heap) (k : Nat) (t : Sem Value) (env : Env) (μ : Vars) (σ : Store) (l : List AV) : Prop := Shut <|
  ∀ A, Rm k A → ∀ ρ s, Rel w H0 ρ σ s.heap → Fra w H0 env μ ρ σ s.heap → ∀ Q E,
    (∀ h' tk a vs, Kept s.heap h' → s.heap.get? a = none → h'.PlainList a vs.toArray → VRels (ρ.also a) σ h' l vs → Q (.ref a) { s with heap := h', toks := tk }) → wpAny (model pw w) A t Q E s
theorem PV.new {t : Sem Value} {l : List AV} (x : PVn w H0 k t env μ σ l) : PV w H0 k t env μ σ (.lst l) := by
  refine ⟨?_⟩; intro A rm ρ s R F Q E hq
  exact x.out A rm ρ s R F Q E fun h' tk a vs kp ha pl v => hq h' tk _ kp (.lst pl.isList (R.fresh' ha) v.less)
theorem PVn.list {elts : List Expr} {pos : Pos} {l : List AV} (x : PVs w H0 k (spliced (backTo pos (starEach elts env))) env μ σ l) (hl : l.length ≤ 1000) : PVn w H0 k (eval (.List elts pos) env) env μ σ l := by
  refine ⟨?_⟩; intro A rm ρ s R F Q E hq
  refine wpAny_List_spliced (x.out A rm ρ s R F _ E fun h₁ t₁ vs k₁ u => ⟨by rw [u.length]; exact Nat.le_trans hl (by decide), ?_⟩)
  have kp := Kept.push h₁ { cls := .type "list", data := .seq vs.toArray }
  have hn := size_none h₁
  exact hq _ t₁ _ _ (k₁.trans kp) (k₁.none hn) ⟨0, Heap.get?_push_size _ rfl⟩ ((u.more hn).keeps kp)
end
end
section
open PySem PySem.W PyProof.Rows
set_option maxRecDepth 100000
section
variable {w : World} {A : Around} {R : Result → Shared → Prop} {s : Shared}
noncomputable def testsOf (ifs : List Expr) (env : Env) : Sem Bool := forIn ifs true fun c r => if r = true then do let ok ← isTrue c env (eval c env); pure (ForInStep.yield ok) else pure (ForInStep.yield r)
theorem comp_loop {elt target iter : Expr} {ifs : List Expr} {scope : Scope} {pos : Pos} {it acc : Value} {env : Env} (I : Nat → Shared → Prop)
    (turn : ∀ n s, I n s → wpAny (model pw w) A (pyNext it) (fun r s₁ => match r with
      | none => R (.ok .next) s₁
      | some v => wpAny (model pw w) A (letOwnedTupleGo target it v) (fun _ s₀ => wpAny (model pw w) A (assign target env v) (fun _ s₂ =>
          wpAny (model pw w) A (testsOf ifs env) (fun ok s₃ =>
            if ok = true then wpAny (model pw w) A (eval elt env) (fun x s₄ =>
              wpAny (model pw w) A (call (.builtin "list.append") [acc, x]) (fun _ s₅ => ∃ m, m < n ∧ I m s₅) (notedBy (model pw w) A env fun e s' => R (.error e) s') s₄) (notedBy (model pw w) A env fun e s' => R (.error e) s') s₃
            else ∃ m, m < n ∧ I m s₃) (notedBy (model pw w) A env fun e s' => R (.error e) s') s₂) (notedBy (model pw w) A env fun e s' => R (.error e) s') s₀) (notedBy (model pw w) A env fun e s' => R (.error e) s') s₁) (notedBy (model pw w) A env fun e s' => R (.error e) s') s)
    (n : Nat) (h : I n s) :
    codeAny (model pw w) A (.compLoop (.ListComp elt [⟨target, iter, ifs, 0⟩] scope pos) 0 it acc env) R s := by
  refine codeAny_loop rfl I (fun n s hI => ?_) n h
  show wpAny _ A ((compTurn (.ListComp elt [⟨target, iter, ifs, 0⟩] scope pos) 0 it acc env).onRaise (fun x => do noteFrame x env; theTreesLotGoes x)) _ _ s
  refine wpAny_noted ?_
  rw [compTurn_list]
  refine wpAny_bind (wpAny_standAt (wpAny_bind (wpAny_mono (turn n s hI) (fun r s₁ h₁ => ?_) fun _ _ h' => h')))
  cases r with
  | none => exact wpAny_pure h₁
  | some v =>
    refine wpAny_bind (wpAny_mono h₁ (fun _ s₀ h₀ => ?_) fun _ _ h' => h')
    refine wpAny_bind (wpAny_mono h₀ (fun _ s₂ h₂ => wpAny_bind (wpAny_mono h₂ (fun ok s₃ h₃ => ?_) fun _ _ h' => h')) fun _ _ h' => h')
    cases ok with
    | false => exact wpAny_pure ⟨rfl, h₃⟩
    | true =>
      exact wpAny_bind (wpAny_bind (wpAny_mono h₃ (fun x s₄ h₄ => wpAny_bind (wpAny_mono h₄ (fun _ s₅ h₅ => wpAny_pure (wpAny_pure ⟨rfl, h₅⟩)) fun _ _ h' => h')) fun _ _ h' => h'))
end
section
variable {w : World} {H0 : Heap} {k : Nat} {env : Env} {μ : Vars} {σ : Store} {ρ : Place} {h h' : Heap} {W : Nat → Prop}
theorem PB.tests_nil : PB w H0 k (testsOf [] env) env μ σ true := ⟨fun A rm ρ s R F Q E hq => wpAny_tests_nil (hq s.heap s.toks (.refl _))⟩
theorem PB.tests_one {c : Expr} {b : Bool} (x : PB w H0 k (isTrue c env (eval c env)) env μ σ b) : PB w H0 k (testsOf [c] env) env μ σ b := ⟨fun A rm ρ s R F Q E hq => wpAny_tests_one (x.out A rm ρ s R F Q E hq)⟩

theorem Fra.more (F : Fra w H0 env μ ρ σ h) {D : Addr} (hD : h.get? D = none) : Fra w H0 env μ (ρ.also D) σ h := F.via (more_carry hD) (fun _ _ _ e => e) fun b o q e => also_un hD e (F.own b q).1
theorem filter_take {α : Type} (p : α → Bool) (l : List α) (i : Nat) (v : α) (h : l[i]? = some v) : (l.take (i + 1)).filter p = (l.take i).filter p ++ (if p v then [v] else []) := take_succ_filter p l i v h
theorem VRels.snoc {ρ : Place} {σ : Store} {h : Heap} {a : List AV} {va : List Value} {b : AV} {vb : Value} (x : VRels ρ σ h a va) (y : VRel ρ σ h b vb) : VRels ρ σ h (a ++ [b]) (va ++ [vb]) := x.ind (P := fun a va => VRels ρ σ h (a ++ [b]) (va ++ [vb])) (.cons y .nil) fun p _ q => .cons p q

/-- the frame of a comprehension -/
theorem comp_frame {scope : Scope} {cl : List (Str × Addr)} {μc : Vars} (F : Fra w H0 env μ ρ σ h) (hkind : scope.kind = .function) (hcl : ∀ p ∈ cl, p ∈ env.cells) (hlen : cl.length ≤ 1)
    (hμ : ∀ q ∈ μc, μ.lookup q.1 = some q.2 ∧ (env.kindOf q.1 = some .cell ∨ env.kindOf q.1 = some .free) ∧ ∃ c, cl.lookup q.1 = some c ∧ env.cells.lookup q.1 = some c) {C : Addr} (hk : Kept h h') (hC : h.get? C = none) (hn : h'.Ns C fun _ => none)
    (hCt : ¬ Tracked ρ σ C) (hCH : H0.get? C = none) (hL : ∀ q ∈ μc, (compEnvC scope cl C env).kindOf q.1 ≠ some .local) : Fra w H0 (compEnvC scope cl C env) μc ρ σ h' := by
  refine ⟨hkind, F.globals, F.builtins, ⟨_, hn, fun x v e l => absurd l (hL _ (mem_of_lookup e))⟩, fun x v e l => ?_, ⟨hCt, hCH⟩, fun x c m => ?_, ?_⟩
  · obtain ⟨e', l', c, a, b⟩ := hμ _ (mem_of_lookup e)
    obtain ⟨c', V, p, q, r⟩ := F.cell x v e' l'
    rw [b] at p; cases p
    exact ⟨c, V, a, q.keeps hk, r.keeps hk⟩
  · obtain ⟨⟨v, a⟩, b⟩ := F.celU x c (hcl _ m)
    exact ⟨⟨v, a.keeps hk⟩, b⟩
  · show cl.Pairwise _
    cases cl with
    | nil => exact .nil
    | cons x r =>
      cases List.length_eq_zero_iff.mp (Nat.le_zero.mp (Nat.le_of_succ_le_succ hlen))
      exact List.pairwise_singleton ..

/-- what stands besides the list that is built and the frame's names -/
noncomputable def KeepsBut (D C : Addr) (h h' : Heap) : Prop := ∀ b o, b ≠ D → b ≠ C → h.get? b = some o → h'.get? b = some o
theorem KeepsBut.kept {D C : Addr} (k : KeepsBut D C h h') (d : h.get? D = none) (c : h.get? C = none) : Kept h h' := fun b o e => k b o (fun q => ex_none e d q) (fun q => ex_none e c q) e
/-- where the building of a list stands -/
structure CompSt (w : World) (H0 : Heap) (cenv : Env) (μc : Vars) (ρ : Place) (σ : Store) (D : Addr) (h₀ : Heap) (l : List AV) (h : Heap) (ys : List Value) : Prop where
  pl : h.PlainList D ys.toArray
  vr : VRels ρ σ h l ys
  R : Rel w H0 ρ σ h
  F : Fra w H0 cenv μc ρ σ h
  kp : KeepsBut D cenv.locals h₀ h
inductive CompAt (w : World) (H0 : Heap) (cenv : Env) (μc : Vars) (ρ : Place) (σ : Store) (D : Addr) (n : Nat) (acc : Nat → List AV) (St : Nat → Heap → Prop) (h₀ : Heap) (s : Shared) : Nat → Shared → Prop where
  | mk {i : Nat} {h : Heap} {tk : Tok} {ys : List Value} (hi : i ≤ n) (st : St i h) (c : CompSt w H0 cenv μc ρ σ D h₀ (acc i) h ys) : CompAt w H0 cenv μc ρ σ D n acc St h₀ s (n - i) { s with heap := h, toks := tk }
/-- what a loop's iterator is to the list that is built -/
structure CompI (H0 : Heap) (cenv : Env) (ρ : Place) (σ : Store) (D I : Addr) (fp : List Addr) : Prop where
  top : H0.get? I = none
  un : ¬ Tracked ρ σ I
  own : ∀ b, Own cenv b → b ≠ I
  ne : D ≠ I
  bar : ρ.bar D
  loc : D ≠ cenv.locals
  foot : ∀ b ∈ fp, b ≠ D ∧ b ≠ cenv.locals
section
variable {cenv : Env} {μc : Vars} {D I : Addr} {fp : List Addr} {h₀ h'' : Heap} {l : List AV} {ys : List Value}
theorem CompSt.touch (c : CompSt w H0 cenv μc ρ σ D h₀ l h ys) (ci : CompI H0 cenv ρ σ D I fp) (fr : h₀.get? I = none) (hd : ∃ o, h.get? I = some o ∧ ∀ vs n, o.data ≠ .seq vs n) (hk : ∀ b o, b ∉ [I] → h.get? b = some o → h''.get? b = some o) : CompSt w H0 cenv μc ρ σ D h₀ l h'' ys := by
  have hk' : ∀ b o, b ≠ I → h.get? b = some o → h''.get? b = some o := fun b o q e => hk b o (fun z => q (List.mem_singleton.mp z)) e
  have t := _root_.Mine.touch c.R ci.un ci.top hd hk'
  exact ⟨c.pl.at fun o e => hk' D o ci.ne e, c.vr.evw c.R (t.2.1 fun _ => False) t.1, t.2.2, c.F.evw c.R (t.2.1 fun _ => False) t.1 ci.own, fun b o q1 q2 e => hk' b o (fun z => ex_none e fr z) (c.kp b o q1 q2 e)⟩
theorem CompSt.append (c : CompSt w H0 cenv μc ρ σ D h₀ l h ys) (bar : ρ.bar D) {s : Shared} (k₁ : Kept h s.heap) {v : AV} {V : Value} (rV : VRel ρ σ s.heap v V) (hl : l.length ≤ 100000) {A : Around} {P : Shared → Prop} {N : Value → Shared → Prop}
    (hp : ∀ h₂ ys', CompSt w H0 cenv μc ρ σ D h₀ (l ++ [v]) h₂ ys' → P { s with heap := h₂ }) : wpAny (model pw w) A (call (.builtin "list.append") [.ref D, V]) (fun _ s' => P s') N s := by
  have pl := c.pl.at fun o e => k₁ D o e
  refine wpAny_list_append_plain (hsz := by rw [List.size_toArray, c.vr.length]; exact Nat.le_trans hl (by decide)) pl fun h₂ pl₂ sb => ?_
  have ld : ∃ vs, s.heap.IsList D vs := ⟨_, pl.isList⟩
  have but : ∀ b o, b ≠ D → s.heap.get? b = some o → h₂.get? b = some o := fun b o q e => sb.extBut b o q e
  exact hp h₂ (ys ++ [V]) ⟨by simpa using pl₂, ((c.vr.keeps k₁).snoc rV).but (.inr bar) ld but, (c.R.keeps k₁).but bar but ⟨_, pl₂.isList⟩, (c.F.keeps k₁).but (.inr bar) ld but, fun b o q1 q2 e => but b o q1 (k₁ b o (c.kp b o q1 q2 e))⟩
/-- the turns of a loop that builds a list -/
theorem comp_turns {A : Around} {t : Expr} {ρ₀ : Place} {ls : List AV} {U : Nat → Prop} {Pt Md : Nat → Value → Heap → Prop} {St : Nat → Heap → Prop} {acc : Nat → List AV} (ok : ItOk w A t ρ₀ σ h₀ ls U I fp Pt Md St) (ci : CompI H0 cenv ρ σ D I fp) (rm : Rm k A) {s : Shared}
    (item : ∀ a v h', VRel ρ₀ σ h₀ a v → KeepsBut D cenv.locals h₀ h' → VRel ρ σ h' a v) {B : (Shared → Prop) → Shared → Prop} {N : Value → Shared → Prop} {R' : Result → Shared → Prop}
    (step : ∀ i a, ls[i]? = some a → ∃ μ', BT w H0 k cenv t a μc μ' σ ∧ ∀ h tk ys, CompSt w H0 cenv μ' ρ σ D h (acc i) h ys → ∀ P : Shared → Prop, (∀ h' tk' ys', CompSt w H0 cenv μc ρ σ D h (acc (i + 1)) h' ys' → P { s with heap := h', toks := tk' }) → B P { s with heap := h, toks := tk })
    (done : ∀ h' tk ys, CompSt w H0 cenv μc ρ σ D h₀ (acc ls.length) h' ys → R' (.ok .next) { s with heap := h', toks := tk }) :
    ∀ n s', CompAt w H0 cenv μc ρ σ D ls.length acc St h₀ s n s' → wpAny (model pw w) A (pyNext (.ref I)) (fun r s₁ => match r with
      | none => R' (.ok .next) s₁
      | some v => wpAny (model pw w) A (letOwnedTupleGo t (.ref I) v) (fun _ s₀ => wpAny (model pw w) A (assign t cenv v) (fun _ s₂ => B (fun s' => ∃ m, m < n ∧ CompAt w H0 cenv μc ρ σ D ls.length acc St h₀ s m s') s₂) N s₀) N s₁) N s' := by
  rintro n s' ⟨hi, st, c⟩
  rename_i i h' tk ys
  by_cases hlt : i < ls.length
  · refine ok.turns.item i _ _ _ hlt st fun v h₃ t₃ md hk₃ => ok.turns.go i v _ _ _ md fun h₄ hp st₄ hk₄ => ?_
    have c₄ := c.touch ci ok.fresh (ok.stands _ _ st) (fun b o q e => hk₄ b o q (hk₃ b o q e))
    clear hk₃ hk₄ c st md done
    obtain ⟨a, ha, ra⟩ := ok.item i v _ hp
    obtain ⟨μ', bt, go⟩ := step i a ha
    refine bt.out A rm _ _ _ c₄.R c₄.F (item a v h₄ ra c₄.kp) _ _ fun h₅ t₅ ev₅ R₅ F₅ => ?_
    have keep₅ : ∀ b o, b ≠ cenv.locals → h₄.get? b = some o → h₅.get? b = some o := fun b o q e => ev₅.keep b o e (fun _ z => z.elim) q
    refine go h₅ t₅ ys ⟨c₄.pl.at fun o e => keep₅ D o ci.loc e, c₄.vr.evo c₄.R ev₅ c₄.F.ownL, R₅, F₅, fun _ _ _ _ e => e⟩ _ fun h₆ t₆ ys' c₆ => ?_
    exact ⟨ls.length - (i + 1), Nat.sub_lt_sub_left hlt (Nat.lt_succ_self i), .mk hlt (ok.turns.frame _ _ _ st₄ fun b hb o e => c₆.kp b o (ci.foot b hb).1 (ci.foot b hb).2 (keep₅ b o (ci.foot b hb).2 e))
      ⟨c₆.pl, c₆.vr, c₆.R, c₆.F, fun b o q1 q2 e => c₆.kp b o q1 q2 (keep₅ b o q2 (c₄.kp b o q1 q2 e))⟩⟩
  · obtain rfl : i = ls.length := Nat.le_antisymm hi (Nat.le_of_not_lt hlt)
    exact ok.turns.done _ _ _ st fun h₃ t₃ hk₃ => done h₃ t₃ ys (c.touch ci ok.fresh (ok.stands _ _ st) hk₃)
end
/-- what a comprehension starts from -/
structure CompGo (w : World) (H0 : Heap) (k : Nat) (A : Around) (env : Env) (scope : Scope) (cl : List (Str × Addr)) (μc : Vars) (ρ : Place) (σ : Store) (target : Expr) (ls : List AV) (U : Nat → Prop) (h : Heap) (I : Addr) (fp : List Addr) (Pt Md : Nat → Value → Heap → Prop) (St : Nat → Heap → Prop) (h₀ h₂ : Heap) (D C : Addr) : Prop where
  ok : ItOk w A target ρ σ h₀ ls U I fp Pt Md St
  k₀ : Kept h h₀
  d : h₀.get? D = none
  c : h₀.get? C = none
  un : ¬ Tracked (ρ.also D) σ C
  ci : CompI H0 (compEnvC scope cl C env) (ρ.also D) σ D I fp
  st : St 0 h₂
  at0 : CompSt w H0 (compEnvC scope cl C env) μc (ρ.also D) σ D h₀ [] h₂ []
theorem comp_setup (use : Option (Value → Sem Unit)) {pos' : Pos} {elt target iter : Expr} {ifs : List Expr} {rest : List Comprehension} {scope : Scope} {pos : Pos} {ls : List AV} {U : Nat → Prop} (cl : List (Str × Addr)) (μc : Vars) (it : ItE w H0 k iter env μ σ ls target U)
    (hclos : closureFor scope env = pure cl) (hcl : ∀ p ∈ cl, p ∈ env.cells) (hlen : cl.length ≤ 1)
    (hμ : ∀ q ∈ μc, μ.lookup q.1 = some q.2 ∧ (env.kindOf q.1 = some .cell ∨ env.kindOf q.1 = some .free) ∧ ∃ c, cl.lookup q.1 = some c ∧ env.cells.lookup q.1 = some c)
    (hL : ∀ C, ∀ q ∈ μc, (compEnvC scope cl C env).kindOf q.1 ≠ some .local)
    (hcell : (scope.names.all fun y => y.2 != .cell) = true) (hkind : scope.kind = .function) (hnames : ∀ y ∈ scope.names, y.2 = .local → scope.names.lookup y.1 = some .local)
    {A : Around} (rm : Rm k A) {s : Shared} (R : Rel w H0 ρ σ s.heap) (F : Fra w H0 env μ ρ σ s.heap) {Q E : Value → Shared → Prop}
    (go : ∀ I fp Pt Md St h₀ h₂ D C tk, CompGo w H0 k A env scope cl μc ρ σ target ls U s.heap I fp Pt Md St h₀ h₂ D C →
      codeAny (model pw w) A (.compLoop (.ListComp elt (⟨target, iter, ifs, 0⟩ :: rest) scope pos) 0 (.ref I) (.ref D) (compEnvC scope cl C env)) (compPost (model pw w) A E use Q (.ref D) C) { s with heap := h₂, toks := tk }) :
    wpAny (model pw w) A (comprehension (.ListComp elt (⟨target, iter, ifs, 0⟩ :: rest) scope pos) scope env pos' (newList []) false (eval iter env) use) Q E s := by
  refine wpAny_comprehension_free (use := use) rfl it.out.1 hclos hkind hnames (it.out.2 A rm ρ s R F _ E fun I fp Pt Md St h₀ h₁ t₁ k₀ k₁ ok st => ?_)
  refine wpAny_newObj_type (wpAny_newFunctionEnv (fun x hx => by simpa using List.all_eq_true.mp hcell x hx) (fun y hy => absurd hy List.not_mem_nil) (fun h₂ hns₂ hsb₂ => ?_) hkind)
  dsimp only at hns₂ hsb₂ ⊢
  have R₀ := R.keeps k₀
  have F₀ := F.keeps k₀
  have key : ∀ D C, D = h₁.objs.size → C = (h₁.push { cls := .type "list", dict := none, data := .seq ([] : List Value).toArray }).objs.size → CompGo w H0 k A env scope cl μc ρ σ target ls U s.heap I fp Pt Md St h₀ h₂ D C := by
    intro D C hDd hCc
    rw [← hCc] at hns₂ hsb₂
    have hC : C = D + 1 := by rw [hCc, hDd]; exact Heap.size_push ..
    have hD1 : h₁.get? D = none := hDd ▸ size_none h₁
    have hC1 : h₁.get? C = none := by
      cases e : h₁.get? C with
      | none => rfl
      | some o => exact absurd (Heap.lt_size e) (Nat.not_lt.mpr (by rw [hC, hDd]; exact Nat.le_succ _))
    have hD0 := k₁.none hD1
    have hC0 := k₁.none hC1
    have hDC : D ≠ C := by rw [hC]; exact Nat.ne_of_lt (Nat.lt_succ_self _)
    have k₂' : Kept (h₁.push { cls := .type "list", dict := none, data := .seq ([] : List Value).toArray }) h₂ := fun b o e => hsb₂.extBut b o (fun q => by rw [q, hCc] at e; exact ex_none' e (size_none _)) (Heap.get?_push_of_some _ e)
    have k₂ : Kept h₁ h₂ := (Kept.push _ _).trans k₂'
    have lD : h₂.PlainList D ([] : List Value).toArray := ⟨0, k₂' _ _ (hDd ▸ Heap.get?_push_size _ rfl)⟩
    obtain ⟨oI, eI, dI⟩ := ok.stands _ _ st
    have hIC : I ≠ C := fun q => ex_none eI hC1 q
    have hID : I ≠ D := fun q => ex_none eI hD1 q
    have un : ∀ a, h₀.get? a = none → a ≠ D → ¬ Tracked (ρ.also D) σ a := fun a e ne z => by
      rcases z with z | z | z
      · exact R₀.fresh' e (.inl z)
      · exact R₀.fresh' e (.inr z)
      · exact ne z
    refine ⟨ok, k₀, hD0, hC0, un C hC0 hDC.symm, ⟨R₀.none_top ok.fresh, un I ok.fresh hID, ?_, Ne.symm hID, .inr rfl, hDC, fun b hb => ?_⟩, ok.turns.frame _ _ _ st fun b _ o e => k₂ b o e,
      lD, .nil, R₀.more hD0 (k₁.trans k₂) ⟨_, lD.isList⟩, comp_frame (F₀.more hD0) hkind hcl hlen hμ (k₁.trans k₂) hC0 (by simpa using hns₂) (un C hC0 hDC.symm) (R₀.none_top hC0) (hL C), fun b o _ _ e => k₂ b o (k₁ b o e)⟩
    · rintro b (e | ⟨x, m⟩) q
      · exact hIC (q.symm.trans e)
      · obtain ⟨⟨_, o, z, _⟩, _⟩ := F₀.celU x b (hcl _ m)
        exact ex_none z ok.fresh q
    · rcases ok.foot b hb with z | ⟨⟨ob, vs, m, eb, db⟩, hu⟩
      · exact z ▸ ⟨hID, hIC⟩
      · exact ⟨fun q => ex_none eb hD0 q, fun q => ex_none eb hC0 q⟩
  have g := key _ _ rfl rfl
  have loop := fun tk => go I fp Pt Md St h₀ h₂ _ _ tk g
  exact codeAny_compStart_list (loop _) (ok.self _ _ _ g.st (loop _))
theorem comp_core {α : Type} (use : Option (Value → Sem Unit)) {pos' : Pos} {elt target iter : Expr} {ifs : List Expr} {scope : Scope} {pos : Pos} {es : List α} {f : α → AV} (p : α → Bool) (g : α → AV) {U : Nat → Prop} (cl : List (Str × Addr)) (μc : Vars) (it : ItE w H0 k iter env μ σ (es.map f) target U)
    (hclos : closureFor scope env = pure cl) (hcl : ∀ p ∈ cl, p ∈ env.cells) (hlen : cl.length ≤ 1)
    (hμ : ∀ q ∈ μc, μ.lookup q.1 = some q.2 ∧ (env.kindOf q.1 = some .cell ∨ env.kindOf q.1 = some .free) ∧ ∃ c, cl.lookup q.1 = some c ∧ env.cells.lookup q.1 = some c)
    (hL : ∀ C, ∀ q ∈ μc, (compEnvC scope cl C env).kindOf q.1 ≠ some .local)
    (hcell : (scope.names.all fun y => y.2 != .cell) = true) (hkind : scope.kind = .function) (hnames : ∀ y ∈ scope.names, y.2 = .local → scope.names.lookup y.1 = some .local)
    (step : ∀ C e, e ∈ es → ∃ μ', BT w H0 k (compEnvC scope cl C env) target (f e) μc μ' σ ∧ (∀ q ∈ μc, μ'.lookup q.1 = some q.2) ∧ PB w H0 k (testsOf ifs (compEnvC scope cl C env)) (compEnvC scope cl C env) μ' σ (p e) ∧
      (p e = true → PV w H0 k (eval elt (compEnvC scope cl C env)) (compEnvC scope cl C env) μ' σ (g e))) (hl : es.length ≤ 1000) {A : Around} (rm : Rm k A) {s : Shared} (R : Rel w H0 ρ σ s.heap) (F : Fra w H0 env μ ρ σ s.heap) {Q E : Value → Shared → Prop}
    (hq : ∀ h₃ t₃ D C ys, Kept s.heap h₃ → s.heap.get? D = none → s.heap.get? C = none → D ≠ C → h₃.PlainList D (List.toArray ys) → VRels (ρ.also D) σ h₃ ((es.filter p).map g) ys → Rel w H0 (ρ.also D) σ h₃ → ¬ Tracked (ρ.also D) σ C → (∃ m, h₃.Ns C m) →
      compPost (model pw w) A E use Q (.ref D) C (.ok .next) { s with heap := h₃, toks := t₃ }) :
    wpAny (model pw w) A (comprehension (.ListComp elt [⟨target, iter, ifs, 0⟩] scope pos) scope env pos' (newList []) false (eval iter env) use) Q E s := by
  refine comp_setup use cl μc it hclos hcl hlen hμ hL hcell hkind hnames rm R F fun I fp Pt Md St h₀ h₂ D C tk G => ?_
  refine comp_loop (CompAt w H0 (compEnvC scope cl C env) μc (ρ.also D) σ D (es.map f).length (fun i => ((es.take i).filter p).map g) St h₀ s) ?_ ((es.map f).length - 0) (.mk (Nat.zero_le _) G.st G.at0)
  refine comp_turns G.ok G.ci rm (fun a v h' r kp => (r.more G.d).keeps (kp.kept G.d G.c)) (B := fun P s₂ => wpAny (model pw w) A (testsOf ifs (compEnvC scope cl C env)) (fun ok s₃ => if ok = true then wpAny (model pw w) A (eval elt (compEnvC scope cl C env)) (fun x s₄ =>
      wpAny (model pw w) A (call (.builtin "list.append") [.ref D, x]) (fun _ s₅ => P s₅) (notedBy (model pw w) A (compEnvC scope cl C env) fun e s' => compPost (model pw w) A E use Q (.ref D) C (.error e) s') s₄) (notedBy (model pw w) A (compEnvC scope cl C env) fun e s' => compPost (model pw w) A E use Q (.ref D) C (.error e) s') s₃ else P s₃)
      (notedBy (model pw w) A (compEnvC scope cl C env) fun e s' => compPost (model pw w) A E use Q (.ref D) C (.error e) s') s₂) (fun i a ha => ?_) fun h' tk ys c => ?_
  · obtain ⟨e, he, rfl⟩ := Option.map_eq_some_iff.mp ((List.getElem?_map ..).symm.trans ha)
    obtain ⟨μ', bt, hsub, tests, elts⟩ := step C e (List.mem_of_getElem? he)
    refine ⟨μ', bt, fun h tk ys c P hp => tests.out A rm _ _ c.R c.F _ _ fun h₆ t₆ k₆ => ?_⟩
    have wk : ∀ x v, μc.lookup x = some v → μ'.lookup x = some v := fun x v q => hsub _ (mem_of_lookup q)
    have tk6 := congrArg (List.map g) (filter_take p es i e he)
    cases hpe : p e with
    | false =>
      rw [hpe, if_neg Bool.false_ne_true, List.append_nil] at tk6
      rw [if_neg Bool.false_ne_true]
      exact hp h₆ t₆ ys ⟨c.pl.at fun o e => k₆ D o e, tk6 ▸ c.vr.keeps k₆, c.R.keeps k₆, (c.F.keeps k₆).weaken wk, fun b o _ _ e => k₆ b o e⟩
    | true =>
      rw [hpe, if_pos rfl, List.map_append] at tk6
      rw [if_pos rfl]
      refine (elts hpe).out A rm _ _ (c.R.keeps k₆) (c.F.keeps k₆) _ _ fun h₇ t₇ V k₇ rV => ?_
      refine c.append G.ci.bar (k₆.trans k₇) rV ?_ fun h₈ ys' c₈ => hp h₈ t₇ ys' ⟨c₈.pl, tk6 ▸ c₈.vr, c₈.R, c₈.F.weaken wk, c₈.kp⟩
      rw [List.length_map]
      exact Nat.le_trans (List.length_filter_le _ _) (Nat.le_trans (List.length_take_le' ..) (Nat.le_trans hl (by decide)))
  · have vr := c.vr
    rw [List.length_map, List.take_length] at vr
    obtain ⟨m, hn, _⟩ := c.F.ns
    exact hq h' tk D C ys (G.k₀.trans (c.kp.kept G.d G.c)) (G.k₀.none G.d) (G.k₀.none G.c) G.ci.loc c.pl vr c.R G.un ⟨m, hn⟩
theorem compPost_done {A : Around} {E Q : Value → Shared → Prop} {s : Shared} {h₃ : Heap} {tk : Tok} {D C : Addr} {l : List AV} {ys : List Value} (un : ¬ Tracked (ρ.also D) σ C) (top : H0.get? C = none) (hC : s.heap.get? C = none) (k₃ : Kept s.heap h₃) (hDC : D ≠ C) (pl : h₃.PlainList D ys.toArray) (vr : VRels (ρ.also D) σ h₃ l ys)
    (R : Rel w H0 (ρ.also D) σ h₃) (hn : ∃ m, h₃.Ns C m) (q : ∀ h₄ ys, Kept s.heap h₄ → h₄.PlainList D (List.toArray ys) → VRels (ρ.also D) σ h₄ l ys → Q (.ref D) { s with heap := h₄, toks := tk }) : compPost (model pw w) A E none Q (.ref D) C (.ok .next) { s with heap := h₃, toks := tk } := by
  obtain ⟨m, hn⟩ := hn
  refine ⟨m, hn, fun h₄ sb₄ => ?_⟩
  have hC3 : ∃ o, h₃.get? C = some o ∧ ∀ vs n, o.data ≠ .seq vs n := by
    obtain ⟨o, _, _, e, d, _⟩ := hn
    exact ⟨o, e, fun vs n q => by rw [d] at q; cases q⟩
  have keep₄ : ∀ b o, b ≠ C → h₃.get? b = some o → h₄.get? b = some o := fun b o q e => sb₄.extBut b o q e
  have t := touch R un top hC3 keep₄
  exact q h₄ ys (fun b o e => keep₄ b o (fun z => ex_none e hC z) (k₃ b o e)) (pl.at fun o e => keep₄ D o hDC e) (vr.evw R (t.2.1 fun _ => False) t.1)
theorem PVn.comp {α : Type} {elt target iter : Expr} {ifs : List Expr} {scope : Scope} {pos : Pos} {es : List α} {f : α → AV} (p : α → Bool) (g : α → AV) {U : Nat → Prop} (cl : List (Str × Addr)) (μc : Vars) (it : ItE w H0 k iter env μ σ (es.map f) target U)
    (hclos : closureFor scope env = pure cl) (hcl : ∀ p ∈ cl, p ∈ env.cells) (hlen : cl.length ≤ 1)
    (hμ : ∀ q ∈ μc, μ.lookup q.1 = some q.2 ∧ (env.kindOf q.1 = some .cell ∨ env.kindOf q.1 = some .free) ∧ ∃ c, cl.lookup q.1 = some c ∧ env.cells.lookup q.1 = some c)
    (hL : ∀ C, ∀ q ∈ μc, (compEnvC scope cl C env).kindOf q.1 ≠ some .local)
    (hcell : (scope.names.all fun y => y.2 != .cell) = true) (hkind : scope.kind = .function) (hnames : ∀ y ∈ scope.names, y.2 = .local → scope.names.lookup y.1 = some .local)
    (step : ∀ C e, e ∈ es → ∃ μ', BT w H0 k (compEnvC scope cl C env) target (f e) μc μ' σ ∧ (∀ q ∈ μc, μ'.lookup q.1 = some q.2) ∧ PB w H0 k (testsOf ifs (compEnvC scope cl C env)) (compEnvC scope cl C env) μ' σ (p e) ∧
      (p e = true → PV w H0 k (eval elt (compEnvC scope cl C env)) (compEnvC scope cl C env) μ' σ (g e))) (hl : es.length ≤ 1000) :
    PVn w H0 k (eval (.ListComp elt [⟨target, iter, ifs, 0⟩] scope pos) env) env μ σ ((es.filter p).map g) := by
  refine ⟨?_⟩; intro A rm ρ s R F Q E hq
  rw [eval_ListComp]
  refine comp_core none p g cl μc it hclos hcl hlen hμ hL hcell hkind hnames step hl rm R F fun h₃ t₃ D C ys k₃ hD hC hDC lD vr R₃ hCt hn => ?_
  exact compPost_done hCt (R.none_top hC) hC k₃ hDC lD vr R₃ hn fun h₄ ys' k₄ pl₄ vr₄ => hq h₄ t₃ D ys' k₄ hD pl₄ vr₄
end
end
section
open PySem PySem.W PyProof.Rows
set_option maxRecDepth 100000
noncomputable def upd (σ : Store) (n : Nat) (p : Plc) : Store := fun m => if m = n then p else σ m
section
variable {w : World} {H0 : Heap} {k : Nat} {env : Env} {μ : Vars} {σ σ' : Store} {ρ ρ' : Place} {h h' : Heap} {W : Nat → Prop}
theorem ownNone {ρ : Place} {σ : Store} {h : Heap} : OwnOk (fun _ => False) ρ σ h := fun _ q => q.elim
theorem upd_self (σ : Store) (n : Nat) (p : Plc) : upd σ n p n = p := if_pos rfl
theorem upd_ne {σ : Store} {n m : Nat} {p : Plc} (h : m ≠ n) : upd σ n p m = σ m := if_neg h

/-- a place is written -/
theorem put_evo {n : Nat} (hn : σ n ≠ .free) {p : Plc} (hp : p ≠ .free) (hk : ∀ b o, b ≠ ρ.at n → h.get? b = some o → h'.get? b = some o) (he : ∃ o, h'.get? (ρ.at n) = some o) : Evo (fun m => m = n) (fun _ => False) ρ σ h ρ (upd σ n p) h' :=
  ⟨fun b o e u _ => hk b o (fun q => u n rfl hn q.symm) e, fun b o e => by
    by_cases q : b = ρ.at n
    · subst q; exact he
    · exact ⟨o, hk b o q e⟩,
   fun m u => ⟨rfl, by by_cases q : m = n; { subst q; rw [upd_self]; exact hp }; { rw [upd_ne q]; exact u }⟩,
   fun m u => upd_ne u, fun m a b => absurd (show upd σ n p m = .free by rw [upd_ne (fun (q : m = n) => hn (by rw [← q]; exact a))]; exact a) b, rfl⟩
theorem put_rel (R : Rel w H0 ρ σ h) {n : Nat} (hn : σ n ≠ .free) (hi : ∀ l, σ n ≠ .idict l) {p : Plc} (hp : p ≠ .free) (hk : ∀ b o, b ≠ ρ.at n → h.get? b = some o → h'.get? b = some o) (he : ∃ o, h'.get? (ρ.at n) = some o)
    (new : SRel w H0 ρ (upd σ n p) h' (ρ.at n) p) : Rel w H0 ρ (upd σ n p) h' := by
  have ev := put_evo hn hp hk he
  refine ⟨fun b o e => hk b o (fun q => by rw [q, R.new n hn] at e; cases e) (R.top b o e), fun m => ?_, fun a b ha hb q => ?_, fun m hm => ?_, fun a ha => ?_⟩
  · by_cases q : m = n
    · subst q; rw [upd_self]; exact new
    · by_cases z : σ m = .free
      · rw [upd_ne q, z]; exact .free
      · exact SRel.evo R ev ownNone q z fun d l e => by
          by_cases y : d = n
          · subst y; exact absurd e (hi l)
          · rw [upd_ne y]; exact e
  · have up : ∀ m, upd σ n p m ≠ .free → σ m ≠ .free := fun m u => by
      by_cases z : m = n
      · subst z; exact hn
      · rw [upd_ne z] at u; exact u
    exact R.inj a b (up a ha) (up b hb) q
  · by_cases z : m = n
    · subst z; exact R.new _ hn
    · rw [upd_ne z] at hm; exact R.new m hm
  · obtain ⟨⟨vs, o, e, r⟩, q, u⟩ := R.bars a ha
    refine ⟨⟨vs, o, hk a o (fun z => u n hn z.symm) e, r⟩, q, fun m hm => ?_⟩
    by_cases z : m = n
    · subst z; exact u _ hn
    · rw [upd_ne z] at hm; exact u m hm
theorem Evo.wide {X : Addr → Prop} {W' : Nat → Prop} (x : Evo W X ρ σ h ρ' σ' h') (hw : ∀ n, W n → W' n) : Evo W' X ρ σ h ρ' σ' h' := x.mono hw fun _ _ _ q => q

/-- an expression that may change places -/
noncomputable def XV (w : World) (H0 : Heap) (k : Nat) (W : Nat → Prop) (t : Sem Value) (env : Env) (μ : Vars) (σ : Store) (v : AV) (σ' : Store) : Prop := Shut <|
  ∀ A, Rm k A → ∀ ρ s, Rel w H0 ρ σ s.heap → Fra w H0 env μ ρ σ s.heap → ∀ Q E,
    (∀ ρ' h' tk V, Evo W (fun _ => False) ρ σ s.heap ρ' σ' h' → Rel w H0 ρ' σ' h' → Fra w H0 env μ ρ' σ' h' → VRel ρ' σ' h' v V → Q V { s with heap := h', toks := tk }) → wpAny (model pw w) A t Q E s
noncomputable def XB (w : World) (H0 : Heap) (k : Nat) (W : Nat → Prop) (t : Sem Bool) (env : Env) (μ : Vars) (σ : Store) (b : Bool) (σ' : Store) : Prop := Shut <|
  ∀ A, Rm k A → ∀ ρ s, Rel w H0 ρ σ s.heap → Fra w H0 env μ ρ σ s.heap → ∀ Q E,
    (∀ ρ' h' tk, Evo W (fun _ => False) ρ σ s.heap ρ' σ' h' → Rel w H0 ρ' σ' h' → Fra w H0 env μ ρ' σ' h' → Q b { s with heap := h', toks := tk }) → wpAny (model pw w) A t Q E s
theorem PV.eff {t : Sem Value} {v : AV} (x : PV w H0 k t env μ σ v) : XV w H0 k W t env μ σ v σ :=
  ⟨fun A rm ρ s R F Q E hq => x.out A rm ρ s R F Q E fun h' tk V kp r => hq ρ h' tk V (kp.evo ..) (R.keeps kp) (F.keeps kp) r⟩
theorem PB.eff {t : Sem Bool} {b : Bool} (x : PB w H0 k t env μ σ b) : XB w H0 k W t env μ σ b σ :=
  ⟨fun A rm ρ s R F Q E hq => x.out A rm ρ s R F Q E fun h' tk kp => hq ρ h' tk (kp.evo ..) (R.keeps kp) (F.keeps kp)⟩
theorem Fra.call {F0 : Prop} (R : Rel w H0 ρ σ h) (F : Fra w H0 env μ ρ σ h) (x : Evo W (fun _ => False) ρ σ h ρ' σ' h') : Fra w H0 env μ ρ' σ' h' := F.evo R x ownNone fun _ _ q => q
theorem XV.call (T : Tp w H0) {x : Str} {p pos : Pos} {args : List Expr} {kws : List Keyword} {names : List Str} {f : Value} {l ks : List AV} {v : AV} (hf : PV w H0 k (eval (.Name x p) env) env μ σ (.val f)) (kf : KeepOk w f)
    (a : PVs w H0 k (spliced (backTo pos (starEach args env))) env μ σ l) (b : PKs w H0 k pos kws env μ σ ks) (fn : FnE w H0 k W f l (names.zip ks) σ v σ')
    (hn : (backToKw pos (keywordEach kws env)).all (·.1.isSome) = true) (hs : (backTo pos (starEach args env)).any (·.1) = false) (hnm : (backToKw pos (keywordEach kws env)).filterMap (·.1) = names) (hlen : names.length = ks.length) :
    XV w H0 k W (eval (.Call (.Name x p) args kws pos) env) env μ σ v σ' := by
  refine ⟨?_⟩; intro A rm ρ s R F Q E hq
  show wpAny _ A (eval (.Name x p) env >>= fun f => callWith pos f [] (backTo pos (starEach args env)) (backToKw pos (keywordEach kws env))) Q E s
  refine wpAny_bind (hf.out A rm ρ s R F _ E fun h₁ t₁ V k₁ u => ?_)
  cases u
  refine callArgs T kf rm (R.keeps k₁) (F.keeps k₁) a b hn hs hnm fun h₂ t₂ vs kvs k₂ uv ukv => ?_
  have e1 : (names.zip ks).map (·.1) = names := by rw [List.map_fst_zip]; omega
  have e2 : (names.zip ks).map (·.2) = ks := by rw [List.map_snd_zip]; omega
  have R₂ := R.keeps (k₁.trans k₂)
  have F₂ := F.keeps (k₁.trans k₂)
  have := fn.out A rm ρ { s with heap := h₂, toks := t₂ } vs kvs R₂ uv (by rw [e2]; exact ukv) Q E fun ρ' h₃ t₃ V ev R' q =>
    hq ρ' h₃ t₃ V (((k₁.trans k₂).evo ..).trans ev) R' (F₂.call (F0 := True) R₂ ev) q
  rw [e1] at this
  exact this
theorem XV.meth (T : Tp w H0) {o : Expr} {name : Str} {apos pos : Pos} {args : List Expr} {kws : List Keyword} {names : List Str} {f : Value} {a : AV} {l ks : List AV} {v : AV} (ho : PV w H0 k (eval o env) env μ σ a) (m : MethOk w H0 k σ a name f) (kf : KeepOk w f)
    (x : PVs w H0 k (spliced (backTo pos (starEach args env))) env μ σ l) (y : PKs w H0 k pos kws env μ σ ks) (fn : FnE w H0 k W f (a :: l) (names.zip ks) σ v σ')
    (hn : (backToKw pos (keywordEach kws env)).all (·.1.isSome) = true) (hs : (backTo pos (starEach args env)).any (·.1) = false) (hnm : (backToKw pos (keywordEach kws env)).filterMap (·.1) = names) (hlen : names.length = ks.length)
    (hbase : attributeBase o name env (eval o env) = eval o env) (hform : methodCallForm (args.length + kws.length) (backTo pos (starEach args env)) (backToKw pos (keywordEach kws env)) = true) (hline : (apos.endLine == pos.line) = true) :
    XV w H0 k W (eval (.Call (.Attribute o name apos) args kws pos) env) env μ σ v σ' := by
  refine ⟨?_⟩; intro A rm ρ s R F Q E hq
  rw [arm_eval_Call, hbase]
  refine wpAny_bind (ho.out A rm ρ s R F _ E fun h₁ t₁ U k₁ u => ?_)
  refine wpAny_bind (wpAny_standAt ?_)
  have hpos : methodCallPos true o env apos pos = pure pos := by unfold methodCallPos; simp [hline]
  unfold methodCall
  rw [hform]
  refine wpAny_bind (wpAny_holding (m.out A rm ρ _ U (R.keeps k₁) u _ _ _ ?_))
  refine wpAny_bind (wpAny_of_eq hpos ?_)
  refine callArgs T kf rm (R.keeps k₁) (F.keeps k₁) x y hn hs hnm fun h₂ t₂ vs kvs k₂ uv ukv => ?_
  have e1 : (names.zip ks).map (·.1) = names := by rw [List.map_fst_zip]; omega
  have e2 : (names.zip ks).map (·.2) = ks := by rw [List.map_snd_zip]; omega
  have R₂ := R.keeps (k₁.trans k₂)
  have F₂ := F.keeps (k₁.trans k₂)
  have := fn.out A rm ρ { s with heap := h₂, toks := t₂ } (U :: vs) kvs R₂ (.cons (u.keeps k₂) uv) (by rw [e2]; exact ukv) Q E fun ρ' h₃ t₃ V ev R' q =>
    hq ρ' h₃ t₃ V (((k₁.trans k₂).evo ..).trans ev) R' (F₂.call (F0 := True) R₂ ev) q
  rw [e1] at this
  exact this
noncomputable def noRef : AV → Bool
  | .none | .bool _ | .int _ | .str _ | .bytes _ => true
  | _ => false
theorem XT.expr {P : Fl → Vars → Store → Prop} {e : Expr} {pos : Pos} {v : AV} (x : XV w H0 k W (eval e env) env μ σ v σ') (hv : noRef v = true) (hi : interactive env = false) (hs : swapsWith e none pos.line env = pure false) (h : P .next μ σ') : XT w H0 k W env (exec (.Expr e pos) env) μ σ P := by
  refine ⟨?_⟩; intro A rm ρ s R F Q E hq
  refine wpAny_Expr (x.out A rm ρ s R F _ E fun ρ' h₁ t₁ V ev R' F' r => ?_) hi hs
  have := hq .next .next ρ' h₁ t₁ μ σ' h .next (ev.mono (fun _ a => a) fun _ _ _ q => q.elim) R' F'
  cases r <;> first | exact this | cases hv
theorem XT.ifX {P : Fl → Vars → Store → Prop} {test : Expr} {body orelse : List Stmt} {pos : Pos} {c : Bool} (x : XB w H0 k W (isTrue test env (eval test env)) env μ σ c σ') (y : c = true → XT w H0 k W env (execs body env) μ σ' P) (z : c = false → XT w H0 k W env (execs orelse env) μ σ' P) :
    XT w H0 k W env (exec (.If test body orelse pos) env) μ σ P := by
  refine ⟨?_⟩; intro A rm ρ s R F Q E hq
  refine wpAny_If (x.out A rm ρ s R F _ E fun ρ' h₁ t₁ ev R' F' => ?_)
  have go : ∀ {t : Sem Flow}, XT w H0 k W env t μ σ' P → wpAny (model pw w) A t Q E { s with heap := h₁, toks := t₁ } := fun {t} x =>
    x.out A rm ρ' _ R' F' Q E fun f fl ρ'' h'' tk' μ'' σ'' p' fr' ev' R'' F'' => hq f fl ρ'' h'' tk' μ'' σ'' p' fr' ((ev.mono (fun _ a => a) fun _ _ _ q => q.elim).trans ev') R'' F''
  cases c with
  | true => rw [if_pos rfl]; exact go (y rfl)
  | false => rw [if_neg Bool.false_ne_true]; exact go (z rfl)
theorem XB.cmp {l r : Expr} {op : CmpOp} {pos : Pos} {a b : AV} {c : Bool} {whole : Sem Value} (x : XV w H0 k W (eval l env) env μ σ a σ') (y : PV w H0 k (eval r env) env μ σ' b) (z : O2 w H0 k (compareOp op) σ' a b (.bool c))
    (hm : behindInMarks op r = false) : XB w H0 k W (isTrue (.Compare l [op] [r] pos) env whole) env μ σ c σ' := by
  refine ⟨?_⟩; intro A rm ρ s R F Q E hq
  refine wpAny_isTrue_Compare1 (x.out A rm ρ s R F _ E fun ρ' h₁ t₁ U ev R' F' u => y.out A rm ρ' _ R' F' _ E fun h₂ t₂ V k₂ v => ?_) hm
  refine z.out A rm ρ' _ U V (R'.keeps k₂) (u.keeps k₂) v _ E fun h₃ t₃ r k₃ q => ?_
  cases q
  have k₄ := k₂.trans k₃
  exact wpAny_truthy_bool (hq ρ' h₃ t₃ (ev.trans (k₄.evo ..)) (R'.keeps k₄) (F'.keeps k₄))
theorem XB.not {x : Expr} {pos : Pos} {whole : Sem Value} {c : Bool} (y : XB w H0 k W (isTrue x env (eval x env)) env μ σ c σ') : XB w H0 k W (isTrue (.UnaryOp .Not x pos) env whole) env μ σ (!c) σ' := by
  refine ⟨?_⟩; intro A rm ρ s R F Q E hq
  exact isTrue_not (y.out A rm ρ s R F _ E hq)
theorem XB.val {e : Expr} {whole : Sem Value} {c : Bool} (x : XV w H0 k W whole env μ σ (.bool c) σ')
    (he : isTrue e env whole = (do let v ← whole; standAt e.pos; holding [v] (truthy v))) : XB w H0 k W (isTrue e env whole) env μ σ c σ' := by
  refine ⟨?_⟩; intro A rm ρ s R F Q E hq
  refine isTrue_plain (x.out A rm ρ s R F _ E fun ρ' h₁ t₁ U ev R' F' u => ?_) he
  cases u
  exact wpAny_truthy_bool (hq ρ' h₁ t₁ ev R' F')
theorem XB.or_true {x : Expr} {rest : List Expr} {pos : Pos} {whole : Sem Value} (y : XB w H0 k W (isTrue x env (eval x env)) env μ σ true σ') : XB w H0 k W (isTrue (.BoolOp .Or (x :: rest) pos) env whole) env μ σ true σ' := by
  refine ⟨?_⟩; intro A rm ρ s R F Q E hq
  exact isTrue_or (y.out A rm ρ s R F _ E fun ρ' h' tk ev R' F' => by rw [if_pos rfl]; exact hq ρ' h' tk ev R' F')
theorem XB.or_false {x : Expr} {rest : List Expr} {pos : Pos} {whole : Sem Value} {c : Bool} (y : XB w H0 k W (isTrue x env (eval x env)) env μ σ false σ') (z : PB w H0 k (isTrue (.BoolOp .Or rest pos) env whole) env μ σ' c) :
    XB w H0 k W (isTrue (.BoolOp .Or (x :: rest) pos) env whole) env μ σ c σ' := by
  refine ⟨?_⟩; intro A rm ρ s R F Q E hq
  exact isTrue_or (y.out A rm ρ s R F _ E fun ρ' h' tk ev R' F' => by rw [if_neg Bool.false_ne_true]; exact z.out A rm ρ' _ R' F' _ E fun h₂ t₂ k₂ => hq ρ' h₂ t₂ (ev.trans (k₂.evo ..)) (R'.keeps k₂) (F'.keeps k₂))
theorem PB.or_true {x : Expr} {rest : List Expr} {pos : Pos} {whole : Sem Value} (y : PB w H0 k (isTrue x env (eval x env)) env μ σ true) : PB w H0 k (isTrue (.BoolOp .Or (x :: rest) pos) env whole) env μ σ true := by
  refine ⟨?_⟩; intro A rm ρ s R F Q E hq
  exact isTrue_or (y.out A rm ρ s R F _ E fun h' tk kp => by rw [if_pos rfl]; exact hq h' tk kp)
theorem PB.or_false {x : Expr} {rest : List Expr} {pos : Pos} {whole : Sem Value} {c : Bool} (y : PB w H0 k (isTrue x env (eval x env)) env μ σ false) (z : PB w H0 k (isTrue (.BoolOp .Or rest pos) env whole) env μ σ c) :
    PB w H0 k (isTrue (.BoolOp .Or (x :: rest) pos) env whole) env μ σ c := by
  refine ⟨?_⟩; intro A rm ρ s R F Q E hq
  exact isTrue_or (y.out A rm ρ s R F _ E fun h' tk kp => by rw [if_neg Bool.false_ne_true]; exact z.out A rm ρ _ (R.keeps kp) (F.keeps kp) _ E fun h₂ t₂ k₂ => hq h₂ t₂ (kp.trans k₂))
end
end
section
open PySem PySem.W PyProof.Rows
set_option maxRecDepth 100000
section
variable {w : World} {H0 : Heap} {k : Nat} {env : Env} {μ : Vars} {σ σ' : Store} {ρ ρ' : Place} {h h' : Heap} {W : Nat → Prop}

/-- a list at a place is written -/
theorem put_list (R : Rel w H0 ρ σ h) {n : Nat} {l l' : List AV} (e : σ n = .list l) {vs : List Value} (hs : Heap.SameBut (ρ.at n) h h') (pl : h'.PlainList (ρ.at n) vs.toArray) (v : VRels ρ σ h l' vs) :
    Evo (fun m => m = n) (fun _ => False) ρ σ h ρ (upd σ n (.list l')) h' ∧ Rel w H0 ρ (upd σ n (.list l')) h' := by
  have hn : σ n ≠ .free := by rw [e]; intro q; cases q
  have hk : ∀ b o, b ≠ ρ.at n → h.get? b = some o → h'.get? b = some o := fun b o q z => hs.extBut b o q z
  have he : ∃ o, h'.get? (ρ.at n) = some o := by obtain ⟨m, q⟩ := pl; exact ⟨_, q⟩
  have hp : Plc.list l' ≠ .free := by intro q; cases q
  have ev := put_evo (ρ := ρ) hn hp hk he
  exact ⟨ev, put_rel R hn (fun l q => by rw [e] at q; cases q) hp hk he (.list pl (v.evo R ev ownNone))⟩
theorem FnE.append {n : Nat} {l : List AV} {v : AV} (e : σ n = .list l) (hl : l.length ≤ 1000) (hw : W n) (hσ : upd σ n (.list (l ++ [v])) = σ') : FnE w H0 k W (.builtin "list.append") [.loc n, v] [] σ .none σ' := by
  subst hσ
  refine ⟨?_⟩; intro A rm ρ s vs ks R a b Q E hq
  refine a.el2 fun _ _ a c => a.el fun _ => b.el0 ?_
  · obtain ⟨vs, x, y⟩ := R.list e
    · · refine wpAny_list_append_plain (hsz := by rw [List.size_toArray, y.length]; exact Nat.le_trans hl (by decide)) x fun h' pl hs => ?_
        obtain ⟨ev, R'⟩ := put_list R e (l' := l ++ [v]) (vs := vs ++ [_]) hs (by simpa using pl) (y.snoc c)
        exact hq ρ h' s.toks .none (ev.wide fun m q => q ▸ hw) R' .none
theorem meth_append {n : Nat} {l : List AV} (e : σ n = .list l) : MethOk w H0 k σ (.loc n) "append" (.builtin "list.append") := by
  refine MethOk.builtin PySem.F.plainAttrs_list PySem.F.slot_list_append PySem.F.type_list_append fun ρ s U R u => ?_
  refine u.el fun _ => ?_
  obtain ⟨_, x, y⟩ := R.list e
  exact ⟨x.isList.typeIs, fun b q => by cases q; obtain ⟨m, z⟩ := x; exact ⟨_, z, rfl⟩⟩

/-- an item stored -/
noncomputable def SE (w : World) (H0 : Heap) (k : Nat) (W : Nat → Prop) (σ : Store) (a i v : AV) (σ' : Store) : Prop := Shut <|
  ∀ A, Rm k A → ∀ ρ s U I V, Rel w H0 ρ σ s.heap → VRel ρ σ s.heap a U → VRel ρ σ s.heap i I → VRel ρ σ s.heap v V → ∀ Q E,
    (∀ ρ' h' tk, Evo W (fun _ => False) ρ σ s.heap ρ' σ' h' → Rel w H0 ρ' σ' h' → Q () { s with heap := h', toks := tk }) → wpAny (model pw w) A (setItem U I V) Q E s
theorem setItem_plain {A : Around} {E : Value → Shared → Prop} {s : Shared} {l : Addr} {items : Array Value} {k : Int} {t : Tok} {v : Value} {Q : Unit → Shared → Prop} (hl : s.heap.PlainList l items)
    (h0 : 0 ≤ k) (hfit : k < 2 ^ 63) (hn : k < items.size)
    (hQ : ∀ h', h'.PlainList l (items.setIfInBounds k.toNat v) → Heap.SameBut l s.heap h' → Q () { s with heap := h' }) :
    wpAny (model pw w) A (setItem (.ref l) (.int k t) v) Q E s := by
  have hl' := hl.isList
  obtain ⟨n, ho⟩ := hl
  unfold setItem
  refine wpAny_holding ?_
  refine wpAny_bind (wpAny_sequenceKey hl'.typeIs (by decide) ?_)
  refine wpAny_bind (wpAny_callSpecial?_slot (name := Str.ofString "__setitem__") hl'.typeIs slot_list_setitem
    (wpAny_call_entry slot_list_setitem hl'.typeIs entry_list_setitem ?_ (args_list_setitem _ _ _)))
  show wpAny _ _ (Builtin.List.listSubscript? (.int k t) >>= _) _ _ s
  refine wpAny_bind (wpAny_listSubscript_int (fitsIndex_of h0 hfit) ?_)
  clear hfit
  obtain ⟨j, rfl⟩ := Int.eq_ofNat_of_zero_le h0
  have hj : j < items.size := by omega
  have hx' : items[j]? = some items[j] := Array.getElem?_eq_getElem hj
  show wpAny _ _ ((seqItemAt l j >>= fun r => pure (r.map (j, ·))) >>= _) _ _ s
  refine wpAny_bind (wpAny_bind (wpAny_seqItemAt ho rfl (wpAny_pure ?_)))
  rw [hx']
  show wpAny _ _ (setSeqItemAt l j v >>= _) _ _ s
  obtain ⟨m, hm⟩ : ∃ m, Obj.mapSeq (·.setIfInBounds j v) { cls := .type "list", data := .seq items n } = { cls := .type "list", data := .seq (items.setIfInBounds j v) m } := ⟨_, by simp only [Obj.mapSeq]; rfl⟩
  have hfin : (s.heap.update l (Obj.mapSeq (·.setIfInBounds j v))).PlainList l (items.setIfInBounds j v) := ⟨m, by rw [Heap.get?_update_self _ ho (by rw [hm]; rfl), hm]⟩
  refine wpAny_bind (wpAny_setSeqItemAt ho rfl ?_)
  first
    | exact wpAny_bind (wpAny_pure (wpAny_pure ⟨.none, rfl, wpAny_pure (hQ _ hfin (Heap.SameBut.update ..))⟩))
    | exact wpAny_pure ⟨.none, rfl, wpAny_pure (hQ _ hfin (Heap.SameBut.update ..))⟩
theorem VRels.set {ρ : Place} {h : Heap} {l : List AV} {vs : List Value} {v : AV} {V : Value} (i : Nat) (y : VRels ρ σ h l vs) (r : VRel ρ σ h v V) : VRels ρ σ h (l.set i v) (vs.set i V) :=
  y.ind (P := fun l vs => ∀ i, VRels ρ σ h (l.set i v) (vs.set i V)) (fun _ => .nil) (fun x y ih i => by
    cases i with
    | zero => exact .cons r y
    | succ i => exact .cons x (ih i)) i
theorem SE.list {n : Nat} {l : List AV} {i : Int} {v : AV} (e : σ n = .list l) (h0 : 0 ≤ i) (h1 : i < l.length) (hl : l.length ≤ 1000) (hw : W n) (hσ : upd σ n (.list (l.set i.toNat v)) = σ') : SE w H0 k W σ (.loc n) (.int i) v σ' := by
  subst hσ
  refine ⟨?_⟩; intro A rm ρ s U I V R u i' v' Q E hq
  refine u.el fun _ => i'.el fun _ => ?_
  obtain ⟨vs, x, y⟩ := R.list e
  · have hy := y.length
    refine setItem_plain x h0 (by omega) (by rw [List.size_toArray]; omega) fun h' pl hs => ?_
    obtain ⟨ev, R'⟩ := put_list R e (l' := l.set i.toNat v) (vs := vs.set i.toNat V) hs (by simpa using pl) (y.set _ v')
    exact hq ρ h' s.toks (ev.wide fun m q => q ▸ hw) R'
noncomputable def dset (key : Str) (v : AV) (es : List (Str × AV)) : List (Str × AV) := es.map fun p => if p.1 = key then (p.1, v) else p
theorem dset_rel {ρ : Place} {h : Heap} {key : Str} {v : AV} {V : Value} (r : VRel ρ σ h v V) {es : List (Str × AV)} : ∀ {kvs : List (Str × Value)}, kvs.map (·.1) = es.map (·.1) → VRels ρ σ h (es.map (·.2)) (kvs.map (·.2)) →
    (kvs.map fun kv => if kv.1 = key then (kv.1, V) else kv).map (·.1) = (dset key v es).map (·.1) ∧ VRels ρ σ h ((dset key v es).map (·.2)) ((kvs.map fun kv => if kv.1 = key then (kv.1, V) else kv).map (·.2)) := by
  induction es with
  | nil =>
    intro kvs e _
    cases kvs with
    | nil => exact ⟨rfl, .nil⟩
    | cons => cases e
  | cons p es ih =>
    intro kvs e q
    obtain ⟨U, kvs, rfl, e'⟩ := keys_cons e
    have q := q.unc
    have ih := ih e' q.2
    unfold dset at ih ⊢
    rw [List.map_cons, List.map_cons, List.map_cons, List.map_cons, List.map_cons, List.map_cons]
    by_cases hy : p.1 = key
    · rw [if_pos hy, if_pos hy]; exact ⟨congrArg (p.1 :: ·) ih.1, .cons r ih.2⟩
    · rw [if_neg hy, if_neg hy]; exact ⟨congrArg (p.1 :: ·) ih.1, .cons q.1 ih.2⟩
theorem SE.dict {n : Nat} {es : List (Str × AV)} {key : List Nat} {v : AV} (e : σ n = .dict es) (hk : (es.any fun p => p.1 == (⟨key.toArray⟩ : Str)) = true) (hw : W n) (hσ : upd σ n (.dict (dset ⟨key.toArray⟩ v es)) = σ') : SE w H0 k W σ (.loc n) (.str key) v σ' := by
  subst hσ
  refine ⟨?_⟩; intro A rm ρ s U I V R u i' v' Q E hq
  refine u.el fun _ => i'.el fun _ => ?_
  obtain ⟨kvs, x, z, y, q⟩ := R.dict e
  · have hn : σ n ≠ .free := by rw [e]; intro q; cases q
    have hlen : kvs.length = es.length := by have := congrArg List.length z; simpa using this
    refine wpAny_setItem_pairs (knd := strKind pw w) (k := ⟨key.toArray⟩) (by exact beq_self_eq_true (⟨key.toArray⟩ : Str)) x (fun h' pl hs => ?_) (by rw [hlen]; exact Nat.le_trans q (by decide))
    have hk' : (kvs.any fun kv => decide (kv.1 = (⟨key.toArray⟩ : Str))) = true := by
      rw [List.any_eq_true] at hk ⊢
      obtain ⟨p, hp, hq⟩ := hk
      have : p.1 ∈ kvs.map (·.1) := z ▸ List.mem_map.mpr ⟨p, hp, rfl⟩
      obtain ⟨r, hr, er⟩ := List.mem_map.mp this
      exact ⟨r, hr, by rw [er]; simpa using hq⟩
    unfold stored at pl
    rw [if_pos hk'] at pl
    have hkb : ∀ b o, b ≠ ρ.at n → s.heap.get? b = some o → h'.get? b = some o := fun b o q z => hs.extBut b o q z
    have he : ∃ o, h'.get? (ρ.at n) = some o := by obtain ⟨o, _, _, q, _⟩ := pl; exact ⟨o, q⟩
    have hp : Plc.dict (dset ⟨key.toArray⟩ v es) ≠ .free := by intro q; cases q
    have ev := put_evo (ρ := ρ) hn hp hkb he
    obtain ⟨d1, d2⟩ := dset_rel (key := ⟨key.toArray⟩) v' z y
    refine hq ρ h' _ (ev.wide fun m q => q ▸ hw) (put_rel R hn (fun l q => by rw [e] at q; cases q) hp hkb he (.dict pl d1 (d2.evo R ev ownNone) ?_))
    simpa [dset] using q
theorem XT.setsub {P : Fl → Vars → Store → Prop} {o i value : Expr} {p pos : Pos} {a j v : AV} (z : PV w H0 k (eval value env) env μ σ v) (x : PV w H0 k (eval o env) env μ σ a) (y : PV w H0 k (eval i env) env μ σ j) (st : SE w H0 k W σ a j v σ')
    (hs : swapsWith value (some (.Subscript o i p)) pos.line env = pure false) (h : P .next μ σ') : XT w H0 k W env (exec (.Assign [.Subscript o i p] value pos) env) μ σ P := by
  refine ⟨?_⟩; intro A rm ρ s R F Q E hq
  refine wpAny_Assign_Subscript (z.out A rm ρ s R F _ E fun h₁ t₁ V k₁ rv => x.out A rm ρ _ (R.keeps k₁) (F.keeps k₁) _ E fun h₂ t₂ U k₂ ru => y.out A rm ρ _ (R.keeps (k₁.trans k₂)) (F.keeps (k₁.trans k₂)) _ E fun h₃ t₃ I k₃ ri => ?_) hs
  have kk := (k₁.trans k₂).trans k₃
  refine st.out A rm ρ _ U I V (R.keeps kk) (ru.keeps k₃) ri (rv.keeps (k₂.trans k₃)) _ E fun ρ' h₄ t₄ ev R' => ?_
  exact hq .next .next ρ' h₄ t₄ μ σ' h .next ((kk.evo ..).trans (ev.mono (fun _ a => a) fun _ _ _ q => q.elim)) R' ((F.keeps kk).call (F0 := True) (R.keeps kk) ev)
theorem XT.augsub {P : Fl → Vars → Store → Prop} {o i value : Expr} {op : Operator} {p pos : Pos} {a j b c v : AV} (x : PV w H0 k (eval o env) env μ σ a) (y : PV w H0 k (eval i env) env μ σ j) (g : O2 w H0 k getItem σ a j b) (z : PV w H0 k (eval value env) env μ σ c) (q : O2 w H0 k (inplaceOp op) σ b c v) (st : SE w H0 k W σ a j v σ')
    (hi : ∀ ov iv new, augStore i ov iv new = (do holding [new, ov, iv] (setItem ov iv new); release [new, ov, iv] []; pure .next)) (h : P .next μ σ') : XT w H0 k W env (exec (.AugAssign (.Subscript o i p) op value pos) env) μ σ P := by
  refine ⟨?_⟩; intro A rm ρ s R F Q E hq
  refine wpAny_AugAssign_SubscriptAny (x.out A rm ρ s R F _ E fun h₁ t₁ U k₁ ru => y.out A rm ρ _ (R.keeps k₁) (F.keeps k₁) _ E fun h₂ t₂ I k₂ ri => ?_) hi
  have k12 := k₁.trans k₂
  refine g.out A rm ρ _ U I (R.keeps k12) (ru.keeps k₂) ri _ E fun h₃ t₃ B k₃ rb => ?_
  have k13 := k12.trans k₃
  refine z.out A rm ρ _ (R.keeps k13) (F.keeps k13) _ E fun h₄ t₄ C k₄ rc => ?_
  have k14 := k13.trans k₄
  refine q.out A rm ρ _ B C (R.keeps k14) (rb.keeps k₄) rc _ E fun h₅ t₅ V k₅ rv => ?_
  have k15 := k14.trans k₅
  refine st.out A rm ρ _ U I V (R.keeps k15) (ru.keeps (((k₂.trans k₃).trans k₄).trans k₅)) (ri.keeps ((k₃.trans k₄).trans k₅)) rv _ E fun ρ' h₆ t₆ ev R' => ?_
  exact hq .next .next ρ' h₆ t₆ μ σ' h .next ((k15.evo ..).trans (ev.mono (fun _ a => a) fun _ _ _ q => q.elim)) R' ((F.keeps k15).call (F0 := True) (R.keeps k15) ev)
end
end
section
open PySem PySem.W PyProof.Rows
set_option maxRecDepth 100000
section
variable {w : World} {H0 : Heap} {k : Nat} {env : Env} {μ : Vars} {σ σ' : Store} {ρ ρ' : Place} {h h' : Heap} {W : Nat → Prop} {P : Fl → Vars → Store → Prop}

theorem XT.assignT {elts : List Expr} {j : Nat} {p pos : Pos} {value : Expr} {v : AV} {μ' : Vars} (e : PV w H0 k (eval value env) env μ σ v) (b : BT w H0 k env (.Tuple elts j p) v μ μ' σ) (hs : swapsWithSole [.Tuple elts j p] value pos.line env = pure false)
    (hw : swappedStores [.Tuple elts j p] value env = pure none) (h : P .next μ' σ) : XT w H0 k W env (exec (.Assign [.Tuple elts j p] value pos) env) μ σ P := by
  refine ⟨?_⟩; intro A rm ρ s R F Q E hq
  refine Assign_Tuple (e.out A rm ρ s R F _ E fun h₁ t₁ V k₁ u => b.out A rm ρ _ V (R.keeps k₁) (F.keeps k₁) u _ E fun h₂ t₂ ev R' F' => ?_) hs hw
  exact hq .next .next ρ h₂ t₂ μ' σ h .next ((k₁.evo ..).trans (ev.mono (fun _ a => a.elim) fun b o _ q => .inl q)) R' F'
/-- names bound one by one -/
noncomputable def Binding (w : World) (H0 : Heap) (k : Nat) (env : Env) (t : List Str) (v : List AV) (μ μ' : Vars) (σ : Store) : Prop := Shut <|
  ∀ A, Rm k A → ∀ ρ s V, Rel w H0 ρ σ s.heap → Fra w H0 env μ ρ σ s.heap → VRels ρ σ s.heap v V → ∀ Q E,
    (∀ h' tk, Evo (fun _ => False) (fun b => b = env.locals) ρ σ s.heap ρ σ h' → Rel w H0 ρ σ h' → Fra w H0 env μ' ρ σ h' → Q () { s with heap := h', toks := tk }) → wpAny (model pw w) A (assignInOrder (t.map fun n => bindName env n) V) Q E s
theorem Binding.nil : Binding w H0 k env [] [] μ μ σ := by
  refine ⟨?_⟩; intro A rm ρ s V R F r Q E hq
  exact r.el0 (wpAny_pure (hq s.heap s.toks (.refl ..) R F))
theorem Binding.cons {x : Str} {t : List Str} {v : AV} {vs : List AV} {μ' : Vars} (hx : env.kindOf x = some .local) (y : Binding w H0 k env t vs (put x v μ) μ' σ) : Binding w H0 k env (x :: t) (v :: vs) μ μ' σ := by
  refine ⟨?_⟩; intro A rm ρ s V R F r Q E hq
  refine r.el fun _ _ a b => ?_
  · show wpAny _ A (holding _ (bindName env x _) >>= _) _ _ s
    refine wpAny_bind (wpAny_holding (wpAny_bindName (bind_localX (W := fun _ => False) hx R F a fun h₁ t₁ ev R' F' => ?_)))
    exact y.out A rm ρ _ _ R' F' (b.evo R (ev (X := fun b => b = env.locals) rfl) F.ownL) Q E fun h₂ t₂ ev' R'' F'' => hq h₂ t₂ ((ev (X := fun b => b = env.locals) rfl).trans ev') R'' F''
theorem VRels.rev {ρ : Place} {σ : Store} {h : Heap} : ∀ {l : List AV} {vs : List Value}, VRels ρ σ h l vs → VRels ρ σ h l.reverse vs.reverse := VRels.ind (P := fun l vs => VRels ρ σ h l.reverse vs.reverse) .nil fun x _ y => by rw [List.reverse_cons, List.reverse_cons]; exact y.snoc x
theorem XT.assignW {elts : List Expr} {j : Nat} {p pos : Pos} {value : Expr} {v : List AV} {μ' : Vars} {names : List Str} (e : PV w H0 k (eval value env) env μ σ (.tup v)) (b : Binding w H0 k env names.reverse v.reverse μ μ' σ) (hs : swapsWithSole [.Tuple elts j p] value pos.line env = pure false)
    (hw : swappedStores [.Tuple elts j p] value env = pure (some names)) (hn : names.length = v.length) (h : P .next μ' σ) : XT w H0 k W env (exec (.Assign [.Tuple elts j p] value pos) env) μ σ P := by
  refine ⟨?_⟩; intro A rm ρ s R F Q E hq
  refine Assign_Tuple_swapped (e.out A rm ρ s R F _ E fun h₁ t₁ V k₁ u => ?_) hs hw
  refine u.el fun _ vs x y => ?_
  · have hv : names.length = vs.toArray.size := by rw [List.size_toArray, y.length]; exact hn
    rw [hv]
    refine wpAny_unpackItems_tuple rm.handled x fun h₂ hk₂ => ?_
    have k₂ : Kept h₁ h₂ := fun b o e => hk₂ b o (Nat.ne_of_lt (Heap.lt_size e)) e
    have kk := k₁.trans k₂
    refine b.out A rm ρ _ _ (R.keeps kk) (F.keeps kk) (by simpa using (y.keeps k₂).rev) _ E fun h₃ t₃ ev R' F' => ?_
    exact hq .next .next ρ h₃ t₃ μ' σ h .next ((kk.evo ..).trans (ev.mono (fun _ a => a.elim) fun b o _ q => .inl q)) R' F'
theorem XT.try_ {body : List Stmt} {h₀ : ExceptHandler} {hs : List ExceptHandler} {pos : Pos} (x : XT w H0 k W env (execs body env) μ σ P) : XT w H0 k W env (exec (.Try body (h₀ :: hs) [] [] pos) env) μ σ P := by
  refine ⟨?_⟩; intro A rm ρ s R F Q E hq
  refine wpAny_Try_except (x.out A rm ρ s R F _ _ fun f fl ρ' h' tk μ' σ' p fr ev R' F' => ?_)
  have := hq f fl ρ' h' tk μ' σ' p fr ev R' F'
  cases fr <;> first | exact wpAny_execs_nil this | exact this

noncomputable def Again (J : Nat → Vars → Store → Prop) (n : Nat) (P : Fl → Vars → Store → Prop) : Fl → Vars → Store → Prop := fun f μ σ => Shut (match f with
  | .next | .cont => ∃ m, m < n ∧ J m μ σ
  | .brk => P .next μ σ
  | .ret v => P (.ret v) μ σ)
theorem Again.next {J : Nat → Vars → Store → Prop} {n m : Nat} (hm : m < n) (h : J m μ σ) : Again J n P .next μ σ := ⟨m, hm, h⟩
/-- where a loop stands -/
inductive WhileAt (w : World) (H0 : Heap) (env : Env) (W : Nat → Prop) (J : Nat → Vars → Store → Prop) (ρ : Place) (σ : Store) (h : Heap) (s : Shared) : Nat → Shared → Prop where
  | mk {n : Nat} {ρ' : Place} {σ' : Store} {μ' : Vars} {h' : Heap} {tk : Tok} (hJ : J n μ' σ') (ev : Evo W (Own env) ρ σ h ρ' σ' h') (R : Rel w H0 ρ' σ' h') (F : Fra w H0 env μ' ρ' σ' h') : WhileAt w H0 env W J ρ σ h s n { s with heap := h', toks := tk }
theorem XT.while_ {test : Expr} {body : List Stmt} {pos : Pos} (J : Nat → Vars → Store → Prop) (n : Nat) (h0 : J n μ σ)
    (turn : ∀ n μ' σ', J n μ' σ' → ∃ c, PB w H0 k (isTrue test env (eval test env)) env μ' σ' c ∧ (c = true → XT w H0 k W env (execs body env) μ' σ' (Again J n P)) ∧ (c = false → P .next μ' σ')) :
    XT w H0 k W env (exec (.While test body [] pos) env) μ σ P := by
  refine ⟨?_⟩; intro A rm ρ s R F Q E hq
  refine wpAny_While (codeAny_whileLoop (WhileAt w H0 env W J ρ σ s.heap s) ?_ n (.mk (tk := s.toks) h0 (.refl ..) R F))
  rintro n s' ⟨hJ, ev, R', F'⟩
  rename_i ρ' σ' μ' h' tk
  have tn := turn n μ' σ' hJ
  clear turn h0
  obtain ⟨c, test, tn⟩ := tn
  refine test.out A rm ρ' _ R' F' _ _ fun h₁ t₁ k₁ => ?_
  cases c with
  | true =>
    rw [if_pos rfl]
    refine (tn.1 rfl).out A rm ρ' _ (R'.keeps k₁) (F'.keeps k₁) _ _ fun f Fl ρ₂ h₂ t₂ μ₂ σ₂ p fr ev₂ R₂ F₂ => ?_
    have e2 := ev.trans ((k₁.evo ..).trans ev₂)
    have again : (∃ m, m < n ∧ J m μ₂ σ₂) → ∃ m, m < n ∧ WhileAt w H0 env W J ρ σ s.heap s m { s with heap := h₂, toks := t₂ } := fun ⟨m, hm, hJ⟩ => ⟨m, hm, .mk hJ e2 R₂ F₂⟩
    clear tn ev₂
    cases fr with
    | next => exact again p.out
    | cont => exact again p.out
    | brk => exact hq .next .next ρ₂ h₂ t₂ μ₂ σ₂ p.out .next e2 R₂ F₂
    | ret r => exact hq _ _ ρ₂ h₂ t₂ μ₂ σ₂ p.out (.ret r) e2 R₂ F₂
  | false =>
    rw [if_neg Bool.false_ne_true]
    exact wpAny_execs_nil (hq .next .next ρ' h₁ t₁ μ' σ' (tn.2 rfl) .next (ev.trans (k₁.evo ..)) (R'.keeps k₁) (F'.keeps k₁))

-- a new list becomes a place
section
variable {n : Nat} {a : Addr} {l : List AV}
noncomputable def Place.with (ρ : Place) (n : Nat) (a : Addr) : Place := ⟨fun m => if m = n then a else ρ.at m, ρ.bar⟩
theorem with_tr (hn : σ n = .free) {p : Plc} {b : Addr} (h : Tracked (ρ.with n a) (upd σ n p) b) : Tracked (ρ.also a) σ b := by
  rcases h with ⟨m, hm, e⟩ | hb
  · by_cases q : m = n
    · have e : (if m = n then a else ρ.at m) = b := e
      rw [if_pos q] at e; exact .inr (.inr e.symm)
    · have e : (if m = n then a else ρ.at m) = b := e
      rw [if_neg q] at e; rw [upd_ne q] at hm; exact .inl ⟨m, hm, e⟩
  · exact .inr (.inl hb)
theorem with_at {m : Nat} (q : m ≠ n) : (ρ.with n a).at m = ρ.at m := if_neg q
theorem with_self : (ρ.with n a).at n = a := if_pos rfl
theorem with_carry {p : Plc} (hn : σ n = .free) : Carry (ρ.also a) σ h (ρ.with n a) (upd σ n p) h where
  tup := fun t => t
  lst := fun t u => ⟨t, fun z => u (with_tr hn z)⟩
  loc := fun {m} u => by
    have q : m ≠ n := fun q => u (q ▸ hn)
    exact ⟨with_at q, by rw [upd_ne q]; exact u⟩
theorem VRels.place {p : Plc} (hn : σ n = .free) {v : List AV} {V : List Value} (r : VRels (ρ.also a) σ h v V) : VRels (ρ.with n a) (upd σ n p) h v V := r.via (with_carry hn)
theorem Fra.place {p : Plc} (hn : σ n = .free) (F : Fra w H0 env μ (ρ.also a) σ h) : Fra w H0 env μ (ρ.with n a) (upd σ n p) h := F.via (with_carry hn) (fun _ _ _ e => e) fun b o q _ z => (F.own b q).1 (with_tr hn z)
theorem place_evo (R : Rel w H0 ρ σ h) {p : Plc} (hn : σ n = .free) (ha : h.get? a = none) (kp : Kept h h') (hp : p ≠ .free) : Evo (fun m => m = n) (fun _ => False) ρ σ h (ρ.with n a) (upd σ n p) h' := by
  refine ⟨fun b o e _ _ => kp b o e, fun b o e => ⟨o, kp b o e⟩, fun m u => ?_, fun m u => upd_ne u, fun m e u => ?_, rfl⟩
  · have q : m ≠ n := fun q => u (q ▸ hn)
    exact ⟨with_at q, by rw [upd_ne q]; exact u⟩
  · by_cases q : m = n
    · rw [q, with_self]; exact ha
    · rw [upd_ne q] at u; exact absurd e u
theorem place_any (R : Rel w H0 ρ σ h) {p : Plc} (hn : σ n = .free) (ha : h.get? a = none) (kp : Kept h h') (hp : p ≠ .free) (new : SRel w H0 (ρ.with n a) (upd σ n p) h' a p) :
    Rel w H0 (ρ.with n a) (upd σ n p) h' := by
  have ev := place_evo R hn ha kp hp
  have na : ∀ m, σ m ≠ .free → ρ.at m ≠ a := fun m hm q => by obtain ⟨o, e⟩ := R.there hm; exact ex_none e ha q
  have un : ∀ m, m ≠ n → upd σ n p m ≠ .free → σ m ≠ .free := fun m q hm => by rwa [upd_ne q] at hm
  refine ⟨R.top.trans kp, fun m => ?_, fun x y hx hy q => ?_, fun m hm => ?_, fun b hb => ?_⟩
  · by_cases q : m = n
    · rw [q, with_self, upd_self]; exact new
    · by_cases z : σ m = .free
      · rw [upd_ne q, z]; exact .free
      · exact SRel.evo R ev ownNone q z fun d l e => by
          have y : d ≠ n := fun y => by rw [y, hn] at e; cases e
          rw [upd_ne y]; exact e
  · by_cases qx : x = n
    · by_cases qy : y = n
      · rw [qx, qy]
      · rw [qx, with_self, with_at qy] at q; exact absurd q.symm (na y (un y qy hy))
    · by_cases qy : y = n
      · rw [qy, with_self, with_at qx] at q; exact absurd q (na x (un x qx hx))
      · rw [with_at qx, with_at qy] at q; exact R.inj x y (un x qx hx) (un y qy hy) q
  · by_cases q : m = n
    · rw [q, with_self]; exact R.none_top ha
    · rw [with_at q]; exact R.new m (un m q hm)
  · obtain ⟨x, y, z⟩ := (R.keeps kp).bars b hb
    refine ⟨x, y, fun m hm q => ?_⟩
    by_cases e : m = n
    · rw [e, with_self] at q
      obtain ⟨⟨_, o, e', _⟩, _⟩ := R.bars b hb
      exact ex_none e' ha q.symm
    · rw [with_at e] at q; exact z m (un m e hm) q
theorem place_loc {p : Plc} (hp : p ≠ .free) : VRel (ρ.with n a) (upd σ n p) h (.loc n) (.ref a) := by
  have := VRel.loc (ρ := ρ.with n a) (σ := upd σ n p) (h := h) n (by rw [upd_self]; exact hp)
  rwa [with_self] at this
/-- at h nothing stands at a; at h' a list -/
theorem place_list (R : Rel w H0 ρ σ h) (hn : σ n = .free) (ha : h.get? a = none) (kp : Kept h h') {vs : List Value} (pl : h'.PlainList a vs.toArray) (v : VRels (ρ.also a) σ h' l vs) :
    Evo (fun m => m = n) (fun _ => False) ρ σ h (ρ.with n a) (upd σ n (.list l)) h' ∧ Rel w H0 (ρ.with n a) (upd σ n (.list l)) h' ∧ VRel (ρ.with n a) (upd σ n (.list l)) h' (.loc n) (.ref a) :=
  have hp : Plc.list l ≠ .free := by intro q; cases q
  ⟨place_evo R hn ha kp hp, place_any R hn ha kp hp (.list pl (v.place hn)), place_loc hp⟩
end
/-- a new list, kept at a place -/
theorem XV.new {t : Sem Value} {l : List AV} {n : Nat} (x : PVn w H0 k t env μ σ l) (hn : σ n = .free) (hw : W n) (hσ : upd σ n (.list l) = σ') : XV w H0 k W t env μ σ (.loc n) σ' := by
  subst hσ
  refine ⟨?_⟩; intro A rm ρ s R F Q E hq
  refine x.out A rm ρ s R F Q E fun h' tk a vs kp ha pl v => ?_
  obtain ⟨ev, R', r⟩ := place_list R hn ha kp pl v
  exact hq _ h' tk _ (ev.wide fun m q => q ▸ hw) R' (((F.more ha).keeps kp).place hn) r
theorem XT.assignX {x : Str} {p pos : Pos} {value : Expr} {v : AV} (hx : env.kindOf x = some .local) (e : XV w H0 k W (eval value env) env μ σ v σ') (hs : swapsWith value (some (.Name x p)) pos.line env = pure false) (h : P .next (put x v μ) σ') :
    XT w H0 k W env (exec (.Assign [.Name x p] value pos) env) μ σ P := by
  refine ⟨?_⟩; exact fun A rm ρ s R F Q E hq =>
    wpAny_Assign_Name (e.out A rm ρ s R F _ E fun ρ' h₁ t₁ V ev R' F' u => bind_local hx R' F' u fun h₂ t₂ ev' R'' F'' =>
      hq .next .next ρ' h₂ t₂ _ σ' h .next ((ev.mono (fun _ a => a) fun _ _ _ q => q.elim).trans ev') R'' F'') hs

-- variables, local or in a cell
noncomputable def isVar : Option NameKind → Bool
  | some .local | some .cell | some .free => true
  | _ => false
noncomputable def canSet : Option NameKind → Bool
  | some .local | some .cell => true
  | _ => false
theorem PV.var {x : Str} {pos : Pos} {v : AV} (e : μ.lookup x = some v) (hl : isVar (env.kindOf x) = true) (hd : (x == ("__debug__" : Str)) = false) (hc : (x == ("__classdict__" : Str)) = false) : PV w H0 k (eval (.Name x pos) env) env μ σ v := by
  cases q : env.kindOf x with
  | none => rw [q] at hl; cases hl
  | some kd =>
    cases kd with
    | «local» => exact PV.local q e hd
    | cell => exact PV.cell (.inl q) e hd hc
    | free => exact PV.cell (.inr q) e hd hc
    | _ => rw [q] at hl; cases hl
/-- a cell is written -/
theorem store_cell (F : Fra w H0 env μ ρ σ h) (R : Rel w H0 ρ σ h) {x : Str} {c : Addr} {v : AV} {V : Value} (hx : env.kindOf x = some .cell) (hc : env.cells.lookup x = some c) (r : VRel ρ σ h v V)
    (hn' : h'.IsCell c (some V)) (hs : Heap.SameBut c h h') :
    Rel w H0 ρ σ h' ∧ Fra w H0 env (put x v μ) ρ σ h' ∧ Evo W (Own env) ρ σ h ρ σ h' := by
  have hm := mem_of_lookup hc
  obtain ⟨⟨v0, o, e, d⟩, un, nH⟩ := F.celU x c hm
  obtain ⟨o', e', d'⟩ := id hn'
  have x0 : ∀ {W : Nat → Prop}, Evo W (Own env) ρ σ h ρ σ h' := sameBut_evo hs e ⟨o', e'⟩ (.inr ⟨x, hm⟩)
  have cr : Carry ρ σ h ρ σ h' := (x0 (W := fun _ => False)).wk.carry R F.own
  have keep : ∀ b o, b ≠ c → h.get? b = some o → h'.get? b = some o := fun b o q z => (hs.2 b q).trans z
  refine ⟨R.sameBut hs un nH (fun o₂ vs n q z => by rw [same_obj e q, z] at d; cases d) x0 F.own, ⟨F.kind, F.globals, F.builtins, ?_, fun y u q l => ?_, F.locU, fun y b q => ?_, F.apart⟩, x0⟩
  · obtain ⟨m, ⟨o, es, ep, eL, dL, rL⟩, hm⟩ := F.ns
    refine ⟨m, ⟨o, es, ep, keep _ _ (fun q => by rw [q] at eL; rw [same_obj e eL, dL] at d; cases d) eL, dL, rL⟩, fun y u q l => ?_⟩
    rw [put_lookup, if_neg (fun hy => by rw [hy, hx] at l; cases l)] at q
    obtain ⟨V', p, r'⟩ := hm y u q l
    exact ⟨V', p, r'.via cr⟩
  · rw [put_lookup] at q
    by_cases hy : y = x
    · rw [if_pos hy] at q; rw [hy]
      exact ⟨c, V, hc, hn', Option.some.inj q ▸ r.via cr⟩
    · rw [if_neg hy] at q
      obtain ⟨c', V', p, ⟨oc, ec, dc⟩, r'⟩ := F.cell y u q l
      exact ⟨c', V', p, ⟨oc, keep _ _ (fun z => hy (name_of_addr F.apart (mem_of_lookup p) (z ▸ hm))) ec, dc⟩, r'.via cr⟩
  · obtain ⟨⟨u, oc, ec, dc⟩, q2⟩ := F.celU y b q
    by_cases z : b = c
    · rw [z]; exact ⟨⟨_, hn'⟩, un, nH⟩
    · exact ⟨⟨u, oc, keep _ _ z ec, dc⟩, q2⟩
theorem bind_var {x : Str} {v : AV} {V : Value} {A : Around} {ρ : Place} {s : Shared} {Q : Unit → Shared → Prop} {E : Value → Shared → Prop} (hx : canSet (env.kindOf x) = true) (hc : env.kindOf x = some .cell → ∃ c, env.cells.lookup x = some c) (R : Rel w H0 ρ σ s.heap) (F : Fra w H0 env μ ρ σ s.heap) (r : VRel ρ σ s.heap v V)
    (hq : ∀ h' tk, Evo W (Own env) ρ σ s.heap ρ σ h' → Rel w H0 ρ σ h' → Fra w H0 env (put x v μ) ρ σ h' → Q () { s with heap := h', toks := tk }) : wpAny (model pw w) A (storeName env x V) Q E s := by
  cases q : env.kindOf x with
  | none => rw [q] at hx; cases hx
  | some kd =>
    cases kd with
    | «local» => exact bind_local q R F r hq
    | cell =>
      obtain ⟨c, hc⟩ := hc q
      obtain ⟨⟨v0, u⟩, _⟩ := F.celU x c (mem_of_lookup hc)
      refine wpAny_storeName_cell F.kind q hc u fun h' hn' hs => ?_
      obtain ⟨a, b, d⟩ := store_cell (W := W) F R q hc r hn' hs
      exact hq h' _ d a b
    | _ => rw [q] at hx; cases hx
/-- a variable set to what an expression gives -/
theorem XT.let_ {x : Str} {p pos : Pos} {value : Expr} {v : AV} (hx : (env.kindOf x == some .local || (env.kindOf x == some .cell && (env.cells.lookup x).isSome)) = true) (e : XV w H0 k W (eval value env) env μ σ v σ') (hs : swapsWith value (some (.Name x p)) pos.line env = pure false) (h : P .next (put x v μ) σ') :
    XT w H0 k W env (exec (.Assign [.Name x p] value pos) env) μ σ P := by
  have h1 : canSet (env.kindOf x) = true := by
    rw [Bool.or_eq_true, Bool.and_eq_true] at hx
    rcases hx with q | ⟨q, _⟩ <;> rw [beq_iff_eq.mp q] <;> rfl
  have h2 : env.kindOf x = some .cell → ∃ c, env.cells.lookup x = some c := fun z => by
    rw [z] at hx
    have : (env.cells.lookup x).isSome = true := by simpa using hx
    exact Option.isSome_iff_exists.mp this
  refine ⟨?_⟩; exact fun A rm ρ s R F Q E hq =>
    wpAny_Assign_Name (e.out A rm ρ s R F _ E fun ρ' h₁ t₁ V ev R' F' u => bind_var h1 h2 R' F' u fun h₂ t₂ ev' R'' F'' =>
      hq .next .next ρ' h₂ t₂ _ σ' h .next ((ev.mono (fun _ a => a) fun _ _ _ q => q.elim).trans ev') R'' F'') hs
theorem XT.letP {x : Str} {p pos : Pos} {value : Expr} {v : AV} (hx : (env.kindOf x == some .local || (env.kindOf x == some .cell && (env.cells.lookup x).isSome)) = true) (e : PV w H0 k (eval value env) env μ σ v) (hs : swapsWith value (some (.Name x p)) pos.line env = pure false) (h : P .next (put x v μ) σ) :
    XT w H0 k W env (exec (.Assign [.Name x p] value pos) env) μ σ P := XT.let_ hx e.eff hs h
end
end
section
open PySem PySem.W PyProof.Rows
set_option maxRecDepth 100000
-- what the class Headers holds
theorem kH_ga (P : Params) : plainGet (K0 P) 182 "_headers" = true := by kernel_rfl
theorem kH_gm (P : Params) (n : Str) : plainGet (K0 P) 182 n = true := by kernel_rfl
theorem kH_dict (P : Params) : hasDictIn (K0 P) 182 = true := by kernel_rfl
theorem kH_attr (P : Params) : findIn (K0 P) (.ref 182) "_headers" = some none := by kernel_rfl
theorem kH_seq (P : Params) : noSeq (K0 P) 182 = true := by kernel_rfl
theorem kH_getitem (P : Params) : findIn (K0 P) (.ref 182) "__getitem__" = some (some (.ref 109)) := by kernel_rfl
theorem kH_setitem (P : Params) : findIn (K0 P) (.ref 182) "__setitem__" = some (some (.ref 97)) := by kernel_rfl
theorem kH_delitem (P : Params) : findIn (K0 P) (.ref 182) "__delitem__" = some (some (.ref 102)) := by kernel_rfl
theorem kH_len (P : Params) : findIn (K0 P) (.ref 182) "__len__" = some (some (.ref 90)) := by kernel_rfl
noncomputable def fobj' (fd : FuncData) : Obj := ⟨.type "function", none, .func fd, #[]⟩
noncomputable def fd109 (P : Params) : FuncData := match (K0 P).lookup 109 with | some ⟨_, _, .func fd, _⟩ => fd | _ => default
theorem kH_109 (P : Params) : (K0 P).lookup 109 = some (fobj' (fd109 P)) := by kernel_rfl
section
variable {w : World} {H0 : Heap} {k : Nat} {env : Env} {μ : Vars} {σ σ' : Store} {ρ ρ' : Place} {h h' : Heap} {W : Nat → Prop} {P : Fl → Vars → Store → Prop}

/-- an object of the class, its list -/
structure Hd (σ : Store) (p d l : Nat) : Prop where
  obj : σ p = .hdr hdrC d
  dict : σ d = .idict l
  list : σ l ≠ .free
theorem Hd.inst {p d l : Nat} (H : Hd σ p d l) (R : Rel w H0 ρ σ h) : ∃ hs t n, InstAt h (ρ.at p) (instObj 182 (ρ.at d)) 182 (some (dictOf [⟨hs, .str (Str.ofString "_headers") t, .ref (ρ.at l)⟩] n)) := by
  obtain ⟨n, hs, t, y, _⟩ := R.idict H.dict
  exact ⟨hs, t, n, ⟨(R.hdr H.obj).1, rfl, rfl, y⟩⟩
theorem Hd.ne {p d l : Nat} (H : Hd σ p d l) : σ p ≠ .free := by rw [H.obj]; intro q; cases q
/-- its list read -/
theorem PV.attrH (T : Tp w H0) {o : Expr} {pos : Pos} {p d l : Nat} (x : PV w H0 k (eval o env) env μ σ (.loc p)) (H : Hd σ p d l) (hb : attributeBase o "_headers" env (eval o env) = eval o env) (ht : ∀ a r, letTemporaryGo o a r = pure ()) :
    PV w H0 k (eval (.Attribute o "_headers" pos) env) env μ σ (.loc l) := by
  refine ⟨?_⟩; intro A rm ρ s R F Q E hq
  rw [arm_eval_Attribute, hb]
  refine wpAny_bind (x.out A rm ρ s R F _ E fun h₁ t₁ U k₁ u => wpAny_bind (wpAny_standAt (wpAny_bind (wpAny_holding ?_))))
  refine u.el fun _ => ?_
  have R₁ := R.keeps k₁
  obtain ⟨hs, t, n, I⟩ := H.inst R₁
  refine get_value (T.K.keeps R₁.top) I (plainGet_of (kH_ga _)).1 (findObj_own (kH_dict _) (kH_attr _) rfl (v := .ref (ρ.at l)) (by kernel_rfl)) rfl ?_
  rw [ht]
  exact wpAny_bind (wpAny_pure (wpAny_pure (hq h₁ (t₁ + 1) _ k₁ (.loc l H.list))))
/-- a method of Headers found -/
theorem methH (T : Tp w H0) {p d l : Nat} (H : Hd σ p d l) {name : Str} {f : Addr} (hf : ∀ P, findIn (K0 P) (.ref 182) name = some (some (.ref f))) (hfn : ∀ P, typeIn (K0 P) (.ref f) = some (.type "function")) (hn : (Str.ofString "_headers" == name) = false) :
    MethOk w H0 k σ (.loc p) name (.ref f) := by
  refine ⟨?_⟩; intro A rm ρ s U R u pl Q E; refine u.el fun _ hq => ?_
  obtain ⟨hs, t, n, I⟩ := H.inst R
  refine method_fn (T.K.keeps R.top) I (plainGet_of (kH_gm _ name)).1 (plainGet_of (kH_gm _ name)).2 (hf _) (hfn _) ?_ hq
  show (lookIn name (dictOf _ n)).map _ = _
  rw [lookIn_dict]
  have : PySem.W.getL name [⟨hs, .str (Str.ofString "_headers") t, .ref (ρ.at l)⟩] = some none := by
    unfold PySem.W.getL
    have : Value.isStr (.str (Str.ofString "_headers") t) name = false := hn
    rw [List.find?_cons, this]
    rfl
  rw [this]; rfl
theorem special_H (T : Tp w H0) {A : Around} {E : Value → Shared → Prop} {s : Shared} {p d l : Nat} (H : Hd σ p d l) (R : Rel w H0 ρ σ s.heap) {name : Str} {f : Addr} (hf : ∀ P, findIn (K0 P) (.ref 182) name = some (some (.ref f))) (hfn : ∀ P, typeIn (K0 P) (.ref f) = some (.type "function"))
    {args : List Value} {Q : Option Value → Shared → Prop} (h : wpAny (model pw w) A (call (.ref f) (.ref (ρ.at p) :: args)) (fun v => Q (some v)) E s) : wpAny (model pw w) A (callSpecial? (.ref (ρ.at p)) name args) Q E s := by
  obtain ⟨hs, t, n, I⟩ := H.inst R
  exact special_fn (T.K.keeps R.top) I (hf _) (hfn _) h
/-- an item of Headers read -/
theorem PV.subH (T : Tp w H0) {value slice : Expr} {pos : Pos} {p d l : Nat} {i v : AV} (x : PV w H0 k (eval value env) env μ σ (.loc p)) (y : PV w H0 k (eval slice env) env μ σ i) (H : Hd σ p d l) (fn : FnP w H0 k (.ref 109) [.loc p, i] [] σ v)
    (hsl : ∀ o i, subscripted slice true o i = runValue (.builtin "lifetime.subscript" ⟨[o, i], []⟩)) : PV w H0 (k + 1) (eval (.Subscript value slice pos) env) env μ σ v := by
  refine ⟨?_⟩; intro A rm ρ s R F Q E hq
  refine Subscript_ (x.out A (rm.mono (Nat.le_succ _)) ρ s R F _ E fun h₁ t₁ U k₁ u => y.out A (rm.mono (Nat.le_succ _)) ρ _ (R.keeps k₁) (F.keeps k₁) _ E fun h₂ t₂ V k₂ v => ?_)
  refine u.el fun u0 => ?_
  have kk := k₁.trans k₂
  have R₂ := R.keeps kk
  obtain ⟨hs, t, n, I⟩ := H.inst R₂
  have X := T.K.keeps R₂.top
  obtain ⟨fo, fl⟩ : ∃ fd, (K0 w.params).lookup 109 = some (fobj' fd) := ⟨_, kH_109 _⟩
  unfold subscriptTail getitemInPython
  refine wpAny_bind (wpAny_bind (wpAny_bind (I.type.here ((looks_findIn X (kH_getitem _)).here ?_))))
  dsimp only
  refine wpAny_bind (wpAny_load (X _ _ fl) (wpAny_pure ?_))
  show wpAny _ A (subscripted slice true _ _ >>= _) _ _ _
  rw [hsl]
  refine wpAny_bind (wpAny_runValue (codeAny_builtin entry_sub ?_))
  unfold Builtin.«lifetime.subscript»
  refine wpAny_bind (special_H T H R₂ kH_getitem (fun _ => by kernel_rfl) (fn.out A.in1 rm.in1 ρ { s with heap := h₂, toks := t₂ } [.ref (ρ.at p), V] [] R₂ (.cons (.loc p H.ne) (.cons v .nil)) .nil _ _ fun h₃ t₃ r k₃ q => ?_))
  refine wpAny_pure ?_
  exact wpAny_bind (wpAny_letTemporaryGo (wpAny_pure (hq h₃ t₃ r (kk.trans k₃) q)))
/-- how many -/
theorem fn_lenH (T : Tp w H0) {p d l : Nat} {n : Nat} (H : Hd σ p d l) (fn : FnP w H0 k (.ref 90) [.loc p] [] σ (.int n)) (hn : n < 1000000) : FnP w H0 (k + 1) (.builtin "len") [.loc p] [] σ (.int n) := by
  refine ⟨?_⟩; intro A rm ρ s vs ks R a b Q E hq
  refine b.el0 (a.el1 fun _ a => a.el fun _ => ?_)
  · refine Calls.call_function_entry kind_len plain_len entry_len (args_len1 _) ?_
    unfold Builtin.«len»
    refine wpAny_bind (m := oneArg "len" _) (wpAny_pure ?_)
    refine wpAny_bind (m := callSpecial? (.ref (ρ.at p)) (Str.ofString "__len__")) (special_H T H R kH_len (fun _ => by kernel_rfl) (fn.out A.in1 rm.in1 ρ s [.ref (ρ.at p)] [] R (.cons (.loc p H.ne) .nil) .nil _ _ fun h₃ t₃ r k₃ q => ?_))
    refine q.el fun _ => ?_
    refine wpAny_bind (wpAny_holding (wpAny_pure ?_))
    refine wpAny_bind (wpAny_letGo ?_)
    show wpAny _ _ (if (n : Int) < 0 then _ else _) _ _ _
    rw [if_neg (by omega)]
    show wpAny _ _ (if (n : Int) ≥ 2 ^ 63 then _ else _) _ _ _
    rw [if_neg (by omega)]
    exact wpAny_bind (wpAny_mkInt (wpAny_pure ⟨_, rfl, hq _ _ _ k₃ (.int _ _)⟩))
/-- an item of Headers stored -/
theorem SE.hdr (T : Tp w H0) {p d l : Nat} {i v : AV} (H : Hd σ p d l) (fn : FnE w H0 k W (.ref 97) [.loc p, i, v] [] σ .none σ') : SE w H0 k W σ (.loc p) i v σ' := by
  refine ⟨?_⟩; intro A rm ρ s U I V R u i' v' Q E hq
  refine u.el fun _ => ?_
  obtain ⟨hs, t, n, J⟩ := H.inst R
  have X := T.K.keeps R.top
  unfold setItem sequenceKey
  refine wpAny_holding (wpAny_bind (wpAny_bind (J.type.here ?_)))
  refine wpAny_bind ((anyM_none X (kH_seq _)).here ?_)
  rw [if_pos (show (!false) = true from rfl)]
  exact wpAny_pure (wpAny_bind (special_H T H R kH_setitem (fun _ => by kernel_rfl) (fn.out A rm ρ s [.ref (ρ.at p), I, V] [] R (.cons (.loc p H.ne) (.cons i' (.cons v' .nil))) .nil _ _ fun ρ' h₃ t₃ r ev R' q => wpAny_pure (hq ρ' h₃ t₃ ev R'))))
theorem delItemH (T : Tp w H0) {A : Around} {E : Value → Shared → Prop} {s : Shared} {Q : Unit → Shared → Prop} {p d l : Nat} {i : AV} {I : Value} (rm : Rm k A) (H : Hd σ p d l) (R : Rel w H0 ρ σ s.heap) (ri : VRel ρ σ s.heap i I) (fn : FnE w H0 k W (.ref 102) [.loc p, i] [] σ .none σ')
    (hq : ∀ ρ' h' tk, Evo W (fun _ => False) ρ σ s.heap ρ' σ' h' → Rel w H0 ρ' σ' h' → Q () { s with heap := h', toks := tk }) : wpAny (model pw w) A (delItem (.ref (ρ.at p)) I) Q E s := by
  obtain ⟨hs, t, n, J⟩ := H.inst R
  have X := T.K.keeps R.top
  unfold delItem sequenceKey
  refine wpAny_holding (wpAny_bind (wpAny_bind (J.type.here ?_)))
  refine wpAny_bind ((anyM_none X (kH_seq _)).here ?_)
  rw [if_pos (show (!false) = true from rfl)]
  exact wpAny_pure (wpAny_bind (special_H T H R kH_delitem (fun _ => by kernel_rfl) (fn.out A rm ρ s [.ref (ρ.at p), I] [] R (.cons (.loc p H.ne) (.cons ri .nil)) .nil _ _ fun ρ' h₃ t₃ r ev R' q => wpAny_pure (hq ρ' h₃ t₃ ev R'))))
theorem XT.delH (T : Tp w H0) {o i : Expr} {p' pos : Pos} {p d l : Nat} {j : AV} (x : PV w H0 k (eval o env) env μ σ (.loc p)) (y : PV w H0 k (eval i env) env μ σ j) (H : Hd σ p d l) (fn : FnE w H0 k W (.ref 102) [.loc p, j] [] σ .none σ') (h : P .next μ σ') :
    XT w H0 k W env (exec (.Delete [.Subscript o i p'] pos) env) μ σ P := by
  refine ⟨?_⟩; intro A rm ρ s R F Q E hq
  refine wpAny_Delete (wpAny_deleteEach_cons ?_)
  show wpAny _ A (eval o env >>= fun ov => holding [ov] (eval i env) >>= fun iv => standAt p' >>= fun _ => holding [ov, iv] (delItem ov iv) >>= fun _ => release [ov, iv] []) _ _ _
  refine wpAny_bind (x.out A rm ρ s R F _ E fun h₁ t₁ U k₁ u => wpAny_bind (wpAny_holding (y.out A rm ρ _ (R.keeps k₁) (F.keeps k₁) _ E fun h₂ t₂ V k₂ v => wpAny_bind (wpAny_standAt (wpAny_bind (wpAny_holding ?_))))))
  refine u.el fun _ => ?_
  have kk := k₁.trans k₂
  refine delItemH T rm H (R.keeps kk) v fn fun ρ' h₃ t₃ ev R' => ?_
  refine wpAny_release (wpAny_deleteEach_nil ?_)
  exact hq .next .next ρ' h₃ t₃ μ σ' h .next ((kk.evo ..).trans (ev.mono (fun _ a => a) fun _ _ _ q => q.elim)) R' ((F.keeps kk).call (F0 := True) (R.keeps kk) ev)
end
end
section
open PySem PySem.W PyProof.Rows
set_option maxRecDepth 100000
section
variable {w : World} {H0 : Heap} {k : Nat} {env : Env} {μ : Vars} {σ σ' : Store} {ρ ρ' : Place} {h h' : Heap} {W : Nat → Prop} {P : Fl → Vars → Store → Prop}
/-- what is handed, bound -/
noncomputable def BindX (w : World) (H0 : Heap) (k : Nat) (W : Nat → Prop) (fd : FuncData) (args : List AV) (names : List Str) (ks : List AV) (xs : List Str) (avs : List AV) (σ σ₁ : Store) : Prop := Shut <|
  ∀ A, A.handled = none → ∀ ρ s vs kvs, Rel w H0 ρ σ s.heap → VRels ρ σ s.heap args vs → VRels ρ σ s.heap ks kvs → ∀ Q E,
    (∀ ρ₁ h₁ tk Vs, Evo W (fun _ => False) ρ σ s.heap ρ₁ σ₁ h₁ → Rel w H0 ρ₁ σ₁ h₁ → VRels ρ₁ σ₁ h₁ avs Vs → Q (xs.zip Vs) { s with heap := h₁, toks := tk }) → wpAny (model pw w) A (bindArgs fd ⟨vs, names.zip kvs⟩) Q E s
theorem VRels.append {ρ : Place} {σ : Store} {h : Heap} {a b : List AV} {va vb : List Value} (x : VRels ρ σ h a va) (y : VRels ρ σ h b vb) : VRels ρ σ h (a ++ b) (va ++ vb) := x.app y
theorem BindX.plain {fd : FuncData} {args ks : List AV} {names xs : List Str} (hn : names.length = ks.length) (b : Binds fd args.length names xs) : BindX w H0 k W fd args names ks xs (args ++ ks) σ σ := by
  refine ⟨?_⟩; intro A hh ρ s vs kvs R ra rk Q E hq
  exact b s vs kvs ra.length (rk.length.trans hn.symm) _ A E Q (hq ρ s.heap s.toks _ (.refl ..) R (ra.append rk))
/-- one default, None -/
theorem BindX.default (T : Tp w H0) {fd : FuncData} {args : List AV} {xs : List Str} {d : Addr} {o : Obj} {n : Nat} (hd : fd.defaults = .ref d) (ho : (K0 w.params).lookup d = some o) (hs : o.data = .seq #[.none] n)
    (h : ∀ vs : List Value, vs.length = args.length → ∃ c : Option (Array Value) → Sem (List (Str × Value)), bindArgs fd ⟨vs, []⟩ = seqItems? fd.defaults >>= c ∧ c (some #[.none]) = pure (xs.zip (vs ++ [.none]))) :
    BindX w H0 k W fd args [] [] xs (args ++ [.none]) σ σ := by
  refine ⟨?_⟩; intro A hh ρ s vs kvs R ra rk Q E hq
  refine rk.el0 ?_
  obtain ⟨c, e1, e2⟩ := h vs ra.length
  exact BindsTo.of_defaults hd (R.top _ _ (T.K _ _ ho)) hs e1 e2 _ A E Q (hq ρ s.heap s.toks _ (.refl ..) R (ra.append (.cons .none .nil)))
/-- the rest of the keywords: a new dict, empty -/
theorem BindX.kwargs {fd : FuncData} {args : List AV} {xs : List Str} {n : Nat} (hn : σ n = .free) (hw : W n)
    (h : ∀ vs : List Value, vs.length = args.length → bindArgs fd ⟨vs, []⟩ = (alloc { cls := .type "dict", data := .dict #[] } >>= fun d => pure (xs.zip (vs ++ [.ref d])))) :
    BindX w H0 k W fd args [] [] xs (args ++ [.loc n]) σ (upd σ n (.dict [])) := by
  refine ⟨?_⟩; intro A hh ρ s vs kvs R ra rk Q E hq
  refine rk.el0 ?_
  show wpAny _ A (bindArgs fd ⟨vs, []⟩) Q E s
  rw [h vs ra.length]
  have hp : Plc.dict [] ≠ .free := by intro q; cases q
  have ha := size_none s.heap
  have kp := Kept.push s.heap { cls := .type "dict", data := .dict #[] }
  have ev := place_evo (p := .dict []) R hn ha kp hp
  refine wpAny_bind (wpAny_alloc (wpAny_pure ?_))
  refine hq (ρ.with n s.heap.objs.size) _ _ _ (ev.wide fun m q => q ▸ hw) (place_any R hn ha kp hp (.dict (kvs := []) (Heap.DictOf.new s.heap) rfl .nil (Nat.zero_le _))) ((ra.evo R ev ownNone).append (.cons (place_loc hp) .nil))

theorem bindL_none {kindOf : Str → Option NameKind} {x : Str} {binds : List (Str × Value)} : ∀ {m : Str → Option Value}, (∀ p ∈ binds, p.1 ≠ x) → bindL kindOf binds m x = m x := by
  induction binds with
  | nil => exact fun _ => rfl
  | cons q r ih =>
    intro m h
    have hy : x ≠ q.1 := fun e => h q List.mem_cons_self e.symm
    refine (ih fun p hp => h p (List.mem_cons_of_mem _ hp)).trans ?_
    by_cases z : kindOf q.1 = some .local
    · rw [if_pos z]; exact if_neg hy
    · rw [if_neg z]
theorem bindC_none {kindOf : Str → Option NameKind} {x : Str} {binds : List (Str × Value)} : ∀ {m : Str → Option Value}, (∀ p ∈ binds, p.1 ≠ x) → bindC kindOf binds m x = m x := by
  induction binds with
  | nil => exact fun _ => rfl
  | cons q r ih =>
    intro m h
    have hy : x ≠ q.1 := fun e => h q List.mem_cons_self e.symm
    refine (ih fun p hp => h p (List.mem_cons_of_mem _ hp)).trans ?_
    by_cases z : kindOf q.1 = some .local
    · rw [if_pos z]
    · rw [if_neg z]; exact if_neg hy
noncomputable def Bound (kindOf : Str → Option NameKind) (x : Str) (V : Value) (binds : List (Str × Value)) (m c : Str → Option Value) : Prop := (kindOf x = some .local → bindL kindOf binds m x = some V) ∧ (kindOf x ≠ some .local → bindC kindOf binds c x = some V)
theorem bind_spec {ρ : Place} {σ : Store} {h : Heap} {kindOf : Str → Option NameKind} {x : Str} {v : AV} {xs : List Str} : ∀ {l : List AV} {vs : List Value} {m c : Str → Option Value}, xs.Nodup → VRels ρ σ h l vs → (xs.zip l).lookup x = some v →
    ∃ V, VRel ρ σ h v V ∧ Bound kindOf x V (xs.zip vs) m c := by
  induction xs with
  | nil => exact fun _ _ e => by cases e
  | cons y xs ih =>
    intro l vs m c nd r
    rw [List.nodup_cons] at nd
    refine r.ind (P := fun l vs => ((y :: xs).zip l).lookup x = some v → ∃ V, VRel ρ σ h v V ∧ Bound kindOf x V ((y :: xs).zip vs) m c) (fun e => by cases e) fun {a V l vs} a' b _ e => ?_
    rw [List.zip_cons_cons, List.lookup_cons] at e
    rw [List.zip_cons_cons]
    cases hx : x == y with
    | true =>
      rw [hx] at e
      have hx := beq_iff_eq.mp hx
      have ne : ∀ p ∈ xs.zip vs, p.1 ≠ x := fun p hp q => nd.1 (hx ▸ q ▸ (List.of_mem_zip hp).1)
      refine ⟨V, Option.some.inj e ▸ a', fun z => (bindL_none ne).trans ?_, fun z => (bindC_none ne).trans ?_⟩
      · rw [if_pos (hx ▸ z)]; exact if_pos hx
      · rw [if_neg (hx ▸ z)]; exact if_pos hx
    | false =>
      rw [hx] at e
      exact ih nd.2 b e
noncomputable def fnChkX (fd : FuncData) (xs : List Str) : Bool :=
  xs.all (fun x => fd.scope.names.lookup x == some .local || (fd.scope.names.lookup x == some .cell && ((cellsFrom 0 fd.scope.names []).map (·.1)).contains x)) && fd.scope.kind == .function && !fd.scope.isCoroutine && !fd.scope.isGenerator && decide xs.Nodup && decide ((cellsFrom 0 fd.scope.names []).map (·.1)).Nodup
theorem cellsFrom_names : ∀ (names : List (Str × NameKind)) (n m : Nat) (acc acc' : List (Str × Addr)), acc.map (·.1) = acc'.map (·.1) → (cellsFrom n names acc).map (·.1) = (cellsFrom m names acc').map (·.1)
  | [], n, m, acc, acc', e => e
  | (x, kd) :: r, n, m, acc, acc', e => by
    unfold cellsFrom
    by_cases z : (kd == .cell) = true
    · rw [if_pos z, if_pos z]; exact cellsFrom_names r _ _ _ _ (by rw [List.map_cons, List.map_cons, e])
    · rw [if_neg z, if_neg z]; exact cellsFrom_names r _ _ _ _ e
theorem lookup_some_of_mem {x : Str} {l : List (Str × Addr)} (h : x ∈ l.map (·.1)) : (l.lookup x).isSome = true := by
  induction l with
  | nil => cases h
  | cons p l ih =>
    rw [show (p :: l).lookup x = _ from List.lookup_cons (b := p.2)]
    cases hx : x == p.1 with
    | true => rfl
    | false =>
      rcases List.mem_cons.mp h with h | h
      · exact absurd (beq_iff_eq.mpr h) (by rw [hx]; exact Bool.false_ne_true)
      · exact ih h
theorem lookup_of_mem {x : Str} {a : Addr} {l : List (Str × Addr)} (nd : (l.map (·.1)).Nodup) (h : (x, a) ∈ l) : l.lookup x = some a := by
  induction l with
  | nil => cases h
  | cons p l ih =>
    rw [List.map_cons, List.nodup_cons] at nd
    rw [show (p :: l).lookup x = _ from List.lookup_cons (b := p.2)]
    rcases List.mem_cons.mp h with e | h'
    · rw [← e, beq_self_eq_true]
    · rw [beq_eq_false_iff_ne.mpr fun q : x = p.1 => nd.1 (List.mem_map.mpr ⟨(x, a), h', q⟩)]
      exact ih nd.2 h'
theorem Kept.evo0 (k : Kept h h') (W : Nat → Prop) (ρ : Place) (σ : Store) : Evo W (fun _ => False) ρ σ h ρ σ h' := k.evo ..
theorem call_core (T : Tp w H0) {f : Addr} {fo : Obj} {fd : FuncData} {body : List Stmt} {names xs : List Str} {args ks avs : List AV} {σ₁ : Store} {v : AV}
    (ho : (K0 w.params).lookup f = some fo) (hd : fo.data = .func fd) (hb : fd.body = .stmts body) (hc : codeIn (K0 w.params) fd.code fd.qualname = true) (chk : fnChkX fd xs = true)
    (hbind : BindX w H0 k W fd args names ks xs avs σ σ₁) (hg : fd.globals = mainGlobals ∧ fd.builtins = builtinsNs ∧ fd.closure = [])
    (x : ∀ L, XT w H0 k W (callEnvC fd L f) (execs body (callEnvC fd L f)) (xs.zip avs) σ₁ (Ends v σ')) {A : Around} (rm : Rm (k + 1) A) {s : Shared} {vs kvs : List Value} (R : Rel w H0 ρ σ s.heap) (ra : VRels ρ σ s.heap args vs) (rk : VRels ρ σ s.heap ks kvs) {RR : Result → Shared → Prop}
    (hq : ∀ ρ' h' tk V, Evo W (fun _ => False) ρ σ s.heap ρ' σ' h' → Rel w H0 ρ' σ' h' → VRel ρ' σ' h' v V → RR (.ok (.ret V)) { s with heap := h', toks := tk }) : codeAny (model pw w) A (.call (.ref f) ⟨vs, names.zip kvs⟩) RR s := by
  unfold fnChkX at chk
  simp only [Bool.and_eq_true, decide_eq_true_eq, Bool.not_eq_true'] at chk
  obtain ⟨⟨⟨⟨⟨c1, c2⟩, c3⟩, c4⟩, c5⟩, c6⟩ := chk
  have c2 : fd.scope.kind = .function := by simpa using c2
  refine codeAny_call_function rm.room (R.top _ _ (T.K _ _ ho)) hd c3 c4 hb (codeRec_of (T.K.keeps R.top) hc) ?_
  refine hbind.out A.in1 rm.handled ρ s vs kvs R ra rk _ _ fun ρ₁ h₁ t₁ Vs ev₁ R₁ rV => ?_
  rw [hg.2.2]
  have hcn : ∀ L, ((cellsFrom (L + 1) fd.scope.names []).map (·.1)) = ((cellsFrom 0 fd.scope.names []).map (·.1)) := fun L => cellsFrom_names _ _ _ _ _ rfl
  have kind : ∀ y ∈ xs, fd.scope.names.lookup y = some .local ∨ fd.scope.names.lookup y = some .cell ∧ ∀ L, ((cellsFrom (L + 1) fd.scope.names []).lookup y).isSome = true := fun y hy => by
    have := List.all_eq_true.mp c1 y hy
    rw [Bool.or_eq_true, Bool.and_eq_true] at this
    rcases this with q | ⟨q, z⟩
    · exact .inl (beq_iff_eq.mp q)
    · exact .inr ⟨beq_iff_eq.mp q, fun L => lookup_some_of_mem (by rw [hcn]; exact List.contains_iff_mem.mp z)⟩
  refine wpAny_newFunctionEnv_cells c2 (fun y hy => (kind y.1 (List.of_mem_zip hy).1).imp id fun z => ⟨z.1, z.2 _⟩) fun env he s' x' => ?_
  subst he
  have hlim : s'.heap.NoLimit := (T.lim.keeps R₁.top).keeps x'.toInCall.keep
  obtain ⟨h₂, t₂, rfl⟩ := x'.toInCall.same
  have k₂ : Kept h₁ h₂ := x'.toInCall.keep
  refine ⟨hlim, codeAny_func ?_⟩
  have hL : h₁.objs.size ≤ (callEnvC fd h₁.objs.size f).locals := x'.toInCall.fresh
  have low : ∀ b, h₁.objs.size ≤ b → H0.get? b = none := fun b hb => by
    cases e : H0.get? b with
    | none => rfl
    | some o => exact absurd (Heap.lt_size (R₁.top _ _ e)) (Nat.not_lt.mpr hb)
  have bnd : ∀ y u, (xs.zip avs).lookup y = some u → ∃ V, VRel ρ₁ σ₁ h₁ u V ∧ Bound (callEnvC fd h₁.objs.size f).kindOf y V (xs.zip Vs) (fun _ => none) (fun _ => none) := fun y u q => bind_spec c5 rV q
  have above : ∀ y b, (y, b) ∈ (callEnvC fd h₁.objs.size f).cells → h₁.objs.size ≤ b := fun y b m => Nat.le_of_lt (Nat.lt_of_le_of_lt hL (x'.above y b m))
  have F : Fra w H0 (callEnvC fd h₁.objs.size f) (xs.zip avs) ρ₁ σ₁ h₂ := by
    refine ⟨c2, hg.1, hg.2.1, ⟨_, x'.toInCall.ns, fun y u q l => ?_⟩, fun y u q l => ?_, ⟨R₁.fresh hL, low _ hL⟩, fun y c m => ?_, x'.apart⟩
    · obtain ⟨V, r, p⟩ := bnd y u q
      exact ⟨V, p.1 l, r.keeps k₂⟩
    · obtain ⟨V, r, p⟩ := bnd y u q
      have nl : (callEnvC fd h₁.objs.size f).kindOf y ≠ some .local := by rcases l with l | l <;> rw [l] <;> decide
      rcases kind y (List.of_mem_zip (mem_of_lookup q)).1 with z | z
      · exact absurd z nl
      · obtain ⟨c, hc⟩ := Option.isSome_iff_exists.mp (z.2 h₁.objs.size)
        exact ⟨c, V, hc, (p.2 nl) ▸ x'.cell y c hc, r.keeps k₂⟩
    · have nd : ((callEnvC fd h₁.objs.size f).cells.map (·.1)).Nodup := (hcn h₁.objs.size).symm ▸ c6
      exact ⟨⟨_, x'.cell y c (lookup_of_mem nd m)⟩, R₁.fresh (above y c m), low _ (above y c m)⟩
  refine (x h₁.objs.size).out _ (rm.deeper _) ρ₁ _ (R₁.keeps k₂) F _ _ fun fl Fl ρ' h' tk μ' σ'' p fr ev R' F' => ?_
  have ev' : Evo W (fun _ => False) ρ σ s.heap ρ' σ'' h' := ev₁.trans (((k₂.evo ..).trans ev).mono (fun _ a => a) fun b o e q => by
    have : h₁.objs.size ≤ b := by
      rcases q with rfl | ⟨y, m⟩
      · exact hL
      · exact above y b m
    exact absurd (Heap.lt_size e) (Nat.not_lt.mpr this))
  have pr := p.out
  refine hq ρ' h' tk _ (pr.2 ▸ ev') (pr.2 ▸ R') ?_
  have pr1 := pr.1
  rw [← pr.2]
  cases fr with
  | next => have pr1 : v = .none := pr1; rw [pr1]; exact .none
  | ret r => exact pr1 ▸ r
  | brk => exact pr1.elim
  | cont => exact pr1.elim
theorem FnE.mkX (T : Tp w H0) {f : Addr} {fo : Obj} {fd : FuncData} {body : List Stmt} {names xs : List Str} {args ks avs : List AV} {σ₁ : Store} {v : AV}
    (ho : (K0 w.params).lookup f = some fo) (hd : fo.data = .func fd) (hb : fd.body = .stmts body) (hc : codeIn (K0 w.params) fd.code fd.qualname = true) (chk : fnChkX fd xs = true) (hn : names.length = ks.length)
    (hbind : BindX w H0 k W fd args names ks xs avs σ σ₁) (hg : fd.globals = mainGlobals ∧ fd.builtins = builtinsNs ∧ fd.closure = [])
    (x : ∀ L, XT w H0 k W (callEnvC fd L f) (execs body (callEnvC fd L f)) (xs.zip avs) σ₁ (Ends v σ')) : FnE w H0 (k + 1) W (.ref f) args (names.zip ks) σ v σ' := by
  refine ⟨?_⟩; intro A rm ρ s vs kvs R ra rk Q E hq
  have e1 : (names.zip ks).map (·.1) = names := List.map_fst_zip (Nat.le_of_eq hn)
  have e2 : (names.zip ks).map (·.2) = ks := List.map_snd_zip (Nat.le_of_eq hn.symm)
  rw [e1]; rw [e2] at rk
  exact wpAny_call (call_core T ho hd hb hc chk hbind hg x rm R ra rk hq)

-- a place that nobody names is dropped
mutual
noncomputable def AV.avoids (n : Nat) : AV → Bool
  | .loc m => m != n
  | .tup l => avoidsL n l
  | .lst l => avoidsL n l
  | _ => true
noncomputable def avoidsL (n : Nat) : List AV → Bool
  | [] => true
  | v :: l => v.avoids n && avoidsL n l
end
noncomputable def Plc.avoids (n : Nat) : Plc → Bool
  | .free => true
  | .list l => avoidsL n l
  | .dict es => avoidsL n (es.map (·.2))
  | .hdr _ d => d != n
  | .idict l => l != n
theorem drop_tr {n : Nat} {a : Addr} (z : Tracked ρ (upd σ n .free) a) : Tracked ρ σ a := z.elim (fun ⟨m, hm, e⟩ => .inl ⟨m, by
  by_cases q : m = n
  · subst q; rw [upd_self] at hm; exact absurd rfl hm
  · rwa [upd_ne q] at hm, e⟩) .inr
theorem VRels.drop {n : Nat} {v : List AV} {V : List Value} (e : avoidsL n v = true) (r : VRels ρ σ h v V) : VRels ρ (upd σ n .free) h v V :=
  VRels.rec (motive_1 := fun v V _ => v.avoids n = true → VRel ρ (upd σ n .free) h v V) (motive_2 := fun v V _ => avoidsL n v = true → VRels ρ (upd σ n .free) h v V) (fun _ => .none) (fun b _ => .bool b) (fun i t _ => .int i t) (fun s t _ => .str s t) (fun b t _ => .bytes b t)
    (fun t _ y e => .tup t (y e)) (fun t u _ y e => .lst t (fun z => u (drop_tr z)) (y e)) (fun m u e => .loc m (by rw [upd_ne (bne_iff_ne.mp (show (m != n) = true from e))]; exact u)) (fun v _ => .val v) (fun _ => .nil)
    (fun _ _ x y e => .cons (x (Bool.and_eq_true_iff.mp e).1) (y (Bool.and_eq_true_iff.mp e).2)) r e
theorem VRel.drop {n : Nat} {v : AV} {V : Value} (e : v.avoids n = true) (r : VRel ρ σ h v V) : VRel ρ (upd σ n .free) h v V := by
  have : VRels ρ σ h [v] [V] := .cons r .nil
  exact (VRels.drop (show avoidsL n [v] = true from Bool.and_eq_true_iff.mpr ⟨e, rfl⟩) this).unc.1
theorem SRel.drop {n : Nat} {a : Addr} {s : Plc} (e : s.avoids n = true) (S : SRel w H0 ρ σ h a s) : SRel w H0 ρ (upd σ n .free) h a s := by
  cases s with
  | free => trivial
  | list l => obtain ⟨vs, x, y⟩ := S; exact ⟨vs, x, y.drop e⟩
  | dict es => obtain ⟨kvs, x, z, y, q⟩ := S; exact ⟨kvs, x, z, y.drop e, q⟩
  | hdr c d => exact ⟨S.1, by rw [upd_ne (bne_iff_ne.mp e)]; exact S.2⟩
  | idict l => obtain ⟨m, hs, t, x, v⟩ := S; exact ⟨m, hs, t, x, by rw [upd_ne (bne_iff_ne.mp e)]; exact v⟩
theorem Rel.drop (R : Rel w H0 ρ σ h) {n : Nat} (av : ∀ m, m ≠ n → (σ m).avoids n = true) : Rel w H0 ρ (upd σ n .free) h := by
  have up : ∀ m, upd σ n .free m ≠ .free → m ≠ n ∧ σ m ≠ .free := fun m hm => by
    by_cases q : m = n
    · subst q; rw [upd_self] at hm; exact absurd rfl hm
    · rw [upd_ne q] at hm; exact ⟨q, hm⟩
  refine ⟨R.top, fun m => ?_, fun x y hx hy q => R.inj x y (up x hx).2 (up y hy).2 q, fun m hm => R.new m (up m hm).2, fun a ha => ?_⟩
  · by_cases q : m = n
    · subst q; rw [upd_self]; exact .free
    · rw [upd_ne q]; exact (R.obj m).drop (av m q)
  · obtain ⟨x, y, z⟩ := R.bars a ha
    exact ⟨x, y, fun m hm => z m (up m hm).2⟩
theorem Evo.drop {W : Nat → Prop} {n : Nat} (x : Evo W (fun _ => False) ρ σ h ρ' σ' h') (hn : σ n = .free) : Evo (fun m => W m ∧ m ≠ n) (fun _ => False) ρ σ h ρ' (upd σ' n .free) h' := by
  refine ⟨fun b o e u _ => x.keep b o e (fun m hw hm => u m ⟨hw, fun q => hm (q ▸ hn)⟩ hm) id, x.there, fun m u => ?_, fun m u => ?_, fun m e u => ?_, x.bar⟩
  · have q : m ≠ n := fun q => u (q ▸ hn)
    rw [upd_ne q]; exact x.dom m u
  · by_cases q : m = n
    · subst q; rw [upd_self, hn]
    · rw [upd_ne q]; exact x.same m fun a => u ⟨a, q⟩
  · by_cases q : m = n
    · subst q; rw [upd_self] at u; exact absurd rfl u
    · rw [upd_ne q] at u; exact x.new m e u
theorem FnE.drop {f : Value} {args : List AV} {kws : List (Str × AV)} {v : AV} {n : Nat} (x : FnE w H0 k W f args kws σ v σ') (hn : σ n = .free) (av : ∀ m, m ≠ n → (σ' m).avoids n = true) (hv : v.avoids n = true) : FnE w H0 k (fun m => W m ∧ m ≠ n) f args kws σ v (upd σ' n .free) :=
  ⟨fun A rm ρ s vs ks R a b Q E hq => x.out A rm ρ s vs ks R a b Q E fun ρ' h' tk V ev R' r => hq ρ' h' tk V (ev.drop hn) (R'.drop av) (r.drop hv)⟩
/-- the list at the place is what is given back -/
theorem FnE.dropL {f : Value} {args : List AV} {kws : List (Str × AV)} {l : List AV} {n : Nat} (x : FnE w H0 k W f args kws σ (.loc n) σ') (hn : σ n = .free) (av : ∀ m, (σ' m).avoids n = true) (hl : σ' n = .list l) : FnE w H0 k (fun m => W m ∧ m ≠ n) f args kws σ (.lst l) (upd σ' n .free) :=
  ⟨fun A rm ρ s vs ks R a b Q E hq => x.out A rm ρ s vs ks R a b Q E fun ρ' h' tk V ev R' r => by
    refine hq ρ' h' tk V (ev.drop hn) (R'.drop fun m _ => av m) ?_
    refine r.el fun u => ?_
    · obtain ⟨_, x, y⟩ := R'.list hl
      have al := av n
      rw [hl] at al
      · refine .lst x.isList ?_ (y.drop al)
        rintro (⟨m, hm, e⟩ | hb)
        · by_cases q : m = n
          · subst q; rw [upd_self] at hm; exact hm rfl
          · rw [upd_ne q] at hm; exact q (R'.inj m n hm u e)
        · exact (R'.bars _ hb).2.2 n u rfl⟩
theorem FnE.same {f : Value} {args : List AV} {kws : List (Str × AV)} {v : AV} {σ₁ σ₂ : Store} {W₁ W₂ : Nat → Prop} (x : FnE w H0 k W₁ f args kws σ v σ₁) (e : σ₁ = σ₂) (hw : ∀ n, W₁ n → W₂ n) : FnE w H0 k W₂ f args kws σ v σ₂ := by
  subst e
  exact ⟨fun A rm ρ s vs ks R a b Q E hq => x.out A rm ρ s vs ks R a b Q E fun ρ' h' tk V ev R' r => hq ρ' h' tk V (ev.wide hw) R' r⟩
end
end
section
open PySem PySem.W PyProof.Rows
set_option maxRecDepth 100000
/-- what stands in the one stands in the other -/
noncomputable def Sup (μ₀ μ : Vars) : Prop := Shut <| ∀ q ∈ μ₀, μ.lookup q.1 = some q.2
theorem Sup.nil {μ : Vars} : Sup [] μ := ⟨fun _ h => absurd h List.not_mem_nil⟩
theorem Sup.cons {x : Str} {v : AV} {r μ : Vars} (e : μ.lookup x = some v) (s : Sup r μ) : Sup ((x, v) :: r) μ := ⟨fun q h => by
  rcases List.mem_cons.mp h with rfl | h
  · exact e
  · exact s.out q h⟩
theorem Sup.weaken {μ₀ μ : Vars} (s : Sup μ₀ μ) : ∀ x v, μ₀.lookup x = some v → μ.lookup x = some v := fun x v e => s.out (x, v) (mem_of_lookup e)
section
variable {w : World} {H0 : Heap} {k : Nat} {env : Env} {μ : Vars} {σ : Store} {W : Nat → Prop} {P : Fl → Vars → Store → Prop}
noncomputable def TurnS (μ₀ : Vars) (J : Nat → Store → Prop) (i : Nat) (P : Fl → Vars → Store → Prop) : Fl → Vars → Store → Prop := Turn (fun i μ σ => Sup μ₀ μ ∧ J i σ) i P
theorem TurnS.next {μ₀ : Vars} {J : Nat → Store → Prop} {i : Nat} (s : Sup μ₀ μ) (h : J (i + 1) σ) : TurnS μ₀ J i P .next μ σ := ⟨s, h⟩
theorem TurnS.ret {μ₀ : Vars} {J : Nat → Store → Prop} {i : Nat} {v : AV} (h : P (.ret v) μ σ) : TurnS μ₀ J i P (.ret v) μ σ := ⟨h⟩
theorem XT.forS {target iter : Expr} {body rest : List Stmt} {pos : Pos} {ls : List AV} {U : Nat → Prop} (μ₀ : Vars) (J : Nat → Store → Prop) (it : ItE w H0 k iter env μ σ ls target U) (hU : ∀ n, U n → ¬ W n) (s0 : Sup μ₀ μ) (h0 : J 0 σ)
    (step : ∀ i v σ', ls[i]? = some v → J i σ' → ∃ μ'', BT w H0 k env target v μ₀ μ'' σ' ∧ XT w H0 k W env (execs body env) μ'' σ' (TurnS μ₀ J i (Kont w H0 k W env rest P)))
    (hend : ∀ σ', J ls.length σ' → XT w H0 k W env (execs rest env) μ₀ σ' P) : XT w H0 k W env (exec (.For target iter body [] pos) env) μ σ (Kont w H0 k W env rest P) := by
  refine XT.for_ (fun i μ σ => Sup μ₀ μ ∧ J i σ) it hU ⟨s0, h0⟩ (fun i v μ' σ' hv hj => ?_) fun μ' σ' hj => .next ((hend σ' hj.2).weaken hj.1.weaken)
  obtain ⟨μ'', bt, x⟩ := step i v σ' hv hj.2
  refine ⟨μ'', ⟨fun A rm ρ s V R F r Q E hq => bt.out A rm ρ s V R (F.weaken hj.1.weaken) r Q E hq⟩, x⟩
theorem XT.whileS {test : Expr} {body rest : List Stmt} {pos : Pos} (μ₀ : Nat → Vars) (J : Nat → Store → Prop) (n : Nat) (s0 : Sup (μ₀ n) μ) (h0 : J n σ)
    (turn : ∀ n σ', J n σ' → ∃ c, PB w H0 k (isTrue test env (eval test env)) env (μ₀ n) σ' c ∧ (c = true → XT w H0 k W env (execs body env) (μ₀ n) σ' (Again (fun n μ σ => Sup (μ₀ n) μ ∧ J n σ) n (Kont w H0 k W env rest P))) ∧
      (c = false → XT w H0 k W env (execs rest env) (μ₀ n) σ' P)) :
    XT w H0 k W env (exec (.While test body [] pos) env) μ σ (Kont w H0 k W env rest P) := by
  refine XT.while_ (fun n μ σ => Sup (μ₀ n) μ ∧ J n σ) n ⟨s0, h0⟩ fun n μ' σ' hj => ?_
  obtain ⟨c, t, a, b⟩ := turn n σ' hj.2
  exact ⟨c, ⟨fun A rm ρ s R F Q E hq => t.out A rm ρ s R (F.weaken hj.1.weaken) Q E hq⟩, fun e => (a e).weaken hj.1.weaken, fun e => .next ((b e).weaken hj.1.weaken)⟩
theorem AgainS.next {μ₀ : Nat → Vars} {J : Nat → Store → Prop} {n m : Nat} (hm : m < n) (s : Sup (μ₀ m) μ) (h : J m σ) : Again (fun n μ σ => Sup (μ₀ n) μ ∧ J n σ) n P .next μ σ := ⟨m, hm, s, h⟩
end
end
section
open PySem PySem.W PyProof.Rows
set_option maxRecDepth 100000
section
variable {w : World} {H0 : Heap} {k : Nat} {env : Env} {μ : Vars} {σ : Store} {W : Nat → Prop} {P : Fl → Vars → Store → Prop}
noncomputable def compChk (scope : Scope) : Bool := (scope.names.all fun y => y.2 != .cell) && scope.kind == .function && scope.names.all fun y => y.2 != .local || scope.names.lookup y.1 == some .local
theorem compChk_of {scope : Scope} (h : compChk scope = true) : (scope.names.all fun y => y.2 != .cell) = true ∧ scope.kind = .function ∧ ∀ y ∈ scope.names, y.2 = .local → scope.names.lookup y.1 = some .local := by
  unfold compChk at h
  rw [Bool.and_eq_true, Bool.and_eq_true] at h
  obtain ⟨⟨a, b⟩, c⟩ := h
  refine ⟨a, by simpa using b, fun y hy e => ?_⟩
  have := List.all_eq_true.mp c y hy
  rw [e] at this
  simpa using this
/-- one turn of a comprehension -/
noncomputable def CompStep (w : World) (H0 : Heap) (k : Nat) (cenv : Env) (target elt : Expr) (ifs : List Expr) (v : AV) (μc : Vars) (σ : Store) (p : Bool) (g : AV) : Prop :=
  ∃ μ', BT w H0 k cenv target v μc μ' σ ∧ Sup μc μ' ∧ PB w H0 k (testsOf ifs cenv) cenv μ' σ p ∧ (p = true → PV w H0 k (eval elt cenv) cenv μ' σ g)
theorem CompStep.mk {cenv : Env} {target elt : Expr} {ifs : List Expr} {v : AV} {μc μ' : Vars} {p : Bool} {g : AV} (b : BT w H0 k cenv target v μc μ' σ) (s : Sup μc μ') (t : PB w H0 k (testsOf ifs cenv) cenv μ' σ p) (e : p = true → PV w H0 k (eval elt cenv) cenv μ' σ g) :
    CompStep w H0 k cenv target elt ifs v μc σ p g := ⟨μ', b, s, t, e⟩
theorem PVn.comp0 {α : Type} {elt target iter : Expr} {ifs : List Expr} {scope : Scope} {pos : Pos} {es : List α} {f : α → AV} (p : α → Bool) (g : α → AV) {U : Nat → Prop} (it : ItE w H0 k iter env μ σ (es.map f) target U)
    (hclos : closureFor scope env = pure []) (chk : compChk scope = true) (hl : es.length ≤ 1000)
    (step : ∀ C e, e ∈ es → CompStep w H0 k (compEnvC scope [] C env) target elt ifs (f e) [] σ (p e) (g e)) :
    PVn w H0 k (eval (.ListComp elt [⟨target, iter, ifs, 0⟩] scope pos) env) env μ σ ((es.filter p).map g) := by
  obtain ⟨a, b, c⟩ := compChk_of chk
  exact PVn.comp p g [] [] it hclos (fun _ h => absurd h List.not_mem_nil) (Nat.zero_le _) (fun _ h => absurd h List.not_mem_nil) (fun _ _ h => absurd h List.not_mem_nil) a b c
    (fun C e he => let ⟨μ', b, s, t, q⟩ := step C e he; ⟨μ', b, s.out, t, q⟩) hl
theorem PVn.comp1 {α : Type} {elt target iter : Expr} {ifs : List Expr} {scope : Scope} {pos : Pos} {es : List α} {f : α → AV} (p : α → Bool) (g : α → AV) {U : Nat → Prop} {x : Str} {c : Addr} {v : AV} (it : ItE w H0 k iter env μ σ (es.map f) target U)
    (hclos : closureFor scope env = pure [(x, c)]) (hc : env.cells.lookup x = some c) (hx : env.kindOf x = some .cell) (hv : μ.lookup x = some v) (hkc : ∀ C, ((compEnvC scope [(x, c)] C env).kindOf x != some .local) = true) (chk : compChk scope = true) (hl : es.length ≤ 1000)
    (step : ∀ C e, e ∈ es → CompStep w H0 k (compEnvC scope [(x, c)] C env) target elt ifs (f e) [(x, v)] σ (p e) (g e)) :
    PVn w H0 k (eval (.ListComp elt [⟨target, iter, ifs, 0⟩] scope pos) env) env μ σ ((es.filter p).map g) := by
  obtain ⟨a, b, cc⟩ := compChk_of chk
  refine PVn.comp p g [(x, c)] [(x, v)] it hclos (fun q h => ?_) (Nat.le_refl _) (fun q h => ?_) (fun C q h => ?_) a b cc (fun C e he => let ⟨μ', b, s, t, q⟩ := step C e he; ⟨μ', b, s.out, t, q⟩) hl
  · rw [List.mem_singleton.mp h]; exact mem_of_lookup hc
  · rw [List.mem_singleton.mp h]
    exact ⟨hv, .inl hx, c, by simp, hc⟩
  · rw [List.mem_singleton.mp h]
    have := hkc C
    simpa using this
end
end
section
open PySem PySem.W PyProof.Rows
set_option maxRecDepth 100000
section
variable {w : World} {H0 : Heap} {k : Nat} {env : Env} {μ : Vars} {σ σ' : Store} {W : Nat → Prop} {P : Fl → Vars → Store → Prop} {A : Around} {E : Value → Shared → Prop} {s : Shared}
theorem listUpdate_plain {l : Addr} {items new : Array Value} {f : Array Value → Array Value} {Q : Unit → Shared → Prop} (hl : s.heap.PlainList l items) (hf : f items = new) (hz : items.size ≤ sizeLine) (hn : new.size ≤ sizeLine)
    (hQ : ∀ h', h'.PlainList l new → Heap.SameBut l s.heap h' → Q () { s with heap := h' }) : wpAny (model pw w) A (updateSeq l f) Q E s := by
  obtain ⟨n, ho⟩ := hl
  obtain ⟨m, hm⟩ : ∃ m, Obj.mapSeq f { cls := .type "list", data := .seq items n } = { cls := .type "list", data := .seq new m } := ⟨_, by simp only [Obj.mapSeq, hf]; rfl⟩
  have hfin : (s.heap.update l (Obj.mapSeq f)).PlainList l new := ⟨m, by rw [Heap.get?_update_self _ ho (by rw [hm]; rfl), hm]⟩
  exact wpAny_updateSeq ho rfl (hQ _ hfin (Heap.SameBut.update ..)) hz (by rw [hf]; exact Nat.le_succ_of_le hn)
theorem subscript_slice {sl : Addr} {Q : Option Int → Shared → Prop} (hT : s.TypeIs (.ref sl) "slice") (h : Q none s) : wpAny (model pw w) A (Builtin.List.listSubscript? (.ref sl)) Q E s := by
  unfold Builtin.List.listSubscript?
  refine wpAny_bind (wpAny_specialOf hT slice_no_index ?_)
  rw [if_pos (show (Option.isNone (none : Option Value)) = true from rfl)]
  exact wpAny_pure h
theorem slice_all {sl : Addr} {Q : Value × Value × Value → Shared → Prop} (hs : s.heap.IsSliceOf sl .none .none .none) (h : Q (rawPart none, rawPart none, rawPart none) s) : wpAny (model pw w) A (Builtin.List.listSliceParts (.ref sl)) Q E s := by
  obtain ⟨os, hos, _, hds⟩ := hs
  rw [listSliceParts_eq]
  refine wpAny_bind (wpAny_field hos hds (x := .none) rfl (wpAny_bind (wpAny_listPart .none ?_)))
  rw [if_neg (show ¬ ((rawPart none == rawInt 0) = true) from Bool.false_ne_true)]
  refine wpAny_bind (wpAny_field hos hds (x := .none) rfl (wpAny_bind (wpAny_listPart .none ?_)))
  exact wpAny_bind (wpAny_field hos hds (x := .none) rfl (wpAny_bind (wpAny_listPart .none (wpAny_pure h))))
theorem items_list {v : Addr} {vals : Array Value} {Q : Array Value → Shared → Prop} (hv : s.heap.IsList v vals) (h : Q vals s) : wpAny (model pw w) A (Builtin.List.listItems (.ref v)) Q E s := by
  obtain ⟨o, ho, _, n, hd⟩ := hv
  unfold Builtin.List.listItems
  exact wpAny_bind (wpAny_seqItems ho hd (wpAny_pure h))
theorem allItems_list {v : Addr} {vals : Array Value} {m : String} {Q : Array Value → Shared → Prop} (hv : s.heap.IsList v vals) (h : Q vals s) : wpAny (model pw w) A (Builtin.List.listAllItems (.ref v) m) Q E s := by
  unfold Builtin.List.listAllItems
  refine wpAny_bind (wpAny_typeOf hv.typeIs ?_)
  rw [if_pos (by decide)]
  exact items_list hv h
theorem setItem_all {l sl v : Addr} {items vals : Array Value} {Q : Unit → Shared → Prop} (hl : s.heap.PlainList l items) (hs : s.heap.IsSliceOf sl .none .none .none) (hv : s.heap.IsList v vals) (hz : items.size ≤ 1000) (hz' : vals.size ≤ 1000) (hne : l ≠ v)
    (hQ : ∀ h', h'.PlainList l vals → Heap.SameBut l s.heap h' → Q () { s with heap := h' }) : wpAny (model pw w) A (setItem (.ref l) (.ref sl) (.ref v)) Q E s := by
  have hl' := hl.isList
  have hTs : s.TypeIs (.ref sl) "slice" := by obtain ⟨os, hos, hcs, _⟩ := hs; exact ⟨os, hos, hcs⟩
  have hsr : Builtin.List.listSameRef (.ref l) (.ref v) = false := beq_eq_false_iff_ne.mpr hne
  unfold setItem
  refine wpAny_holding (wpAny_bind (wpAny_sequenceKey hl'.typeIs (by decide) ?_))
  refine wpAny_bind (wpAny_callSpecial?_slot (name := Str.ofString "__setitem__") hl'.typeIs slot_list_setitem
    (wpAny_call_entry slot_list_setitem hl'.typeIs entry_list_setitem ?_ (args_list_setitem _ _ _)))
  show wpAny _ _ (Builtin.List.listSubscript? (.ref sl) >>= _) _ _ s
  refine wpAny_bind (subscript_slice hTs ?_)
  show wpAny _ _ (typeOf (.ref sl) >>= _) _ _ s
  refine wpAny_bind (wpAny_typeOf hTs ?_)
  rw [if_neg (by decide)]
  refine wpAny_bind (slice_all hs ?_)
  dsimp only
  rw [hsr, if_neg Bool.false_ne_true]
  refine wpAny_bind (allItems_list hv (wpAny_bind (items_list hl' ?_)))
  refine wpAny_bind (wpAny_of_eq (sliceIndices_raw none none none items.size (by simp)) ?_)
  have sb : sliceBounds none none none items.size = (0, (items.size : Int), 1) := by simp [sliceBounds]
  rw [sb]
  show wpAny _ _ (if (1 : Int) == 1 then _ else _) _ _ s
  rw [if_pos (by decide)]
  have tl : ¬ Builtin.List.listTooLong (items.size + vals.size) = true := by
    unfold Builtin.List.listTooLong
    rw [decide_eq_true_eq]
    exact Nat.not_lt.mpr (Nat.le_trans (Nat.add_le_add hz hz') (by decide))
  refine wpAny_bind (wpAny_rule ?_)
  rw [if_neg tl]
  refine wpAny_bind (m := updateSeq l _) (listUpdate_plain hl (new := vals) ?_ (Nat.le_trans hz (by decide)) (Nat.le_trans hz' (by decide)) fun h' pl sb => ?_)
  · simp
  · refine wpAny_bind (wpAny_letGo ?_)
    exact wpAny_bind (wpAny_pure (wpAny_pure ⟨_, rfl, wpAny_pure (hQ h' pl sb)⟩))
theorem XT.setAll {o value : Expr} {p1 p2 pos : Pos} {n : Nat} {l l' : List AV} (z : PV w H0 k (eval value env) env μ σ (.lst l')) (x : PV w H0 k (eval o env) env μ σ (.loc n)) (e : σ n = .list l) (hl : l.length ≤ 1000) (hl' : l'.length ≤ 1000) (hw : W n) (hσ : upd σ n (.list l') = σ')
    (hs : swapsWith value (some (.Subscript o (.Slice none none none p1) p2)) pos.line env = pure false) (h : P .next μ σ') : XT w H0 k W env (exec (.Assign [.Subscript o (.Slice none none none p1) p2] value pos) env) μ σ P := by
  subst hσ
  refine ⟨?_⟩; intro A rm ρ s R F Q E hq
  refine wpAny_Assign_Subscript (z.out A rm ρ s R F _ E fun h₁ t₁ V k₁ rv => x.out A rm ρ _ (R.keeps k₁) (F.keeps k₁) _ E fun h₂ t₂ U k₂ ru => ?_) hs
  refine wpAny_Slice ?_
  rw [evalPart_none]
  refine wpAny_pure (wpAny_pure (wpAny_pure ?_))
  refine ru.el fun u0 => ?_
  have kk := k₁.trans k₂
  have kp := Kept.push h₂ { cls := .type "slice", data := .fields #[.none, .none, .none] }
  have k3 := kk.trans kp
  have R₃ := R.keeps k3
  have rv₃ := rv.keeps (k₂.trans kp)
  obtain ⟨us, xu, yu⟩ := R₃.list e
  refine rv₃.el fun a vs xv un yv => ?_
  · · refine setItem_all xu (Heap.IsSliceOf.new ..) xv (by rw [List.size_toArray, yu.length]; exact hl) (by rw [List.size_toArray, yv.length]; exact hl') (fun q => un (.inl ⟨n, u0, q⟩)) fun h' pl sb => ?_
      obtain ⟨ev, R'⟩ := put_list R₃ e (l' := l') (vs := vs) sb pl yv
      exact hq .next .next ρ h' t₂ μ _ h .next ((k3.evo ..).trans ((ev.wide (fun m q => q ▸ hw)).mono (fun _ a => a) fun _ _ _ q => q.elim)) R' ((F.keeps k3).call (F0 := True) R₃ ev)
/-- a list from a place on -/
theorem pick_from (items : Array Value) (a : Nat) : slicePick items (some (a : Int)) none none = (items.toList.drop a).toArray := by
  by_cases h : a ≤ items.size
  · exact slicePick_from items a h
  · have e : sliceBounds (some (a : Int)) none none items.size = ((items.size : Int), (items.size : Int), 1) := by
      simp only [sliceBounds, Option.getD_none]
      have h1 : ¬ ((a : Int) < 0) := by omega
      simp only [h1, if_false, show (1 : Int) > 0 by decide, if_true]
      congr 1
      omega
    unfold slicePick
    rw [e]
    have : sliceRange (items.size : Int) (items.size : Int) 1 = [] := by rw [sliceRange_one]; simp
    rw [this]
    simp; omega
theorem VRels.dropN {ρ : Place} {σ : Store} {h : Heap} : ∀ {l : List AV} {vs : List Value} (a : Nat), VRels ρ σ h l vs → VRels ρ σ h (l.drop a) (vs.drop a) := fun {l vs} a r =>
  r.ind (P := fun l vs => ∀ a, VRels ρ σ h (l.drop a) (vs.drop a)) (fun a => by rw [List.drop_nil, List.drop_nil]; exact .nil) (fun x y ih a => by
    cases a with
    | zero => exact .cons x y
    | succ a => exact ih a) a
theorem PVn.from {o e : Expr} {p1 pos : Pos} {l : List AV} {a : Nat} (x : PV w H0 k (eval o env) env μ σ (.lst l)) (y : PV w H0 k (eval e env) env μ σ (.int a)) (hl : l.length ≤ 1000) (ht : ∀ u r, letTemporaryGo o u r = pure ()) :
    PVn w H0 k (eval (.Subscript o (.Slice (some e) none none p1) pos) env) env μ σ (l.drop a) := by
  refine ⟨?_⟩; intro A rm ρ s R F Q E hq
  refine wpAny_Subscript_list_slice (x.out A rm ρ s R F _ E fun h₁ t₁ V k₁ u => ?_) ht
  rw [evalPart_some]
  refine y.out A rm ρ _ (R.keeps k₁) (F.keeps k₁) _ E fun h₂ t₂ I k₂ i => ?_
  rw [evalPart_none]
  refine wpAny_pure ?_
  have u₂ := u.keeps k₂
  refine i.el fun tk0 => u₂.el fun b vs x un yv => ?_
  · refine ⟨b, vs.toArray, some (a : Int), none, rfl, x, by rw [List.size_toArray, yv.length]; exact Nat.le_trans hl (by decide), .int _ _, .none, ?_⟩
    rw [pick_from]
    have kp1 := Kept.push h₂ { cls := .type "slice", data := .fields #[.int a tk0, .none, .none] }
    have kp2 := Kept.push (h₂.push { cls := .type "slice", data := .fields #[.int a tk0, .none, .none] }) { cls := .type "list", data := .seq (vs.toArray.toList.drop a).toArray }
    have hsz : (h₂.push { cls := .type "slice", data := .fields #[.int a tk0, .none, .none] }).objs.size = h₂.objs.size + 1 := Heap.size_push ..
    have hn1 : h₂.get? (h₂.objs.size + 1) = none := by
      cases e : h₂.get? (h₂.objs.size + 1) with
      | none => rfl
      | some o => exact absurd (Heap.lt_size e) (Nat.not_lt.mpr (Nat.le_succ _))
    refine hq _ t₂ _ ((vs.toArray.toList.drop a)) ((k₁.trans k₂).trans (kp1.trans kp2)) ?_ ⟨0, by rw [← hsz]; exact Heap.get?_push_size _ rfl⟩ ?_
    · exact (k₁.trans k₂).none hn1
    · have := (yv.dropN a).more hn1
      simpa using this.keeps (kp1.trans kp2)
end
end
section
open PySem PySem.W PyProof.Rows
set_option maxRecDepth 100000
section
variable {w : World} {H0 : Heap} {k : Nat} {env : Env} {μ : Vars} {σ σ' : Store} {ρ : Place} {h : Heap} {W : Nat → Prop} {P : Fl → Vars → Store → Prop} {A : Around} {E : Value → Shared → Prop} {s : Shared}
theorem strs_are {l : List (List Nat)} {vs : List Value} (y : VRels ρ σ h (l.map .str) vs) : StrsAre vs (l.map fun x => (⟨x.toArray⟩ : Str)) := by
  induction l generalizing vs with
  | nil => exact y.el0 .nil
  | cons x l ih => exact y.el fun _ _ a b => a.el fun _ => .cons _ _ (ih b)
theorem join_any {b : Addr} {vs : List Value} {l : List (List Nat)} {x y : List Nat} {t : Tok} {Q : Value → Shared → Prop} (il : s.heap.IsList b vs.toArray) (yv : VRels ρ σ s.heap (l.map .str) vs) (hy : Txt.join ⟨x.toArray⟩ (l.map fun x => (⟨x.toArray⟩ : Str)) = ⟨y.toArray⟩) (hl : (l.map (·.length)).sum + l.length * x.length ≤ 10000000)
    (hq : ∀ h' tk V, Kept s.heap h' → VRel ρ σ h' (.str y) V → Q V { s with heap := h', toks := tk }) : wpAny (model pw w) A (call (.builtin "str.join") [.str ⟨x.toArray⟩ t, .ref b] []) Q E s := by
  refine join_list il (ys := l.map fun x => (⟨x.toArray⟩ : Str)) (by simpa using strs_are yv) ?_ fun t' k => ?_
  · have e1 : ((l.map fun x => (⟨x.toArray⟩ : Str)).map (·.length)) = l.map (·.length) := List.map_map.trans (List.map_congr_left fun z _ => List.size_toArray ..)
    rw [e1, show (⟨x.toArray⟩ : Str).length = x.length from List.size_toArray .., List.length_map]
    exact Nat.le_trans hl (by decide)
  · rw [hy]; exact hq _ _ _ (.refl _) (.str _ _)
theorem fn_joinP {n : Nat} {l : List (List Nat)} {x y : List Nat} (e : σ n = .list (l.map .str)) (hy : Txt.join ⟨x.toArray⟩ (l.map fun x => (⟨x.toArray⟩ : Str)) = ⟨y.toArray⟩) (hl : (l.map (·.length)).sum + l.length * x.length ≤ 10000000) : FnP w H0 k (.builtin "str.join") [.str x, .loc n] [] σ (.str y) := by
  refine ⟨?_⟩; intro A rm ρ s vs ks R a b Q E hq
  refine b.el0 (a.el2 fun _ _ a c => a.el fun _ => c.el fun _ => ?_)
  obtain ⟨vs, x', y'⟩ := R.list e
  exact join_any x'.isList y' hy hl hq
theorem fn_joinL {l : List (List Nat)} {x y : List Nat} (hy : Txt.join ⟨x.toArray⟩ (l.map fun x => (⟨x.toArray⟩ : Str)) = ⟨y.toArray⟩) (hl : (l.map (·.length)).sum + l.length * x.length ≤ 10000000) : FnP w H0 k (.builtin "str.join") [.str x, .lst (l.map .str)] [] σ (.str y) := by
  refine ⟨?_⟩; intro A rm ρ s vs ks R a b Q E hq
  exact b.el0 (a.el2 fun _ _ a c => a.el fun _ => c.el fun _ _ x' u y' => join_any x' y' hy hl hq)
theorem meth_join (x : List Nat) : MethOk w H0 k σ (.str x) "join" (.builtin "str.join") := .builtin F.plainAttrs_str F.slot_str_join F.type_str_join typ_str
/-- no turn over the items of an empty dict -/
theorem XT.items0 (T : Tp w H0) {o : Expr} {target : Expr} {body rest : List Stmt} {pos apos cpos : Pos} {n : Nat} (x : PV w H0 k (eval o env) env μ σ (.loc n)) (e : σ n = .dict [])
    (hbase : attributeBase o "items" env (eval o env) = eval o env) (hline : (apos.endLine == cpos.line) = true) (hs : ∀ x, foldedSetIterable (.Call (.Attribute o "items" apos) [] [] cpos) env x = pure x) (hnext : XT w H0 k W env (execs rest env) μ σ P) :
    XT w H0 k W env (exec (.For target (.Call (.Attribute o "items" apos) [] [] cpos) body [] pos) env) μ σ (Kont w H0 k W env rest P) := by
  refine ⟨?_⟩; intro A rm ρ s R F Q E hq
  refine wpAny_For ?_ hs
  refine wpAny_Call_method (T := "dict") (id := "dict.items") hbase rfl hline PySem.F.plainAttrs_dict PySem.F.slot_dict_items PySem.F.type_dict_items (x.out A rm ρ s R F _ E fun h₁ t₁ U k₁ u => ?_)
  refine u.el fun u0 => ?_
  have R₁ := R.keeps k₁
  obtain ⟨kvs, xd, z, y, q⟩ := R₁.dict e
  · have hk0 : kvs = [] := by
      exact List.map_eq_nil_iff.mp z
    subst hk0
    refine ⟨xd.typeIs, xd.mapOf.noDict, ?_⟩
    have hdS : (ρ.at n == sysModules) = false := by
      rw [beq_eq_false_iff_ne]; intro z; exact T.sys (z ▸ R₁.new n u0)
    refine method_meetsIn PySem.F.slot_dict_items PySem.F.entry_dict_items rfl (PySem.evalArgs_none ⟨rfl, xd.typeIs, PySem.F.args_dict_items_1 _, _, meets_dict_items (strKind pw w) (ρ.at n) hdS, ⟨_, xd⟩, ?_⟩)
    obtain ⟨ep, xa⟩ := xd.dictAt
    have kp1 := Kept.push h₁ { cls := .type "dict_items", data := .fields #[.ref (ρ.at n)] }
    refine wpAny_pyIter_items (knd := strKind pw w) (d := ρ.at n) (kvs := []) (ep := ep) ⟨_, Heap.get?_push_size _ rfl, rfl, rfl⟩ (xa.push _) ?_
    have kp2 := Kept.push (h₁.push { cls := .type "dict_items", data := .fields #[.ref (ρ.at n)] }) { cls := .type "dict_itemiterator", data := .fields #[.none, .bool false, .ref (ρ.at n), .int 0 0, .int ([] : List (Str × Value)).length 0, .int ep 0, .none, .none] }
    refine codeAny_forLoop_any (fun _ s' => s' = _) (fun m s' hs' => ?_) 0 rfl
    subst hs'
    refine wpAny_pyNext_items_end (knd := strKind pw w) (kvs := []) (d := ρ.at n) (i := 0) (ep := ep) (ok := .none) (ov := .none) rm.handled ?_ ?_ rfl fun h' he => ?_
    · exact Heap.get?_push_size _ rfl
    · exact (xa.push _).push _
    have k3 : Kept h₁ h' := fun b o e => he b o (by
      show b ≠ (h₁.push _).objs.size
      rw [Heap.size_push]; exact Nat.ne_of_lt (Nat.lt_succ_of_lt (Heap.lt_size e))) ((kp1.trans kp2) b o e)
    have kk := k₁.trans k3
    exact wpAny_execs_nil (hq .next .next ρ h' t₁ μ σ (.next hnext) .next (kk.evo ..) (R.keeps kk) (F.keeps kk))
end
end
section
open PySem PySem.W PyProof.Rows
set_option maxRecDepth 100000
section
variable {w : World} {H0 : Heap} {k : Nat} {env : Env} {μ : Vars} {σ σ' : Store} {ρ : Place} {h : Heap} {W : Nat → Prop} {P : Fl → Vars → Store → Prop} {A : Around} {E : Value → Shared → Prop} {s : Shared}
theorem keptH (h₀ : Heap) : KeptH (Kept h₀) := fun h ob k => k.trans (Kept.push _ _)
/-- a part of a text -/
theorem PV.cut {o e1 e2 : Expr} {p1 pos : Pos} {x : List Nat} {i j : Int} (a : PV w H0 k (eval o env) env μ σ (.str x)) (b : PV w H0 k (eval e1 env) env μ σ (.int i)) (c : PV w H0 k (eval e2 env) env μ σ (.int j)) (hij : 0 ≤ i ∧ i ≤ j ∧ j ≤ x.length) (hl : x.length ≤ 1000000)
    (hs : ∀ u i, subscripted (.Slice (some e1) (some e2) none p1) false u i = operate [i, u] (getItem u i)) (ht : ∀ u r, letTemporaryGo o u r = pure ()) :
    PV w H0 k (eval (.Subscript o (.Slice (some e1) (some e2) none p1) pos) env) env μ σ (.str ((x.drop i.toNat).take (j - i).toNat)) := by
  refine ⟨?_⟩; intro A rm ρ s R F Q E hq
  refine Subscript_ (a.out A rm ρ s R F _ E fun h₁ t₁ U k₁ u => wpAny_Slice ?_)
  rw [evalPart_some]
  refine b.out A rm ρ _ (R.keeps k₁) (F.keeps k₁) _ E fun h₂ t₂ I k₂ ri => ?_
  rw [evalPart_some]
  refine c.out A rm ρ _ (R.keeps (k₁.trans k₂)) (F.keeps (k₁.trans k₂)) _ E fun h₃ t₃ J k₃ rj => ?_
  rw [evalPart_none]
  refine wpAny_pure ?_
  refine u.el fun _ => ri.el fun _ => rj.el fun _ => ?_
  have kk := (k₁.trans k₂).trans k₃
  refine tail_of_ItemOn (SBH.sliceItem_ss (keptH s.heap) kk (fun h' t' tk k' => ?_) ?_) (hs _ _) (ht _)
  · have : Txt.slice ⟨x.toArray⟩ (some i) (some j) = ⟨((x.drop i.toNat).take (j - i).toNat).toArray⟩ := by
      have := StrLaws.sliceText_plain (x := ⟨x.toArray⟩) (i := i) (j := j) (by simpa using hij)
      exact Eq.trans (show _ = StrLaws.sliceText _ _ _ from rfl) (by simpa using this)
    rw [this]
    exact hq h' tk _ k' (.str _ _)
  · show x.toArray.size ≤ sizeLine
    rw [List.size_toArray]; exact Nat.le_trans hl (by decide)
end
end
section
open PySem PySem.W PyProof.Rows
set_option maxRecDepth 100000
section
variable {w : World} {H0 : Heap} {k : Nat} {env : Env} {μ : Vars} {σ σ' : Store} {ρ : Place} {h : Heap} {W : Nat → Prop} {P : Fl → Vars → Store → Prop} {A : Around} {E : Value → Shared → Prop} {s : Shared}
theorem fn_abs (a : Int) : FnP w H0 k (.builtin "abs") [.int a] [] σ (.int (if a < 0 then -a else a)) := by
  refine ⟨?_⟩; intro A rm ρ s vs ks R a b Q E hq
  refine b.el0 (a.el1 fun _ a => a.el fun _ => ?_)
  exact call_abs_int fun u tk => hq _ _ _ (.refl _) (.int _ _)
theorem fn_int (a : Int) : FnP w H0 k (.type "int") [.int a] [] σ (.int a) := by
  refine ⟨?_⟩; intro A rm ρ s vs ks R a b Q E hq
  refine b.el0 (a.el1 fun _ a => a.el fun _ => ?_)
  exact call_int_int (hq s.heap s.toks _ (.refl _) (.int _ _))
theorem fn_divmod (a b : Int) (hb : 0 < b ∧ b < 1000000) : FnP w H0 k (.builtin "divmod") [.int a, .int b] [] σ (.tup [.int (a / b), .int (a % b)]) := by
  refine ⟨?_⟩; intro A rm ρ s vs ks R x y Q E hq
  refine y.el0 (x.el2 fun _ _ x y => x.el fun _ => y.el fun _ => ?_)
  have e1 : a.fdiv b = a / b := Int.fdiv_eq_ediv_of_nonneg a (by omega)
  have e2 : a.fmod b = a % b := Int.fmod_eq_emod_of_nonneg a (by omega)
  refine divmod_int (by omega) ?_ (.inl (PyProof.noPylong_small (by omega)))
  rw [e1, e2]
  exact hq _ _ _ (Kept.push _ _) (.tup (vs := [.int (a / b) _, .int (a % b) _]) ⟨_, Heap.get?_push_size _ rfl, rfl, 0, rfl⟩ (.cons (.int _ _) (.cons (.int _ _) .nil)))
theorem fn_min (a b : Int) : FnP w H0 k (.builtin "min") [.int a, .int b] [] σ (.int (if b < a then b else a)) := by
  refine ⟨?_⟩; intro A rm ρ s vs ks R x y Q E hq
  refine y.el0 (x.el2 fun _ _ x y => x.el fun _ => y.el fun _ => ?_)
  refine min_two_ints rm.handled fun h' tk kp => hq h' tk _ kp ?_
  split <;> exact .int _ _
theorem O2.addY (a b : List UInt8) (h : a.length + b.length ≤ 10000000) : O2 w H0 k (binaryOp .Add) σ (.bytes a) (.bytes b) (.bytes (a ++ b)) := by
  refine ⟨?_⟩; intro A rm ρ s U V R u v Q E hq; refine u.el fun _ => v.el fun _ => ?_
  refine PySem.W.KBy.add_bytes (by simp; omega) fun t' k => ?_
  have e : a.toArray ++ b.toArray = (a ++ b).toArray := by simp
  rw [e]; exact hq _ _ _ (.refl _) (.bytes _ _)
/-- a part of octets -/
theorem PV.cutY {o e1 e2 : Expr} {p1 pos : Pos} {x : List UInt8} {i j : Int} (a : PV w H0 k (eval o env) env μ σ (.bytes x)) (b : PV w H0 k (eval e1 env) env μ σ (.int i)) (c : PV w H0 k (eval e2 env) env μ σ (.int j)) (hl : x.length ≤ 1000000)
    (hs : ∀ u i, subscripted (.Slice (some e1) (some e2) none p1) false u i = operate [i, u] (getItem u i)) (ht : ∀ u r, letTemporaryGo o u r = pure ()) :
    PV w H0 k (eval (.Subscript o (.Slice (some e1) (some e2) none p1) pos) env) env μ σ (.bytes (KBy.picked x.toArray (some i) (some j)).toList) := by
  refine ⟨?_⟩; intro A rm ρ s R F Q E hq
  refine Subscript_ (a.out A rm ρ s R F _ E fun h₁ t₁ U k₁ u => wpAny_Slice ?_)
  rw [evalPart_some]
  refine b.out A rm ρ _ (R.keeps k₁) (F.keeps k₁) _ E fun h₂ t₂ I k₂ ri => ?_
  rw [evalPart_some]
  refine c.out A rm ρ _ (R.keeps (k₁.trans k₂)) (F.keeps (k₁.trans k₂)) _ E fun h₃ t₃ J k₃ rj => ?_
  rw [evalPart_none]
  refine wpAny_pure ?_
  refine u.el fun _ => ri.el fun _ => rj.el fun _ => ?_
  have kk := (k₁.trans k₂).trans k₃
  refine tail_of_ItemOn ⟨"bytes", _, FB.slot_bytes_getitem.lookup, typeIs_bytes _ _ _, getItem_meets (typeIs_bytes _ _ _) (by decide) FB.slot_bytes_getitem FB.entry_bytes_getitem (FB.args_bytes_getitem_2 _ _) (KBc.meets_slice2 x.toArray _ _ (.int i _) (.int j _))
    ⟨Heap.IsSliceOf.new _ _ _ _, Nat.le_trans (KBc.size_picked_le _ _ _) (by rw [List.size_toArray]; exact Nat.le_trans hl (by decide)), fun t' tk => ?_⟩⟩ (hs _ _) (ht _)
  have e : KBy.picked x.toArray (some i) (some j) = (KBy.picked x.toArray (some i) (some j)).toList.toArray := by simp
  rw [e]
  exact hq _ tk _ (kk.trans (Kept.push _ _)) (.bytes _ t')
end
end
section
open PySem PySem.W PyProof.Rows
set_option maxRecDepth 100000
section
variable {w : World} {H0 : Heap} {k : Nat} {env : Env} {μ : Vars} {σ σ' : Store} {ρ : Place} {h : Heap} {W : Nat → Prop} {P : Fl → Vars → Store → Prop} {A : Around} {E : Value → Shared → Prop} {s : Shared}
theorem O2.addL (a b : List AV) (hl : a.length + b.length ≤ 100000) : O2 w H0 k (binaryOp .Add) σ (.lst a) (.lst b) (.lst (a ++ b)) := by
  refine ⟨?_⟩; intro A rm ρ s U V R u v Q E hq
  refine u.el fun la vs x ux y => v.el fun lb ws x' ux' y' => ?_
  · · obtain ⟨⟨cls, dd, data, sl⟩, ho, hc, n, hd⟩ := id x
      obtain ⟨⟨cls2, dd2, data2, sl2⟩, ho2, hc2, n2, hd2⟩ := id x'
      simp only at hc hd hc2 hd2
      subst hc hd hc2 hd2
      have e : vs.toArray ++ ws.toArray = (vs ++ ws).toArray := by simp
      refine concat_meets ⟨_, ho, rfl⟩ ⟨_, ho2, rfl⟩ noFill_list_add seq_list_add PySem.F.slot_list_add PySem.F.entry_list_add (PySem.F.args_list_add_2 _ _) (list_addW la lb vs.toArray ws.toArray n n2 dd dd2 sl sl2 (by
        rw [List.size_toArray, List.size_toArray, y.length, y'.length]; exact Nat.le_trans hl (by decide))) ⟨ho, ho2, ?_⟩
      rw [e]
      have kp := Kept.push s.heap { cls := .type "list", data := .seq (vs ++ ws).toArray }
      exact hq _ _ _ kp (.lst ⟨_, Heap.get?_push_size _ rfl, rfl, 0, rfl⟩ (R.fresh (Nat.le_refl _)) ((y.append y').keeps kp))
end
end
section
open PySem PySem.W PyProof.Rows
set_option maxRecDepth 100000
/-- two letters -/
theorem dec2 : ∀ n : Nat, n < 16 → ∀ id, Builtin._codecs.runDecoder id Builtin._codecs.utf8Decoder none true [66, UInt8.ofNat (65 + n)].toArray 0 [] = pure (#[66, 65 + n], 2) := by
  intro n hn id
  have all : (List.range 16).map (fun n => Builtin._codecs.runDecoder id Builtin._codecs.utf8Decoder none true [66, UInt8.ofNat (65 + n)].toArray 0 []) = (List.range 16).map fun n => pure (#[66, 65 + n], 2) := by kernel_rfl
  exact List.map_inj_left.mp all n (List.mem_range.mpr hn)
/-- three letters -/
theorem dec3 : ∀ h : Nat, h < 16 → ∀ n : Nat, n < 16 → ∀ id, Builtin._codecs.runDecoder id Builtin._codecs.utf8Decoder none true [66, UInt8.ofNat (65 + h), UInt8.ofNat (65 + n)].toArray 0 [] = pure (#[66, 65 + h, 65 + n], 3) := by
  intro h hh n hn id
  have all : (List.range 16).map (fun h => (List.range 16).map fun n => Builtin._codecs.runDecoder id Builtin._codecs.utf8Decoder none true [66, UInt8.ofNat (65 + h), UInt8.ofNat (65 + n)].toArray 0 []) = (List.range 16).map fun h => (List.range 16).map fun n => pure (#[66, 65 + h, 65 + n], 3) := by kernel_rfl
  exact List.map_inj_left.mp (List.map_inj_left.mp all h (List.mem_range.mpr hh)) n (List.mem_range.mpr hn)
section
variable {w : World} {H0 : Heap} {k : Nat} {σ : Store}
theorem typ_bytes {x : List UInt8} : ∀ (ρ : Place) (s : Shared) (U : Value), Rel w H0 ρ σ s.heap → VRel ρ σ s.heap (.bytes x) U → s.TypeIs U "bytes" ∧ ∀ b, U = .ref b → ∃ o, s.heap.get? b = some o ∧ o.dict = none := by
  intro ρ s U R u; refine u.el fun _ => ?_; exact ⟨typeIs_bytes _ _ _, fun b e => by cases e⟩
theorem meth_decode (x : List UInt8) : MethOk w H0 k σ (.bytes x) "decode" (.builtin "bytes.decode") := .builtin FB.plainAttrs_bytes FB.slot_bytes_decode FB.type_bytes_decode typ_bytes
theorem fn_decode {c : UInt8} {cs : List UInt8} {y : List Nat} {n : Nat} (hd : ∀ id, Builtin._codecs.runDecoder id Builtin._codecs.utf8Decoder none true (c :: cs).toArray 0 [] = pure (y.toArray, n)) (hl : y.length ≤ 1000) : FnP w H0 k (.builtin "bytes.decode") [.bytes (c :: cs)] [] σ (.str y) := by
  refine ⟨?_⟩; intro A rm ρ s vs ks R a b Q E hq
  refine b.el0 (a.el1 fun _ a => a.el fun _ => ?_)
  refine KBd.decode (x := ⟨y.toArray⟩) hd ?_ fun t' k => hq _ _ _ (.refl _) (.str _ _)
  show y.toArray.size ≤ _
  rw [List.size_toArray]; omega
end
end
section
open PySem PySem.W PyProof.Rows
set_option maxRecDepth 100000
section
variable {w : World} {H0 : Heap} {k : Nat} {env : Env} {μ : Vars} {σ : Store}
theorem meth_index (x : List Nat) : MethOk w H0 k σ (.str x) "index" (.builtin "str.index") := .builtin F.plainAttrs_str F.slot_str_index F.type_str_index typ_str
theorem fn_index {x y : List Nat} {i : Nat} {rest : List Nat} (e : Builtin.Str.occurrences ⟨x.toArray⟩ ⟨y.toArray⟩ 0 x.length 1 = i :: rest) : FnP w H0 k (.builtin "str.index") [.str x, .str y] [] σ (.int i) := by
  refine ⟨?_⟩; intro A rm ρ s vs ks R a b Q E hq
  refine b.el0 (a.el2 fun _ _ a b => a.el fun _ => b.el fun _ => ?_)
  refine SC.index (i := i) (rest := rest) ?_ (hq _ _ _ (.refl _) (.int _ _))
  have : (⟨x.toArray⟩ : Str).length = x.length := by show x.toArray.size = _; simp
  rw [this]; exact e
end
end
section
open PySem PySem.W PyProof.Rows PySem.SeqAt
set_option maxRecDepth 100000
/-- equality of values, n deep -/
inductive EqR : Nat → AV → AV → Bool → Prop where
  | int (n : Nat) (a b : Int) : EqR n (.int a) (.int b) (a == b)
  | str (n : Nat) (a b : List Nat) : EqR n (.str a) (.str b) (a == b)
  | bytes (n : Nat) (a b : List UInt8) : EqR n (.bytes a) (.bytes b) (a == b)
  | bool (n : Nat) (a b : Bool) : EqR n (.bool a) (.bool b) (a == b)
  | tup {n : Nat} {a b : List AV} {c : List Bool} (hc : c.length = a.length) (hl : a.length = b.length) (h : ∀ i x y, a[i]? = some x → b[i]? = some y → EqR n x y (c.getD i false)) : EqR (n + 1) (.tup a) (.tup b) (c.all id)
section
variable {w : World} {H0 : Heap} {k : Nat} {σ : Store} {ρ : Place} {h : Heap} {A : Around} {s : Shared}
theorem all_getD (c : List Bool) (n : Nat) (hn : n = c.length) : (List.range n).all (fun i => c.getD i false) = c.all id := by
  subst hn
  rw [Bool.eq_iff_iff, List.all_eq_true, List.all_eq_true]
  constructor
  · intro h x hx
    obtain ⟨i, hi, rfl⟩ := List.getElem_of_mem hx
    have := h i (List.mem_range.mpr hi)
    simpa [List.getD, hi] using this
  · intro h i hi
    have hi := List.mem_range.mp hi
    have := h c[i] (List.getElem_mem hi)
    simpa [List.getD, hi] using this
theorem pairs_at {l m : List AV} {c : List Bool} {vs us : List Value} {p : Value → Value → Bool → Prop} (hl : l.length = m.length) (y : VRels ρ σ h l vs) (y' : VRels ρ σ h m us)
    (H : ∀ i x x' U V, l[i]? = some x → m[i]? = some x' → VRel ρ σ h x U → VRel ρ σ h x' V → p U V (c.getD i false)) : vs.toArray.size = us.toArray.size ∧ ∀ j (h1 : j < vs.toArray.size) (h2 : j < us.toArray.size), p vs.toArray[j] us.toArray[j] (c.getD j false) := by
  refine ⟨by rw [List.size_toArray, List.size_toArray, y.length, y'.length, hl], fun j h1 h2 => ?_⟩
  rw [List.size_toArray, y.length] at h1
  rw [List.size_toArray, y'.length] at h2
  obtain ⟨P, e1, r1⟩ := y.at (List.getElem?_eq_getElem h1)
  obtain ⟨Q, e2, r2⟩ := y'.at (List.getElem?_eq_getElem h2)
  rw [(List.getElem_toArray ..).trans (List.getElem?_eq_some_iff.mp e1).2, (List.getElem_toArray ..).trans (List.getElem?_eq_some_iff.mp e2).2]
  exact H j _ _ P Q (List.getElem?_eq_getElem h1) (List.getElem?_eq_getElem h2) r1 r2
theorem bytes_inj {a b : List UInt8} {t t' : Tok} (e : Value.bytes a.toArray t = Value.bytes b.toArray t') : a = b := by cases e; rfl
theorem str_inj {a b : List Nat} {t t' : Tok} (e : Value.str ⟨a.toArray⟩ t = Value.str ⟨b.toArray⟩ t') : a = b := by cases e; rfl
theorem same_seq {p : Addr} {vs us : List Value} (x : h.IsTuple p vs.toArray) (x' : h.IsTuple p us.toArray) : vs = us := by
  obtain ⟨o, e, _, n1, d⟩ := x
  obtain ⟨o', e', _, n2, d'⟩ := x'
  rw [same_obj e' e, d] at d'; cases d'; rfl
theorem EqR.self {n : Nat} {a b : AV} {c : Bool} (e : EqR n a b c) : ∀ (U : Value), VRel ρ σ h a U → VRel ρ σ h b U → c = true := by
  induction e with
  | int n a b =>
    intro U u v
    obtain ⟨t, q⟩ : ∃ t, U = .int a t := u.el fun t => ⟨t, rfl⟩
    obtain ⟨t', q'⟩ : ∃ t, U = .int b t := v.el fun t => ⟨t, rfl⟩
    exact beq_iff_eq.mpr (Value.int.inj (q.symm.trans q')).1
  | str n a b =>
    intro U u v
    obtain ⟨t, q⟩ : ∃ t, U = .str ⟨a.toArray⟩ t := u.el fun t => ⟨t, rfl⟩
    obtain ⟨t', q'⟩ : ∃ t, U = .str ⟨b.toArray⟩ t := v.el fun t => ⟨t, rfl⟩
    exact beq_iff_eq.mpr (str_inj (q.symm.trans q'))
  | bytes n a b =>
    intro U u v
    obtain ⟨t, q⟩ : ∃ t, U = .bytes a.toArray t := u.el fun t => ⟨t, rfl⟩
    obtain ⟨t', q'⟩ : ∃ t, U = .bytes b.toArray t := v.el fun t => ⟨t, rfl⟩
    exact beq_iff_eq.mpr (bytes_inj (q.symm.trans q'))
  | bool n a b =>
    intro U u v
    have q : U = .bool a := u.elB rfl
    have q' : U = .bool b := v.elB rfl
    exact beq_iff_eq.mpr (Value.bool.inj (q.symm.trans q'))
  | @tup n l m c hc hl _ ih =>
    intro U u v
    obtain ⟨p, vs, q, x, y⟩ : ∃ p vs, U = .ref p ∧ h.IsTuple p (List.toArray vs) ∧ VRels ρ σ h l vs := u.el fun p vs x y => ⟨p, vs, rfl, x, y⟩
    obtain ⟨p', us, q', x', y'⟩ : ∃ p vs, U = .ref p ∧ h.IsTuple p (List.toArray vs) ∧ VRels ρ σ h m vs := v.el fun p vs x y => ⟨p, vs, rfl, x, y⟩
    obtain rfl : p = p' := Value.ref.inj (q.symm.trans q')
    obtain rfl := same_seq x x'
    have k := (pairs_at (c := c) (p := fun U V d => U = V → d = true) hl y y' fun i x x' U V e1 e2 r1 r2 q => ih i _ _ e1 e2 U r1 (q ▸ r2)).2
    rw [List.all_eq_true]
    intro z hz
    obtain ⟨j, hj, rfl⟩ := List.getElem_of_mem hz
    have hj' : j < vs.toArray.size := by rw [List.size_toArray, y.length]; exact hc ▸ hj
    have := k j hj' hj' rfl
    rwa [List.getD_eq_getElem?_getD, List.getElem?_eq_getElem hj] at this
theorem eqAt_of {U V : Value} {c : Bool} (hm : eqBool U V = holding [U, V] (if (U == V) = true then (do rule "eq-bool.same-object"; pure true) else richCompare .Eq U V >>= truthOfDropped)) (self : U = V → c = true)
    (go : ∀ (prog : Program) (w : World) (E : Value → Shared → Prop) (Q : Bool → Shared → Prop), Q c s → wpAny (model prog w) A (richCompare .Eq U V >>= truthOfDropped) Q E s) : EqAt A s U V c := by
  intro prog w E Q hq
  rw [hm]
  refine wpAny_holding (wpAny_ite_split (fun hab => ?_) fun _ => go prog w E Q hq)
  exact wpAny_bind (wpAny_rule (wpAny_pure (self (eq_of_beq hab) ▸ hq)))
theorem EqR.at {n : Nat} {a b : AV} {c : Bool} (e : EqR n a b c) : ∀ (A : Around) (U V : Value), A.units + n < cLine → VRel ρ σ s.heap a U → VRel ρ σ s.heap b V → EqAt A s U V c := by
  induction e with
  | int n a b => intro A U V hu u v; exact u.el fun _ => v.el fun _ => EqAt.int_int _ _ _ _
  | str n a b =>
    intro A U V hu u v
    refine u.el fun t => v.el fun t' => ?_
    have := (eqGives_str ⟨a.toArray⟩ ⟨b.toArray⟩ t t').at A s
    have e : ((⟨a.toArray⟩ : Str) == ⟨b.toArray⟩) = (a == b) := by
      by_cases z : a = b
      · subst z; exact (beq_self_eq_true (α := Str) _).trans (beq_self_eq_true _).symm
      · rw [beq_eq_false_iff_ne.mpr z]; exact beq_eq_false_iff_ne.mpr fun q => z (by simpa using q)
    rwa [e] at this
  | bytes n a b =>
    intro A U V hu u v
    have self : U = V → _ := fun q => (EqR.bytes n a b).self U u (q ▸ v)
    refine u.el (P := fun U => (U = V → _) → EqAt A s U V _) (fun _ => v.el (P := fun V => (_ = V → _) → EqAt A s _ V _) fun _ self => ?_) self
    refine eqAt_of (by rfl) self fun prog w E Q hq => ?_
    exact wpAny_bind (eq_bytes (wpAny_truthy_bool (by simpa using hq)))
  | bool n a b =>
    intro A U V hu u v
    have self : U = V → _ := fun q => (EqR.bool n a b).self U u (q ▸ v)
    refine u.elB (P := fun U => (U = V → _) → EqAt A s U V _) (v.elB (P := fun V => (_ = V → _) → EqAt A s _ V _) fun self => ?_) self
    exact eqAt_of (by rfl) self fun prog w E Q hq => wpAny_bind (eq_bool (wpAny_truthy_bool hq))
  | @tup n l m c hc hl he ih =>
    intro A U V hu u v
    have self : U = V → _ := fun q => (EqR.tup hc hl he).self U u (q ▸ v)
    refine u.el (P := fun U => (U = V → _) → EqAt A s U V _) (fun p vs x y => v.el (P := fun V => (_ = V → _) → EqAt A s _ V _) fun q us x' y' self => ?_) self
    refine eqAt_of (by rfl) self fun prog w E Q hq => ?_
    have key := pairs_at (c := c) (p := fun U V d => EqAt A.in1 s U V d) hl y y' fun i x x' U V e1 e2 r1 r2 => ih i _ _ e1 e2 A.in1 U V (show A.units + 1 + n < cLine by omega) r1 r2
    have hr := RcAt.tuples (e := fun j => c.getD j false) x x' (show A.units < cLine by omega) key.2
    have hs : ((List.range (min vs.toArray.size us.toArray.size)).all (fun j => c.getD j false) && vs.toArray.size == us.toArray.size) = c.all id := by
      rw [← key.1, Nat.min_self, all_getD c _ (by rw [List.size_toArray, y.length, hc]), beq_self_eq_true, Bool.and_true]
    rw [hs] at hr
    exact wpAny_bind (hr prog w E _ (wpAny_truthy_bool hq))
end
end
section
open PySem PySem.W PyProof.Rows PySem.SeqAt
set_option maxRecDepth 100000
section
variable {w : World} {H0 : Heap} {k : Nat} {env : Env} {μ : Vars} {σ : Store} {ρ : Place} {h : Heap} {A : Around} {s : Shared}
/-- what reads as a list -/
noncomputable def Lst (σ : Store) (a : AV) (l : List AV) : Prop := a = .lst l ∨ ∃ n, a = .loc n ∧ σ n = .list l
theorem Lst.lst (l : List AV) : Lst σ (.lst l) l := .inl rfl
theorem Lst.loc {n : Nat} {l : List AV} (e : σ n = .list l) : Lst σ (.loc n) l := .inr ⟨n, rfl, e⟩
theorem Lst.is {a : AV} {l : List AV} {U : Value} (x : Lst σ a l) (R : Rel w H0 ρ σ h) (u : VRel ρ σ h a U) : ∃ p vs, U = .ref p ∧ h.IsList p (List.toArray vs) ∧ VRels ρ σ h l vs := by
  rcases x with rfl | ⟨n, rfl, e⟩
  · exact u.el fun _ _ x _ y => ⟨_, _, rfl, x, y⟩
  · refine u.el fun _ => ?_
    obtain ⟨_, x, y⟩ := R.list e
    exact ⟨_, _, rfl, x.isList, y⟩
/-- items compared one by one -/
noncomputable def EqI (l m : List AV) (c : List Bool) : Prop := c.length = l.length ∧ l.length = m.length ∧ ∀ i x y, l[i]? = some x → m[i]? = some y → EqR 5 x y (c.getD i false)
theorem EqI.keys {l m : List AV} {c : List Bool} (e : EqI l m c) {vs us : List Value} (y : VRels ρ σ s.heap l vs) (y' : VRels ρ σ s.heap m us) (hu : A.units + 6 < cLine) : vs.toArray.size = us.toArray.size ∧ (∀ j (h1 : j < vs.toArray.size) (h2 : j < us.toArray.size), EqAt A.in1 s vs.toArray[j] us.toArray[j] (c.getD j false)) ∧
    (List.range vs.toArray.size).all (fun j => c.getD j false) = c.all id := by
  obtain ⟨e1, e2, e3⟩ := e
  have key := pairs_at (c := c) (p := fun U V d => EqAt A.in1 s U V d) e2 y y' fun i x x' U V f1 f2 r1 r2 => (e3 i _ _ f1 f2).at A.in1 U V (show A.units + 1 + 5 < cLine from hu) r1 r2
  exact ⟨key.1, key.2, all_getD c _ (by rw [List.size_toArray, y.length, e1])⟩
theorem Rm.wide {k : Nat} {A : Around} (r : Rm k A) : A.units + 6 < cLine := by have := r.units; show A.units + 6 < 9900; omega
theorem O2.eqLs {a b : AV} {l m : List AV} {c : List Bool} (ha : Lst σ a l) (hb : Lst σ b m) (e : EqI l m c) : O2 w H0 k (compareOp .Eq) σ a b (.bool (c.all id)) := by
  refine ⟨?_⟩; intro A rm ρ s U V R u v Q E hq
  obtain ⟨p, vs, rfl, x, y⟩ := ha.is R u
  obtain ⟨q, us, rfl, x', y'⟩ := hb.is R v
  obtain ⟨k1, k2, k3⟩ := e.keys (A := A) y y' rm.wide
  refine eq_listAt x x' k1 rm.line k2 ?_
  rw [k3]; exact hq s.heap s.toks _ (.refl _) (.bool _)
theorem O2.neLs {a b : AV} {l m : List AV} {c : List Bool} (ha : Lst σ a l) (hb : Lst σ b m) (e : EqI l m c) : O2 w H0 k (compareOp .NotEq) σ a b (.bool (!c.all id)) := by
  refine ⟨?_⟩; intro A rm ρ s U V R u v Q E hq
  obtain ⟨p, vs, rfl, x, y⟩ := ha.is R u
  obtain ⟨q, us, rfl, x', y'⟩ := hb.is R v
  obtain ⟨k1, k2, k3⟩ := e.keys (A := A) y y' rm.wide
  refine RcNeAt.lists (e := fun j => c.getD j false) x x' k1 rm.line k2 pw w E Q ?_
  rw [k3]; exact hq s.heap s.toks _ (.refl _) (.bool _)
theorem EqI.nil : EqI [] [] [] := ⟨rfl, rfl, fun i x y e => by simp at e⟩
theorem O2.eqNil {a : AV} {l : List AV} (ha : Lst σ a l) : O2 w H0 k (compareOp .Eq) σ a (.lst []) (.bool l.isEmpty) := by
  cases l with
  | nil => exact O2.eqLs ha (Lst.lst []) EqI.nil
  | cons z l =>
    refine ⟨?_⟩; intro A rm ρ s U V R u v Q E hq
    obtain ⟨p, vs, rfl, x, y⟩ := ha.is R u
    obtain ⟨q, us, rfl, x', y'⟩ := (Lst.lst []).is R v
    refine y'.el0 (V := us) (P := fun us => s.heap.IsList q us.toArray → _) (fun x' => ?_) x'
    exact eq_list_lengthsAt x x' (by rw [List.size_toArray, y.length]; rfl) rm.line (hq s.heap s.toks _ (.refl _) (.bool _))
theorem O2.neNil {a : AV} {l : List AV} (ha : Lst σ a l) : O2 w H0 k (compareOp .NotEq) σ a (.lst []) (.bool (!l.isEmpty)) := by
  cases l with
  | nil => exact O2.neLs ha (Lst.lst []) EqI.nil
  | cons z l =>
    refine ⟨?_⟩; intro A rm ρ s U V R u v Q E hq
    obtain ⟨p, vs, rfl, x, y⟩ := ha.is R u
    obtain ⟨q, us, rfl, x', y'⟩ := (Lst.lst []).is R v
    refine y'.el0 (V := us) (P := fun us => s.heap.IsList q us.toArray → _) (fun x' => ?_) x'
    exact RcNeAt.lists_lengths x x' (by rw [List.size_toArray, y.length]; rfl) rm.line pw w E Q (hq s.heap s.toks _ (.refl _) (.bool _))
theorem O2.eqT {l m : List AV} {c : List Bool} (e : EqI l m c) : O2 w H0 k (compareOp .Eq) σ (.tup l) (.tup m) (.bool (c.all id)) := by
  refine ⟨?_⟩; intro A rm ρ s U V R u v Q E hq
  refine u.el fun p vs x y => v.el fun q us x' y' => ?_
  · · obtain ⟨k1, k2, k3⟩ := e.keys (A := A) y y' rm.wide
      refine eq_tupleAt x x' rm.line k2 ?_
      rw [← k1, Nat.min_self, k3, beq_self_eq_true, Bool.and_true]
      exact hq s.heap s.toks _ (.refl _) (.bool _)
theorem EqI.self {l : List AV} (h : ∀ x ∈ l, EqR 5 x x true) : EqI l l (l.map fun _ => true) := by
  refine ⟨by simp, rfl, fun i x y e e' => ?_⟩
  obtain rfl := Option.some.inj (e.symm.trans e')
  have hi := (List.getElem?_eq_some_iff.mp e).1
  have : (l.map fun _ => true).getD i false = true := by simp [List.getD, hi]
  rw [this]; exact h x (List.mem_of_getElem? e)
theorem all_true (l : List AV) : (l.map fun _ => true).all id = true := by simp
theorem O2.eqSame {a b : AV} {l : List AV} (ha : Lst σ a l) (hb : Lst σ b l) (h : ∀ x ∈ l, EqR 5 x x true) : O2 w H0 k (compareOp .Eq) σ a b (.bool true) := all_true l ▸ O2.eqLs ha hb (EqI.self h)
theorem O2.eqSameT {l : List AV} (h : ∀ x ∈ l, EqR 5 x x true) : O2 w H0 k (compareOp .Eq) σ (.tup l) (.tup l) (.bool true) := all_true l ▸ O2.eqT (EqI.self h)

-- unary
theorem PV.unot {x : Expr} {pos : Pos} {a : AV} {c : Bool} (y : PV w H0 k (eval x env) env μ σ a) (z : O1B w H0 k truthy σ a c) : PV w H0 k (eval (.UnaryOp .Not x pos) env) env μ σ (.bool (!c)) := by
  refine ⟨?_⟩; intro A rm ρ s R F Q E hq
  refine UnaryOp_ (y.out A rm ρ s R F _ E fun h₁ t₁ U k₁ u => not_of ?_)
  exact z.out A rm ρ _ U (R.keeps k₁) u _ E fun h₂ t₂ k₂ => hq h₂ t₂ _ (k₁.trans k₂) (.bool _)
theorem PV.uneg {x : Expr} {pos : Pos} {a : Int} (y : PV w H0 k (eval x env) env μ σ (.int a)) : PV w H0 k (eval (.UnaryOp .USub x pos) env) env μ σ (.int (-a)) := by
  refine ⟨?_⟩; intro A rm ρ s R F Q E hq
  refine UnaryOp_ (y.out A rm ρ s R F _ E fun h₁ t₁ U k₁ u => ?_)
  exact (O1.neg (k := k) a).out A rm ρ _ U (R.keeps k₁) u _ E fun h₂ t₂ V k₂ q => hq h₂ t₂ V (k₁.trans k₂) q
-- blanks
theorem mul_blank (n : Nat) : Txt.mul ⟨([32] : List Nat).toArray⟩ (n : Int) = ⟨(List.replicate n 32).toArray⟩ := by
  unfold Txt.mul
  match n with
  | 0 => rfl
  | 1 => rfl
  | n + 2 =>
    rw [if_neg (by omega), if_neg (by simp [Str.length]; omega)]
    have key : ∀ (m : Nat) (acc : Array Nat), (List.replicate m (#[32] : Array Nat)).foldl (· ++ ·) acc = acc ++ (List.replicate m 32).toArray := by
      intro m
      induction m with
      | zero => intro acc; simp
      | succ m ih => intro acc; rw [List.replicate_succ, List.foldl_cons, ih, List.replicate_succ]; apply Array.ext'; simp
    have := key (n + 2) #[]
    show Str.mk (List.foldl _ #[] (List.replicate ((n + 2 : Nat) : Int).toNat _)) = _
    rw [Int.toNat_natCast]
    exact congrArg Str.mk (this.trans (by simp))
theorem O2.blanks (n : Nat) (hn : n ≤ 100000) : O2 w H0 k (binaryOp .Mult) σ (.str [32]) (.int n) (.str (List.replicate n 32)) := by
  refine ⟨?_⟩; intro A rm ρ s U V R u v Q E hq; refine u.el fun _ => v.el fun _ => ?_
  refine SB.mul (mulOk_of 1 100000 (by simp [Str.length]) (by omega) (by omega) (by decide) (by decide)) fun t' k => ?_
  rw [mul_blank]; exact hq _ _ _ (.refl _) (.str _ _)
theorem mul_listG {prog : Program} {w : World} {A : Around} {E : Value → Shared → Prop} {s : Shared} {p : Addr} {vs : List Value} {n : Nat} {tn : Tok} {Q : Value → Shared → Prop} (hl : s.heap.IsList p vs.toArray) (hsz : vs.length * n ≤ 256) (hn : n ≤ 256)
    (h : Q (.ref s.heap.objs.size) { s with heap := s.heap.push { cls := .type "list", data := .seq (List.replicate n vs).flatten.toArray } }) : wpAny (model prog w) A (binaryOp .Mult (.ref p) (.int (n : Int) tn)) Q E s := by
  obtain ⟨⟨cls, d, data, sl⟩, ho, hcl, m, hd⟩ := id hl
  simp only at hcl hd
  subst hcl hd
  have hsz' : vs.toArray.size * (n : Int).toNat ≤ 256 := by simpa using hsz
  have hnn : (List.replicate n vs) = List.replicate (n : Int).toNat vs := by rw [Int.toNat_natCast]
  rw [hnn] at h
  have h0 : (0 : Int) ≤ n ∧ (n : Int) ≤ 256 := by omega
  generalize (n : Int) = x at hsz' h h0 ⊢
  have hz2 : Builtin.List.listTooLong (vs.toArray.size * x.toNat) = false := decide_eq_false (Nat.not_lt.mpr (Nat.le_trans hsz' (by decide)))
  refine wpAny_binaryOp_repeat_ref (T := "list") (U := "int") (by decide) ⟨_, ho, rfl⟩ (fun s' => typeIs_int s' x tn) noFill_list_mul PySem.F.fills_int_mul PySem.F.slot_int_rmul repeat_list PySem.F.slot_int_index.lookup
    (call_meets PySem.F.slot_int_rmul (typeIs_int _ x tn) PySem.F.entry_int_rmul (PySem.F.args_int_rmul_2 _ _) (lm_int_rmul_list_any x tn p vs.toArray m d sl)
      ⟨ho, rfl, ⟨_, ho, rfl⟩, call_meets PySem.F.slot_list_mul ⟨_, ho, rfl⟩ PySem.F.entry_list_mul (PySem.F.args_list_mul_2 _ _)
        (lm_list_mul_any p vs.toArray m d sl x tn (by simp [Builtin.List.listFitsIndex]; omega) (by omega) (by rw [hz2]; exact Bool.false_ne_true))
        ⟨ho, ?_⟩⟩)
  rw [listMul_foldl_if]
  simpa using h
theorem PVn.mul {l r : Expr} {pos : Pos} {a : List AV} {n : Nat} (x : PV w H0 k (eval l env) env μ σ (.lst a)) (y : PV w H0 k (eval r env) env μ σ (.int n)) (hl : a.length * n ≤ 256) (hn : n ≤ 256) : PVn w H0 k (eval (.BinOp l .Mult r pos) env) env μ σ (List.replicate n a).flatten := by
  refine ⟨?_⟩; intro A rm ρ s R F Q E hq
  refine wpAny_BinOp (x.out A rm ρ s R F _ E fun h₁ t₁ U k₁ u => y.out A rm ρ _ (R.keeps k₁) (F.keeps k₁) _ E fun h₂ t₂ V k₂ v => ?_)
  have u₂ := u.keeps k₂
  have kk := k₁.trans k₂
  refine v.el fun tn => u₂.el fun p vs x ux y => ?_
  · refine mul_listG x (by rw [y.length]; exact hl) hn ?_
    have kp := Kept.push h₂ { cls := .type "list", data := .seq (List.replicate n vs).flatten.toArray }
    have hn := size_none h₂
    have e : ∀ j : Nat, VRels ρ σ h₂ (List.replicate j a).flatten (List.replicate j vs).flatten := by
      intro j
      induction j with
      | zero => exact .nil
      | succ j ih => rw [List.replicate_succ, List.replicate_succ, List.flatten_cons, List.flatten_cons]; exact y.append ih
    refine hq _ t₂ _ (List.replicate n vs).flatten (kk.trans kp) (by
      cases e : s.heap.get? h₂.objs.size with
      | none => rfl
      | some o => rw [kk _ _ e] at hn; cases hn) ⟨0, ?_⟩ (((e n).more hn).keeps kp)
    have := Heap.get?_push_size h₂ (o := { cls := .type "list", data := .seq (List.replicate n vs).flatten.toArray }) rfl
    simpa using this
end
end
section
open PySem PySem.W PyProof.Rows PySem.SeqAt
set_option maxRecDepth 100000
section
variable {w : World} {H0 : Heap} {k : Nat} {env : Env} {μ : Vars} {σ σ' : Store} {ρ : Place} {h : Heap} {W : Nat → Prop} {P : Fl → Vars → Store → Prop}
/-- a name set to a comprehension on the same line: a new place -/
theorem XT.letComp {α : Type} {x : Str} {px spos : Pos} {elt target iter : Expr} {ifs : List Expr} {scope : Scope} {pos : Pos} {es : List α} {f : α → AV} (n : Nat) (p : α → Bool) (g : α → AV) {U : Nat → Prop} (cl : List (Str × Addr)) (μc : Vars) (hx : env.kindOf x = some .local)
    (hs : swapsWith (.ListComp elt [⟨target, iter, ifs, 0⟩] scope pos) (some (.Name x px)) spos.line env = pure true) (it : ItE w H0 k iter env μ σ (es.map f) target U)
    (hclos : closureFor scope env = pure cl) (hcl : ∀ p ∈ cl, p ∈ env.cells) (hlen : cl.length ≤ 1)
    (hμ : ∀ q ∈ μc, μ.lookup q.1 = some q.2 ∧ (env.kindOf q.1 = some .cell ∨ env.kindOf q.1 = some .free) ∧ ∃ c, cl.lookup q.1 = some c ∧ env.cells.lookup q.1 = some c)
    (hL : ∀ C, ∀ q ∈ μc, (compEnvC scope cl C env).kindOf q.1 ≠ some .local)
    (chk : compChk scope = true)
    (step : ∀ C e, e ∈ es → CompStep w H0 k (compEnvC scope cl C env) target elt ifs (f e) μc σ (p e) (g e)) (hl : es.length ≤ 1000) (hn : σ n = .free) (hw : W n) (hσ : upd σ n (.list ((es.filter p).map g)) = σ') (h : P .next (put x (.loc n) μ) σ') :
    XT w H0 k W env (exec (.Assign [.Name x px] (.ListComp elt [⟨target, iter, ifs, 0⟩] scope pos) spos) env) μ σ P := by
  subst hσ
  obtain ⟨c1, c2, c3⟩ := compChk_of chk
  refine ⟨?_⟩; intro A rm ρ s R F Q E hq
  rw [exec_Assign_Name_used _ _ _ _ hs]
  refine wpAny_bind (wpAny_standAt ?_)
  unfold evalThenUse
  refine wpAny_bind (wpAny_bind ?_)
  refine comp_core (some (PySem.assign (.Name x px) env)) p g cl μc it hclos hcl hlen hμ hL c1 c2 c3 (fun C e he => by obtain ⟨μ', b, s, t, q⟩ := step C e he; exact ⟨μ', b, s.out, t, q⟩) hl rm R F fun h₃ t₃ D C ys k₃ hD hC hDC lD vr R₃ hCt hns => ?_
  show wpAny _ _ (PySem.assign (.Name x px) env (.ref D)) _ _ _
  have hp : Plc.list ((es.filter p).map g) ≠ .free := by intro q; cases q
  obtain ⟨ev, R', r⟩ := place_list R hn hD k₃ lD vr
  have F' := ((F.more hD).keeps k₃).place (p := .list ((es.filter p).map g)) hn
  refine wpAny_assign_Name (bind_local (W := W) hx R' F' r fun h₄ t₄ ev₄ R₄ F₄ => ?_)
  have hCo : ¬ Own env C := by
    rintro (e | ⟨y, m⟩)
    · obtain ⟨_, ⟨o, _, _, q, _⟩, _⟩ := F.ns
      exact ex_none q hC e.symm
    · obtain ⟨⟨_, o, q, _⟩, _⟩ := F.celU y C m
      exact ex_none' q hC
  have hCt' : ¬ Tracked (ρ.with n D) (upd σ n (.list ((es.filter p).map g))) C := fun z => hCt (with_tr hn z)
  obtain ⟨m, o, a, b, e, d, rest⟩ := hns
  have e₄ : h₄.get? C = some o := ev₄.keepU e hCt' hCo
  refine ⟨m, ⟨o, a, b, e₄, d, rest⟩, fun h₅ sb => ?_⟩
  have keep₅ : ∀ b o, b ≠ C → h₄.get? b = some o → h₅.get? b = some o := fun b o q e => sb.extBut b o q e
  obtain ⟨O, evC, R₅⟩ := touch R₄ hCt' (R.none_top hC) ⟨o, e₄, fun vs n q => by rw [d] at q; cases q⟩ keep₅
  have F₅ := F₄.evw R₄ (evC fun _ => False) O fun b hb q => hCo (q ▸ hb)
  have e4 : Evo W (Own env) ρ σ s.heap (ρ.with n D) (upd σ n (.list ((es.filter p).map g))) h₄ := ((ev.wide fun m q => q ▸ hw).mono (fun _ a => a) fun _ _ _ q => q.elim).trans ev₄
  exact wpAny_pure (wpAny_pure (hq .next .next _ h₅ _ _ _ h .next (e4.touched hC keep₅) R₅ F₅))
theorem XT.letComp0 {α : Type} {x : Str} {px spos : Pos} {elt target iter : Expr} {ifs : List Expr} {scope : Scope} {pos : Pos} {es : List α} {f : α → AV} (n : Nat) (p : α → Bool) (g : α → AV) {U : Nat → Prop} (hx : (env.kindOf x == some .local) = true)
    (hs : swapsWith (.ListComp elt [⟨target, iter, ifs, 0⟩] scope pos) (some (.Name x px)) spos.line env = pure true) (it : ItE w H0 k iter env μ σ (es.map f) target U)
    (hclos : closureFor scope env = pure []) (chk : compChk scope = true) (hl : es.length ≤ 1000)
    (step : ∀ C e, e ∈ es → CompStep w H0 k (compEnvC scope [] C env) target elt ifs (f e) [] σ (p e) (g e)) (hn : σ n = .free) (hw : W n) (hσ : upd σ n (.list ((es.filter p).map g)) = σ') (h : P .next (put x (.loc n) μ) σ') :
    XT w H0 k W env (exec (.Assign [.Name x px] (.ListComp elt [⟨target, iter, ifs, 0⟩] scope pos) spos) env) μ σ P :=
  XT.letComp n p g [] [] (by simpa using hx) hs it hclos (fun _ h => absurd h List.not_mem_nil) (Nat.zero_le _) (fun _ h => absurd h List.not_mem_nil) (fun _ _ h => absurd h List.not_mem_nil) chk step hl hn hw hσ h
theorem XT.letComp1 {α : Type} {x y : Str} {c : Addr} {v : AV} {px spos : Pos} {elt target iter : Expr} {ifs : List Expr} {scope : Scope} {pos : Pos} {es : List α} {f : α → AV} (n : Nat) (p : α → Bool) (g : α → AV) {U : Nat → Prop} (hx : (env.kindOf x == some .local) = true)
    (hs : swapsWith (.ListComp elt [⟨target, iter, ifs, 0⟩] scope pos) (some (.Name x px)) spos.line env = pure true) (it : ItE w H0 k iter env μ σ (es.map f) target U)
    (hclos : closureFor scope env = pure [(y, c)]) (hc : env.cells.lookup y = some c) (hy : env.kindOf y = some .cell) (hv : μ.lookup y = some v) (hkc : ∀ C, ((compEnvC scope [(y, c)] C env).kindOf y != some .local) = true) (chk : compChk scope = true) (hl : es.length ≤ 1000)
    (step : ∀ C e, e ∈ es → CompStep w H0 k (compEnvC scope [(y, c)] C env) target elt ifs (f e) [(y, v)] σ (p e) (g e)) (hn : σ n = .free) (hw : W n) (hσ : upd σ n (.list ((es.filter p).map g)) = σ') (h : P .next (put x (.loc n) μ) σ') :
    XT w H0 k W env (exec (.Assign [.Name x px] (.ListComp elt [⟨target, iter, ifs, 0⟩] scope pos) spos) env) μ σ P := by
  refine XT.letComp n p g [(y, c)] [(y, v)] (by simpa using hx) hs it hclos (fun q h => ?_) (Nat.le_refl _) (fun q h => ?_) (fun C q h => ?_) chk step hl hn hw hσ h
  · rw [List.mem_singleton.mp h]; exact mem_of_lookup hc
  · rw [List.mem_singleton.mp h]
    exact ⟨hv, .inl hy, c, by simp, hc⟩
  · rw [List.mem_singleton.mp h]
    have := hkc C
    simpa using this
-- a pair in a list of pairs
theorem t2_is {a b : Int} {V : Value} (x : VRel ρ σ h (.tup [.int a, .int b]) V) : ∃ p t t', V = .ref p ∧ h.IsTuple p #[.int a t, .int b t'] :=
  x.el fun p _ i r => r.el2 (P := fun vs => h.IsTuple p (List.toArray vs) → ∃ q t t', Value.ref p = .ref q ∧ h.IsTuple q #[.int a t, .int b t']) (fun _ _ u v => u.el fun t => v.el fun t' i => ⟨p, t, t', rfl, i⟩) i
theorem t2_inj {a b c d : Int} {V : Value} (x : VRel ρ σ h (.tup [.int a, .int b]) V) (y : VRel ρ σ h (.tup [.int c, .int d]) V) : a = c ∧ b = d := by
  obtain ⟨p, t, t', q, i⟩ := t2_is x
  obtain ⟨p', u, u', q', i'⟩ := t2_is y
  obtain rfl : p = p' := Value.ref.inj (q.symm.trans q')
  have := same_seq (vs := [.int a t, .int b t']) (us := [.int c u, .int d u']) i i'
  cases this
  exact ⟨rfl, rfl⟩
theorem VRels.back {ρ : Place} {σ : Store} {h : Heap} {l : List AV} {vs : List Value} {V : Value} (r : VRels ρ σ h l vs) (m : V ∈ vs) : ∃ v ∈ l, VRel ρ σ h v V :=
  r.ind (P := fun l vs => V ∈ vs → ∃ v ∈ l, VRel ρ σ h v V) (fun m => by cases m) (fun x _ ih m => by
    rcases List.mem_cons.mp m with rfl | m
    · exact ⟨_, List.mem_cons_self, x⟩
    · obtain ⟨v, a, b⟩ := ih m
      exact ⟨v, List.mem_cons_of_mem _ a, b⟩) m
theorem VRels.fore {ρ : Place} {σ : Store} {h : Heap} {l : List AV} {vs : List Value} {v : AV} (r : VRels ρ σ h l vs) (m : v ∈ l) : ∃ V ∈ vs, VRel ρ σ h v V :=
  r.ind (P := fun l vs => v ∈ l → ∃ V ∈ vs, VRel ρ σ h v V) (fun m => by cases m) (fun x _ ih m => by
    rcases List.mem_cons.mp m with rfl | m
    · exact ⟨_, List.mem_cons_self, x⟩
    · obtain ⟨V, a, b⟩ := ih m
      exact ⟨V, List.mem_cons_of_mem _ a, b⟩) m
open Classical in
theorem O2.notIn {l : AV} {ps : List (Int × Int)} {a b : Int} (hl : Lst σ l (ps.map fun p => .tup [.int p.1, .int p.2])) : O2 w H0 k (compareOp .NotIn) σ (.tup [.int a, .int b]) l (.bool (!ps.any fun p => p.1 == a && p.2 == b)) := by
  refine ⟨?_⟩; intro A rm ρ s U V R u v Q E hq
  obtain ⟨q, us, rfl, x, y⟩ := hl.is R v
  have hit : ∀ z ∈ us, ∃ p ∈ ps, VRel ρ σ s.heap (.tup [.int p.1, .int p.2]) z := fun z hz => by
    obtain ⟨v, hv, r⟩ := y.back hz
    obtain ⟨p, hp, rfl⟩ := List.mem_map.mp hv
    exact ⟨p, hp, r⟩
  have key : ∀ z, z ∈ us.toArray → EqAt A.in1 s z U (decide (VRel ρ σ s.heap (.tup [.int a, .int b]) z)) := fun z hz => by
    obtain ⟨p, hp, r⟩ := hit z (by simpa using hz)
    have e := (EqR.tup (n := 4) (a := [.int p.1, .int p.2]) (b := [.int a, .int b]) (c := [p.1 == a, p.2 == b]) rfl rfl fun i x y ex ey => by
      match i with
      | 0 => simp at ex ey; subst ex ey; exact .int _ _ _
      | 1 => simp at ex ey; subst ex ey; exact .int _ _ _
      | i + 2 => simp at ex).at A.in1 z U (by have := rm.wide; show A.units + 1 + 5 < cLine; omega) r u
    have : (decide (VRel ρ σ s.heap (.tup [.int a, .int b]) z)) = [p.1 == a, p.2 == b].all id := by
      rw [Bool.eq_iff_iff, decide_eq_true_eq]
      constructor
      · intro r'
        obtain ⟨e1, e2⟩ := t2_inj r r'
        simp [e1, e2]
      · intro hc
        simp at hc
        rw [← hc.1, ← hc.2]; exact r
    rw [this]; exact e
  refine notIn_listAt _ x key ?_
  have : us.toArray.any (fun z => decide (VRel ρ σ s.heap (.tup [.int a, .int b]) z)) = ps.any fun p => p.1 == a && p.2 == b := by
    rw [Bool.eq_iff_iff]
    simp only [List.any_toArray, List.any_eq_true, decide_eq_true_eq, Bool.and_eq_true, beq_iff_eq]
    constructor
    · rintro ⟨z, hz, r'⟩
      obtain ⟨p, hp, r⟩ := hit z hz
      exact ⟨p, hp, t2_inj r r'⟩
    · rintro ⟨p, hp, e1, e2⟩
      obtain ⟨V, hV, r⟩ := y.fore (List.mem_map.mpr ⟨p, hp, rfl⟩)
      exact ⟨V, hV, by rw [← e1, ← e2]; exact r⟩
  rw [this]
  exact hq s.heap s.toks _ (.refl _) (.bool _)
end
end
section
open PySem PySem.W PyProof.Rows PySem.SeqAt
set_option maxRecDepth 100000
section
variable {w : World} {H0 : Heap} {k : Nat} {env : Env} {μ : Vars} {σ σ' : Store} {ρ : Place} {h : Heap} {W : Nat → Prop} {P : Fl → Vars → Store → Prop}
/-- a text from a place on -/
theorem PV.cutF {o e1 : Expr} {p1 pos : Pos} {x y : List Nat} {i : Int} (a : PV w H0 k (eval o env) env μ σ (.str x)) (b : PV w H0 k (eval e1 env) env μ σ (.int i)) (hl : x.length ≤ 1000000) (hy : Txt.slice ⟨x.toArray⟩ (some i) none = ⟨y.toArray⟩)
    (hs : ∀ u i, subscripted (.Slice (some e1) none none p1) false u i = operate [i, u] (getItem u i)) :
    PV w H0 k (eval (.Subscript o (.Slice (some e1) none none p1) pos) env) env μ σ (.str y) := by
  refine ⟨?_⟩; intro A rm ρ s R F Q E hq
  refine Subscript_ (a.out A rm ρ s R F _ E fun h₁ t₁ U k₁ u => wpAny_Slice ?_)
  rw [evalPart_some]
  refine b.out A rm ρ _ (R.keeps k₁) (F.keeps k₁) _ E fun h₂ t₂ I k₂ ri => ?_
  rw [evalPart_none]
  refine wpAny_pure (wpAny_pure ?_)
  refine u.el fun _ => ri.el fun _ => ?_
  refine tail_of_ItemOn (SBH.sliceItem_sn (keptH s.heap) (k₁.trans k₂) (fun h' t' tk k' => ?_) ?_) (hs _ _) (fun r => by cases o <;> rfl)
  · rw [hy]; exact hq _ tk _ k' (.str _ _)
  · show x.toArray.size ≤ sizeLine
    rw [List.size_toArray]; exact Nat.le_trans hl (by decide)
theorem PVn.fromL {o e : Expr} {p1 pos : Pos} {v : AV} {l : List AV} {a : Nat} (x : PV w H0 k (eval o env) env μ σ v) (hv : Lst σ v l) (y : PV w H0 k (eval e env) env μ σ (.int a)) (hl : l.length ≤ 1000) (hs : ∀ u i, subscripted (.Slice (some e) none none p1) false u i = operate [i, u] (getItem u i)) :
    PVn w H0 k (eval (.Subscript o (.Slice (some e) none none p1) pos) env) env μ σ (l.drop a) := by
  refine ⟨?_⟩; intro A rm ρ s R F Q E hq
  refine Subscript_ (x.out A rm ρ s R F _ E fun h₁ t₁ V k₁ u => wpAny_Slice ?_)
  rw [evalPart_some]
  refine y.out A rm ρ _ (R.keeps k₁) (F.keeps k₁) _ E fun h₂ t₂ I k₂ i => ?_
  rw [evalPart_none]
  refine wpAny_pure (wpAny_pure ?_)
  obtain ⟨b, vs, rfl, x, yv⟩ := hv.is (R.keeps (k₁.trans k₂)) (u.keeps k₂)
  refine i.el fun tk0 => ?_
  refine tail_any (T := "list") (x.push _).typeIs list_getitem_lookup (wpAny_getItem_list_slice (lo := some (a : Int)) (hi := none) (x.push _) (Heap.IsSliceOf.new ..) (.int _ _) .none .none (by simp) ?_ (by rw [List.size_toArray, yv.length]; exact Nat.le_trans hl (by decide))) (hs _ _)
  rw [pick_from, Heap.size_push]
  have kp1 := Kept.push h₂ { cls := .type "slice", data := .fields #[.int a tk0, .none, .none] }
  have kp2 := Kept.push (h₂.push { cls := .type "slice", data := .fields #[.int a tk0, .none, .none] }) { cls := .type "list", data := .seq (vs.toArray.toList.drop a).toArray }
  have hsz : (h₂.push { cls := .type "slice", data := .fields #[.int a tk0, .none, .none] }).objs.size = h₂.objs.size + 1 := Heap.size_push ..
  have hn1 : h₂.get? (h₂.objs.size + 1) = none := by
    cases e : h₂.get? (h₂.objs.size + 1) with
    | none => rfl
    | some o => exact absurd (Heap.lt_size e) (Nat.not_lt.mpr (Nat.le_succ _))
  refine hq _ t₂ _ ((vs.toArray.toList.drop a)) ((k₁.trans k₂).trans (kp1.trans kp2)) ?_ ⟨0, by rw [← hsz]; exact Heap.get?_push_size _ rfl⟩ ?_
  · exact (k₁.trans k₂).none hn1
  · have := (yv.dropN a).more hn1
    simpa using this.keeps (kp1.trans kp2)
/-- everything: l[:] -/
theorem PV.memo {t : Sem Value} {v : AV} (x : PV w H0 k t env μ σ v) : PV w H0 k t env μ σ v := x
theorem PV.str0 {s : Str} {j : Nat} {pos : Pos} {x : List Nat} (e : s.cps.toList = x) : PV w H0 k (eval (.Constant (.str s) j pos) env) env μ σ (.str x) := e ▸ PV.const rfl
end
end
section
open PySem PySem.W PyProof.Rows PySem.SeqAt
set_option maxRecDepth 100000
/-- values one by one, places changing -/
noncomputable def XVs (w : World) (H0 : Heap) (k : Nat) (W : Nat → Prop) (t : Sem (List Value)) (env : Env) (μ : Vars) (σ : Store) (v : List AV) (σ' : Store) : Prop := Shut <|
  ∀ A, Rm k A → ∀ ρ s, Rel w H0 ρ σ s.heap → Fra w H0 env μ ρ σ s.heap → ∀ Q E,
    (∀ ρ' h' tk V, Evo W (fun _ => False) ρ σ s.heap ρ' σ' h' → Rel w H0 ρ' σ' h' → Fra w H0 env μ ρ' σ' h' → VRels ρ' σ' h' v V → Q V { s with heap := h', toks := tk }) → wpAny (model pw w) A t Q E s
section
variable {w : World} {H0 : Heap} {k : Nat} {env : Env} {μ μ' : Vars} {σ σ₁ σ' : Store} {ρ : Place} {h : Heap} {W : Nat → Prop} {P : Fl → Vars → Store → Prop}
theorem PVs.eff {t : Sem (List Value)} {v : List AV} (x : PVs w H0 k t env μ σ v) : XVs w H0 k W t env μ σ v σ :=
  ⟨fun A rm ρ s R F Q E hq => x.out A rm ρ s R F Q E fun h' tk V kp r => hq ρ h' tk V (kp.evo ..) (R.keeps kp) (F.keeps kp) r⟩
theorem XVs.cons {e : Expr} {rest : List Expr} {pos : Pos} {v : AV} {l : List AV} (x : XV w H0 k W (eval e env) env μ σ v σ₁) (y : XVs w H0 k W (spliced (backTo pos (starEach rest env))) env μ σ₁ l σ')
    (he : starEach (e :: rest) env = (false, eval e env) :: starEach rest env) : XVs w H0 k W (spliced (backTo pos (starEach (e :: rest) env))) env μ σ (v :: l) σ' := by
  refine ⟨?_⟩; intro A rm ρ s R F Q E hq
  rw [he]
  show wpAny _ A (spliced ((false, eval e env) :: backTo pos (starEach rest env))) Q E s
  refine Calls.spliced_cons (x.out A rm ρ s R F _ E fun ρ₁ h₁ t₁ U ev R₁ F₁ u => y.out A rm ρ₁ _ R₁ F₁ _ E fun ρ₂ h₂ t₂ V ev₂ R₂ F₂ v => ?_)
  exact hq ρ₂ h₂ t₂ _ (ev.trans ev₂) R₂ F₂ (.cons (u.evo R₁ ev₂ ownNone) v)
theorem XV.tuple {elts : List Expr} {j : Nat} {pos : Pos} {l : List AV} (x : XVs w H0 k W (spliced (backTo pos (starEach elts env))) env μ σ l σ') (hl : l.length ≤ 1000) : XV w H0 k W (eval (.Tuple elts j pos) env) env μ σ (.tup l) σ' := by
  refine ⟨?_⟩; intro A rm ρ s R F Q E hq
  refine wpAny_Tuple_spliced (x.out A rm ρ s R F _ E fun ρ₁ h₁ t₁ vs ev R₁ F₁ u => ⟨by rw [u.length]; exact Nat.le_trans hl (by decide), ?_⟩)
  have kp := Kept.push h₁ { cls := .type "tuple", data := .seq vs.toArray }
  exact hq ρ₁ _ t₁ _ (ev.trans (kp.evo ..)) (R₁.keeps kp) (F₁.keeps kp) (.tup ⟨_, Heap.get?_push_size _ rfl, rfl, 0, rfl⟩ (u.keeps kp))
theorem XT.assignWX {elts : List Expr} {j : Nat} {p pos : Pos} {value : Expr} {v : List AV} {names : List Str} (e : XV w H0 k W (eval value env) env μ σ (.tup v) σ') (b : Binding w H0 k env names.reverse v.reverse μ μ' σ') (hs : swapsWithSole [.Tuple elts j p] value pos.line env = pure false)
    (hw : swappedStores [.Tuple elts j p] value env = pure (some names)) (hn : names.length = v.length) (h : P .next μ' σ') : XT w H0 k W env (exec (.Assign [.Tuple elts j p] value pos) env) μ σ P := by
  refine ⟨?_⟩; intro A rm ρ s R F Q E hq
  refine Assign_Tuple_swapped (e.out A rm ρ s R F _ E fun ρ₁ h₁ t₁ V ev₁ R₁ F₁ u => ?_) hs hw
  refine u.el fun _ vs x y => ?_
  · have hv : names.length = vs.toArray.size := by rw [List.size_toArray, y.length]; exact hn
    rw [hv]
    refine wpAny_unpackItems_tuple rm.handled x fun h₂ hk₂ => ?_
    have k₂ : Kept h₁ h₂ := fun b o e => hk₂ b o (Nat.ne_of_lt (Heap.lt_size e)) e
    refine b.out A rm ρ₁ _ _ (R₁.keeps k₂) (F₁.keeps k₂) (by simpa using (y.keeps k₂).rev) _ E fun h₃ t₃ ev R' F' => ?_
    exact hq .next .next ρ₁ h₃ t₃ μ' σ' h .next (((ev₁.mono (fun _ a => a) fun _ _ _ q => q.elim).trans (k₂.evo ..)).trans (ev.mono (fun _ a => a.elim) fun b o _ q => .inl q)) R' F'
/-- list(xs) -/
theorem PVn.listOf (T : Tp w H0) {x : Str} {p pos : Pos} {e : Expr} {v : AV} {l : List AV} (hf : PV w H0 k (eval (.Name x p) env) env μ σ (.val (.type "list"))) (a : PV w H0 k (eval e env) env μ σ v) (hv : Lst σ v l) (hl : l.length ≤ 1000)
    (hst : starEach [e] env = (false, eval e env) :: []) : PVn w H0 k (eval (.Call (.Name x p) [e] [] pos) env) env μ σ l := by
  refine ⟨?_⟩; intro A rm ρ s R F Q E hq
  show wpAny _ A (eval (.Name x p) env >>= fun f => callWith pos f [] (backTo pos (starEach [e] env)) (backToKw pos (keywordEach [] env))) _ E s
  refine wpAny_bind (hf.out A rm ρ s R F _ E fun h₁ t₁ V k₁ u => ?_)
  refine u.elV ?_
  refine callArgs T (names := []) (KeepOk.type "list") rm (R.keeps k₁) (F.keeps k₁) (PVs.cons a PVs.nil hst) PKs.nil rfl (by rw [hst]; rfl) rfl fun h₂ t₂ vs kvs k₂ uv ukv => ?_
  refine uv.el1 fun _ u => ukv.el0 ?_
  · obtain ⟨q, us, rfl, x, y⟩ := hv.is (R.keeps (k₁.trans k₂)) u
    obtain ⟨o, ho, hc, n, hd⟩ := x
    refine call_list_seq q (.inl rfl) ho hc hd (fun h' c' kp hg => ?_) (by rw [List.size_toArray, y.length]; exact Nat.le_trans hl (by decide))
    have hn := size_none h₂
    exact hq _ t₂ _ us ((k₁.trans k₂).trans kp) ((k₁.trans k₂).none hn) ⟨c', hg⟩ ((y.more hn).keeps kp)
/-- tuple(xs) -/
theorem fn_tupleOf {v : AV} {l : List AV} (hv : Lst σ v l) (hl : l.length ≤ 1000) : FnP w H0 k (.type "tuple") [v] [] σ (.tup l) := by
  refine ⟨?_⟩; intro A rm ρ s vs ks R a b Q E hq
  refine b.el0 (a.el1 fun _ a => ?_)
  · obtain ⟨q, us, rfl, x, y⟩ := hv.is R a
    refine call_tuple_list x (fun h' kp => ?_) (by rw [List.size_toArray, y.length]; exact Nat.le_trans hl (by decide))
    have kp2 := Kept.push h' { cls := .type "tuple", data := .seq us.toArray }
    exact hq _ _ _ (Kept.trans kp kp2) (.tup ⟨_, Heap.get?_push_size _ rfl, rfl, 0, rfl⟩ (y.keeps (Kept.trans kp kp2)))
end
end
section
open PySem PySem.W PyProof.Rows PySem.SeqAt
set_option maxRecDepth 100000
set_option maxHeartbeats 4000000
theorem meets_line (x y : PySem.Str) (t u v : Tok) (b : Addr) (hx : x.length ≤ 100000) (hy : y.length ≤ 100000) :
    Meets (Builtin.«str.__mod__» ⟨[.str (⟨#[37, 115, 58, 32, 37, 115]⟩ : PySem.Str) t, .ref b], []⟩) (fun _ R s => IsTup s.heap b #[.str x u, .str y v] ∧ ∀ t' k, R (.ok (.ret (.str (x ++ (⟨#[58, 32]⟩ : PySem.Str) ++ y) t'))) { s with toks := k }) := by
  kpt_run
end
section
open PySem PySem.W PyProof.Rows PySem.SeqAt
set_option maxRecDepth 100000
set_option maxHeartbeats 4000000
theorem kH_str (P : Params) : findIn (K0 P) (.ref 182) "__str__" = some (some (.ref 158)) := by kernel_rfl
theorem kH_bytes (P : Params) : findIn (K0 P) (.ref 182) "__bytes__" = some (some (.ref 165)) := by kernel_rfl
section
variable {w : World} {H0 : Heap} {k : Nat} {env : Env} {μ : Vars} {σ σ' : Store} {ρ : Place} {h : Heap} {W : Nat → Prop} {P : Fl → Vars → Store → Prop}
theorem codeBuiltin_new {prog : Program} {A : Around} {R : Result → Shared → Prop} {s : Shared} {id : String} {B : Builtin} {args : List Value} (hc : checkBuiltinCall id ⟨args, []⟩ = pure ()) (hp : plainId id = true) (he : entryFor table id = some B)
    (h : wpAny (model prog w) A.in1 (B ⟨args, []⟩) (fun fin s' => match fin with | .done f => R (.ok f) s' | .again c => c.quiet = true ∧ codeAny (model prog w) A c R s') (fun e s' => R (.error e) s') s) :
    codeAny (model prog w) A (.call (.builtin id) ⟨args, []⟩) R s := by
  refine codeAny_of_tree ?_
  show wpAny _ A.in1 (do checkBuiltinCall id ⟨args, []⟩; again (.builtin id ⟨args, []⟩)) _ _ s
  refine wpAny_bind (wpAny_of_eq hc (wpAny_pure ⟨plainId_quiet hp _, codeAny_builtin he ?_⟩))
  rw [Around.under_plainId hp _]
  exact h
theorem str_newCall (a : Value) : checkBuiltinCall "str.__new__" ⟨[.type "str", a], []⟩ = pure () := by kernel_rfl
theorem str_plain : plainId "str.__new__" = true := by decide +kernel
theorem fn_strH (T : Tp w H0) {p d l : Nat} {x : List Nat} (H : Hd σ p d l) (fn : FnP w H0 k (.ref 158) [.loc p] [] σ (.str x)) : FnP w H0 (k+3) (.type "str") [.loc p] [] σ (.str x) := by
  refine ⟨?_⟩; intro A rm ρ s vs ks R a b Q E hq
  refine b.el0 (a.el1 fun _ a => a.el fun _ => ?_)
  have rm1 : Rm (k+2) A.in1 := rm.in1
  have rm2 : Rm (k+1) A.in1.in1 := rm1.in1
  refine callType_codes (Q₁ := fun obj s₁ => s₁.TypeIs obj "str" ∧ Q obj s₁) PySem.F.called_str (PySem.F.typeCall_str_1 _) PySem.F.entry_object_init ?_ fun obj s₁ h₁ =>
    ⟨h₁.1, PySem.F.args_object_init_2 obj _, object_init_meets PySem.F.called_str.init.lookup PySem.F.called_str.made (by decide) pw w A.in1 _ s₁ ⟨h₁.1, rfl, h₁.2⟩⟩
  refine codeBuiltin_new (str_newCall _) str_plain PySem.F.entry_str_new ?_
  rw [str_new_tree]
  refine wpAny_bind (wpAny_pure ?_)
  refine wpAny_bind (wpAny_of_eq PySem.isSubtype_str_str ?_)
  refine wpAny_bind ?_
  unfold Builtin.Str.strOf
  refine bm_if_false rfl ?_
  refine wpAny_bind (wpAny_cRoomFor rm2.line ?_)
  refine wpAny_bind (m := callSpecial? (.ref (ρ.at p)) (Str.ofString "__str__")) (special_H T H R kH_str (fun _ => by kernel_rfl) (fn.out A.in1.in1 (rm2.mono (Nat.le_succ _)) ρ s [.ref (ρ.at p)] [] R (.cons (.loc p H.ne) .nil) .nil _ _ fun h₃ t₃ r k₃ q => ?_))
  refine q.el fun _ => ?_
  refine wpAny_bind (wpAny_pure ?_)
  exact wpAny_pure (wpAny_pure ⟨typeIs_str _ _ _, hq h₃ t₃ _ k₃ (.str _ _)⟩)
theorem bytes_isInst (x : Array UInt8) (t : Tok) : isInstance (.bytes x t) (.type "bytes") = pure true := by
  show (do isSubtype (← typeOf (.bytes x t)) (.type "bytes")) = _
  exact PySem.F.bm_sub
theorem fn_bytesH (T : Tp w H0) {p d l : Nat} {x : List UInt8} (H : Hd σ p d l) (fn : FnP w H0 k (.ref 165) [.loc p] [] σ (.bytes x)) : FnP w H0 (k+3) (.type "bytes") [.loc p] [] σ (.bytes x) := by
  refine ⟨?_⟩; intro A rm ρ s vs ks R a b Q E hq
  refine b.el0 (a.el1 fun _ a => a.el fun _ => ?_)
  have rm1 : Rm (k+2) A.in1 := rm.in1
  have rm2 : Rm (k+1) A.in1.in1 := rm1.in1
  obtain ⟨hs, t, n, I⟩ := H.inst R
  have X := T.K.keeps R.top
  refine callType_codes (Q₁ := fun obj s₁ => s₁.TypeIs obj "bytes" ∧ Q obj s₁) PySem.F.bm_called (PySem.F.bm_typeCall _) PySem.F.entry_object_init ?_ fun obj s₁ h₁ =>
    ⟨h₁.1, PySem.F.args_object_init_2 obj _, object_init_meets PySem.F.bm_called.init.lookup PySem.F.bm_called.made (by decide) pw w A.in1 _ s₁ ⟨h₁.1, rfl, h₁.2⟩⟩
  refine codeBuiltin_new (PySem.F.bm_newCall _) PySem.F.bm_plain PySem.F.bm_entry ?_
  unfold Builtin.«bytes.__new__»
  refine wpAny_bind (wpAny_of_eq (a := true) rfl ?_)
  refine bm_if_false rfl ?_
  refine wpAny_bind (wpAny_of_eq PySem.F.bm_sub ?_)
  refine bm_if_false rfl ?_
  refine wpAny_bind (wpAny_of_eq (PySem.F.bm_bind _) ?_)
  refine wpAny_bind (wpAny_of_eq (a := ()) rfl ?_)
  refine wpAny_bind (wpAny_of_eq (a := ()) rfl ?_)
  refine bm_if_false rfl ?_
  refine wpAny_bind (m := specialOf (.ref (ρ.at p)) "__bytes__") (wpAny_bind (I.type.here ((looks_findIn X (kH_bytes _)).here ?_)))
  refine wpAny_bind (wpAny_rule ?_)
  refine wpAny_bind (m := callSpecial? (.ref (ρ.at p)) (Str.ofString "__bytes__")) (special_H T H R kH_bytes (fun _ => by kernel_rfl) (fn.out A.in1.in1 (rm2.mono (Nat.le_succ _)) ρ s [.ref (ρ.at p)] [] R (.cons (.loc p H.ne) .nil) .nil _ _ fun h₃ t₃ r k₃ q => ?_))
  refine q.el fun _ => ?_
  refine wpAny_bind (wpAny_of_eq (bytes_isInst _ _) ?_)
  refine bm_if_false rfl ?_
  exact wpAny_pure ⟨typeIs_bytes _ _ _, hq h₃ t₃ _ k₃ (.bytes _ _)⟩
end
end
section
open PySem PySem.W PyProof.Rows PySem.SeqAt
set_option maxRecDepth 100000
set_option maxHeartbeats 4000000
theorem two_turns {M : Model} {A : Around} {E : Value → Shared → Prop} {s : Shared} {β : Type} {f : Nat → β → Sem (ForInStep β)} {n : Nat} {b0 b1 : β} {Q : β → Shared → Prop} (hn : n = 0 → Q b0 s)
    (h1 : ∀ Q E, Q (.yield b1) s → wpAny M A (f 0 b0) Q E s) (h2 : ∀ Q E, Q (.done b1) s → wpAny M A (f 1 b1) Q E s) (h : Q b1 s) : wpAny M A (forIn [:n] b0 f) Q E s := by
  rw [KPc.range_list]
  match n with
  | 0 => exact wpAny_pure (hn rfl)
  | 1 => exact KPc.turn (h1 _ _ (wpAny_pure h))
  | n + 2 => exact KPc.turn (h1 _ _ (KPc.turn (h2 _ _ h)))
open Builtin Builtin._codecs in
theorem enc_wp {M : Model} {A : Around} {E : Value → Shared → Prop} {s : Shared} {id : String} {c : TextCodec} {errors : Option PySem.Str} {self : Value} {x : List Nat} (hx : ∀ y ∈ x, c.bad y = false) (ho : (x.foldl (fun acc y => acc ++ (c.bytesOf y).toArray) (#[] : Array UInt8)).size ≤ sizeLine) {Q : Array UInt8 → Shared → Prop}
    (h : Q ((x.foldl (fun acc y => acc ++ (c.bytesOf y).toArray) #[])) s) : wpAny M A (encodeNarrow id c errors self ⟨x.toArray⟩) Q E s := by
  cases x with
  | nil =>
    unfold encodeNarrow
    dsimp only
    rw [KPc.range_list]
    exact wpAny_bind (wpAny_pure (wpAny_pure h))
  | cons a r =>
    have e1 : (a :: r).toArray.extract 0 (a :: r).toArray.size = (a :: r).toArray := by simp
    have e2 : (a :: r).toArray.findIdx? c.bad = none := by
      rw [Array.findIdx?_eq_none_iff]
      intro y hy
      exact hx y (by simpa using hy)
    have e4 : Array.foldl (fun acc y => acc ++ (c.bytesOf y).toArray) #[] (a :: r).toArray = (a :: r).foldl (fun acc y => acc ++ (c.bytesOf y).toArray) #[] := by simp
    have e5 : (a :: r).toArray[0 + (a :: r).toArray.size]? = none := by simp
    unfold encodeNarrow
    dsimp only
    refine wpAny_bind (two_turns (s := s) (b1 := (0 + (a :: r).toArray.size, (a :: r).foldl (fun acc y => acc ++ (c.bytesOf y).toArray) #[], {})) (fun h => absurd h (Nat.succ_ne_zero _)) ?h1 ?h2 ?h3)
    case h1 =>
      intro Q E hq
      dsimp only
      rw [if_neg (show ¬ ((#[] : Array UInt8).size > sizeLine) by decide), show (a :: r).toArray[0]? = some a from rfl]
      dsimp only
      rw [hx a List.mem_cons_self, if_pos (show (!false) = true from rfl), e1, e2]
      dsimp only [Option.getD_none]
      rw [e1, e4]
      exact wpAny_pure hq
    case h2 =>
      intro Q E hq
      dsimp only
      rw [if_neg (Nat.not_lt.mpr ho), e5]
      exact wpAny_pure hq
    case h3 => exact wpAny_pure h
/-- octets of a plain text -/
noncomputable def oct (x : List Nat) : List UInt8 := x.map Nat.toUInt8
theorem fold_oct {f : Nat → List UInt8} {x : List Nat} : ∀ {acc : Array UInt8}, (∀ y ∈ x, f y = [y.toUInt8]) → x.foldl (fun acc y => acc ++ (f y).toArray) acc = acc ++ (oct x).toArray := by
  induction x with
  | nil => intro acc _; exact (Array.append_empty).symm
  | cons y x ih =>
    intro acc h
    rw [List.foldl_cons, h y List.mem_cons_self, ih fun z hz => h z (List.mem_cons_of_mem _ hz), Array.append_assoc]
    exact congrArg (acc ++ ·) (List.append_toArray [y.toUInt8] (oct x))
theorem oct_len (x : List Nat) : (oct x).length = x.length := List.length_map ..
open Builtin Builtin._codecs in
theorem encode_latin (x : PySem.Str) (t u : Tok) : «str.encode» ⟨[.str x t, .str ⟨(Str.ofString "iso-8859-1").cps.toList.toArray⟩ u], []⟩ = (do ret (← (do mkBytes (← encodeNarrow "str.encode" latin1Codec none (.str x t) x)))) := by kernel_rfl
section
variable {w : World} {H0 : Heap} {k : Nat} {env : Env} {μ : Vars} {σ σ' : Store} {ρ : Place} {h : Heap} {W : Nat → Prop} {P : Fl → Vars → Store → Prop}
open Builtin Builtin._codecs in
theorem enc_oct {M : Model} {A : Around} {E : Value → Shared → Prop} {s : Shared} {id : String} {c : TextCodec} {self : Value} {x : List Nat} (hx : ∀ y ∈ x, y < 128) (hc : ∀ y, y < 128 → c.bad y = false ∧ c.bytesOf y = [y.toUInt8]) (hl : x.length ≤ 100000) {Q : Array UInt8 → Shared → Prop}
    (h : Q (oct x).toArray s) : wpAny M A (encodeNarrow id c none self ⟨x.toArray⟩) Q E s := by
  have e := fold_oct (f := c.bytesOf) (x := x) (acc := #[]) fun y hy => (hc y (hx y hy)).2
  have e : x.foldl (fun acc y => acc ++ (c.bytesOf y).toArray) #[] = (oct x).toArray := by rw [e]; simp
  refine enc_wp (fun y hy => (hc y (hx y hy)).1) ?_ ?_
  · rw [e, List.size_toArray, oct_len]; exact Nat.le_trans hl (by decide)
  · rw [e]; exact h
theorem utf8_plain : ∀ y, y < 128 → Builtin._codecs.utf8Codec.bad y = false ∧ Builtin._codecs.utf8Codec.bytesOf y = [y.toUInt8] := by
  intro y hy
  refine ⟨?_, ?_⟩
  · show (decide (0xD800 ≤ y) && decide (y ≤ 0xDFFF)) = false
    rw [decide_eq_false (by omega), Bool.false_and]
  · show Str.utf8Of y = _
    unfold Str.utf8Of; rw [if_pos hy]
theorem latin_plain : ∀ y, y < 128 → Builtin._codecs.latin1Codec.bad y = false ∧ Builtin._codecs.latin1Codec.bytesOf y = [y.toUInt8] := by
  intro y hy
  exact ⟨decide_eq_false (by omega), rfl⟩
theorem fn_encode {x : List Nat} (hx : ∀ y ∈ x, y < 128) (hl : x.length ≤ 100000) : FnP w H0 k (.builtin "str.encode") [.str x] [] σ (.bytes (oct x)) := by
  refine ⟨?_⟩; intro A rm ρ s vs ks R a b Q E hq
  refine b.el0 (a.el1 fun _ a => a.el fun t => ?_)
  refine call_meets (S := fun A R s => ∀ t' k, R (.ok (.ret (.bytes (oct x).toArray t'))) { s with toks := k }) PySem.F.slot_str_encode (typeIs_str _ _ _) PySem.F.entry_str_encode (PySem.F.args_str_encode_1 _) (Meets.of_wp fun prog w A R s hS => ?_) fun t' k => hq _ _ _ (.refl _) (.bytes _ _)
  rw [encode_tree, encodeRoad_utf8]
  refine wpAny_bind (wpAny_bind (enc_oct hx utf8_plain hl (wpAny_mkBytes (wpAny_pure ⟨_, rfl, hS _ _⟩) ?_)))
  rw [List.size_toArray, oct_len]; exact Nat.le_trans hl (by decide)
theorem fn_encodeL {x : List Nat} (hx : ∀ y ∈ x, y < 128) (hl : x.length ≤ 100000) : FnP w H0 k (.builtin "str.encode") [.str x, .str (Str.ofString "iso-8859-1").cps.toList] [] σ (.bytes (oct x)) := by
  refine ⟨?_⟩; intro A rm ρ s vs ks R a b Q E hq
  refine b.el0 (a.el2 fun _ _ a b => a.el fun t => b.el fun u => ?_)
  refine call_meets (S := fun A R s => ∀ t' k, R (.ok (.ret (.bytes (oct x).toArray t'))) { s with toks := k }) PySem.F.slot_str_encode (typeIs_str _ _ _) PySem.F.entry_str_encode (PySem.F.args_str_encode_2 _ _) (Meets.of_wp fun prog w A R s hS => ?_) fun t' k => hq _ _ _ (.refl _) (.bytes _ _)
  rw [encode_latin]
  refine wpAny_bind (wpAny_bind (enc_oct hx latin_plain hl (wpAny_mkBytes (wpAny_pure ⟨_, rfl, hS _ _⟩) ?_)))
  rw [List.size_toArray, oct_len]; exact Nat.le_trans hl (by decide)
theorem meth_encode (x : List Nat) : MethOk w H0 k σ (.str x) "encode" (.builtin "str.encode") := .builtin F.plainAttrs_str F.slot_str_encode F.type_str_encode typ_str
/-- a line: "%s: %s" % (x, y) -/
theorem O2.pct (x y : List Nat) (hx : x.length ≤ 100000) (hy : y.length ≤ 100000) : O2 w H0 k (binaryOp .Mod) σ (.str (Str.ofString "%s: %s").cps.toList) (.tup [.str x, .str y]) (.str (x ++ [58, 32] ++ y)) := by
  refine ⟨?_⟩; intro A rm ρ s U V R u v Q E hq
  refine u.el fun t => v.el fun b vs z r => ?_
  refine r.el2 (P := fun vs => s.heap.IsTuple b (List.toArray vs) → wpAny _ _ _ _ _ _) (fun _ _ r1 r2 => r1.el fun u => r2.el fun v z => ?_) z
  · · · have hT : s.TypeIs (.ref b) "tuple" := by obtain ⟨o, e, c, _⟩ := z; exact ⟨o, e, c⟩
        have e0 : (⟨(Str.ofString "%s: %s").cps.toList.toArray⟩ : PySem.Str) = ⟨#[37, 115, 58, 32, 37, 115]⟩ := by kernel_rfl
        rw [e0]
        have hm := meets_line ⟨x.toArray⟩ ⟨y.toArray⟩ t u v b (by show x.toArray.size ≤ _; simpa using hx) (by show y.toArray.size ≤ _; simpa using hy)
        refine KPt.bin_left (T := "str") (U := "tuple") (op := .Mod) (by decide) (typeIs_str s _ t) hT PySem.F.fills_str_mod KPt.fills_tuple PySem.F.slot_str_mod
          (call_meets PySem.F.slot_str_mod (typeIs_str s _ t) PySem.F.entry_str_mod (PySem.F.args_str_mod_2 _ _) hm ⟨z, fun t' k => ⟨(fun e => nomatch e), ?_⟩⟩)
        have e : (⟨x.toArray⟩ : PySem.Str) ++ (⟨#[58, 32]⟩ : PySem.Str) ++ ⟨y.toArray⟩ = ⟨(x ++ [58, 32] ++ y).toArray⟩ := by
          show PySem.Str.mk ((x.toArray ++ #[58, 32]) ++ y.toArray) = _
          simp
        rw [e]
        exact hq _ _ _ (.refl _) (.str _ _)
end
end
section
open PySem PySem.W PyProof.Rows
set_option maxRecDepth 100000
set_option maxHeartbeats 4000000
section
variable {w : World} {A : Around} {R : Result → Shared → Prop} {s : Shared}
theorem turn_in (elt t1 it1 t2 it2 : Expr) (scope : Scope) (pos : Pos) (it acc : Value) (env : Env) :
    compTurn (.ListComp elt [⟨t1, it1, [], 0⟩, ⟨t2, it2, [], 0⟩] scope pos) 1 it acc env = (standAt it2.pos >>= fun _ => pyNext it >>= fun r => match r with
      | none => pure (.done .next)
      | some v => letOwnedTupleGo t2 it v >>= fun _ => assign t2 env v >>= fun _ =>
        (eval elt env >>= fun x => call (.builtin "list.append") [acc, x] >>= fun _ => pure ()) >>= fun _ =>
          again (.compLoop (.ListComp elt [⟨t1, it1, [], 0⟩, ⟨t2, it2, [], 0⟩] scope pos) 1 it acc env)) := by rfl
/-- what the outer of two loops does at a turn -/
noncomputable def outBody (w : World) (A : Around) (R : Result → Shared → Prop) (elt t1 it1 t2 it2 : Expr) (scope : Scope) (pos : Pos) (acc : Value) (env : Env) (P : Shared → Prop) (s : Shared) : Prop :=
  wpAny (model pw w) A (eval it2 env) (fun x s₃ => wpAny (model pw w) A (pyIter x) (fun i s₄ =>
    codeAny (model pw w) (A.mark none) (.compStart (.ListComp elt [⟨t1, it1, [], 0⟩, ⟨t2, it2, [], 0⟩] scope pos) 1 i acc env) (fun r s' => match r with | .ok _ => P s' | .error e => cameBackBy (model pw w) A env (notedBy (model pw w) A env fun e s' => R (.error e) s') e s') s₄)
      (notedBy (model pw w) A env fun e s' => R (.error e) s') s₃) (notedBy (model pw w) A env fun e s' => R (.error e) s') s
theorem out_loop {elt t1 it1 t2 it2 : Expr} {scope : Scope} {pos : Pos} {it acc : Value} {env : Env} (hfold : ∀ x, foldedSetIterable it2 env x = pure x) (I : Nat → Shared → Prop)
    (turn : ∀ n s, I n s → wpAny (model pw w) A (pyNext it) (fun r s₁ => match r with
      | none => R (.ok .next) s₁
      | some v => wpAny (model pw w) A (letOwnedTupleGo t1 it v) (fun _ s₀ => wpAny (model pw w) A (assign t1 env v) (fun _ s₂ =>
          outBody w A R elt t1 it1 t2 it2 scope pos acc env (fun s' => ∃ m, m < n ∧ I m s') s₂)
            (notedBy (model pw w) A env fun e s' => R (.error e) s') s₀) (notedBy (model pw w) A env fun e s' => R (.error e) s') s₁) (notedBy (model pw w) A env fun e s' => R (.error e) s') s)
    (n : Nat) (h : I n s) :
    codeAny (model pw w) A (.compLoop (.ListComp elt [⟨t1, it1, [], 0⟩, ⟨t2, it2, [], 0⟩] scope pos) 0 it acc env) R s := by
  refine codeAny_loop rfl I (fun n s hI => ?_) n h
  show wpAny _ A ((compTurn (.ListComp elt [⟨t1, it1, [], 0⟩, ⟨t2, it2, [], 0⟩] scope pos) 0 it acc env).onRaise (fun x => do noteFrame x env; theTreesLotGoes x)) _ _ s
  refine wpAny_noted ?_
  unfold compTurn
  dsimp only
  refine wpAny_bind (wpAny_standAt ?_)
  refine wpAny_bind (m := pyNext it) (wpAny_mono (turn n s hI) (fun r s₁ h₁ => ?_) fun _ _ h' => h')
  cases r with
  | none => exact wpAny_pure h₁
  | some v =>
    refine wpAny_bind (wpAny_mono h₁ (fun _ s₀ h₀ => ?_) fun _ _ h' => h')
    refine wpAny_bind (wpAny_mono h₀ (fun _ s₂ h₂ => ?_) fun _ _ h' => h')
    refine wpAny_bind (wpAny_tests_nil ?_)
    refine bm_if_true rfl ?_
    refine wpAny_bind (m := eval it2 env) (wpAny_mono h₂ (fun x s₃ h₃ => ?_) fun _ _ h' => h')
    refine wpAny_bind (wpAny_standAt (bm_if_false rfl ?_))
    refine wpAny_bind (wpAny_of_eq (hfold x) ?_)
    refine wpAny_bind (wpAny_holding (bm_if_false rfl ?_))
    refine wpAny_mono h₃ (fun i s₄ h₄ => ?_) fun _ _ h' => h'
    refine wpAny_bind (wpAny_runOwn (codeAny_mono h₄ fun r s' hr => ?_))
    cases r with
    | ok f => exact wpAny_pure ⟨rfl, hr⟩
    | error e => exact hr
theorem in_loop {elt t1 it1 t2 it2 : Expr} {scope : Scope} {pos : Pos} {it acc : Value} {env : Env} (I : Nat → Shared → Prop)
    (turn : ∀ n s, I n s → wpAny (model pw w) A (pyNext it) (fun r s₁ => match r with
      | none => R (.ok .next) s₁
      | some v => wpAny (model pw w) A (letOwnedTupleGo t2 it v) (fun _ s₀ => wpAny (model pw w) A (assign t2 env v) (fun _ s₂ => wpAny (model pw w) A (eval elt env) (fun x s₃ =>
          wpAny (model pw w) A (call (.builtin "list.append") [acc, x]) (fun _ s₄ => ∃ m, m < n ∧ I m s₄) (notedBy (model pw w) A env fun e s' => R (.error e) s') s₃)
          (notedBy (model pw w) A env fun e s' => R (.error e) s') s₂) (notedBy (model pw w) A env fun e s' => R (.error e) s') s₀) (notedBy (model pw w) A env fun e s' => R (.error e) s') s₁) (notedBy (model pw w) A env fun e s' => R (.error e) s') s)
    (n : Nat) (h : I n s) :
    codeAny (model pw w) A (.compLoop (.ListComp elt [⟨t1, it1, [], 0⟩, ⟨t2, it2, [], 0⟩] scope pos) 1 it acc env) R s := by
  refine codeAny_loop rfl I (fun n s hI => ?_) n h
  show wpAny _ A ((compTurn (.ListComp elt [⟨t1, it1, [], 0⟩, ⟨t2, it2, [], 0⟩] scope pos) 1 it acc env).onRaise (fun x => do noteFrame x env; theTreesLotGoes x)) _ _ s
  refine wpAny_noted ?_
  rw [turn_in]
  refine wpAny_bind (wpAny_standAt (wpAny_bind (wpAny_mono (turn n s hI) (fun r s₁ h₁ => ?_) fun _ _ h' => h')))
  cases r with
  | none => exact wpAny_pure h₁
  | some v =>
    refine wpAny_bind (wpAny_mono h₁ (fun _ s₀ h₀ => ?_) fun _ _ h' => h')
    exact wpAny_bind (wpAny_mono h₀ (fun _ s₂ h₂ => wpAny_bind (wpAny_bind (wpAny_mono h₂ (fun x s₃ h₃ => wpAny_bind (wpAny_mono h₃
      (fun _ s₄ h₄ => wpAny_pure (wpAny_pure ⟨rfl, h₄⟩)) fun _ _ h' => h')) fun _ _ h' => h'))) fun _ _ h' => h')
theorem in_start {elt t1 it1 t2 it2 : Expr} {scope : Scope} {pos : Pos} {it acc : Value} {env : Env}
    (h0 : codeAny (model pw w) A (.compLoop (.ListComp elt [⟨t1, it1, [], 0⟩, ⟨t2, it2, [], 0⟩] scope pos) 1 it acc env) R s)
    (h : wpAny (model pw w) A (pyIter it) (fun it' s' => codeAny (model pw w) A (.compLoop (.ListComp elt [⟨t1, it1, [], 0⟩, ⟨t2, it2, [], 0⟩] scope pos) 1 it' acc env) R s')
      (notedBy (model pw w) A env fun x s' => R (.error x) s') s) :
    codeAny (model pw w) A (.compStart (.ListComp elt [⟨t1, it1, [], 0⟩, ⟨t2, it2, [], 0⟩] scope pos) 1 it acc env) R s := by
  refine codeAny_of_tree ?_
  show wpAny _ _ ((compStart (.ListComp elt [⟨t1, it1, [], 0⟩, ⟨t2, it2, [], 0⟩] scope pos) 1 it acc env).onRaise (fun x => do noteFrame x env; standAt theWindowsPlace)) _ _ s
  refine wpAny_notedAt ?_
  unfold compStart
  show wpAny _ _ (ask >>= _) _ _ s
  refine wpAny_bind (wpAny_askSetting (wpAny_ite ?_))
  split
  · first
      | exact wpAny_bind (wpAny_pure (wpAny_pure (And.intro rfl h0)))
      | exact wpAny_pure (And.intro rfl h0)
  · first
      | exact wpAny_bind (wpAny_rule (wpAny_bind (wpAny_standAt (wpAny_bind (wpAny_mono h (fun it' s' h' => wpAny_pure (And.intro rfl h')) fun _ _ x => x)))))
      | (refine wpAny_bind (wpAny_rule ?_); show wpAny _ _ (standAt it2.pos >>= _) _ _ s; exact wpAny_bind (wpAny_standAt (wpAny_bind (wpAny_mono h (fun it' s' h' => wpAny_pure (And.intro rfl h')) fun _ _ x => x))))
end
end
section
open PySem PySem.W PyProof.Rows
set_option maxRecDepth 100000
set_option maxHeartbeats 4000000
section
variable {w : World} {H0 : Heap} {k : Nat} {env : Env} {μ : Vars} {σ : Store} {ρ : Place} {h h' : Heap} {W : Nat → Prop}
theorem KeepsBut.carry (F : Fra w H0 env μ ρ σ h) {D : Addr} (hD : Tracked ρ σ D) (hl : ∃ vs, h.IsList D vs) (kp : KeepsBut D env.locals h h') : Carry ρ σ h ρ σ h' where
  tup := fun ⟨o, e, c, n, d⟩ => ⟨o, kp _ o (fun q => by
    obtain ⟨_, o', e', c', _⟩ := hl
    rw [q] at e; rw [same_obj e e', c'] at c; exact absurd c (by simp)) (fun q => (F.own _ (.inl q)).2 o _ _ e d) e, c, n, d⟩
  lst := fun ⟨o, e, c, n, d⟩ u => ⟨⟨o, kp _ o (fun q => u (q ▸ hD)) (fun q => (F.own _ (.inl q)).2 o _ _ e d) e, c, n, d⟩, u⟩
  loc := fun u => ⟨rfl, u⟩
noncomputable def InStep (w : World) (H0 : Heap) (k : Nat) (cenv : Env) (t2 elt : Expr) (μ1 : Vars) (σ : Store) (p : AV × AV) : Prop := ∃ μ2, BT w H0 k cenv t2 p.1 μ1 μ2 σ ∧ Sup μ1 μ2 ∧ PV w H0 k (eval elt cenv) cenv μ2 σ p.2
theorem inner {elt t1 it1 t2 it2 : Expr} {scope : Scope} {pos : Pos} {cenv : Env} {μ1 : Vars} {D : Addr} {L : List AV} {ps : List (AV × AV)} (it : PV w H0 k (eval it2 cenv) cenv μ1 σ (.lst (ps.map (·.1)))) (ht : okTgt t2 = true)
    (step : ∀ p ∈ ps, InStep w H0 k cenv t2 elt μ1 σ p) {A : Around} (rm : Rm k A) {s : Shared} {ys : List Value} (c : CompSt w H0 cenv μ1 (ρ.also D) σ D s.heap L s.heap ys)
    (hl : L.length + ps.length ≤ 100000) {R' : Result → Shared → Prop} {E' : Value → Shared → Prop}
    (hq : ∀ h' tk ys', CompSt w H0 cenv μ1 (ρ.also D) σ D s.heap (L ++ ps.map (·.2)) h' ys' → R' (.ok .next) { s with heap := h', toks := tk }) :
    wpAny (model pw w) A (eval it2 cenv) (fun x s₁ => wpAny (model pw w) A (pyIter x) (fun i s₂ => codeAny (model pw w) (A.mark none) (.compStart (.ListComp elt [⟨t1, it1, [], 0⟩, ⟨t2, it2, [], 0⟩] scope pos) 1 i (.ref D) cenv) R' s₂) E' s₁) E' s := by
  refine it.out A rm (ρ.also D) s c.R c.F _ _ fun h₀ t₀ V k₀ u => u.el fun ax vs hl0 un yv => ?_
  refine wpAny_pyIter_list hl0 ?_
  have R₀ := c.R.keeps k₀
  have F₀ := c.F.keeps k₀
  have lD : h₀.PlainList D ys.toArray := c.pl.at fun o e => k₀ _ _ e
  have tr : Tracked (ρ.also D) σ D := .inr (.inr rfl)
  have key : ∀ I h₁, I = h₀.objs.size → h₁ = h₀.push { cls := .type "list_iterator", data := .fields #[.ref ax, .int 0 0] } → codeAny (model pw w) A (.compStart (.ListComp elt [⟨t1, it1, [], 0⟩, ⟨t2, it2, [], 0⟩] scope pos) 1 (.ref I) (.ref D) cenv) R' { s with heap := h₁, toks := t₀ } := by
    intro I h₁ hI h1
    have ok := ItOk.list (w := w) (A := A) (tgt := t2) (ρ := ρ.also D) (σ := σ) (h := h₀) (I := I) (U := fun _ => False) rm.handled ht hl0 yv (hI ▸ size_none _) (fun n hn e => absurd (.inl ⟨n, hn, e⟩) un)
    have k₁ : Kept h₀ h₁ := h1 ▸ Kept.push _ _
    have st : h₁.IsListIter I ax 0 ∧ h₁.IsList ax vs.toArray := ⟨⟨_, by rw [h1, hI]; exact Heap.get?_push_size _ rfl, rfl, rfl⟩, hl0.at fun o e => k₁ _ _ e⟩
    have al := ok.alien R₀ F₀
    have ci : CompI H0 cenv (ρ.also D) σ D I [I, ax] := by
      have hID : D ≠ I := fun q => by obtain ⟨n, e⟩ := lD; exact ex_none e ok.fresh q
      refine ⟨al.1, al.2.2, fun b o q => al.2.1 (q ▸ o), hID, .inr rfl, fun q => F₀.locU.1 (q ▸ tr), fun b hb => ?_⟩
      rcases List.mem_cons.mp hb with z | hb
      · exact ⟨fun q => hID (q.symm.trans z), fun q => al.2.1 (z ▸ .inl q)⟩
      · rw [List.mem_singleton.mp hb]
        obtain ⟨o, e, _, n, d⟩ := hl0
        exact ⟨fun q => un (q ▸ tr), fun q => (F₀.own _ (.inl q)).2 o _ _ e d⟩
    have loop : codeAny (model pw w) A (.compLoop (.ListComp elt [⟨t1, it1, [], 0⟩, ⟨t2, it2, [], 0⟩] scope pos) 1 (.ref I) (.ref D) cenv) R' { s with heap := h₁, toks := t₀ } := by
      refine in_loop (CompAt w H0 cenv μ1 (ρ.also D) σ D (ps.map (·.1)).length (fun i => L ++ (ps.take i).map (·.2)) (fun i h => h.IsListIter I ax i ∧ h.IsList ax vs.toArray) h₀ s) ?_ ((ps.map (·.1)).length - 0)
        (.mk (Nat.zero_le _) st ⟨lD.at fun o e => k₁ _ _ e, by rw [List.take_zero]; exact (List.append_nil L).symm ▸ (c.vr.keeps k₀).keeps k₁, R₀.keeps k₁, F₀.keeps k₁, fun b o _ _ e => k₁ b o e⟩)
      refine comp_turns ok ci rm (fun a v h' r kp => r.via (kp.carry F₀ tr ⟨_, lD.isList⟩)) (B := fun P s₂ => wpAny (model pw w) A (eval elt cenv) (fun x s₃ => wpAny (model pw w) A (call (.builtin "list.append") [.ref D, x]) (fun _ s₄ => P s₄) (notedBy (model pw w) A cenv fun e s' => R' (.error e) s') s₃)
        (notedBy (model pw w) A cenv fun e s' => R' (.error e) s') s₂) (fun i a ha => ?_) fun h' tk ys' c' => ?_
      · obtain ⟨p, hp, rfl⟩ := Option.map_eq_some_iff.mp ((List.getElem?_map ..).symm.trans ha)
        obtain ⟨μ2, bt, hsub, elts⟩ := step p (List.mem_of_getElem? hp)
        refine ⟨μ2, bt, fun h tk ys c P hP => elts.out A rm _ _ c.R c.F _ _ fun h₇ t₇ V k₇ rV => ?_⟩
        refine c.append (.inr rfl) k₇ rV ?_ fun h₈ ys' c₈ => hP h₈ t₇ ys' ⟨c₈.pl, ?_, c₈.R, c₈.F.weaken hsub.weaken, c₈.kp⟩
        · rw [List.length_append, List.length_map]
          exact Nat.le_trans (Nat.add_le_add_left (List.length_take_le' ..) _) hl
        · rw [List.take_add_one, hp, List.map_append, ← List.append_assoc]
          exact c₈.vr
      · have vr := c'.vr
        rw [List.length_map, List.take_length] at vr
        exact hq h' tk ys' ⟨c'.pl, vr, c'.R, c'.F, fun b o q1 q2 e => c'.kp b o q1 q2 (k₀ b o e)⟩
    exact in_start loop (ok.self _ _ _ st loop)
  exact key _ _ rfl rfl
end
end
section
open PySem PySem.W PyProof.Rows
set_option maxRecDepth 100000
set_option maxHeartbeats 4000000
section
variable {w : World} {H0 : Heap} {k : Nat} {env : Env} {μ : Vars} {σ : Store} {ρ : Place} {h h' : Heap} {W : Nat → Prop}
/-- one turn of the outer of two loops -/
noncomputable def OutStep (w : World) (H0 : Heap) (k : Nat) (cenv : Env) (t1 it2 t2 elt : Expr) (v : AV) (σ : Store) (ps : List (AV × AV)) : Prop :=
  ∃ μ1, BT w H0 k cenv t1 v [] μ1 σ ∧ PV w H0 k (eval it2 cenv) cenv μ1 σ (.lst (ps.map (·.1))) ∧ ∀ p ∈ ps, InStep w H0 k cenv t2 elt μ1 σ p
theorem OutStep.mk {cenv : Env} {t1 it2 t2 elt : Expr} {v : AV} {μ1 : Vars} {ps : List (AV × AV)} (b : BT w H0 k cenv t1 v [] μ1 σ) (x : PV w H0 k (eval it2 cenv) cenv μ1 σ (.lst (ps.map (·.1)))) (y : ∀ p ∈ ps, InStep w H0 k cenv t2 elt μ1 σ p) : OutStep w H0 k cenv t1 it2 t2 elt v σ ps := ⟨μ1, b, x, y⟩
theorem InStep.mk {cenv : Env} {t2 elt : Expr} {μ1 μ2 : Vars} {p : AV × AV} (b : BT w H0 k cenv t2 p.1 μ1 μ2 σ) (s : Sup μ1 μ2) (x : PV w H0 k (eval elt cenv) cenv μ2 σ p.2) : InStep w H0 k cenv t2 elt μ1 σ p := ⟨μ2, b, s, x⟩
theorem flat_len {α : Type} {ins : α → List (AV × AV)} (l : List α) (h : ∀ e ∈ l, (ins e).length ≤ 50) : (l.flatMap fun e => (ins e).map (·.2)).length ≤ 50 * l.length := by
  induction l with
  | nil => exact Nat.zero_le _
  | cons x l ih =>
    rw [List.flatMap_cons, List.length_append, List.length_map, List.length_cons, Nat.mul_succ, Nat.add_comm]
    exact Nat.add_le_add (ih fun e he => h e (List.mem_cons_of_mem _ he)) (h x List.mem_cons_self)
theorem PVn.comp2 {α : Type} {elt t1 it1 t2 it2 : Expr} {scope : Scope} {pos : Pos} {es : List α} {f : α → AV} (ins : α → List (AV × AV)) {U : Nat → Prop} (it : ItE w H0 k it1 env μ σ (es.map f) t1 U)
    (hclos : closureFor scope env = pure []) (chk : compChk scope = true) (ht : okTgt t2 = true) (hf2 : ∀ C x, foldedSetIterable it2 (compEnvC scope [] C env) x = pure x)
    (step : ∀ C e, e ∈ es → OutStep w H0 k (compEnvC scope [] C env) t1 it2 t2 elt (f e) σ (ins e)) (hl : es.length ≤ 1000) (hi : ∀ e ∈ es, (ins e).length ≤ 50) :
    PVn w H0 k (eval (.ListComp elt [⟨t1, it1, [], 0⟩, ⟨t2, it2, [], 0⟩] scope pos) env) env μ σ (es.flatMap fun e => (ins e).map (·.2)) := by
  obtain ⟨hcell, hkind, hnames⟩ := compChk_of chk
  refine ⟨?_⟩; intro A rm ρ s R F Q E hq
  rw [eval_ListComp]
  refine comp_setup none [] [] it hclos (fun _ h => absurd h List.not_mem_nil) (Nat.zero_le _) (fun _ h => absurd h List.not_mem_nil) (fun _ _ h => absurd h List.not_mem_nil) hcell hkind hnames rm R F fun I fp Pt Md St h₀ h₂ D C tk G => ?_
  refine out_loop (hf2 C) (CompAt w H0 (compEnvC scope [] C env) [] (ρ.also D) σ D (es.map f).length (fun i => (es.take i).flatMap fun e => (ins e).map (·.2)) St h₀ s) ?_ ((es.map f).length - 0) (.mk (Nat.zero_le _) G.st G.at0)
  refine comp_turns G.ok G.ci rm (fun a v h' r kp => (r.more G.d).keeps (kp.kept G.d G.c)) (B := outBody w A (compPost (model pw w) A E none Q (.ref D) C) elt t1 it1 t2 it2 scope pos (.ref D) (compEnvC scope [] C env)) (fun i a ha => ?_) fun h' tk ys c => ?_
  · obtain ⟨e, he, rfl⟩ := Option.map_eq_some_iff.mp ((List.getElem?_map ..).symm.trans ha)
    have hm := List.mem_of_getElem? he
    obtain ⟨μ1, bt, pv2, elts⟩ := step C e hm
    refine ⟨μ1, bt, fun h tk ys c P hp => ?_⟩
    have bound : ((es.take i).flatMap fun e => (ins e).map (·.2)).length + (ins e).length ≤ 100000 :=
      Nat.le_trans (Nat.add_le_add (Nat.le_trans (flat_len _ fun e q => hi e (List.mem_of_mem_take q)) (Nat.mul_le_mul_left 50 (Nat.le_trans (List.length_take_le' ..) hl))) (hi e hm)) (by decide)
    refine inner (s := { s with heap := h, toks := tk }) pv2 ht elts rm c bound fun h₆ t₆ ys' c₆ => hp h₆ t₆ ys' ⟨c₆.pl, ?_, c₆.R, c₆.F.weaken (fun x v e => by cases e), c₆.kp⟩
    rw [List.take_add_one, he, List.flatMap_append]
    simpa using c₆.vr
  · have vr := c.vr
    rw [List.length_map, List.take_length] at vr
    obtain ⟨m, hn, _⟩ := c.F.ns
    have k := c.kp.kept G.d G.c
    have := compPost_done (Q := Q) (E := E) (A := A) (tk := tk) (s := s) G.un (Kept.none R.top (G.k₀.none G.c)) (G.k₀.none G.c) (G.k₀.trans k) G.ci.loc c.pl vr c.R ⟨m, hn⟩ fun h₄ ys' k₄ pl₄ vr₄ => hq h₄ tk D ys' k₄ (G.k₀.none G.d) pl₄ vr₄
    exact this
end
end
section
open PySem PySem.W PyProof.Rows
set_option maxRecDepth 100000
set_option maxHeartbeats 4000000
section
variable {w : World} {H0 : Heap} {k : Nat} {env : Env} {μ : Vars} {σ : Store} {ρ : Place} {h h' : Heap} {W : Nat → Prop}
theorem O2.neY (a b : List UInt8) : O2 w H0 k (compareOp .NotEq) σ (.bytes a) (.bytes b) (.bool (a != b)) := by
  refine ⟨?_⟩; intro A rm ρ s U V R u v Q E hq; refine u.el fun _ => v.el fun _ => ?_; exact ne_bytes (hq s.heap s.toks _ (.refl _) (by simpa using .bool _))
theorem pick_all (items : Array Value) : slicePick items none none none = items := by
  have := pick_from items 0
  have e : slicePick items none none none = slicePick items (some ((0 : Nat) : Int)) none none := by
    unfold slicePick sliceBounds
    simp
    rw [show max 0 (min 0 (items.size : Int)) = 0 by omega]
  rw [e, this]; simp
theorem PVn.allL {o : Expr} {p1 pos : Pos} {v : AV} {l : List AV} (x : PV w H0 k (eval o env) env μ σ v) (hv : Lst σ v l) (hl : l.length ≤ 1000) (hs : ∀ u i, subscripted (.Slice none none none p1) false u i = operate [i, u] (getItem u i)) :
    PVn w H0 k (eval (.Subscript o (.Slice none none none p1) pos) env) env μ σ l := by
  refine ⟨?_⟩; intro A rm ρ s R F Q E hq
  refine Subscript_ (x.out A rm ρ s R F _ E fun h₁ t₁ V k₁ u => wpAny_Slice ?_)
  rw [evalPart_none]
  refine wpAny_pure (wpAny_pure (wpAny_pure ?_))
  obtain ⟨b, vs, rfl, x, yv⟩ := hv.is (R.keeps k₁) u
  refine tail_any (T := "list") (x.push _).typeIs list_getitem_lookup (wpAny_getItem_list_slice (lo := none) (hi := none) (x.push _) (Heap.IsSliceOf.new ..) .none .none .none (by simp) ?_ (by rw [List.size_toArray, yv.length]; exact Nat.le_trans hl (by decide))) (hs _ _)
  rw [pick_all, Heap.size_push]
  have kp1 := Kept.push h₁ { cls := .type "slice", data := .fields #[.none, .none, .none] }
  have kp2 := Kept.push (h₁.push { cls := .type "slice", data := .fields #[.none, .none, .none] }) { cls := .type "list", data := .seq vs.toArray }
  have hsz : (h₁.push { cls := .type "slice", data := .fields #[.none, .none, .none] }).objs.size = h₁.objs.size + 1 := Heap.size_push ..
  have hn1 : h₁.get? (h₁.objs.size + 1) = none := by
    cases e : h₁.get? (h₁.objs.size + 1) with
    | none => rfl
    | some o => exact absurd (Heap.lt_size e) (Nat.not_lt.mpr (Nat.le_succ _))
  refine hq _ t₁ _ vs (k₁.trans (kp1.trans kp2)) ?_ ⟨0, by rw [← hsz]; exact Heap.get?_push_size _ rfl⟩ ?_
  · exact k₁.none hn1
  · exact (yv.more hn1).keeps (kp1.trans kp2)
theorem glue_fold (sep : List Nat) : ∀ (r : List (List Nat)) (acc : Array Nat), (r.map fun x => (⟨x.toArray⟩ : PySem.Str)).foldl (fun acc p => acc ++ (⟨sep.toArray⟩ : PySem.Str).cps ++ p.cps) acc = acc ++ (r.flatMap fun x => sep ++ x).toArray
  | [], acc => by simp
  | x :: r, acc => by
    rw [List.map_cons, List.foldl_cons, glue_fold sep r]
    apply Array.ext'; simp
theorem join_cons (sep x : List Nat) (r : List (List Nat)) : Txt.join ⟨sep.toArray⟩ ((x :: r).map fun x => (⟨x.toArray⟩ : PySem.Str)) = ⟨(x ++ r.flatMap fun x => sep ++ x).toArray⟩ := by
  show PySem.Str.mk _ = _
  rw [List.map_cons]
  show PySem.Str.mk ((r.map fun x => (⟨x.toArray⟩ : PySem.Str)).foldl _ x.toArray) = _
  rw [glue_fold]
  congr 1; apply Array.ext'; simp
theorem join_lines (sep : List Nat) : ∀ l : List (List Nat), Txt.join ⟨sep.toArray⟩ ((l ++ [([] : List Nat), []]).map fun (x : List Nat) => (⟨x.toArray⟩ : PySem.Str)) = ⟨(l.flatMap (· ++ sep) ++ sep).toArray⟩
  | [] => by rw [List.nil_append, join_cons]; simp
  | x :: l => by
    rw [List.cons_append, join_cons]
    congr 2
    have : ∀ (x : List Nat) (l : List (List Nat)), x ++ (l ++ [[], []]).flatMap (fun x => sep ++ x) = (x :: l).flatMap (· ++ sep) ++ sep := by
      intro x l
      induction l generalizing x with
      | nil => simp
      | cons y l ih =>
        have := ih y
        rw [List.cons_append, List.flatMap_cons, List.flatMap_cons, List.append_assoc sep y, this]
        simp
    exact this x l
theorem join_flat : ∀ l : List (List Nat), Txt.join ⟨([] : List Nat).toArray⟩ (l.map fun x => (⟨x.toArray⟩ : PySem.Str)) = ⟨l.flatten.toArray⟩
  | [] => rfl
  | x :: l => by
    rw [join_cons]
    congr 2
    simp [List.flatMap_def]
/-- what a table of headers is, as one text -/
noncomputable def sentS (es : List (List Nat × List Nat)) : List Nat := (es.flatMap fun e => e.1 ++ [58, 32] ++ e.2 ++ [13, 10]) ++ [13, 10]
end
end
section
open PySem PySem.W PyProof.Rows PySem.Builtin PySem.Builtin.ObjectAttr
set_option maxRecDepth 100000
set_option maxHeartbeats 4000000
theorem kH_over (P : Params) : plainOver (K0 P) 182 = true := by kernel_rfl
theorem kH_taker (P : Params) : takerIn (K0 P) 182 "_headers" = some none := by kernel_rfl
theorem kH_setattr (P : Params) : findIn (K0 P) (.ref 182) "__setattr__" = some (some (.builtin "object.__setattr__")) := by kernel_rfl
theorem kH_makes (P : Params) : makesIn (K0 P) 182 = true := by kernel_rfl
theorem kH_init (P : Params) : findIn (K0 P) (.ref 182) "__init__" = some (some (.ref 76)) := by kernel_rfl
theorem kH_76 (P : Params) : typeIn (K0 P) (.ref 76) = some (.type "function") := by kernel_rfl
section
variable {w : World} {H0 : Heap} {k : Nat} {env : Env} {μ : Vars} {σ σ' : Store} {ρ : Place} {h : Heap} {W : Nat → Prop} {P : Fl → Vars → Store → Prop}
/-- the list laid into a new object of the class -/
theorem own_store {A : Around} {s : Shared} {x dx : Addr} {n : Nat} {tk : Tok} {v : Value} {R : Result → Shared → Prop} (X : (K0 w.params).In s.heap) (hx : s.heap.get? x = some (instObj 182 dx)) (hd : s.heap.get? dx = some (dictOf [] n))
    (q : ∀ h' hs n', Heap.SameBut dx s.heap h' → h'.get? dx = some (dictOf [⟨hs, .str (Str.ofString "_headers") s.toks, v⟩] n') → R (.ok (.ret .none)) { s with heap := h', toks := s.toks + 1 }) :
    codeAny (model pw w) A (.call (.builtin "object.__setattr__") ⟨[.ref x, .str (Str.ofString "_headers") tk, v], []⟩) R s := by
  have I : InstAt s.heap x (instObj 182 dx) 182 (some (dictOf [] n)) := ⟨hx, rfl, rfl, hd⟩
  refine osa_open X I (kH_over _) (kH_taker _) fun b => ?_
  obtain ⟨cd, hc, hcd⟩ := any_some (kH_dict w.params)
  have hnew : (s.heap.update dx (Obj.putName (Str.ofString "_headers") (PyData.keyHash w.params (Str.ofString "_headers")) (.str (Str.ofString "_headers") s.toks) v)).get? dx = some (dictOf [⟨PyData.keyHash w.params (Str.ofString "_headers"), .str (Str.ofString "_headers") s.toks, v⟩] (n + 1)) := by
    rw [Heap.get?_update_self _ hd (by rw [putName_dict]; rfl), putName_dict]
    rfl
  show wpAny _ _ (storeInOwnDict _ _ _ _ _ _) _ _ _
  unfold storeInOwnDict ownDictForStores instanceDict storeInDict newKeyGuard nsSet
  refine wpAny_bind (wpAny_pure (wpAny_bind ?_))
  refine wpAny_bind (wpAny_loadPart hx (wpAny_bind ((looks_clsIn X hc).here ?_)))
  rw [hcd]
  refine wpAny_pure (a := some dx) (wpAny_bind (wpAny_pure (wpAny_bind ?_)))
  refine wpAny_bind (wpAny_bind (wpAny_askSetting (wpAny_pure (wpAny_bind (wpAny_mkText (wpAny_bind (wpAny_loadPart hd ?_)))))))
  refine wpAny_updatePart hd ?_
  refine wpAny_bind (wpAny_lookBehind hnew (pastItsLine_dict (by rw [List.size_toArray, sizeLine_eq, List.length_singleton]; omega)) ?_)
  exact wpAny_pure (q _ _ _ (Heap.SameBut.update ..) hnew)
theorem XT.setH (T : Tp w H0) {o value : Expr} {pos' pos : Pos} {p d l : Nat} (xv : PV w H0 k (eval value env) env μ σ (.loc l)) (xo : PV w H0 k (eval o env) env μ σ (.loc p)) (hp : σ p = .hdr hdrC d) (hd : σ d = .dict []) (hw : W d) (hσ : upd σ d (.idict l) = σ')
    (hs : swapsWith value (some (.Attribute o "_headers" pos')) pos.line env = pure false) (q : P .next μ σ') : XT w H0 k W env (exec (.Assign [.Attribute o "_headers" pos'] value pos) env) μ σ P := by
  subst hσ
  refine ⟨?_⟩; intro A rm ρ s R F Q E hq
  refine plainObj_wpAny_Assign_Attribute (xv.out A rm ρ s R F _ E fun h₁ t₁ V k₁ u => xo.out A rm ρ _ (R.keeps k₁) (F.keeps k₁) _ E fun h₂ t₂ U k₂ v => ?_) hs
  have kk := k₁.trans k₂
  have R₂ := R.keeps kk
  have F₂ := F.keeps kk
  refine u.el fun hlf => v.el fun _ => ?_
  obtain ⟨kvs, y, z, _⟩ := R₂.dict hd
  have x := (R₂.hdr hp).1
  obtain rfl : kvs = [] := List.map_eq_nil_iff.mp z
  · · obtain ⟨⟨oc, od, oda, osl⟩, es, ep, e, ⟨c1, c2, c3⟩, dd, _, pr, _⟩ := y
      have hes : es = #[] := by
        cases es with
        | mk es => cases pr; rfl
      subst hes
      dsimp only at c1 c2 c3 dd
      subst c1 c2 c3 dd
      have I : InstAt h₂ (ρ.at p) (instObj 182 (ρ.at d)) 182 (some (dictOf [] ep)) := ⟨x, rfl, rfl, e⟩
      refine set_plain (T.K.keeps R₂.top) I (kH_setattr _) (own_store (T.K.keeps R₂.top) x e fun h' hs n' sb e' => ?_)
      have hk : ∀ b o, b ≠ ρ.at d → h₂.get? b = some o → h'.get? b = some o := fun b o q e => (sb.2 b q).trans e
      have dn : σ d ≠ .free := by rw [hd]; intro q; cases q
      have hi : Plc.idict l ≠ .free := by intro q; cases q
      have ev := put_evo (h := h₂) (h' := h') dn hi hk ⟨_, e'⟩
      have R' := put_rel R₂ dn (fun l q => by rw [hd] at q; cases q) hi hk ⟨_, e'⟩ (.idict e' (by
        by_cases q : l = d
        · subst q; rw [upd_self]; exact hi
        · rw [upd_ne q]; exact hlf))
      have ev' : Evo W (fun _ => False) ρ σ h₂ ρ (upd σ d (.idict l)) h' := ev.wide fun m q => q ▸ hw
      exact hq .next .next ρ h' _ μ _ q .next ((kk.evo ..).trans (ev'.mono (fun _ a => a) fun _ _ _ q => q.elim)) R' (F₂.call (F0 := True) R₂ ev')
/-- a new object of the class -/
theorem FnE.newH (T : Tp w H0) {fo : Obj} {fd : FuncData} {body : List Stmt} {xs : List Str} {args avs : List AV} {σ₁ : Store} (p d : Nat)
    (ho : (K0 w.params).lookup 76 = some fo) (hd : fo.data = .func fd) (hb : fd.body = .stmts body) (hc : codeIn (K0 w.params) fd.code fd.qualname = true) (chk : fnChkX fd xs = true)
    (hbind : BindX w H0 k W fd (.loc p :: args) [] [] xs avs (upd (upd σ d (.dict [])) p (.hdr hdrC d)) σ₁) (hg : fd.globals = mainGlobals ∧ fd.builtins = builtinsNs ∧ fd.closure = []) (hp : σ p = .free) (hdf : σ d = .free) (hne : p ≠ d) (hwp : W p) (hwd : W d)
    (x : ∀ L, XT w H0 k W (callEnvC fd L 76) (execs body (callEnvC fd L 76)) (xs.zip avs) σ₁ (Ends .none σ')) : FnE w H0 (k + 2) W (.ref 182) args [] σ (.loc p) σ' := by
  refine ⟨?_⟩; intro A rm' ρ₀ s₀ vs kvs R₀ ra₀ rk Q E hq
  refine rk.el0 ?_
  obtain ⟨h₀, g₀, d₀, t₀, os₀⟩ := s₀
  show wpAny _ A (call (.ref 182) vs []) Q E _
  have X₀ := T.K.keeps R₀.top
  refine wpAny_call (make_core (makes_of X₀ (kH_makes _)) (looks_findIn X₀ (kH_init _)) (fun self => bind_fn X₀ self (kH_76 _)) (.inl rfl) ?_)
  have wt : (Code.builtin "type.__call__" ⟨.ref 182 :: vs, []⟩).weight = 1 := by kernel_rfl
  have ut : (Code.builtin "type.__call__" ⟨.ref 182 :: vs, []⟩).cUnits = 1 := by kernel_rfl
  have rm : Rm (k + 1) (A.under (.builtin "type.__call__" ⟨.ref 182 :: vs, []⟩)) :=
    ⟨rm'.handled, by have := rm'.depth; show A.depth + _ + _ + 4 ≤ 700; rw [wt]; omega, by have := rm'.units; show A.units + _ + _ + 60 ≤ 5000; rw [ut]; omega⟩
  have hpd : Plc.dict [] ≠ .free := by intro q; cases q
  have hph : Plc.hdr hdrC d ≠ .free := by intro q; cases q
  have kp1 := Kept.push h₀ emptyDict
  have kp2 := Kept.push (h₀.push emptyDict) (instObj 182 h₀.objs.size)
  have e1 := place_evo (p := .dict []) R₀ hdf (size_none h₀) kp1 hpd
  have R1 := place_any R₀ hdf (size_none h₀) kp1 hpd (.dict (kvs := []) (Heap.DictOf.new h₀) rfl .nil (Nat.zero_le _))
  have hp1 : upd σ d (.dict []) p = .free := by rw [upd_ne hne]; exact hp
  have sz : (h₀.push emptyDict).objs.size = h₀.objs.size + 1 := Heap.size_push ..
  have hn1 : (h₀.push emptyDict).get? (h₀.objs.size + 1) = none := by rw [← sz]; exact size_none _
  have dat : ((ρ₀.with d h₀.objs.size).with p (h₀.objs.size + 1)).at d = h₀.objs.size := by
    rw [with_at (Ne.symm hne)]; exact if_pos rfl
  have e2 := place_evo (p := .hdr hdrC d) R1 hp1 hn1 kp2 hph
  have R := place_any R1 hp1 hn1 kp2 hph (.hdr (c := hdrC) (d := d) (by
    rw [dat, ← sz]; exact Heap.get?_push_size _ rfl) (by rw [upd_ne (Ne.symm hne), upd_self]; exact hpd))
  have self : ((ρ₀.with d h₀.objs.size).with p (h₀.objs.size + 1)).at p = h₀.objs.size + 1 := if_pos rfl
  have e12 := (e1.wide (W' := W) fun m q => q ▸ hwd).trans (e2.wide (W' := W) fun m q => q ▸ hwp)
  generalize hρ : (ρ₀.with d h₀.objs.size).with p (h₀.objs.size + 1) = ρ at R e12 self dat
  generalize hσ₂ : upd (upd σ d (.dict [])) p (.hdr hdrC d) = σ₂ at R e12 hbind
  generalize hh₂ : (h₀.push emptyDict).push (instObj 182 h₀.objs.size) = h₂ at R e12
  have hpn : σ₂ p ≠ .free := by rw [← hσ₂, upd_self]; exact hph
  have ra : VRels ρ σ₂ h₂ (.loc p :: args) (.ref (h₀.objs.size + 1) :: vs) := .cons (self ▸ .loc p hpn) (ra₀.evo R₀ e12 ownNone)
  refine call_core (names := []) (ks := []) (kvs := []) (s := ⟨h₂, g₀, d₀, t₀, os₀⟩) T ho hd hb hc chk hbind hg x rm R ra .nil fun ρ' h' tk V ev R' r => ?_
  refine r.elN ⟨rfl, hq ρ' h' tk _ (e12.trans ev) R' ?_⟩
  have pat : ρ'.at p = h₀.objs.size + 1 := (ev.dom p hpn).1.trans self
  exact pat ▸ .loc p (ev.dom p hpn).2
end
end
section
open PySem PySem.W PyProof.Rows
set_option maxRecDepth 100000
set_option maxHeartbeats 4000000
/-- keys and values one by one, places changing -/
noncomputable def XPs (w : World) (H0 : Heap) (k : Nat) (W : Nat → Prop) (t : Sem (List (Value × Value))) (env : Env) (μ : Vars) (σ : Store) (es : List (Str × AV)) (σ' : Store) : Prop := Shut <|
  ∀ A, Rm k A → ∀ ρ s, Rel w H0 ρ σ s.heap → Fra w H0 env μ ρ σ s.heap → ∀ Q E,
    (∀ ρ' h' tk vs kvs, Evo W (fun _ => False) ρ σ s.heap ρ' σ' h' → Rel w H0 ρ' σ' h' → Fra w H0 env μ ρ' σ' h' → Carries (strKind pw w) vs kvs → kvs.map (·.1) = es.map (·.1) → VRels ρ' σ' h' (es.map (·.2)) (kvs.map (·.2)) → Q vs { s with heap := h', toks := tk }) → wpAny (model pw w) A t Q E s
section
variable {w : World} {H0 : Heap} {k : Nat} {env : Env} {μ μ' : Vars} {σ σ₁ σ' : Store} {ρ : Place} {h : Heap} {W : Nat → Prop} {P : Fl → Vars → Store → Prop}
/-- one default, not used -/
theorem BindX.full (T : Tp w H0) {fd : FuncData} {args : List AV} {xs : List Str} {d : Addr} {o : Obj} {n : Nat} (hd : fd.defaults = .ref d) (ho : (K0 w.params).lookup d = some o) (hs : o.data = .seq #[.none] n)
    (h : ∀ vs : List Value, vs.length = args.length → ∃ c : Option (Array Value) → Sem (List (Str × Value)), bindArgs fd ⟨vs, []⟩ = seqItems? fd.defaults >>= c ∧ c (some #[.none]) = pure (xs.zip vs)) :
    BindX w H0 k W fd args [] [] xs args σ σ := by
  refine ⟨?_⟩; intro A hh ρ s vs kvs R ra rk Q E hq
  refine rk.el0 ?_
  obtain ⟨c, e1, e2⟩ := h vs ra.length
  exact BindsTo.of_defaults hd (R.top _ _ (T.K _ _ ho)) hs e1 e2 _ A E Q (hq ρ s.heap s.toks _ (.refl ..) R ra)
theorem XV.ifexp {t b o : Expr} {pos : Pos} {c : Bool} {v : AV} (x : PB w H0 k (isTrue t env (eval t env)) env μ σ c) (y : c = true → XV w H0 k W (eval b env) env μ σ v σ') (z : c = false → XV w H0 k W (eval o env) env μ σ v σ') :
    XV w H0 k W (eval (.IfExp t b o pos) env) env μ σ v σ' := by
  refine ⟨?_⟩; intro A rm ρ s R F Q E hq
  refine wpAny_IfExp (x.out A rm ρ s R F _ E fun h₁ t₁ k₁ => ?_)
  cases c with
  | true => exact (y rfl).out A rm ρ _ (R.keeps k₁) (F.keeps k₁) _ E fun ρ' h₂ t₂ V ev => hq ρ' h₂ t₂ V ((k₁.evo ..).trans ev)
  | false => exact (z rfl).out A rm ρ _ (R.keeps k₁) (F.keeps k₁) _ E fun ρ' h₂ t₂ V ev => hq ρ' h₂ t₂ V ((k₁.evo ..).trans ev)
theorem XPs.nil {pos : Pos} : XPs w H0 k W (evalPairs (pairTrees [] [] env pos)) env μ σ [] σ :=
  ⟨fun A rm ρ s R F Q E hq => pairTrees_nil_walk (hq ρ s.heap s.toks [] [] (.refl ..) R F trivial rfl .nil)⟩
theorem XPs.cons {x : Str} {j : Nat} {p pos : Pos} {e : Expr} {ks : List (Option Expr)} {vs : List Expr} {v : AV} {es : List (Str × AV)} (y : XV w H0 k W (eval e env) env μ σ v σ₁) (z : XPs w H0 k W (evalPairs (pairTrees ks vs env pos)) env μ σ₁ es σ') :
    XPs w H0 k W (evalPairs (pairTrees (some (.Constant (.str x) j p) :: ks) (e :: vs) env pos)) env μ σ ((x, v) :: es) σ' := by
  refine ⟨?_⟩; intro A rm ρ s R F Q E hq
  have c : PV w H0 k (eval (.Constant (.str x) j p) env) env μ σ (.str x.cps.toList) := PV.const rfl
  refine pairTrees_cons_walk (c.out A rm ρ s R F _ E fun h₁ t₁ U k₁ u => y.out A rm ρ _ (R.keeps k₁) (F.keeps k₁) _ E fun ρ₂ h₂ t₂ V ev₂ R₂ F₂ v => z.out A rm ρ₂ _ R₂ F₂ _ E fun ρ₃ h₃ t₃ vs kvs ev₃ R₃ F₃ cr ek rv => ?_)
  refine u.el fun _ => ?_
  exact hq ρ₃ h₃ t₃ _ ((x, V) :: kvs) (((k₁.evo ..).trans ev₂).trans ev₃) R₃ F₃ ⟨by exact beq_self_eq_true (x : Str), rfl, cr⟩ (by rw [List.map_cons, List.map_cons, ek]) (.cons (v.evo R₂ ev₃ ownNone) rv)
theorem merged_new (kvs : List (Str × Value)) : ∀ (acc : List (Str × Value)), ((acc ++ kvs).map (·.1)).Nodup → merged acc kvs = acc ++ kvs := by
  induction kvs with
  | nil => intro acc _; exact (List.append_nil _).symm
  | cons p kvs ih =>
    intro acc nd
    have e : stored acc p.1 p.2 = acc ++ [p] := by
      unfold stored
      rw [if_neg]
      intro z
      obtain ⟨q, hq, hx⟩ := List.any_eq_true.mp z
      rw [List.map_append, List.map_cons, List.nodup_append] at nd
      exact nd.2.2 p.1 (List.mem_map.mpr ⟨q, hq, of_decide_eq_true hx⟩) p.1 List.mem_cons_self rfl
    show merged (stored acc p.1 p.2) kvs = _
    rw [e, ih _ (by rw [List.append_assoc]; exact nd), List.append_assoc]; rfl
/-- a dict display: a new place -/
theorem XV.dict {keys : List (Option Expr)} {values : List Expr} {pos : Pos} {es : List (Str × AV)} {σ₂ : Store} (n : Nat) (hn : σ n = .free) (hw : W n) (x : XPs w H0 k W (evalPairs (pairTrees keys values env pos)) env μ (upd σ n (.dict [])) es σ₂)
    (h2 : σ₂ n = .dict []) (hσ : upd σ₂ n (.dict es) = σ') (nd : (es.map (·.1)).Nodup) (hall : keys.all (·.isSome) = true) (hl : keys.length = values.length) (h0 : keys ≠ []) (hlen : keys.length ≤ 15) (hes : es.length ≤ 15) :
    XV w H0 k W (eval (.Dict keys values pos) env) env μ σ (.loc n) σ' := by
  subst hσ
  refine ⟨?_⟩; intro A rm ρ s R F Q E hq
  have hpd : Plc.dict [] ≠ .free := by intro q; cases q
  have ha := size_none s.heap
  have kp := Kept.push s.heap emptyDict
  have e1 := place_evo (p := .dict []) R hn ha kp hpd
  have R1 := place_any R hn ha kp hpd (.dict (kvs := []) (Heap.DictOf.new s.heap) rfl .nil (Nat.zero_le _))
  have F1 := F.call (F0 := True) R e1
  have self : (ρ.with n s.heap.objs.size).at n = s.heap.objs.size := if_pos rfl
  refine wpAny_Dict_walk (knd := strKind pw w) hall hl h0 hlen (x.out A rm _ ⟨s.heap.push emptyDict, s.gens, s.drawn, s.toks, s.os⟩ R1 F1 _ E fun ρ₂ h₂ t₂ vs kvs ev₂ R₂ F₂ cr ek rv => ?_)
  have at2 : ρ₂.at n = s.heap.objs.size := (ev₂.dom n (by rw [upd_self]; exact hpd)).1.trans self
  obtain ⟨kv0, y, z, _⟩ := R₂.dict h2
  rw [at2] at y
  obtain rfl : kv0 = [] := List.map_eq_nil_iff.mp z
  · refine ⟨kvs, cr, y, fun h' dm sb => ?_⟩
    rw [merged_new kvs [] (by rw [List.nil_append, ek]; exact nd), List.nil_append] at dm
    rw [← at2] at sb dm
    have hk : ∀ b o, b ≠ ρ₂.at n → h₂.get? b = some o → h'.get? b = some o := fun b o q e => (sb.2 b q).trans e
    have dn : σ₂ n ≠ .free := by rw [h2]; exact hpd
    have hi : Plc.dict es ≠ .free := by intro q; cases q
    have he : ∃ o, h'.get? (ρ₂.at n) = some o := by obtain ⟨o, _, _, q, _⟩ := dm; exact ⟨o, q⟩
    have ev3 := put_evo (h := h₂) (h' := h') dn hi hk he
    have R3 := put_rel R₂ dn (fun l q => by rw [h2] at q; cases q) hi hk he (.dict dm ek (rv.evo R₂ ev3 ownNone) (by omega))
    have ev' := ev3.wide (W' := W) fun m q => q ▸ hw
    have r := VRel.loc (ρ := ρ₂) (σ := upd σ₂ n (.dict es)) (h := h') n (by rw [upd_self]; exact hi)
    rw [at2] at r
    exact hq ρ₂ h' _ _ (((e1.wide fun m q => q ▸ hw).trans ev₂).trans ev') R3 (F₂.call (F0 := True) R₂ ev') r
end
end
section
open PySem PySem.W PyProof.Rows
set_option maxRecDepth 100000
noncomputable def passS : Stmt := .Pass ⟨0, 0, 0, 0⟩
noncomputable def stmtAt (i : Nat) : Stmt := pw.main.body.getD i passS
noncomputable def bodyOf : Stmt → List Stmt
  | .FunctionDef _ _ b _ _ _ _ _ _ _ => b
  | .ClassDef _ _ _ b _ _ _ _ _ _ _ => b
  | _ => []
noncomputable def scopeOf : Stmt → Scope
  | .FunctionDef _ _ _ _ _ _ sc _ _ _ => sc
  | _ => noScope
noncomputable def argsOf : Stmt → Arguments
  | .FunctionDef _ a _ _ _ _ _ _ _ _ => a
  | _ => noArgs
noncomputable def nameOf : Stmt → Str
  | .FunctionDef n _ _ _ _ _ _ _ _ _ => n
  | _ => ""
noncomputable def methAt (i : Nat) : Stmt := (bodyOf (stmtAt 7)).getD i passS
noncomputable def fdAt (st : Stmt) (q : Str) (dV pm cd : Value) : FuncData :=
  { name := nameOf st, qualname := q, params := argsOf st, body := .stmts (bodyOf st), scope := scopeOf st, globals := 3, closure := [], defaults := dV, kwdefaults := .none, doc := .none, pyModule := pm,
    annotations := none, code := cd, closureTuple := .none, builtins := 0 }
noncomputable def fobj (fd : FuncData) : Obj := ⟨.type "function", none, .func fd, #[]⟩

noncomputable def fnChk (fd : FuncData) (xs : List Str) : Bool := fnChkX fd xs && ((cellsFrom 0 fd.scope.names []).map (·.1)).isEmpty
theorem FnE.of {w : World} {H0 : Heap} (T : Tp w H0) {k : Nat} {W : Nat → Prop} {f : Addr} {st : Stmt} {q : Str} {dV pm cd : Value} {names xs : List Str} {args ks : List AV} {σ σ' : Store} {v : AV}
    (ho : (K0 w.params).lookup f = some (fobj (fdAt st q dV pm cd))) (hc : codeIn (K0 w.params) cd q = true) (chk : fnChk (fdAt st q dV pm cd) xs = true) (hn : names.length = ks.length) (hnum : xs.length = args.length + ks.length)
    (hbind : Binds (fdAt st q dV pm cd) args.length names xs)
    (x : ∀ L, XT w H0 k W (callEnv (fdAt st q dV pm cd) L f) (execs (bodyOf st) (callEnv (fdAt st q dV pm cd) L f)) (xs.zip (args ++ ks)) σ (Ends v σ')) : FnE w H0 (k + 1) W (.ref f) args (names.zip ks) σ v σ' := by
  obtain ⟨c1, c2⟩ := Bool.and_eq_true_iff.mp chk
  refine FnE.mkX T ho rfl rfl hc c1 hn (BindX.plain hn hbind) ⟨rfl, rfl, rfl⟩ fun L => ?_
  have e : callEnvC (fdAt st q dV pm cd) L f = callEnv (fdAt st q dV pm cd) L f := by
    have : cellsFrom (L + 1) (fdAt st q dV pm cd).scope.names [] = [] := List.map_eq_nil_iff.mp ((cellsFrom_names _ _ 0 _ [] rfl).trans (List.isEmpty_iff.mp c2))
    unfold callEnvC
    rw [this]
    rfl
  rw [e]
  exact x L

section
variable {w : World} {H0 : Heap} {k : Nat} {env : Env} {μ : Vars} {σ : Store} {j : Nat} {pos : Pos}
theorem PV.constS {s : Str} : PV w H0 k (eval (.Constant (.str s) j pos) env) env μ σ (.str s.cps.toList) := PV.const rfl
theorem PV.constI {i : Int} : PV w H0 k (eval (.Constant (.int i) j pos) env) env μ σ (.int i) := PV.const rfl
theorem PV.constN : PV w H0 k (eval (.Constant .none j pos) env) env μ σ .none := PV.const rfl
theorem PV.constB {b : Bool} : PV w H0 k (eval (.Constant (.bool b) j pos) env) env μ σ (.bool b) := PV.const rfl
theorem PV.constY {b : List UInt8} : PV w H0 k (eval (.Constant (.bytes b) j pos) env) env μ σ (.bytes b) := PV.const rfl
end
-- looking up
theorem look_here {x : Str} {v : AV} {r : Vars} : ((x, v) :: r).lookup x = some v := by simp
theorem look_there {x y : Str} {u v : AV} {r : Vars} (h : (x == y) = false) (e : r.lookup x = some v) : ((y, u) :: r).lookup x = some v := by rw [List.lookup_cons, h]; exact e
theorem put_here {x : Str} {v : AV} {r : Vars} : (put x v r).lookup x = some v := by rw [put_lookup, if_pos rfl]
theorem put_there {x y : Str} {u v : AV} {r : Vars} (h : (x == y) = false) (e : r.lookup x = some v) : (put y u r).lookup x = some v := by
  rw [put_lookup, if_neg (by simpa using h)]; exact e
noncomputable abbrev S (s : String) : List Nat := (Str.ofString s).cps.toList

theorem g_ndr : gtab.lookup ("_name_disallowed_re" : Str) = some (.ref 48) := by kernel_rfl
theorem g_vdr : gtab.lookup ("_value_disallowed_re" : Str) = some (.ref 53) := by kernel_rfl
theorem g_Headers : gtab.lookup ("Headers" : Str) = some (.ref 182) := by kernel_rfl
theorem g_Flags : gtab.lookup ("Flags" : Str) = some (.ref 191) := by kernel_rfl
theorem g_Int2AP : gtab.lookup ("Int2AP" : Str) = some (.ref 198) := by kernel_rfl
theorem g_ParseFlags : gtab.lookup ("ParseFlags" : Str) = some (.ref 205) := by kernel_rfl
theorem g_strip : gtab.lookup ("_strip_padding" : Str) = some (.ref 212) := by kernel_rfl
theorem g_build : gtab.lookup ("_build_localename" : Str) = some (.ref 219) := by kernel_rfl
theorem g_name : gtab.lookup ("_law_name" : Str) = some (.ref 226) := by kernel_rfl
theorem g_plain : gtab.lookup ("_law_plain" : Str) = some (.ref 233) := by kernel_rfl
theorem g_lay : gtab.lookup ("_law_lay" : Str) = some (.ref 240) := by kernel_rfl
theorem g_store : gtab.lookup ("_law_store" : Str) = some (.ref 245) := by kernel_rfl
theorem g_picture : gtab.lookup ("_law_picture" : Str) = some (.ref 252) := by kernel_rfl
theorem g_pay : gtab.lookup ("_law_pay" : Str) = some (.ref 259) := by kernel_rfl
theorem g_hand : gtab.lookup ("_law_hand" : Str) = some (.ref 266) := by kernel_rfl
theorem g_reckon : gtab.lookup ("_law_reckon" : Str) = some (.ref 273) := by kernel_rfl
theorem g_due : gtab.lookup ("_law_due" : Str) = some (.ref 278) := by kernel_rfl
theorem g_told : gtab.lookup ("_law_told" : Str) = some (.ref 283) := by kernel_rfl
theorem b_type : btabV.lookup ("type" : Str) = some (.type "type") := by kernel_rfl
theorem b_len : btabV.lookup ("len" : Str) = some (.builtin "len") := by kernel_rfl
theorem b_list : btabV.lookup ("list" : Str) = some (.type "list") := by kernel_rfl
theorem b_range : btabV.lookup ("range" : Str) = some (.type "range") := by kernel_rfl
theorem b_bytes : btabV.lookup ("bytes" : Str) = some (.type "bytes") := by kernel_rfl
theorem b_tuple : btabV.lookup ("tuple" : Str) = some (.type "tuple") := by kernel_rfl
theorem b_divmod : btabV.lookup ("divmod" : Str) = some (.builtin "divmod") := by kernel_rfl
theorem b_int : btabV.lookup ("int" : Str) = some (.type "int") := by kernel_rfl
theorem b_abs : btabV.lookup ("abs" : Str) = some (.builtin "abs") := by kernel_rfl
theorem b_min : btabV.lookup ("min" : Str) = some (.builtin "min") := by kernel_rfl
theorem b_str : btabV.lookup ("str" : Str) = some (.type "str") := by kernel_rfl
section
variable {w : World} {H0 : Heap} {k : Nat} {env : Env} {μ : Vars} {σ σ' : Store} {W : Nat → Prop}
theorem PV.eq {t : Sem Value} {v v' : AV} (x : PV w H0 k t env μ σ v) (e : v = v') : PV w H0 k t env μ σ v' := e ▸ x
theorem PB.eq {t : Sem Bool} {v v' : Bool} (x : PB w H0 k t env μ σ v) (e : v = v') : PB w H0 k t env μ σ v' := e ▸ x
theorem PB.and_ {x : Expr} {rest : List Expr} {pos : Pos} {whole : Sem Value} {c d : Bool} (y : PB w H0 k (isTrue x env (eval x env)) env μ σ c) (z : c = true → PB w H0 k (isTrue (.BoolOp .And rest pos) env whole) env μ σ d) :
    PB w H0 k (isTrue (.BoolOp .And (x :: rest) pos) env whole) env μ σ (c && d) := by
  cases c with
  | true => exact PB.and_true (p' := pos) (whole' := whole) y (z rfl)
  | false => exact PB.and_false y
theorem PB.or_ {x : Expr} {rest : List Expr} {pos : Pos} {whole : Sem Value} {c d : Bool} (y : PB w H0 k (isTrue x env (eval x env)) env μ σ c) (z : c = false → PB w H0 k (isTrue (.BoolOp .Or rest pos) env whole) env μ σ d) :
    PB w H0 k (isTrue (.BoolOp .Or (x :: rest) pos) env whole) env μ σ (c || d) := by
  cases c with
  | true => exact PB.or_true y
  | false => exact PB.or_false y (z rfl)
theorem PV.call0 (T : Tp w H0) {x : Str} {p pos : Pos} {args : List Expr} {f : Value} {l : List AV} {v : AV} (hf : PV w H0 k (eval (.Name x p) env) env μ σ (.val f)) (kf : KeepOk w f)
    (a : PVs w H0 k (spliced (backTo pos (starEach args env))) env μ σ l) (fn : FnP w H0 k f l [] σ v) (hs : (backTo pos (starEach args env)).any (·.1) = false) :
    PV w H0 k (eval (.Call (.Name x p) args [] pos) env) env μ σ v := PV.call T hf kf a PKs.nil (names := []) (ks := []) fn rfl hs rfl rfl
theorem XV.call0 (T : Tp w H0) {x : Str} {p pos : Pos} {args : List Expr} {f : Value} {l : List AV} {v : AV} (hf : PV w H0 k (eval (.Name x p) env) env μ σ (.val f)) (kf : KeepOk w f)
    (a : PVs w H0 k (spliced (backTo pos (starEach args env))) env μ σ l) (fn : FnE w H0 k W f l [] σ v σ') (hs : (backTo pos (starEach args env)).any (·.1) = false) :
    XV w H0 k W (eval (.Call (.Name x p) args [] pos) env) env μ σ v σ' := XV.call T hf kf a PKs.nil (names := []) (ks := []) fn rfl hs rfl rfl
theorem PV.meth0 (T : Tp w H0) {o : Expr} {name : Str} {apos pos : Pos} {args : List Expr} {f : Value} {a : AV} {l : List AV} {v : AV} (ho : PV w H0 k (eval o env) env μ σ a) (m : MethOk w H0 k σ a name f) (kf : KeepOk w f)
    (x : PVs w H0 k (spliced (backTo pos (starEach args env))) env μ σ l) (fn : FnP w H0 k f (a :: l) [] σ v) (hs : (backTo pos (starEach args env)).any (·.1) = false)
    (hbase : attributeBase o name env (eval o env) = eval o env) (hform : methodCallForm (args.length + 0) (backTo pos (starEach args env)) (backToKw pos (keywordEach [] env)) = true) (hline : (apos.endLine == pos.line) = true) :
    PV w H0 k (eval (.Call (.Attribute o name apos) args [] pos) env) env μ σ v := PV.meth T ho m kf x PKs.nil (names := []) (ks := []) fn rfl hs rfl rfl hbase hform hline
theorem PV.meth1 (T : Tp w H0) {o : Expr} {name kn : Str} {apos pos kp : Pos} {args : List Expr} {ke : Expr} {f : Value} {a kv : AV} {l : List AV} {v : AV} (ho : PV w H0 k (eval o env) env μ σ a) (m : MethOk w H0 k σ a name f) (kf : KeepOk w f)
    (x : PVs w H0 k (spliced (backTo pos (starEach args env))) env μ σ l) (y : PV w H0 k (eval ke env) env μ σ kv) (fn : FnP w H0 k f (a :: l) [(kn, kv)] σ v) (hs : (backTo pos (starEach args env)).any (·.1) = false)
    (hbase : attributeBase o name env (eval o env) = eval o env) (hform : methodCallForm (args.length + 1) (backTo pos (starEach args env)) (backToKw pos (keywordEach [⟨some kn, ke, kp⟩] env)) = true) (hline : (apos.endLine == pos.line) = true) :
    PV w H0 k (eval (.Call (.Attribute o name apos) args [⟨some kn, ke, kp⟩] pos) env) env μ σ v := PV.meth T ho m kf x (PKs.cons y PKs.nil) (names := [kn]) (ks := [kv]) fn rfl hs rfl rfl hbase hform hline
theorem XV.meth0 (T : Tp w H0) {o : Expr} {name : Str} {apos pos : Pos} {args : List Expr} {f : Value} {a : AV} {l : List AV} {v : AV} (ho : PV w H0 k (eval o env) env μ σ a) (m : MethOk w H0 k σ a name f) (kf : KeepOk w f)
    (x : PVs w H0 k (spliced (backTo pos (starEach args env))) env μ σ l) (fn : FnE w H0 k W f (a :: l) [] σ v σ') (hs : (backTo pos (starEach args env)).any (·.1) = false)
    (hbase : attributeBase o name env (eval o env) = eval o env) (hform : methodCallForm (args.length + 0) (backTo pos (starEach args env)) (backToKw pos (keywordEach [] env)) = true) (hline : (apos.endLine == pos.line) = true) :
    XV w H0 k W (eval (.Call (.Attribute o name apos) args [] pos) env) env μ σ v σ' := XV.meth T ho m kf x PKs.nil (names := []) (ks := []) fn rfl hs rfl rfl hbase hform hline
theorem FnE.of0 {w : World} {H0 : Heap} (T : Tp w H0) {k : Nat} {W : Nat → Prop} {f : Addr} {st : Stmt} {q : Str} {dV pm cd : Value} {xs : List Str} {args : List AV} {σ σ' : Store} {v : AV}
    (ho : (K0 w.params).lookup f = some (fobj (fdAt st q dV pm cd))) (hc : codeIn (K0 w.params) cd q = true) (chk : fnChk (fdAt st q dV pm cd) xs = true) (hnum : xs.length = args.length)
    (hbind : Binds (fdAt st q dV pm cd) args.length [] xs)
    (x : ∀ L, XT w H0 k W (callEnv (fdAt st q dV pm cd) L f) (execs (bodyOf st) (callEnv (fdAt st q dV pm cd) L f)) (xs.zip args) σ (Ends v σ')) : FnE w H0 (k + 1) W (.ref f) args [] σ v σ' :=
  FnE.of T (names := []) (ks := []) ho hc chk rfl hnum hbind (by simpa using x)
theorem KeepOk.def {a : Addr} (e : keepIn (K0 w.params) (.ref a) = true) : KeepOk w (.ref a) := KeepOk.fn e
end
/-- for all lists of so many values -/
noncomputable def AllN (P : List Value → Prop) : Nat → List Value → Prop
  | 0, acc => P acc.reverse
  | n + 1, acc => ∀ a, AllN P n (a :: acc)
theorem AllN.of {P : List Value → Prop} {n : Nat} : ∀ {acc : List Value}, AllN P n acc → ∀ l, l.length = n → P (acc.reverse ++ l) := by
  induction n with
  | zero => intro acc h l hl; rw [List.length_eq_zero_iff.mp hl, List.append_nil]; exact h
  | succ n ih =>
    intro acc h l hl
    cases l with
    | nil => cases hl
    | cons a l =>
      have := ih (h a) l (Nat.succ.inj hl)
      rwa [List.reverse_cons, List.append_assoc] at this
theorem Binds.ofN {fd : FuncData} {xs : List Str} {n : Nat} (h : AllN (fun l => bindArgs fd ⟨l, []⟩ = pure (xs.zip l)) n []) : Binds fd n [] xs := fun s vs ks hv hk => by
  rw [List.length_eq_zero_iff.mp hk, List.append_nil]
  exact BindsTo.of_eq (AllN.of h vs hv)
theorem Binds.of1 {fd : FuncData} {xs : List Str} (h : ∀ a, bindArgs fd ⟨[a], []⟩ = pure (xs.zip [a])) : Binds fd 1 [] xs := Binds.ofN h
theorem Binds.of2 {fd : FuncData} {xs : List Str} (h : ∀ a b, bindArgs fd ⟨[a, b], []⟩ = pure (xs.zip [a, b])) : Binds fd 2 [] xs := Binds.ofN h
theorem Binds.of3 {fd : FuncData} {xs : List Str} (h : ∀ a b c, bindArgs fd ⟨[a, b, c], []⟩ = pure (xs.zip [a, b, c])) : Binds fd 3 [] xs := Binds.ofN h
theorem Binds.of4 {fd : FuncData} {xs : List Str} (h : ∀ a b c d, bindArgs fd ⟨[a, b, c, d], []⟩ = pure (xs.zip [a, b, c, d])) : Binds fd 4 [] xs := Binds.ofN h
theorem Binds.of5 {fd : FuncData} {xs : List Str} (h : ∀ a b c d e, bindArgs fd ⟨[a, b, c, d, e], []⟩ = pure (xs.zip [a, b, c, d, e])) : Binds fd 5 [] xs := Binds.ofN h
/-- a name: of a house, of a road -/
noncomputable def nm (i j g : Nat) : List Nat := if j = 3 then [97 + i - 32 * g] else [97 + i - 32 * g, 46, 97 + j - 32 * g]
theorem nm_up : ∀ i < 3, ∀ j < 4, Txt.upper ⟨(nm i j 0).toArray⟩ = ⟨(nm i j 1).toArray⟩ := by decide +kernel
theorem nm_len (i j g : Nat) : (nm i j g).length ≤ 100 := by unfold nm; split <;> simp
end
section
open PySem PySem.W PyProof.Rows
set_option maxRecDepth 100000
theorem slot_re_search : Slot "re.Pattern" "search" "re.Pattern.search" :=
  .of (owner := "re.Pattern") (n := "search") (by rw [typeLookup_type, builtinLookup_eq_fast]; kernel_rfl) (by decide +kernel) (by decide +kernel) (by decide +kernel)
    (by first | exact .inl (by decide +kernel) | exact .inr (by decide +kernel)) (by rw [isSubtype_type]; kernel_rfl)
theorem type_re_search : typeOf (.builtin "re.Pattern.search") = pure (.type "method_descriptor") := by show builtinType _ = _; rw [builtinType_eq_fast]; kernel_rfl
theorem entry_re_search : entryFor table "re.Pattern.search" = some Builtin.«re.Pattern.search» := entryFor_of_tree (by kernel_rfl)
theorem args_re_search (a b : Value) : argsOk "re.Pattern.search" ⟨[a, b], []⟩ := by
  unfold argsOk; kernel_rfl
theorem plainAttrs_re : PlainAttrs "re.Pattern" :=
  ⟨⟨"object.__getattribute__", by rw [typeLookup_type, builtinLookup_eq_fast]; kernel_rfl, by decide +kernel⟩, by rw [typeLookup_type, builtinLookup_eq_fast]; kernel_rfl⟩
section
variable {w : World} {A : Around} {E : Value → Shared → Prop} {s : Shared}
theorem rules_pass {l : List Nat} {seen : Sre.Seen} {f : Nat → Unit → Sem (ForInStep Unit)} (hf : ∀ i u, f i u = if seen.has i = true then (rule (Sre.names.getD i "") >>= fun _ => pure (ForInStep.yield ())) else pure (ForInStep.yield ())) {Q : Unit → Shared → Prop} {s : Shared} (h : Q () s) :
    wpAny (model pw w) A (forIn l () f) Q E s := by
  induction l with
  | nil => rw [List.forIn_nil]; exact wpAny_pure h
  | cons a l ih =>
    rw [List.forIn_cons, hf]
    refine wpAny_bind ?_
    by_cases z : seen.has a = true
    · rw [if_pos z]; exact wpAny_bind (wpAny_rule (wpAny_pure ih))
    · rw [if_neg z]; exact wpAny_pure ih
theorem run_failed {m : Sre.M} (ha : m.answer = some false) (hf : m.frames = []) (ho : m.outcome = none) {Q : Option Sre.M → Shared → Prop} (h : Q none s) : wpAny (model pw w) A (Builtin.Re.reRunToEnd m) Q E s := by
  have e : m.runFor Builtin.Re.reTurnSteps = { m with outcome := some .failed } := by
    have e1 : m.step = { m with outcome := some .failed } := by
      unfold Sre.M.step
      rw [ho, ha, hf]; rfl
    show Sre.M.runFor 4 m = _
    unfold Sre.M.runFor
    rw [ho]
    simp only [Option.isSome_none, Bool.false_eq_true, if_false]
    rw [e1]
    unfold Sre.M.runFor
    simp
  unfold Builtin.Re.reRunToEnd
  have e2 : Builtin.Re.reDrive (2 ^ 64) m = pure { m with outcome := some .failed } := by
    show Builtin.Re.reDrive ((2 ^ 64 - 1) + 1) m = _
    unfold Builtin.Re.reDrive
    rw [e]; rfl
  rw [e2]
  refine wpAny_bind (wpAny_pure ?_)
  refine wpAny_bind (rules_pass (fun i u => rfl) ?_)
  exact wpAny_pure h
noncomputable def nameCode : Array Nat := #[14, 10, 4, 1, 1, 22, 0, 31, 16, 127, 0, 13, 7, 22, 0, 31, 16, 127, 0, 1]
noncomputable def valueCode : Array Nat := #[14, 14, 4, 1, 1, 9, 4294966783, 0, 0, 2147483648, 0, 0, 0, 0, 0, 13, 11, 9, 4294966783, 0, 0, 2147483648, 0, 0, 0, 0, 0, 1]
noncomputable def Dull (code : Array Nat) : Prop := ∀ c, 32 ≤ c → c < 127 → ∀ seen, ∃ seen', Sre.inSet code c code.size 5 true seen = .ok (false, seen')
theorem dull_of {code : Array Nat} {f : Sre.Seen → Sre.Seen} (h : ∀ seen, (List.range 95).map (fun i => Sre.inSet code (32 + i) code.size 5 true seen) = (List.range 95).map fun _ => .ok (false, f seen)) : Dull code := fun c h1 h2 seen => by
  obtain ⟨i, rfl⟩ := Nat.exists_eq_add_of_le h1
  exact ⟨f seen, List.map_inj_left.mp (h seen) i (List.mem_range.mpr (Nat.lt_of_add_lt_add_left h2))⟩
theorem name_dull : Dull nameCode := dull_of (f := fun seen => ((seen.add 22).add 16).add 0) fun seen => by kernel_rfl
theorem value_dull : Dull valueCode := dull_of (f := fun seen => (seen.add 9).add 0) fun seen => by kernel_rfl
noncomputable def Plain (x : List Nat) : Prop := ∀ c ∈ x, 32 ≤ c ∧ c < 127
theorem admitted_none {code : Array Nat} (hd : Dull code) {x : List Nat} (hx : Plain x) {m : Sre.M} (hc : m.code = code) (ht : m.text = x.toArray) (hl : m.lim ≤ x.length) : ∀ (fuel s : Nat) (seen : Sre.Seen), ∃ seen', Sre.M.admitted m fuel s seen = .ok (none, seen')
  | 0, s, seen => ⟨seen, rfl⟩
  | fuel + 1, s, seen => by
    unfold Sre.M.admitted
    by_cases h : s ≥ m.lim
    · rw [if_pos h]; exact ⟨seen, rfl⟩
    · rw [if_neg h]
      have hs : s < x.length := by omega
      have e : m.text.getD s 0 = x[s] := by rw [ht]; simp [hs]
      obtain ⟨h1, h2⟩ := hx x[s] (List.getElem_mem hs)
      rw [hc, e]
      obtain ⟨seen', q⟩ := hd x[s] h1 h2 seen
      rw [q]
      exact admitted_none hd hx hc ht hl fuel (s + 1) seen'
end
end
section
open PySem PySem.W PyProof.Rows
set_option maxRecDepth 100000
section
variable {w : World} {A : Around} {E : Value → Shared → Prop} {s : Shared}
theorem named_search (v : Value) : Builtin.Re.reNamed "re.Pattern.search" "search" ["string", "pos", "endpos"] 1 [v] [] = pure [some v, none, none] := by kernel_rfl
noncomputable def asInts (code : Array Nat) : Array Value := code.map fun (n : Nat) => Value.int (Int.ofNat n) 0
theorem raw_asInts (code : Array Nat) : ((asInts code).map Builtin.Re.reRawOf).map (·.toNat) = code := by
  unfold asInts
  rw [Array.map_map, Array.map_map]
  apply Array.ext
  · simp
  · intro i h1 h2
    simp [Builtin.Re.reRawOf]
theorem attempt_none {code : Array Nat} (hd : Dull code) {x : List Nat} (hx : Plain x) (hfs : code.getD 0 0 = 14 ∧ code.getD 2 0 = 4) {m : Sre.M} (hc : m.code = code) (ht : m.text = x.toArray) (hl : m.lim = x.length) (hf : m.frames = []) (ho : m.outcome = none) :
    (m.attemptFrom 0 true).answer = some false ∧ (m.attemptFrom 0 true).frames = [] ∧ (m.attemptFrom 0 true).outcome = none := by
  have e : m.hasFirstSet = true := by
    unfold Sre.M.hasFirstSet
    rw [hc, hfs.1, hfs.2]; rfl
  unfold Sre.M.attemptFrom
  rw [e]
  obtain ⟨seen', q⟩ := admitted_none hd hx hc ht (Nat.le_of_eq hl) (m.lim + 1 - 0) 0 m.seen
  rw [q]
  exact ⟨rfl, hf, ho⟩
theorem search_none {p ct : Addr} {a b d e : Value} {t1 t2 t : Tok} {code : Array Nat} {x : List Nat} {n : Nat} (ho : s.heap.get? p = some ⟨.type "re.Pattern", none, .fields #[a, b, .int 0 t1, d, e, .ref ct, .int 0 t2], #[]⟩) (hc : s.heap.get? ct = some ⟨.type "tuple", none, .seq (asInts code) n, #[]⟩)
    (hd : Dull code) (hx : Plain x) (hl : x.length ≤ 1000000) (hfs : code.getD 0 0 = 14 ∧ code.getD 2 0 = 4) {Q : Value → Shared → Prop} (h : Q .none s) : wpAny (model pw w) A (call (.builtin "re.Pattern.search") [.ref p, .str ⟨x.toArray⟩ t]) Q E s := by
  refine wpAny_call_entry slot_re_search ⟨_, ho, rfl⟩ entry_re_search ?_ (args_re_search _ _)
  unfold Builtin.«re.Pattern.search»
  refine wpAny_bind ?_
  unfold Builtin.Re.reTarget
  show wpAny _ _ (Builtin.Re.reNamed "re.Pattern.search" "search" ["string", "pos", "endpos"] 1 [.str ⟨x.toArray⟩ t] [] >>= _) _ _ s
  rw [named_search]
  refine wpAny_bind (wpAny_pure ?_)
  refine wpAny_bind (wpAny_pure ?_)
  refine wpAny_bind (wpAny_pure ?_)
  refine wpAny_bind (m := fieldsOf (.ref p)) (wpAny_bind (wpAny_load ho (wpAny_pure ?_)))
  refine wpAny_bind (m := Builtin.Re.reTextOf (.str ⟨x.toArray⟩ t)) (wpAny_bind (wpAny_pure (wpAny_pure ?_)))
  refine wpAny_bind (m := Builtin.Re.reNoCollectionInside (.str ⟨x.toArray⟩ t) 0) (wpAny_pure ?_)
  refine wpAny_bind (m := Builtin.Re.reRawItems (.ref ct)) ?_
  unfold Builtin.Re.reRawItems
  refine wpAny_bind (wpAny_seqItems hc rfl (wpAny_pure (wpAny_pure ?_)))
  dsimp only [Option.getD_some]
  rw [raw_asInts]
  have hp : min (0 : Int).toNat x.toArray.size = 0 := by simp
  have hlim : min ((2 : Int) ^ 63 - 1).toNat x.toArray.size = x.length := by
    rw [List.size_toArray]; exact Nat.min_eq_right (Nat.le_trans hl (by decide))
  rw [hp, hlim]
  show wpAny _ _ (Builtin.Re.reRunToEnd (Sre.forSearch code x.toArray _ 0 x.length false) >>= _) _ _ _
  have key : ∀ g, (Sre.forSearch code x.toArray g 0 x.length false).answer = some false ∧ (Sre.forSearch code x.toArray g 0 x.length false).frames = [] ∧ (Sre.forSearch code x.toArray g 0 x.length false).outcome = none := by
    intro g
    unfold Sre.forSearch
    dsimp only
    split
    · exact ⟨rfl, rfl, rfl⟩
    · exact attempt_none hd hx hfs rfl rfl rfl rfl rfl
  obtain ⟨k1, k2, k3⟩ := key _
  exact wpAny_bind (run_failed k1 k2 k3 (wpAny_pure ⟨_, rfl, h⟩))
end
end
section
open PySem
set_option maxRecDepth 100000
set_option maxHeartbeats 1000000
open PySem.Sre
noncomputable def fcode : Array Nat := #[14, 4, 0, 8, 4294967295, 24, 5, 0, 4294967295, 2, 1, 16, 70, 16, 76, 16, 65, 16, 71, 16, 83, 16, 32, 16, 40, 17, 0, 24, 6, 0, 4294967295, 20, 41, 1, 17, 1, 16, 41, 1]
noncomputable def it : Nat → M → M
  | 0, m => m
  | n + 1, m => it n m.step
theorem it_add : ∀ (a b : Nat) (m : M), it (a + b) m = it b (it a m)
  | 0, b, m => by rw [Nat.zero_add]; rfl
  | a + 1, b, m => by rw [Nat.succ_add]; exact it_add a b m.step
theorem step_done {m : M} (h : m.outcome.isSome = true) : m.step = m := by unfold M.step; rw [if_pos h]
theorem it_done {m : M} (h : m.outcome.isSome = true) : ∀ n, it n m = m
  | 0 => rfl
  | n + 1 => by rw [it, step_done h]; exact it_done h n
theorem runFor_it : ∀ (n : Nat) (m : M), m.runFor n = it n m
  | 0, m => rfl
  | n + 1, m => by
    rw [M.runFor]
    by_cases h : m.outcome.isSome = true
    · rw [if_pos h, it_done h]
    · rw [if_neg h]; exact runFor_it n m.step
noncomputable def gbA (p : Nat) : Sre.Frame := { wait := .giveBack, pc := 5, pos := p, outermost := true, count := p, kept := { lastmark := -1, lastindex := -1, whole := false, marks := #[] } }
noncomputable def stA (text : Array Nat) (lim p : Nat) (pc pos : Nat) (ans : Option Bool) (seen : Seen) : M :=
  { code := fcode, text, lim, start := 0, pc, pos, handed := p, marks := #[none, none], frames := [gbA p], weight := 1, seen, answer := ans }
theorem step_back {text : Array Nat} {lim p pc pos : Nat} {seen : Seen} : (stA text lim (p + 1) pc pos (some false) seen).step = stA text lim p 11 p none seen := by
  unfold M.step stA
  simp only [Option.isSome_none, Bool.false_eq_true, if_false]
  unfold M.resume gbA
  simp only [Bool.false_eq_true, if_false]
  rw [if_neg (by show ¬ (((p + 1 : Nat) : Int) - 1 < ((0 : Nat) : Int)); omega)]
  unfold M.afterRun M.attempt M.frame M.putBack
  simp [M.word, fcode]
/-- one letter to be read -/
theorem stA_step0 {text : Array Nat} {lim p : Nat} {seen : Seen} (k : Nat) (hk : k < 7) : (stA text lim p (11 + 2 * k) (p + k) none seen).step =
    if p + k ≥ lim then stA text lim p (11 + 2 * k) (p + k) (some false) (seen.add 16) else
      match text.getD (p + k) 0 == fcode.getD (11 + 2 * k + 1) 0 with
      | false => stA text lim p (11 + 2 * k) (p + k) (some false) (seen.add 16)
      | true => stA text lim p (11 + 2 * (k + 1)) (p + (k + 1)) none (seen.add 16) := by
  have all : (List.range 7).map (fun k => (stA text lim p (11 + 2 * k) (p + k) none seen).step) = (List.range 7).map fun k => if p + k ≥ lim then stA text lim p (11 + 2 * k) (p + k) (some false) (seen.add 16) else
      match text.getD (p + k) 0 == fcode.getD (11 + 2 * k + 1) 0 with
      | false => stA text lim p (11 + 2 * k) (p + k) (some false) (seen.add 16)
      | true => stA text lim p (11 + 2 * (k + 1)) (p + (k + 1)) none (seen.add 16) := by kernel_rfl
  exact List.map_inj_left.mp all k (List.mem_range.mpr hk)
theorem stA_step {text : Array Nat} {lim p : Nat} {seen : Seen} (k : Nat) (hk : k < 7) : (stA text lim p (11 + 2 * k) (p + k) none seen).step =
    if p + k ≥ lim then stA text lim p (11 + 2 * k) (p + k) (some false) (seen.add 16) else
      if text.getD (p + k) 0 == fcode.getD (11 + 2 * k + 1) 0 then stA text lim p (11 + 2 * (k + 1)) (p + (k + 1)) none (seen.add 16) else stA text lim p (11 + 2 * k) (p + k) (some false) (seen.add 16) := by
  rw [stA_step0 k hk]
  cases text.getD (p + k) 0 == fcode.getD (11 + 2 * k + 1) 0 <;> rfl
theorem lit_fail {text : Array Nat} {lim p : Nat} (hp : p + 6 < lim → text.getD (p + 6) 0 ≠ 40) : ∀ (j k : Nat), k + j = 6 → ∀ seen, ∃ n pc pos seen', n ≤ j + 1 ∧ it n (stA text lim p (11 + 2 * k) (p + k) none seen) = stA text lim p pc pos (some false) seen' := by
  intro j
  induction j with
  | zero =>
    intro k hk seen
    have hk : k = 6 := by omega
    subst hk
    have s := stA_step (text := text) (lim := lim) (p := p) (seen := seen) 6 (by decide)
    refine ⟨1, 11 + 2 * 6, p + 6, seen.add 16, Nat.le_refl _, ?_⟩
    refine Eq.trans s ?_
    by_cases h : p + 6 ≥ lim
    · rw [if_pos h]
    · rw [if_neg h]
      have := hp (by omega)
      rw [if_neg (by show ¬ (text.getD (p + 6) 0 == 40) = true; simpa using this)]
  | succ j ih =>
    intro k hk seen
    have s := stA_step (text := text) (lim := lim) (p := p) (seen := seen) k (by omega)
    by_cases h : p + k ≥ lim
    · rw [if_pos h] at s
      exact ⟨1, _, _, _, by omega, s⟩
    · rw [if_neg h] at s
      by_cases hc : (text.getD (p + k) 0 == fcode.getD (11 + 2 * k + 1) 0) = true
      · rw [if_pos hc] at s
        obtain ⟨n, pc, pos, seen', hn, e⟩ := ih (k + 1) (by omega) (seen.add 16)
        refine ⟨n + 1, pc, pos, seen', by omega, ?_⟩
        exact (congrArg (it n) s).trans e
      · rw [if_neg hc] at s
        exact ⟨1, _, _, _, by omega, s⟩
theorem back_one {text : Array Nat} {lim p : Nat} (hp : p + 1 + 6 < lim → text.getD (p + 1 + 6) 0 ≠ 40) (seen : Seen) : ∃ n seen', n ≤ 8 ∧ it n (stA text lim (p + 1) 11 (p + 1) none seen) = stA text lim p 11 p none seen' := by
  obtain ⟨n, pc, pos, seen', hn, e⟩ := lit_fail (text := text) (lim := lim) (p := p + 1) hp 6 0 rfl seen
  refine ⟨n + 1, seen', by omega, ?_⟩
  rw [it_add]
  have e : it n (stA text lim (p + 1) 11 (p + 1) none seen) = stA text lim (p + 1) pc pos (some false) seen' := e
  rw [e]
  exact step_back
theorem back_many {text : Array Nat} {lim P : Nat} (hP : ∀ x, P + 7 ≤ x → x < lim → text.getD x 0 ≠ 40) : ∀ (d : Nat) (seen : Seen), ∃ n seen', n ≤ 8 * d ∧ it n (stA text lim (P + d) 11 (P + d) none seen) = stA text lim P 11 P none seen'
  | 0, seen => ⟨0, seen, Nat.le_refl _, rfl⟩
  | d + 1, seen => by
    obtain ⟨n, seen1, hn, e⟩ := back_one (text := text) (lim := lim) (p := P + d) (fun h => hP _ (by omega) h) seen
    obtain ⟨n2, seen2, hn2, e2⟩ := back_many hP d seen1
    refine ⟨n + n2, seen2, by omega, ?_⟩
    rw [it_add]
    have e : it n (stA text lim (P + (d + 1)) 11 (P + (d + 1)) none seen) = stA text lim (P + d) 11 (P + d) none seen1 := e
    rw [e, e2]
noncomputable def afr (m : M) (n : Nat) : M := m.afterRun .giveBack n (m.keep m.inner.isSome)
theorem run_gen {text : Array Nat} {pc c : Nat} (ac : ∀ p seen, accepts fcode pc (text.getD p 0) seen = .ok (text.getD p 0 != c, seen)) : ∀ (d n p found : Nat) (seen : Seen), d < n → (∀ x, x < d → text.getD (p + x) 0 ≠ c) → text.getD (p + d) 0 = c → Sre.run fcode text pc n p found seen = .ok (found + d, seen) := by
  intro d
  induction d with
  | zero =>
    intro n p found seen hn _ b
    cases n with
    | zero => exact absurd hn (Nat.lt_irrefl _)
    | succ n =>
      rw [Sre.run, ac, show text.getD p 0 = c from b]
      show (if (c != c) = true then _ else _) = _
      rw [bne_self_eq_false, if_neg Bool.false_ne_true]; rfl
  | succ d ih =>
    intro n p found seen hn a b
    cases n with
    | zero => exact absurd hn (Nat.not_lt_zero _)
    | succ n =>
      rw [Sre.run, ac]
      show (if (text.getD p 0 != c) = true then _ else _) = _
      rw [if_pos (bne_iff_ne.mpr (show text.getD p 0 ≠ c from a 0 (Nat.succ_pos d))), ih n (p + 1) (found + 1) seen (Nat.lt_of_succ_lt_succ hn) (fun x hx => by rw [Nat.add_assoc, Nat.add_comm 1]; exact a (x + 1) (Nat.succ_lt_succ hx)) (by rw [Nat.add_assoc, Nat.add_comm 1]; exact b), Nat.add_assoc, Nat.add_comm 1]
theorem run_to {text : Array Nat} {pc c q p n : Nat} {seen : Seen} (ac : ∀ p seen, accepts fcode pc (text.getD p 0) seen = .ok (text.getD p 0 != c, seen)) (h : p ≤ q) (h2 : q < p + n) (a : ∀ x, p ≤ x → x < q → text.getD x 0 ≠ c) (b : text.getD q 0 = c) : Sre.run fcode text pc n p 0 seen = .ok (q - p, seen) := by
  obtain ⟨d, rfl⟩ := Nat.exists_eq_add_of_le h
  have := run_gen ac d n p 0 seen (Nat.lt_of_add_lt_add_left h2) (fun x hx => a _ (Nat.le_add_right ..) (Nat.add_lt_add_left hx p)) b
  rwa [Nat.add_sub_cancel_left, ← Nat.zero_add d]
theorem min_lim {l p : Nat} (h : l ≤ 100000) : min 4294967295 ((l : Int) - (p : Int)).toNat = l - p := by
  rw [Int.toNat_sub, Nat.min_eq_right (Nat.le_trans (Nat.sub_le ..) (Nat.le_trans h (by decide)))]
theorem lim_room {l p : Nat} (h : p ≤ l) : ¬ ((0 : Nat) : Int) > (l : Int) - (p : Int) := Int.not_lt.mpr (Int.sub_nonneg_of_le (Int.ofNat_le.mpr h))
theorem lit_ok {text : Array Nat} {lim p : Nat} (hl : p + 7 ≤ lim) (hp : ∀ k, k < 7 → text.getD (p + k) 0 = fcode.getD (11 + 2 * k + 1) 0) : ∀ (k : Nat), k ≤ 7 → ∀ seen, ∃ seen', it k (stA text lim p 11 p none seen) = stA text lim p (11 + 2 * k) (p + k) none seen'
  | 0, _, seen => ⟨seen, rfl⟩
  | k + 1, hk, seen => by
    obtain ⟨seen1, e⟩ := lit_ok hl hp k (by omega) seen
    have s := stA_step (text := text) (lim := lim) (p := p) (seen := seen1) k (by omega)
    rw [if_neg (by omega), if_pos (by rw [hp k (by omega)]; exact beq_self_eq_true _)] at s
    refine ⟨seen1.add 16, ?_⟩
    rw [it_add k 1, e]; exact s
theorem first_step {text : Array Nat} {lim N : Nat} {seen : Seen} (hN : N < lim) (hl : lim ≤ 100000) (a : ∀ x, x < N → text.getD x 0 ≠ 10) (b : text.getD N 0 = 10) :
    ({ code := fcode, text, lim, start := 0, pc := 5, pos := 0, handed := 0, marks := #[none, none], seen } : M).step = stA text lim N 11 N none ((seen.add 24).add 2) := by
  have r := run_to (text := text) (pc := 9) (c := 10) (p := 0) (q := N) (n := lim - 0) (seen := (seen.add 24).add 2) (fun _ _ => rfl) (Nat.zero_le _) (by rw [Nat.zero_add]; exact hN) (fun x _ h => a x h) b
  have s : ({ code := fcode, text, lim, start := 0, pc := 5, pos := 0, handed := 0, marks := #[none, none], seen } : M).step = if ((0 : Nat) : Int) > (lim : Int) - ((0 : Nat) : Int) then { code := fcode, text, lim, start := 0, pc := 5, pos := 0, handed := 0, marks := #[none, none], seen := seen.add 24, answer := some false } else
      match Sre.run fcode text 9 (min 4294967295 ((lim : Int) - ((0 : Nat) : Int)).toNat) 0 0 ((seen.add 24).add 2) with
      | .error why => M.stick { code := fcode, text, lim, start := 0, pc := 5, pos := 0, handed := 0, marks := #[none, none], seen := seen.add 24 } why
      | .ok (n, sn) => if n < 0 then { code := fcode, text, lim, start := 0, pc := 5, pos := 0, handed := 0, marks := #[none, none], seen := sn, answer := some false } else
          afr { code := fcode, text, lim, start := 0, pc := 5, pos := 0 + n, handed := 0, marks := #[none, none], seen := sn } n := by kernel_rfl
  rw [s, if_neg (lim_room (Nat.zero_le lim)), min_lim hl, r]
  show afr { code := fcode, text, lim, start := 0, pc := 5, pos := 0 + (N - 0), handed := 0, marks := #[none, none], seen := (seen.add 24).add 2 } (N - 0) = _
  rw [Nat.zero_add]
  rfl
noncomputable def gbB (q n : Nat) : Sre.Frame := { wait := .giveBack, pc := 27, pos := q, outermost := true, count := n, kept := { lastmark := 0, lastindex := -1, whole := false, marks := #[] } }
noncomputable def stB (text : Array Nat) (lim p q P pc pos : Nat) (m2 : Option Nat) (lm li : Int) (seen : Seen) : M :=
  { code := fcode, text, lim, start := 0, pc, pos, handed := q, marks := #[some P, m2], lastmark := lm, lastindex := li, frames := [gbB q (q - P), gbA p], weight := 2, seen }
theorem stB_lit {text : Array Nat} {lim p q P : Nat} {seen : Seen} (hq : q < lim) (b : text.getD q 0 = 41) : (stB text lim p q P 36 q (some q) 1 1 seen).step = stB text lim p q P 38 (q + 1) (some q) 1 1 (seen.add 16) := by
  have s : (stB text lim p q P 36 q (some q) 1 1 seen).step = if q ≥ lim then { stB text lim p q P 36 q (some q) 1 1 (seen.add 16) with answer := some false } else
      match text.getD q 0 == 41 with
      | false => { stB text lim p q P 36 q (some q) 1 1 (seen.add 16) with answer := some false }
      | true => stB text lim p q P 38 (q + 1) (some q) 1 1 (seen.add 16) := by kernel_rfl
  rw [s, if_neg (Nat.not_le.mpr hq), b]
  rfl
theorem stB_mark {text : Array Nat} {lim p q P : Nat} {seen : Seen} : (stB text lim p q P 34 q none 0 (-1) seen).step = stB text lim p q P 36 q (some q) 1 1 (seen.add 17) := by kernel_rfl
theorem stB_end {text : Array Nat} {lim p q P : Nat} {seen : Seen} : (it 4 (stB text lim p q P 38 (q + 1) (some q) 1 1 seen)).outcome = some .matched ∧ (it 4 (stB text lim p q P 38 (q + 1) (some q) 1 1 seen)).start = 0 ∧ (it 4 (stB text lim p q P 38 (q + 1) (some q) 1 1 seen)).handed = q + 1 ∧
    (it 4 (stB text lim p q P 38 (q + 1) (some q) 1 1 seen)).lastmark = 1 ∧ (it 4 (stB text lim p q P 38 (q + 1) (some q) 1 1 seen)).lastindex = 1 ∧ (it 4 (stB text lim p q P 38 (q + 1) (some q) 1 1 seen)).marks = #[some P, some q] := by
  refine ⟨?_, ?_, ?_, ?_, ?_, ?_⟩ <;> kernel_rfl
theorem last_steps {text : Array Nat} {lim p q : Nat} {seen : Seen} (hq : q < lim) (hpq : p + 7 ≤ q) (hl : lim ≤ 100000) (a : ∀ x, p + 7 ≤ x → x < q → text.getD x 0 ≠ 41) (b : text.getD q 0 = 41) :
    ∃ m', it 8 (stA text lim p 25 (p + 7) none seen) = m' ∧ m'.outcome = some .matched ∧ m'.start = 0 ∧ m'.handed = q + 1 ∧ m'.lastmark = 1 ∧ m'.lastindex = 1 ∧ m'.marks = #[some (p + 7), some q] := by
  have s1 : (stA text lim p 25 (p + 7) none seen).step = { stA text lim p 27 (p + 7) none (seen.add 17) with marks := #[some (p + 7), none], lastmark := 0 } := rfl
  have r := run_to (text := text) (pc := 31) (c := 41) (p := p + 7) (q := q) (n := lim - (p + 7)) (seen := ((seen.add 17).add 24).add 20) (fun _ _ => rfl) hpq (by rw [Nat.add_sub_of_le (Nat.le_trans hpq (Nat.le_of_lt hq))]; exact hq) a b
  have s2 : ({ stA text lim p 27 (p + 7) none (seen.add 17) with marks := #[some (p + 7), none], lastmark := 0 } : M).step = stB text lim p q (p + 7) 34 q none 0 (-1) (((seen.add 17).add 24).add 20) := by
    have s : ({ stA text lim p 27 (p + 7) none (seen.add 17) with marks := #[some (p + 7), none], lastmark := 0 } : M).step = if ((0 : Nat) : Int) > (lim : Int) - ((p + 7 : Nat) : Int) then { stA text lim p 27 (p + 7) (some false) ((seen.add 17).add 24) with marks := #[some (p + 7), none], lastmark := 0 } else
        match Sre.run fcode text 31 (min 4294967295 ((lim : Int) - ((p + 7 : Nat) : Int)).toNat) (p + 7) 0 (((seen.add 17).add 24).add 20) with
        | .error why => M.stick { stA text lim p 27 (p + 7) none ((seen.add 17).add 24) with marks := #[some (p + 7), none], lastmark := 0 } why
        | .ok (n, sn) => if n < 0 then { stA text lim p 27 (p + 7) (some false) sn with marks := #[some (p + 7), none], lastmark := 0 } else
            afr { stA text lim p 27 (p + 7 + n) none sn with marks := #[some (p + 7), none], lastmark := 0 } n := by kernel_rfl
    rw [s, if_neg (lim_room (Nat.le_trans hpq (Nat.le_of_lt hq))), min_lim hl, r]
    show afr { stA text lim p 27 (p + 7 + (q - (p + 7))) none (((seen.add 17).add 24).add 20) with marks := #[some (p + 7), none], lastmark := 0 } (q - (p + 7)) = _
    rw [Nat.add_sub_of_le hpq]
    rfl
  have e : it 8 (stA text lim p 25 (p + 7) none seen) = it 4 (stB text lim p q (p + 7) 38 (q + 1) (some q) 1 1 (((((seen.add 17).add 24).add 20).add 17).add 16)) := by
    refine (congrArg (it 7) s1).trans ?_
    refine (congrArg (it 6) s2).trans ?_
    refine (congrArg (it 5) stB_mark).trans ?_
    exact congrArg (it 4) (stB_lit hq b)
  exact ⟨_, e, stB_end⟩
/-- the whole match -/
theorem flags_match {text : Array Nat} {lim N P q : Nat} (hl : lim ≤ 100000) (hN : N < lim) (hPN : P + 7 ≤ N) (hq : q < lim) (hPq : P + 7 ≤ q) (a : ∀ x, x < N → text.getD x 0 ≠ 10) (b : text.getD N 0 = 10)
    (hlit : ∀ k, k < 7 → text.getD (P + k) 0 = fcode.getD (11 + 2 * k + 1) 0) (hno : ∀ x, P + 7 ≤ x → x < lim → text.getD x 0 ≠ 40) (c : ∀ x, P + 7 ≤ x → x < q → text.getD x 0 ≠ 41) (d : text.getD q 0 = 41) :
    ∃ n m', n ≤ 8 * lim + 16 ∧ it n (Sre.forMatch fcode text 1 0 lim false false) = m' ∧ m'.outcome = some .matched ∧ m'.start = 0 ∧ m'.handed = q + 1 ∧ m'.lastmark = 1 ∧ m'.lastindex = 1 ∧ m'.marks = #[some (P + 7), some q] := by
  have e0 : Sre.forMatch fcode text 1 0 lim false false = { code := fcode, text, lim, start := 0, pc := 5, pos := 0, handed := 0, marks := #[none, none], seen := ({} : Seen).add 14 } := by
    show (if (8 != 0 && decide (0 ≤ lim) && decide (lim - 0 < 8)) = true then _ else _) = _
    rw [if_neg (by simp; omega)]; rfl
  have s1 := first_step (seen := ({} : Seen).add 14) hN hl a b
  obtain ⟨n2, seen2, hn2, e2⟩ := back_many (text := text) (lim := lim) (P := P) (fun x h1 h2 => hno x h1 h2) (N - P) (((({} : Seen).add 14).add 24).add 2)
  rw [show P + (N - P) = N by omega] at e2
  obtain ⟨seen3, e3⟩ := lit_ok (text := text) (lim := lim) (p := P) (by omega) hlit 7 (Nat.le_refl _) seen2
  obtain ⟨m', e4, r⟩ := last_steps (text := text) (lim := lim) (p := P) (q := q) (seen := seen3) hq hPq hl c d
  refine ⟨1 + n2 + 7 + 8, m', by omega, ?_, r⟩
  rw [it_add, it_add, it_add, e0]
  refine (congrArg (fun m => it 8 (it 7 (it n2 m))) s1).trans ?_
  show it 8 (it 7 (it n2 (stA text lim N 11 N none _))) = _
  rw [e2, e3]; exact e4
end
section
open PySem PySem.W PyProof.Rows
set_option maxRecDepth 100000
set_option maxHeartbeats 4000000
theorem slot_re_match : Slot "re.Pattern" "match" "re.Pattern.match" :=
  .of (owner := "re.Pattern") (n := "match") (by rw [typeLookup_type, builtinLookup_eq_fast]; kernel_rfl) (by decide +kernel) (by decide +kernel) (by decide +kernel)
    (by first | exact .inl (by decide +kernel) | exact .inr (by decide +kernel)) (by rw [isSubtype_type]; kernel_rfl)
theorem type_re_match : typeOf (.builtin "re.Pattern.match") = pure (.type "method_descriptor") := by show builtinType _ = _; rw [builtinType_eq_fast]; kernel_rfl
theorem entry_re_match : entryFor table "re.Pattern.match" = some Builtin.«re.Pattern.match» := entryFor_of_tree (by kernel_rfl)
theorem args_re_match (a b : Value) : argsOk "re.Pattern.match" ⟨[a, b], []⟩ := by
  unfold argsOk; kernel_rfl
theorem slot_re_group : Slot "re.Match" "group" "re.Match.group" :=
  .of (owner := "re.Match") (n := "group") (by rw [typeLookup_type, builtinLookup_eq_fast]; kernel_rfl) (by decide +kernel) (by decide +kernel) (by decide +kernel)
    (by first | exact .inl (by decide +kernel) | exact .inr (by decide +kernel)) (by rw [isSubtype_type]; kernel_rfl)
theorem type_re_group : typeOf (.builtin "re.Match.group") = pure (.type "method_descriptor") := by show builtinType _ = _; rw [builtinType_eq_fast]; kernel_rfl
theorem entry_re_group : entryFor table "re.Match.group" = some Builtin.«re.Match.group» := entryFor_of_tree (by kernel_rfl)
theorem args_re_group (a b : Value) : argsOk "re.Match.group" ⟨[a, b], []⟩ := by
  unfold argsOk; kernel_rfl
theorem plainAttrs_match : PlainAttrs "re.Match" :=
  ⟨⟨"object.__getattribute__", by rw [typeLookup_type, builtinLookup_eq_fast]; kernel_rfl, by decide +kernel⟩, by rw [typeLookup_type, builtinLookup_eq_fast]; kernel_rfl⟩
theorem match_no_bool : typeLookup (.type "re.Match") "__bool__" = pure none := by rw [typeLookup_type, builtinLookup_eq_fast]; kernel_rfl
theorem match_no_len : typeLookup (.type "re.Match") "__len__" = pure none := by rw [typeLookup_type, builtinLookup_eq_fast]; kernel_rfl
section
variable {w : World} {A : Around} {E : Value → Shared → Prop} {s : Shared}
theorem drive_ok {m' : Sre.M} (ho : m'.outcome.isSome = true) : ∀ (n t : Nat) (m : Sre.M), it n m = m' → n ≤ 4 * (t + 1) → ∀ {Q : Sre.M → Shared → Prop}, Q m' s → wpAny (model pw w) A (Builtin.Re.reDrive (t + 1) m) Q E s := by
  intro n
  induction n using Nat.strongRecOn with
  | ind n ih =>
    intro t m h hn Q hq
    unfold Builtin.Re.reDrive
    have e : m.runFor Builtin.Re.reTurnSteps = it 4 m := runFor_it 4 m
    rw [e]
    by_cases h4 : n ≤ 4
    · have : it 4 m = m' := by rw [show 4 = n + (4 - n) by omega, it_add, h, it_done ho]
      rw [this]
      exact bm_if_true ho (wpAny_pure hq)
    · have e2 : it (n - 4) (it 4 m) = m' := by rw [← it_add, show 4 + (n - 4) = n by omega]; exact h
      by_cases z : (it 4 m).outcome.isSome = true
      · refine bm_if_true z ?_
        rw [it_done z] at e2
        rw [e2]; exact wpAny_pure hq
      · refine bm_if_false (by simpa using z) ?_
        obtain ⟨t', rfl⟩ : ∃ t', t = t' + 1 := ⟨t - 1, by omega⟩
        exact wpAny_bind (wpAny_rule (ih (n - 4) (by omega) t' (it 4 m) e2 (by omega) hq))
theorem run_matched {m m' : Sre.M} {n : Nat} (h : it n m = m') (ho : m'.outcome = some .matched) (hn : n ≤ 10000000) {Q : Option Sre.M → Shared → Prop} (hq : Q (some m') s) : wpAny (model pw w) A (Builtin.Re.reRunToEnd m) Q E s := by
  unfold Builtin.Re.reRunToEnd
  refine wpAny_bind ?_
  show wpAny _ _ (Builtin.Re.reDrive ((2 ^ 64 - 1) + 1) m) _ _ _
  refine drive_ok (by rw [ho]; rfl) n _ m h (by omega) ?_
  refine wpAny_bind (rules_pass (fun i u => rfl) ?_)
  rw [ho]
  exact wpAny_pure hq
theorem named_match (v : Value) : Builtin.Re.reNamed "re.Pattern.match" "match" ["string", "pos", "endpos"] 1 [v] [] = pure [some v, none, none] := by kernel_rfl
theorem raw_fcode : ((asInts fcode).map Builtin.Re.reRawOf).map (·.toNat) = fcode := raw_asInts fcode
theorem inst_bytes (b : Array UInt8) (t : Tok) : isInstance (.bytes b t) (.type "bytes") = pure true := bytes_isInst b t
theorem newMatch_eq {pat str : Value} {lim P q : Nat} {m' : Sre.M} (hPq : P ≤ q) (r2 : m'.start = 0) (r3 : m'.handed = q + 1) (r4 : m'.lastmark = 1) (r5 : m'.lastindex = 1) (r6 : m'.marks = #[some P, some q]) :
    Builtin.Re.reNewMatch pat str 1 0 lim m' = (do newFields "re.Match" [str, pat, rawInt (0 : Nat), rawInt lim, rawInt 1, ← newTuple [rawInt (0 : Nat), rawInt (q + 1 : Nat), rawInt P, rawInt q]]) := by
  unfold Builtin.Re.reNewMatch
  rw [r2, r3, r4, r5, r6]
  have e : ((decide (((2 * 0 + 1 : Nat) : Int) ≤ 1) && decide (q < P)) || false) = false := by
    rw [decide_eq_false (show ¬ q < P by omega)]; rfl
  show (if ((decide (((2 * 0 + 1 : Nat) : Int) ≤ 1) && decide (q < P)) || false) = true then _ else _) = _
  rw [e]
  rfl
/-- Flags.match(octets) -/
theorem match_ok {a b c : Value} {t1 t2 t : Tok} {p gi ct : Addr} {n : Nat} {x : Array UInt8} {N P q : Nat} (ho : s.heap.get? p = some ⟨.type "re.Pattern", none, .fields #[a, b, .int 1 t1, .ref gi, c, .ref ct, .int 1 t2], #[]⟩) (hc : s.heap.get? ct = some ⟨.type "tuple", none, .seq (asInts fcode) n, #[]⟩)
    (hl : x.size ≤ 100000) (hN : N < x.size) (hPN : P + 7 ≤ N) (hq : q < x.size) (hPq : P + 7 ≤ q) (h1 : ∀ y, y < N → (x.map (·.toNat)).getD y 0 ≠ 10) (h2 : (x.map (·.toNat)).getD N 0 = 10)
    (hlit : ∀ k, k < 7 → (x.map (·.toNat)).getD (P + k) 0 = fcode.getD (11 + 2 * k + 1) 0) (hno : ∀ y, P + 7 ≤ y → y < x.size → (x.map (·.toNat)).getD y 0 ≠ 40) (h3 : ∀ y, P + 7 ≤ y → y < q → (x.map (·.toNat)).getD y 0 ≠ 41) (h4 : (x.map (·.toNat)).getD q 0 = 41)
    {Q : Value → Shared → Prop} (h : ∀ h' M T, Kept s.heap h' → s.heap.get? M = none → s.heap.get? T = none → h'.get? T = some { cls := .type "tuple", data := .seq #[rawInt 0, rawInt (q + 1 : Nat), rawInt (P + 7 : Nat), rawInt q] } →
      h'.get? M = some { cls := .type "re.Match", data := .fields #[.bytes x t, .ref p, rawInt (0 : Nat), rawInt x.size, rawInt 1, .ref T] } → Q (.ref M) { s with heap := h' }) :
    wpAny (model pw w) A (call (.builtin "re.Pattern.match") [.ref p, .bytes x t]) Q E s := by
  refine wpAny_call_entry slot_re_match ⟨_, ho, rfl⟩ entry_re_match ?_ (args_re_match _ _)
  unfold Builtin.«re.Pattern.match»
  refine wpAny_bind ?_
  unfold Builtin.Re.reTarget
  show wpAny _ _ (Builtin.Re.reNamed "re.Pattern.match" "match" ["string", "pos", "endpos"] 1 [.bytes x t] [] >>= _) _ _ s
  rw [named_match]
  refine wpAny_bind (wpAny_pure ?_)
  refine wpAny_bind (wpAny_pure ?_)
  refine wpAny_bind (wpAny_pure ?_)
  refine wpAny_bind (m := fieldsOf (.ref p)) (wpAny_bind (wpAny_load ho (wpAny_pure ?_)))
  refine wpAny_bind (m := Builtin.Re.reTextOf (.bytes x t)) ?_
  unfold Builtin.Re.reTextOf
  refine wpAny_bind (m := asStr? (.bytes x t)) (wpAny_pure ?_)
  refine wpAny_bind (wpAny_of_eq KBy.quiet_eq (wpAny_pure ?_))
  refine wpAny_bind (m := Builtin.Re.reNoCollectionInside (.bytes x t) 1) ?_
  unfold Builtin.Re.reNoCollectionInside
  refine bm_if_true rfl ?_
  refine wpAny_bind (wpAny_of_eq (inst_bytes _ _) (wpAny_pure ?_))
  refine wpAny_bind (m := Builtin.Re.reRawItems (.ref ct)) ?_
  unfold Builtin.Re.reRawItems
  refine wpAny_bind (wpAny_seqItems hc rfl (wpAny_pure (wpAny_pure ?_)))
  dsimp only [Option.getD_some]
  rw [raw_fcode]
  have hp : min (0 : Int).toNat (x.map (·.toNat)).size = 0 := by simp
  have hlim : min ((2 : Int) ^ 63 - 1).toNat (x.map (·.toNat)).size = x.size := by
    rw [Array.size_map]; omega
  rw [hp, hlim]
  unfold Builtin.Re.reAnswer
  obtain ⟨k, m', hk, e, r1, r2, r3, r4, r5, r6⟩ := flags_match (text := x.map (·.toNat)) (lim := x.size) hl hN hPN hq hPq h1 h2 hlit hno h3 h4
  refine wpAny_bind (run_matched e r1 (by omega) ?_)
  refine wpAny_bind (m := Builtin.Re.reNewMatch (.ref p) (.bytes x t) 1 0 x.size m') ?_
  rw [newMatch_eq (by omega) r2 r3 r4 r5 r6]
  refine wpAny_bind (wpAny_newTuple ?_ (show 4 ≤ sizeLine by decide))
  have kp := Kept.push s.heap { cls := .type "tuple", data := .seq #[rawInt (0 : Nat), rawInt (q + 1 : Nat), rawInt (P + 7 : Nat), rawInt q] }
  have g1 := Heap.get?_push_size s.heap (o := { cls := .type "tuple", data := .seq #[rawInt (0 : Nat), rawInt (q + 1 : Nat), rawInt (P + 7 : Nat), rawInt q] }) rfl
  unfold newFields
  refine wpAny_newObj_type ?_ (show 6 ≤ sizeLine + 2 by decide)
  have n1 : s.heap.get? (s.heap.push { cls := .type "tuple", data := .seq #[rawInt (0 : Nat), rawInt (q + 1 : Nat), rawInt (P + 7 : Nat), rawInt q] }).objs.size = none := by
    rw [Heap.size_push]
    cases e : s.heap.get? (s.heap.objs.size + 1) with
    | none => rfl
    | some o => exact absurd (Heap.lt_size e) (Nat.not_lt.mpr (Nat.le_succ _))
  exact wpAny_pure ⟨_, rfl, h _ _ _ (kp.trans (Kept.push _ _)) n1 (size_none _) (Heap.get?_push_of_some _ g1) (Heap.get?_push_size _ rfl)⟩
/-- a match is true -/
theorem truthy_match {a : Addr} {o : Obj} (ho : s.heap.get? a = some o) (hc : o.cls = .type "re.Match") {Q : Bool → Shared → Prop} (h : Q true s) : wpAny (model pw w) A (truthy (.ref a)) Q E s := by
  have hT : s.TypeIs (.ref a) "re.Match" := ⟨o, ho, hc⟩
  unfold truthy
  refine wpAny_bind (m := callSpecial? (.ref a) "__bool__") ?_
  unfold callSpecial?
  refine wpAny_bind (wpAny_specialOf hT match_no_bool (wpAny_pure ?_))
  refine wpAny_bind (wpAny_specialOf hT match_no_len ?_)
  exact wpAny_pure h
theorem str_no_index : typeLookup (.type "str") "__index__" = pure none := by rw [typeLookup_type, builtinLookup_eq_fast]; kernel_rfl
theorem group_text {f : Builtin.Re.ReFound} {x : Array UInt8} {t : Tok} {P q : Nat} (h1 : f.spans.getD (2 * 1) (-1) = (P : Int)) (h2 : f.spans.getD (2 * 1 + 1) (-1) = (q : Int)) (h3 : f.fields.getD 0 .none = .bytes x t) (hl : x.size ≤ 100000) {Q : Value → Shared → Prop}
    (h : ∀ t' k, Q (.bytes (x.extract P q) t') { s with toks := k }) : wpAny (model pw w) A (Builtin.Re.reGroupText f 1 .none) Q E s := by
  unfold Builtin.Re.reGroupText
  rw [h1, h2, h3]
  dsimp only
  refine bm_if_false (by rw [decide_eq_false (show ¬ ((P : Int) < 0) by omega), decide_eq_false (show ¬ ((q : Int) < 0) by omega)]; rfl) ?_
  refine wpAny_bind ?_
  unfold Builtin.Re.reTextOf
  refine wpAny_bind (m := asStr? (.bytes x t)) (wpAny_pure ?_)
  refine wpAny_bind (wpAny_of_eq KBy.quiet_eq (wpAny_pure ?_))
  unfold Builtin.Re.reSlice
  refine bm_if_false rfl ?_
  rw [Int.toNat_natCast, Int.toNat_natCast]
  have e : ((x.map (·.toNat)).extract P q).map (·.toUInt8) = x.extract P q := by
    rw [← Array.map_extract, Array.map_map]
    have : ((fun (n : Nat) => n.toUInt8) ∘ fun (b : UInt8) => b.toNat) = id := by funext b; simp
    rw [this, Array.map_id]
  rw [e]
  refine wpAny_mkBytes (h _ _) ?_
  rw [Array.size_extract]
  exact Nat.le_trans (by omega) (show 100000 ≤ sizeLine by decide)
/-- mo.group('flags') -/
theorem group_ok {M T p gi : Addr} {x : Array UInt8} {t tk : Tok} {P q : Nat} {a b c d e : Value} {ar : Value} (hT : s.heap.get? T = some { cls := .type "tuple", data := .seq #[rawInt 0, rawInt (q + 1 : Nat), rawInt P, rawInt q] })
    (hM : s.heap.get? M = some { cls := .type "re.Match", data := .fields #[.bytes x t, .ref p, rawInt (0 : Nat), ar, rawInt 1, .ref T] }) (ho : s.heap.get? p = some ⟨.type "re.Pattern", none, .fields #[a, b, c, .ref gi, d, e, .int 1 0], #[]⟩)
    {t3 : Tok} (hg : s.heap.MapOf (strKind pw w) gi fun k => if k = Str.ofString "flags" then some (.int 1 t3) else none) (hl : x.size ≤ 100000) {Q : Value → Shared → Prop}
    (h : ∀ t' k, Q (.bytes (x.extract P q) t') { s with toks := k }) : wpAny (model pw w) A (call (.builtin "re.Match.group") [.ref M, .str (Str.ofString "flags") tk]) Q E s := by
  refine wpAny_call_entry slot_re_group ⟨_, hM, rfl⟩ entry_re_group ?_ (args_re_group _ _)
  unfold Builtin.«re.Match.group»
  refine wpAny_bind (wpAny_pure ?_)
  refine wpAny_bind (m := Builtin.Re.reFound (.ref M)) ?_
  unfold Builtin.Re.reFound
  refine wpAny_bind (m := fieldsOf (.ref M)) (wpAny_bind (wpAny_load hM (wpAny_pure ?_)))
  refine wpAny_bind (m := Builtin.Re.reRawItems (.ref T)) ?_
  unfold Builtin.Re.reRawItems
  refine wpAny_bind (wpAny_seqItems hT rfl (wpAny_pure (wpAny_pure ?_)))
  refine wpAny_bind (m := Builtin.Re.reGroupNumber _ _) ?_
  unfold Builtin.Re.reGroupNumber
  refine wpAny_bind (m := asInt? (.str (Str.ofString "flags") tk)) (wpAny_pure ?_)
  refine bm_if_false rfl ?_
  refine wpAny_bind (wpAny_specialOf (typeIs_str _ _ _) str_no_index ?_)
  refine bm_if_false rfl ?_
  refine wpAny_bind (m := fieldsOf (.ref p)) (wpAny_bind (wpAny_load ho (wpAny_pure ?_)))
  refine wpAny_bind (m := dictGet gi (.str (Str.ofString "flags") tk)) (wpAny_dictGet_of (knd := strKind pw w) (k := Str.ofString "flags") (by exact beq_self_eq_true (Str.ofString "flags")) hg ?_)
  rw [if_pos rfl]
  refine wpAny_bind (m := asInt? (.int 1 t3)) (wpAny_pure ?_)
  refine wpAny_bind (wpAny_pure ?_)
  refine bm_if_false (by kernel_rfl) ?_
  refine wpAny_pure ?_
  refine wpAny_bind (m := Builtin.Re.reGroupText _ _ _) ?_
  exact group_text (P := P) (q := q) (t := t) (by kernel_rfl) (by kernel_rfl) (by kernel_rfl) hl fun t' k => wpAny_pure ⟨_, rfl, h t' k⟩
/-- octets parted at blanks -/
theorem split_tree (b : Array UInt8) (t : Tok) : Builtin.«bytes.split» ⟨[.bytes b t], []⟩ = (do
    rule "bytes.split.whitespace"
    if (decide (b.size + 1 > 0) && !b.isEmpty && !b.any Builtin.Bytes.isSpace) = true then ret (← newList [← Builtin.Bytes.Kind.same .bytes (.bytes b t)])
    else ret (← newList (← (Builtin.Bytes.words (b.size + 1) (b.size + 1) b.toList).mapM fun w => Builtin.Bytes.Kind.new .bytes w.toArray))) := by kernel_rfl
theorem mapM_bytes {ws : List (List UInt8)} (hw : ∀ w ∈ ws, w.length ≤ 100000) : ∀ {s : Shared} {Q : List Value → Shared → Prop}, (∀ vs k, (∀ (ρ : Place) (σ : Store) (h : Heap), VRels ρ σ h (ws.map .bytes) vs) → Q vs { s with toks := k }) →
    wpAny (model pw w) A (ws.mapM fun w => Builtin.Bytes.Kind.new .bytes w.toArray) Q E s := by
  induction ws with
  | nil => intro s Q h; exact wpAny_pure (h [] _ fun _ _ _ => .nil)
  | cons x ws ih =>
    intro s Q h
    rw [List.mapM_cons]
    refine wpAny_bind (wpAny_mkBytes ?_ (by rw [List.size_toArray]; exact Nat.le_trans (hw x List.mem_cons_self) (by decide)))
    refine wpAny_bind (ih (fun y hy => hw y (List.mem_cons_of_mem _ hy)) fun vs k hv => ?_)
    exact wpAny_pure (h _ _ fun ρ σ h => .cons (.bytes _ _) (hv ρ σ h))
end
end
section
open PySem PySem.W PyProof.Rows
set_option maxRecDepth 100000
set_option maxHeartbeats 4000000
section
variable {w : World} {H0 H1 : Heap} {k : Nat} {env : Env} {μ : Vars} {σ : Store} {ρ : Place} {h : Heap} {W : Nat → Prop} {P : Fl → Vars → Store → Prop}
noncomputable def pinB (h : Heap) (c : Addr → Bool) : Heap := ⟨h.objs.mapIdx fun i o => if c i then o else { o with data := .freed }, h.life⟩
theorem pinB_get (h : Heap) (c : Addr → Bool) (a : Addr) : (pinB h c).get? a = if c a = true then h.get? a else none := by
  unfold pinB Heap.get?
  simp only [Array.getElem?_mapIdx]
  cases h.objs[a]? with
  | none => simp
  | some o =>
    simp only [Option.map_some]
    by_cases z : c a = true
    · rw [if_pos z, if_pos z]
    · rw [if_neg z, if_neg z]
noncomputable def pinned (H0 h : Heap) (S : Addr → Bool) : Heap := pinB h fun i => (H0.get? i).isSome || S i
theorem pinned_get (H0 h : Heap) (S : Addr → Bool) (a : Addr) : (pinned H0 h S).get? a = if ((H0.get? a).isSome || S a) = true then h.get? a else none := pinB_get h _ a
theorem SRel.low {a : Addr} {s : Plc} (S : SRel w H1 ρ σ h a s) : SRel w H0 ρ σ h a s := by cases s <;> exact S
theorem none_low (k : Kept H0 H1) {a : Addr} (e : H1.get? a = none) : H0.get? a = none := k.none e
theorem Rel.low (k : Kept H0 H1) (R : Rel w H1 ρ σ h) : Rel w H0 ρ σ h := ⟨k.trans R.top, fun n => (R.obj n).low, R.inj, fun n hn => none_low k (R.new n hn), fun a b => by obtain ⟨x, y, z⟩ := R.bars a b; exact ⟨x, none_low k y, z⟩⟩
theorem Fra.low (k : Kept H0 H1) (F : Fra w H1 env μ ρ σ h) : Fra w H0 env μ ρ σ h := ⟨F.kind, F.globals, F.builtins, F.ns, F.cell, ⟨F.locU.1, none_low k F.locU.2⟩, fun x c m => by obtain ⟨a, b, d⟩ := F.celU x c m; exact ⟨a, b, none_low k d⟩, F.apart⟩
theorem Tp.up (k : Kept H0 H1) (T : Tp w H0) : Tp w H1 := by
  refine ⟨T.K.keeps k, T.lim.keeps k, fun q => ?_, ?_⟩
  · exact T.sys (k.none q)
  · obtain ⟨mg, mb, a, b, c, d⟩ := T.glob
    exact ⟨mg, mb, a.keeps k, b.keeps k, c, d⟩
/-- what stands besides is kept from here on -/
theorem pin (R : Rel w H0 ρ σ h) (F : Fra w H0 env μ ρ σ h) (T : Tp w H0) (S : Addr → Bool) (hS : ∀ a, S a = true → ¬ Tracked ρ σ a ∧ ¬ Own env a) : ∃ H1, Kept H0 H1 ∧ Tp w H1 ∧ (∀ a, S a = true → H1.get? a = h.get? a) ∧ Rel w H1 ρ σ h ∧ Fra w H1 env μ ρ σ h := by
  have g := pinned_get H0 h S
  have k1 : Kept H0 (pinned H0 h S) := fun b o e => by
    rw [g, if_pos (by rw [e]; rfl)]; exact R.top b o e
  have k2 : Kept (pinned H0 h S) h := fun b o e => by
    rw [g] at e
    by_cases z : ((H0.get? b).isSome || S b) = true
    · rwa [if_pos z] at e
    · rw [if_neg z] at e; cases e
  have no : ∀ a, H0.get? a = none → S a = false → (pinned H0 h S).get? a = none := fun a e q => by
    rw [g, if_neg (by rw [e, q]; decide)]
  have nS : ∀ a, Tracked ρ σ a ∨ Own env a → S a = false := fun a ha => by
    cases q : S a with
    | false => rfl
    | true => exact absurd ha (fun z => z.elim (hS a q).1 (hS a q).2)
  refine ⟨pinned H0 h S, k1, T.up k1, fun a ha => by rw [g, if_pos (by rw [ha, Bool.or_true])], ⟨k2, fun n => (R.obj n).low, R.inj, fun n hn => no _ (R.new n hn) (nS _ (.inl (.inl ⟨n, hn, rfl⟩))), fun a b => by obtain ⟨x, y, z⟩ := R.bars a b; exact ⟨x, no _ y (nS _ (.inl (.inr b))), z⟩⟩, ⟨F.kind, F.globals, F.builtins, F.ns, F.cell, ⟨F.locU.1, no _ F.locU.2 (nS _ (.inr (.inl rfl)))⟩, fun x c m => by obtain ⟨a, b, d⟩ := F.celU x c m; exact ⟨a, b, no _ d (nS _ (.inr (.inr ⟨x, m⟩)))⟩, F.apart⟩⟩
/-- a thing that the model of values does not tell -/
noncomputable def PVm (w : World) (H0 : Heap) (k : Nat) (t : Sem Value) (env : Env) (μ : Vars) (σ : Store) (om : Tok → Addr → Obj) (ot : Obj) : Prop := Shut <|
  ∀ A, Rm k A → ∀ ρ s, Rel w H0 ρ σ s.heap → Fra w H0 env μ ρ σ s.heap → ∀ Q E,
    (∀ h' tk M T t, Kept s.heap h' → s.heap.get? M = none → s.heap.get? T = none → h'.get? M = some (om t T) → h'.get? T = some ot → Q (.ref M) { s with heap := h', toks := tk }) → wpAny (model pw w) A t Q E s
theorem XT.consM (T : Tp w H0) {x : Str} {p pos : Pos} {value : Expr} {rest : List Stmt} {om : Tok → Addr → Obj} {ot : Obj} (hx : (env.kindOf x == some .local) = true) (e : PVm w H0 k (eval value env) env μ σ om ot) (hs : swapsWith value (some (.Name x p)) pos.line env = pure false)
    (c : ∀ H1 M O t, Tp w H1 → H1.get? M = some (om t O) → H1.get? O = some ot → XT w H1 k W env (execs rest env) (put x (.val (.ref M)) μ) σ P) : XT w H0 k W env (execs (.Assign [.Name x p] value pos :: rest) env) μ σ P := by
  have hx : env.kindOf x = some .local := by simpa using hx
  refine ⟨?_⟩; intro A rm ρ s R F Q E hq
  refine wpAny_execs_cons (wpAny_Assign_Name (e.out A rm ρ s R F _ E fun h₁ t₁ M O t k₁ n1 n2 g1 g2 => bind_local (W := W) hx (R.keeps k₁) (F.keeps k₁) (.val (.ref M)) fun h₂ t₂ ev R₂ F₂ => ?_) hs)
  have nt : ∀ a, s.heap.get? a = none → ¬ Tracked ρ σ a ∧ ¬ Own env a := fun a e => by
    refine ⟨R.fresh' e, ?_⟩
    rintro (q | ⟨y, m⟩)
    · obtain ⟨_, ⟨o, _, _, z, _⟩, _⟩ := F.ns
      rw [← q, e] at z; cases z
    · obtain ⟨⟨_, o, z, _⟩, _⟩ := F.celU y a m
      rw [e] at z; cases z
  have g1' := ev.keepU g1 (nt M n1).1 (nt M n1).2
  have g2' := ev.keepU g2 (nt O n2).1 (nt O n2).2
  obtain ⟨H1, k1, T1, hS, R', F'⟩ := pin R₂ F₂ T (fun a => a == M || a == O) fun a ha => by
    rw [Bool.or_eq_true] at ha
    rcases ha with ha | ha
    · rw [beq_iff_eq.mp ha]; exact nt M n1
    · rw [beq_iff_eq.mp ha]; exact nt O n2
  refine (c H1 M O t T1 ((hS M (by simp)).trans g1') ((hS O (by simp)).trans g2')).out A rm ρ _ R' F' Q E fun f fl ρ' h' tk μ' σ' p fr ev' R'' F'' => ?_
  exact hq f fl ρ' h' tk μ' σ' p fr (((k₁.evo ..).trans ev).trans ev') (R''.low k1) (F''.low k1)
end
end
section
open PySem PySem.W PyProof.Rows
set_option maxRecDepth 100000
set_option maxHeartbeats 4000000
theorem slot_bytes_split : Slot "bytes" "split" "bytes.split" :=
  .of (owner := "bytes") (n := "split") (by rw [typeLookup_type, builtinLookup_eq_fast]; kernel_rfl) (by decide +kernel) (by decide +kernel) (by decide +kernel)
    (by first | exact .inl (by decide +kernel) | exact .inr (by decide +kernel)) (by rw [isSubtype_type]; kernel_rfl)
theorem type_bytes_split : typeOf (.builtin "bytes.split") = pure (.type "method_descriptor") := by show builtinType _ = _; rw [builtinType_eq_fast]; kernel_rfl
theorem entry_bytes_split : entryFor table "bytes.split" = some Builtin.«bytes.split» := entryFor_of_tree (by kernel_rfl)
theorem args_bytes_split (a : Value) : argsOk "bytes.split" ⟨[a], []⟩ := by
  unfold argsOk; kernel_rfl
section
variable {w : World} {H0 H1 : Heap} {k : Nat} {env : Env} {μ : Vars} {σ : Store} {ρ : Place} {h : Heap} {W : Nat → Prop} {P : Fl → Vars → Store → Prop}
theorem fn_split {x : List UInt8} {ws : List (List UInt8)} (hs : x.any Builtin.Bytes.isSpace = true) (hw : Builtin.Bytes.words (x.length + 1) (x.length + 1) x = ws) (hl : ∀ y ∈ ws, y.length ≤ 100000) (hn : ws.length ≤ 100000) : FnP w H0 k (.builtin "bytes.split") [.bytes x] [] σ (.lst (ws.map .bytes)) := by
  refine ⟨?_⟩; intro A rm ρ s vs ks R a b Q E hq
  cases b
  cases a with
  | cons a b =>
    cases b; cases a
    rename_i t
    refine wpAny_call_entry slot_bytes_split (typeIs_bytes _ _ _) entry_bytes_split ?_ (args_bytes_split _)
    rw [split_tree]
    refine wpAny_bind (wpAny_rule ?_)
    refine bm_if_false (by rw [show x.toArray.any Builtin.Bytes.isSpace = true by simpa using hs]; simp) ?_
    have e : Builtin.Bytes.words (x.toArray.size + 1) (x.toArray.size + 1) x.toArray.toList = ws := by simpa using hw
    rw [e]
    refine wpAny_bind (mapM_bytes hl fun vs k hv => ?_)
    have hlen : vs.length = ws.length := by have := (hv ρ σ s.heap).length; simpa using this
    refine wpAny_bind (wpAny_newList ?_ (by rw [hlen]; exact Nat.le_trans hn (by decide)))
    have kp := Kept.push s.heap { cls := .type "list", data := .seq vs.toArray }
    exact wpAny_pure ⟨_, rfl, hq _ _ _ kp (.lst ⟨_, Heap.get?_push_size _ rfl, rfl, 0, rfl⟩ (R.fresh (Nat.le_refl _)) (hv _ _ _))⟩
theorem meth_split (x : List UInt8) : MethOk w H0 k σ (.bytes x) "split" (.builtin "bytes.split") := .builtin FB.plainAttrs_bytes slot_bytes_split type_bytes_split typ_bytes
theorem k191 (P : Params) : (K0 P).lookup 191 = some ⟨.type "re.Pattern", none, .fields #[.bytes #[46, 42, 70, 76, 65, 71, 83, 32, 92, 40, 40, 63, 80, 60, 102, 108, 97, 103, 115, 62, 91, 94, 92, 41, 93, 42, 41, 92, 41] 555, .int 0 601, .int 1 0, .ref 188, .ref 189, .ref 190, .int 1 0], #[]⟩ := by kernel_rfl
theorem k190 (P : Params) : (K0 P).lookup 190 = some ⟨.type "tuple", none, .seq (asInts fcode) 0, #[]⟩ := by kernel_rfl
theorem k188 (P : Params) : (K0 P).lookup 188 = some ⟨.type "dict", none, .dict #[ent P "flags" 597 (.int 1 598)] 1, #[]⟩ := by kernel_rfl
theorem flags_map {h : Heap} (hg : h.get? 188 = some ⟨.type "dict", none, .dict #[ent w.params "flags" 597 (.int 1 598)] 1, #[]⟩) : h.MapOf (strKind pw w) 188 fun k => if k = Str.ofString "flags" then some (.int 1 598) else none := by
  refine ⟨_, _, _, hg, ⟨rfl, rfl, rfl⟩, rfl, ?_, fun k => ?_⟩
  · intro e he
    have : e = ent w.params "flags" 597 (.int 1 598) := by simpa using he
    subst this
    exact ⟨Str.ofString "flags", beq_self_eq_true (Str.ofString "flags"), rfl⟩
  · unfold findBy
    show ((#[ent w.params "flags" 597 (.int 1 598)] : Array DictEntry).find? fun e => Value.isStrOf k e.key).map (·.val) = _
    by_cases z : k = Str.ofString "flags"
    · subst z
      have : Value.isStrOf (Str.ofString "flags") (ent w.params "flags" 597 (.int 1 598)).key = true := beq_self_eq_true (Str.ofString "flags")
      simp [ent]; exact this
    · have : Value.isStrOf k (ent w.params "flags" 597 (.int 1 598)).key = false := by
        cases q : Value.isStrOf k (ent w.params "flags" 597 (.int 1 598)).key with
        | false => rfl
        | true =>
          obtain ⟨u, hu⟩ := Value.isStrOf_shape q
          injection hu with hx
          exact absurd hx.symm z
      simp [ent, z]; simpa [ent] using this
theorem fn_group (T : Tp w H1) {M O : Addr} {t : Tok} {x : List UInt8} {P q lim : Nat} (hM : H1.get? M = some { cls := .type "re.Match", data := .fields #[.bytes x.toArray t, .ref 191, rawInt (0 : Nat), rawInt lim, rawInt 1, .ref O] })
    (hO : H1.get? O = some { cls := .type "tuple", data := .seq #[rawInt 0, rawInt (q + 1 : Nat), rawInt P, rawInt q] }) (hl : x.length ≤ 100000) : FnP w H1 k (.builtin "re.Match.group") [.val (.ref M), .str (Str.ofString "flags").cps.toList] [] σ (.bytes ((x.drop P).take (q - P))) := by
  refine ⟨?_⟩; intro A rm ρ s vs ks R a b Q E hq
  cases b
  cases a with
  | cons a b =>
    cases a
    cases b with
    | cons b c =>
      cases c; cases b
      have X := T.K.keeps R.top
      have e0 : (⟨(Str.ofString "flags").cps.toList.toArray⟩ : PySem.Str) = Str.ofString "flags" := by kernel_rfl
      rw [e0]
      refine group_ok (R.top _ _ hO) (R.top _ _ hM) (X _ _ (k191 _)) (t3 := 598) (flags_map (X _ _ (k188 _))) (by simpa using hl) fun t' k => ?_
      have e : x.toArray.extract P q = ((x.drop P).take (q - P)).toArray := by
        rw [List.extract_toArray]; first | done | rfl | simp [List.extract]
      rw [e]; exact hq _ _ _ (.refl _) (.bytes _ _)
theorem meth_group {M O : Addr} {t : Tok} {x : List UInt8} {lim : Nat} (hM : H1.get? M = some { cls := .type "re.Match", data := .fields #[.bytes x.toArray t, .ref 191, rawInt (0 : Nat), rawInt lim, rawInt 1, .ref O] }) : MethOk w H1 k σ (.val (.ref M)) "group" (.builtin "re.Match.group") := by
  refine MethOk.builtin plainAttrs_match slot_re_group type_re_group fun ρ s U R u => ?_
  cases u
  exact ⟨⟨_, R.top _ _ hM, rfl⟩, fun b e => by cases e; exact ⟨_, R.top _ _ hM, rfl⟩⟩
theorem true_match {M O : Addr} {t : Tok} {x : List UInt8} {lim : Nat} (hM : H1.get? M = some { cls := .type "re.Match", data := .fields #[.bytes x.toArray t, .ref 191, rawInt (0 : Nat), rawInt lim, rawInt 1, .ref O] }) : O1B w H1 k truthy σ (.val (.ref M)) true := by
  refine ⟨?_⟩; intro A rm ρ s U R u Q E hq
  cases u
  exact truthy_match (R.top _ _ hM) rfl (hq s.heap s.toks (.refl _))
/-- where the flags lie -/
structure FlagsAt (x : List UInt8) (N P q : Nat) : Prop where
  hl : x.length ≤ 100000
  hN : N < x.length
  hPN : P + 7 ≤ N
  hq : q < x.length
  hPq : P + 7 ≤ q
  h1 : ∀ y, y < N → (x.toArray.map (·.toNat)).getD y 0 ≠ 10
  h2 : (x.toArray.map (·.toNat)).getD N 0 = 10
  hlit : ∀ k, k < 7 → (x.toArray.map (·.toNat)).getD (P + k) 0 = fcode.getD (11 + 2 * k + 1) 0
  hno : ∀ y, P + 7 ≤ y → y < x.length → (x.toArray.map (·.toNat)).getD y 0 ≠ 40
  h3 : ∀ y, P + 7 ≤ y → y < q → (x.toArray.map (·.toNat)).getD y 0 ≠ 41
  h4 : (x.toArray.map (·.toNat)).getD q 0 = 41
theorem PVm.match (T : Tp w H0) {o e : Expr} {apos pos : Pos} {x : List UInt8} {N P q : Nat} (f : FlagsAt x N P q) (ho : PV w H0 k (eval o env) env μ σ (.val (.ref 191))) (hx : PV w H0 k (eval e env) env μ σ (.bytes x)) (hst : starEach [e] env = (false, eval e env) :: [])
    (hbase : attributeBase o "match" env (eval o env) = eval o env) (hline : (apos.endLine == pos.line) = true) :
    PVm w H0 k (eval (.Call (.Attribute o "match" apos) [e] [] pos) env) env μ σ (fun t T => { cls := .type "re.Match", data := .fields #[.bytes x.toArray t, .ref 191, rawInt (0 : Nat), rawInt x.length, rawInt 1, .ref T] })
      { cls := .type "tuple", data := .seq #[rawInt 0, rawInt (q + 1 : Nat), rawInt (P + 7 : Nat), rawInt q] } := by
  refine ⟨?_⟩; intro A rm ρ s R F Q E hq
  rw [arm_eval_Call, hbase]
  refine wpAny_bind (ho.out A rm ρ s R F _ E fun h₁ t₁ U k₁ u => ?_)
  cases u
  refine wpAny_bind (wpAny_standAt ?_)
  have hpos : methodCallPos true o env apos pos = pure pos := by unfold methodCallPos; simp [hline]
  have hform : methodCallForm ([e].length + ([] : List Keyword).length) (backTo pos (starEach [e] env)) (backToKw pos (keywordEach [] env)) = true := by rw [hst]; rfl
  unfold methodCall
  rw [hform]
  have X := T.K.keeps (R.keeps k₁).top
  have g191 := X _ _ (k191 w.params)
  have hm : MethOk w H0 k σ (.val (.ref 191)) "match" (.builtin "re.Pattern.match") := MethOk.builtin plainAttrs_re slot_re_match type_re_match fun ρ s U R u => by
    cases u
    have X := T.K.keeps R.top
    exact ⟨⟨_, X _ _ (k191 w.params), rfl⟩, fun b e => by cases e; exact ⟨_, X _ _ (k191 w.params), rfl⟩⟩
  refine wpAny_bind (wpAny_holding (hm.out A rm ρ _ _ (R.keeps k₁) (.val _) _ _ _ ?_))
  refine wpAny_bind (wpAny_of_eq hpos ?_)
  refine callArgs T (names := []) (KeepOk.builtin _) rm (R.keeps k₁) (F.keeps k₁) (PVs.cons hx PVs.nil hst) PKs.nil rfl (by rw [hst]; rfl) rfl fun h₂ t₂ vs kvs k₂ uv ukv => ?_
  cases uv with
  | cons u z =>
    cases z; cases ukv; cases u
    rename_i tb
    have X := T.K.keeps ((R.keeps k₁).keeps k₂).top
    have kk := k₁.trans k₂
    refine match_ok (X _ _ (k191 w.params)) (X _ _ (k190 w.params)) (by simpa using f.hl) (by simpa using f.hN) f.hPN (by simpa using f.hq) f.hPq f.h1 f.h2 f.hlit (by simpa using f.hno) f.h3 f.h4 fun h' M O kp n1 n2 g1 g2 => ?_
    have no : ∀ a, h₂.get? a = none → s.heap.get? a = none := fun a e => by
      cases q : s.heap.get? a with
      | none => rfl
      | some o => rw [kk _ _ q] at e; cases e
    refine hq h' t₂ M O tb (kk.trans kp) (no _ n1) (no _ n2) ?_ g1
    have : x.toArray.size = x.length := by simp
    rw [← this]; exact g2
end
end
section
/-- a piece of the picture: road i j (j = 3: the house i), great letters, what it tells -/
structure Pc where
  i : Nat
  j : Nat
  g : Nat
  x : Nat
  y : Nat
noncomputable abbrev Item := Nat × Nat × Nat × Option Nat
noncomputable abbrev Deed := Bool × Nat × Nat × Int
structure Gs where
  hand : Nat → Nat
  bank : Nat → Nat
  post : List Item
  pic : List Pc
  order : List (Nat × Nat)
  seen : Nat → Bool
  stars : List (Nat × Nat)
  deeds : List Deed
noncomputable def fs {α : Type} (f : Nat → α) (k : Nat) (v : α) : Nat → α := fun m => if m = k then v else f m
theorem fs_self {α : Type} (f : Nat → α) (k : Nat) (v : α) : fs f k v k = v := if_pos rfl
theorem fs_ne {α : Type} {f : Nat → α} {k m : Nat} {v : α} (h : m ≠ k) : fs f k v m = f m := if_neg h
theorem fs_comm {α : Type} {f : Nat → α} {k m : Nat} {v u : α} (h : m ≠ k) : fs (fs f k v) m u = fs (fs f m u) k v := by
  funext x; unfold fs
  by_cases a : x = m
  · by_cases b : x = k
    · omega
    · simp [a]; intro q; omega
  · simp [a]
noncomputable def reorder (o : List (Nat × Nat)) (k g : Nat) : List (Nat × Nat) := (o.filter fun x => (x.1 : Int) != (k : Int)) ++ [(k, g)]
noncomputable def onRoad (i j : Nat) (x : Item) : Bool := x.1 == i && x.2.1 == j
noncomputable def chan (p : List Item) (i j : Nat) : List (Option Nat) := (p.filter (onRoad i j)).map (·.2.2.2)
noncomputable def others (p : List Item) (i j : Nat) : List Item := p.filter fun x => !onRoad i j x
noncomputable def Gs.pay (s : Gs) (i j a g : Nat) : Gs :=
  { s with hand := fs s.hand i (s.hand i - a), bank := fs s.bank i (s.bank i - (a - s.hand i)), order := reorder s.order i g, post := s.post ++ [(i, j, g, some (s.hand i + s.bank i - (s.hand i - a) - (s.bank i - (a - s.hand i))))], deeds := s.deeds ++ [(!s.seen i, i, j, (a : Int))] }
noncomputable def Gs.picture (s : Gs) (k g : Nat) : Gs :=
  { s with pic := s.pic ++ [⟨k, 3, g, s.hand k, s.bank k⟩], seen := fs s.seen k true, post := s.post ++ [(k, (k + 1) % 3, g, none), (k, (k + 2) % 3, g, none)] }
noncomputable def Gs.took (s : Gs) (i j g : Nat) (r : List (Option Nat)) : Gs := { s with post := others s.post i j ++ (r.map fun o => (i, j, g, o)) }
noncomputable def Gs.star (s : Gs) (i j g : Nat) (r : List (Option Nat)) : Gs := { (s.took i j g r) with stars := s.stars ++ [(i, j)] }
noncomputable def Gs.letter (s : Gs) (i j g n : Nat) (r : List (Option Nat)) : Gs :=
  { (s.took i j g r) with hand := fs s.hand j (s.hand j + n), order := reorder s.order j g, pic := if s.seen j && !s.stars.contains (i, j) then s.pic ++ [⟨i, j, g, n, 0⟩] else s.pic, deeds := s.deeds ++ [(!s.seen j, i, j, -1)] }
noncomputable def Gs.give (s : Gs) (i j g : Nat) : Gs := match chan s.post i j with
  | [] => s
  | none :: r => if s.seen j then s.star i j g r else (s.star i j g r).picture j g
  | some n :: r => s.letter i j g n r

/-- plain reckoning -/
structure St where
  h : Nat → Nat
  b : Nat → Nat
  rd : Nat → Nat → List Nat
noncomputable def rs (f : Nat → Nat → List Nat) (i j : Nat) (v : List Nat) : Nat → Nat → List Nat := fun x y => if x = i ∧ y = j then v else f x y
noncomputable def step (i j : Nat) (a : Int) (s : St) : Option St :=
  if 0 ≤ a then
    some { h := fs s.h i (s.h i - min (min a.toNat (s.h i + s.b i)) (s.h i)), b := fs s.b i (s.b i - (min a.toNat (s.h i + s.b i) - min (min a.toNat (s.h i + s.b i)) (s.h i))), rd := rs s.rd i j (s.rd i j ++ [min a.toNat (s.h i + s.b i)]) }
  else match s.rd i j with
    | [] => none
    | n :: r => some { s with h := fs s.h j (s.h j + n), rd := rs s.rd i j r }
noncomputable def run (e : Bool) : List Deed → St → Option St
  | [], s => some s
  | (f, i, j, a) :: r, s => if f = e then (step i j a s).bind (run e r) else run e r s
theorem run_append (e : Bool) : ∀ (l m : List Deed) (s : St), run e (l ++ m) s = (run e l s).bind (run e m)
  | [], m, s => rfl
  | (f, i, j, a) :: r, m, s => by
    simp only [List.cons_append, run]
    by_cases h : f = e
    · rw [if_pos h, if_pos h]
      cases step i j a s with
      | none => rfl
      | some t => exact run_append e r m t
    · rw [if_neg h, if_neg h]; exact run_append e r m s
noncomputable def actor (i j : Nat) (a : Int) : Nat := if 0 ≤ a then i else j
theorem rs_self (f : Nat → Nat → List Nat) (i j : Nat) (v : List Nat) : rs f i j v i j = v := if_pos ⟨rfl, rfl⟩
theorem rs_ne {f : Nat → Nat → List Nat} {i j x y : Nat} {v : List Nat} (h : ¬ (x = i ∧ y = j)) : rs f i j v x y = f x y := if_neg h
theorem rs_comm {f : Nat → Nat → List Nat} {i j x y : Nat} {v u : List Nat} (h : ¬ (x = i ∧ y = j)) : rs (rs f i j v) x y u = rs (rs f x y u) i j v := by
  funext p q; unfold rs
  by_cases a : p = x ∧ q = y
  · by_cases b : p = i ∧ q = j
    · omega
    · rw [if_pos a, if_neg b, if_pos a]
  · rw [if_neg a, if_neg a]
theorem rs_rs {f : Nat → Nat → List Nat} {i j : Nat} {v u : List Nat} : rs (rs f i j v) i j u = rs f i j u := by
  funext p q; unfold rs
  by_cases a : p = i ∧ q = j
  · rw [if_pos a, if_pos a]
  · rw [if_neg a, if_neg a, if_neg a]
/-- two that act at two houses may change places -/
theorem step_comm {i j i' j' : Nat} {a a' : Int} {s s' s1 : St} (e : step i j a s = some s') (d : step i' j' a' s = some s1) (h : actor i j a ≠ actor i' j' a') : ∃ s2, step i j a s1 = some s2 ∧ step i' j' a' s' = some s2 := by
  unfold actor at h
  unfold step at e d
  by_cases p : 0 ≤ a
  · rw [if_pos p] at e h; cases e
    by_cases q : 0 ≤ a'
    · rw [if_pos q] at d h; cases d
      refine ⟨_, by unfold step; rw [if_pos p], ?_⟩
      unfold step; rw [if_pos q]
      congr 2
      all_goals try dsimp only
      · rw [fs_ne h, fs_ne (Ne.symm h), fs_ne (Ne.symm h), fs_ne h]; exact fs_comm (Ne.symm h)
      · rw [fs_ne h, fs_ne (Ne.symm h), fs_ne (Ne.symm h), fs_ne h]; exact fs_comm (Ne.symm h)
      · rw [fs_ne h, fs_ne (Ne.symm h), fs_ne (Ne.symm h), fs_ne h, rs_ne (fun z => h z.1.symm), rs_ne (fun z => h z.1)]; exact rs_comm (fun z => h z.1.symm)
    · rw [if_neg q] at d h
      cases r : s.rd i' j' with
      | nil => rw [r] at d; cases d
      | cons n r' =>
        rw [r] at d; cases d
        refine ⟨_, by unfold step; rw [if_pos p], ?_⟩
        unfold step; rw [if_neg q]
        dsimp only
        by_cases z : i' = i ∧ j' = j
        · obtain ⟨rfl, rfl⟩ := z
          rw [rs_self, r]
          show some _ = some _
          congr 2
          all_goals try dsimp only
          · rw [fs_ne h, fs_ne (Ne.symm h)]; exact fs_comm (Ne.symm h)
          · rw [fs_ne h]
          · rw [rs_self, fs_ne h, rs_rs, rs_rs]; rfl
        · rw [rs_ne z, r]
          show some _ = some _
          congr 2
          all_goals try dsimp only
          · rw [fs_ne h, fs_ne (Ne.symm h)]; exact fs_comm (Ne.symm h)
          · rw [fs_ne h]
          · rw [fs_ne h, rs_ne (fun w => z ⟨w.1.symm, w.2.symm⟩)]; exact rs_comm z
  · rw [if_neg p] at e h
    cases r : s.rd i j with
    | nil => rw [r] at e; cases e
    | cons n r' =>
      rw [r] at e; cases e
      by_cases q : 0 ≤ a'
      · rw [if_pos q] at d h; cases d
        refine ⟨_, ?_, by unfold step; rw [if_pos q]⟩
        unfold step; rw [if_neg p]
        dsimp only
        by_cases z : i' = i ∧ j' = j
        · obtain ⟨rfl, rfl⟩ := z
          rw [rs_self, r]
          show some _ = some _
          congr 2
          all_goals try dsimp only
          · rw [fs_ne h, fs_ne (Ne.symm h)]; exact (fs_comm (Ne.symm h)).symm
          · rw [fs_ne (Ne.symm h)]
          · rw [rs_self, fs_ne (Ne.symm h), rs_rs, rs_rs]; rfl
        · rw [rs_ne (fun w => z ⟨w.1.symm, w.2.symm⟩), r]
          show some _ = some _
          congr 2
          all_goals try dsimp only
          · rw [fs_ne h, fs_ne (Ne.symm h)]; exact (fs_comm (Ne.symm h)).symm
          · rw [fs_ne (Ne.symm h)]
          · rw [fs_ne (Ne.symm h), rs_ne z]; exact (rs_comm z).symm
      · rw [if_neg q] at d h
        cases t : s.rd i' j' with
        | nil => rw [t] at d; cases d
        | cons m t' =>
          rw [t] at d; cases d
          have z : ¬ (i' = i ∧ j' = j) := fun w => h w.2.symm
          refine ⟨{ s with h := fs (fs s.h j' (s.h j' + m)) j (s.h j + n), rd := rs (rs s.rd i' j' t') i j r' }, ?_, ?_⟩
          · unfold step; rw [if_neg p]; dsimp only
            rw [rs_ne (fun w => z ⟨w.1.symm, w.2.symm⟩), r]
            show some _ = some _
            rw [fs_ne h]
          · unfold step; rw [if_neg q]; dsimp only
            rw [rs_ne z, t]
            show some _ = some _
            rw [fs_ne (Ne.symm h)]
            congr 2
            · exact fs_comm (Ne.symm h)
            · exact rs_comm z
/-- an early one behind late ones -/
theorem run_comm {i j : Nat} {a : Int} : ∀ {l : List Deed} {s s' s1 : St}, (∀ d ∈ l, d.1 = false → actor i j a ≠ actor d.2.1 d.2.2.1 d.2.2.2) → step i j a s = some s' → run false l s = some s1 → ∃ s2, step i j a s1 = some s2 ∧ run false l s' = some s2
  | [], s, s', s1, _, e, d => by cases d; exact ⟨s', e, rfl⟩
  | (f, i', j', a') :: l, s, s', s1, h, e, d => by
    unfold run at d
    by_cases q : f = false
    · rw [if_pos q] at d
      cases t : step i' j' a' s with
      | none => rw [t] at d; cases d
      | some u =>
        rw [t] at d
        obtain ⟨s2, x, y⟩ := step_comm e t (h _ List.mem_cons_self q)
        obtain ⟨s3, x', y'⟩ := run_comm (fun d hd => h d (List.mem_cons_of_mem _ hd)) x d
        refine ⟨s3, x', ?_⟩
        unfold run; rw [if_pos q, y]; exact y'
    · rw [if_neg q] at d
      obtain ⟨s3, x', y'⟩ := run_comm (fun d hd => h d (List.mem_cons_of_mem _ hd)) e d
      refine ⟨s3, x', ?_⟩
      unfold run; rw [if_neg q]; exact y'
end
section
noncomputable def cell0 : List Int := [11, 6, 1, 96, 224, 22, 14, 244, 204, 75, 16, 367, 212]
noncomputable def cellsAt (sc : List Int) : Nat → List Int
  | 0 => cell0
  | t + 1 => (cellsAt sc t).set (t % 13) ((cellsAt sc t).getD (t % 13) 0 + sc.getD t 0)
theorem cellsAt_len (sc : List Int) : ∀ t, (cellsAt sc t).length = 13
  | 0 => rfl
  | t + 1 => by rw [cellsAt, List.length_set]; exact cellsAt_len sc t
noncomputable def actI (n : Int) : Nat := (n % 6 / 2).toNat
noncomputable def actG (n : Int) : Nat := (n / 192 % 2).toNat
noncomputable def actJ (n : Int) : Nat := ((n % 6 / 2 + 1 + n % 2) % 3).toNat
noncomputable def actM (n : Int) : Nat := (n / 24 % 8).toNat
noncomputable def act (s : Gs) (n : Int) : Gs :=
  if n / 6 % 4 < 2 then s.pay (actI n) (actJ n) (actM n) (actG n)
  else if n / 6 % 4 = 2 then s.give (actI n) (actJ n) (actG n)
  else if s.seen (actI n) then s else s.picture (actI n) (actG n)
noncomputable def start (h b : Nat → Nat) : Gs := ⟨h, b, [], [], [(0, 0), (1, 0), (2, 0)], fun _ => false, [], []⟩
noncomputable def rnd (s : Gs) (k : Nat) : Gs := match s.post with
  | [] => s
  | x :: _ => s.give x.1 x.2.1 (k % 2)
noncomputable def wake (s : Gs) : Gs := if s.seen 0 = false ∧ s.seen 1 = false ∧ s.seen 2 = false then s.picture 0 0 else s
noncomputable def acts (s : Gs) (ns : List Int) (t : Nat) : Gs := (ns.take t).foldl act s
noncomputable def rnds (s : Gs) (t : Nat) : Gs := (List.range t).foldl rnd s
theorem acts_next {s : Gs} {ns : List Int} {t : Nat} {n : Int} (h : ns[t]? = some n) : acts s ns (t + 1) = act (acts s ns t) n := by
  unfold acts; rw [List.take_add_one, h, List.foldl_append]; rfl
theorem rnds_next (s : Gs) (t : Nat) : rnds s (t + 1) = rnd (rnds s t) t := by
  unfold rnds; rw [List.range_succ, List.foldl_append]; rfl
theorem nat_lt {a : Int} {n : Nat} (h : 0 ≤ a) (l : a < (n : Int)) : a.toNat < n := (Int.toNat_lt h).mpr l
theorem act_lt (n : Int) : actI n < 3 ∧ actG n < 2 ∧ actJ n < 3 ∧ actM n < 8 := by
  have m := fun (a : Int) (b : Nat) (h : (b : Int) ≠ 0) => Int.emod_nonneg a h
  refine ⟨nat_lt ?_ (Int.ediv_lt_of_lt_mul (by decide) (Int.emod_lt_of_pos n (by decide))), nat_lt (m _ 2 (by decide)) (Int.emod_lt_of_pos _ (by decide)), nat_lt (m _ 3 (by decide)) (Int.emod_lt_of_pos _ (by decide)), nat_lt (m _ 8 (by decide)) (Int.emod_lt_of_pos _ (by decide))⟩
  exact Int.ediv_nonneg (m n 6 (by decide)) (by decide)
theorem act_eq (n : Int) : n % 6 / 2 = (actI n : Int) ∧ n / 192 % 2 = (actG n : Int) ∧ (actI n + 1 + n % 2) % 3 = (actJ n : Int) ∧ n / 24 % 8 = (actM n : Int) := by
  have m := fun (a : Int) (b : Nat) (h : (b : Int) ≠ 0) => Int.emod_nonneg a h
  have e : n % 6 / 2 = (actI n : Int) := (Int.toNat_of_nonneg (Int.ediv_nonneg (m n 6 (by decide)) (by decide))).symm
  refine ⟨e, (Int.toNat_of_nonneg (m _ 2 (by decide))).symm, ?_, (Int.toNat_of_nonneg (m _ 8 (by decide))).symm⟩
  rw [← e]
  exact (Int.toNat_of_nonneg (m _ 3 (by decide))).symm
noncomputable def hand0 (c : List Int) (k : Nat) : Nat := (c.getD k 0 % 4).toNat
noncomputable def bank0 (c : List Int) (k : Nat) : Nat := (c.getD k 0 / 4 % 3).toNat
noncomputable def st0 (c : List Int) : St := ⟨hand0 c, bank0 c, fun _ _ => []⟩
theorem hand0_eq (c : List Int) (k : Nat) : (hand0 c k : Int) = c.getD k 0 % 4 := Int.toNat_of_nonneg (Int.emod_nonneg _ (by decide))
theorem bank0_eq (c : List Int) (k : Nat) : (bank0 c k : Int) = c.getD k 0 / 4 % 3 := Int.toNat_of_nonneg (Int.emod_nonneg _ (by decide))
theorem hand0_le (c : List Int) (k : Nat) : hand0 c k ≤ 3 ∧ bank0 c k ≤ 2 := ⟨Nat.le_of_lt_succ (nat_lt (Int.emod_nonneg _ (by decide)) (Int.emod_lt_of_pos _ (by decide))), Nat.le_of_lt_succ (nat_lt (Int.emod_nonneg _ (by decide)) (Int.emod_lt_of_pos _ (by decide)))⟩
noncomputable def grown (s : Gs) : List Deed := s.deeds.filter fun d => decide (d.2.2.2 ≥ 0)
noncomputable def taken (s : Gs) : List Deed := s.deeds.filter fun d => d.2.2.2 == -1
noncomputable def awake (s : Gs) : List Nat := (List.range 3).filter s.seen
noncomputable def Count (s : Gs) : Prop := s.post.length + (taken s).length + s.stars.length = (grown s).length + 2 * (awake s).length
end
section
noncomputable def pre : List (Option Nat) → List Nat
  | some n :: r => n :: pre r
  | _ => []
noncomputable def lets (l : List (Option Nat)) : List Nat := l.filterMap id
theorem pre_none : ∀ l : List (Option Nat), pre (l ++ [none]) = pre l
  | [] => rfl
  | none :: r => rfl
  | some n :: r => by rw [List.cons_append, pre, pre, pre_none r]
theorem pre_some (m : Nat) : ∀ l : List (Option Nat), pre (l ++ [some m]) = if none ∈ l then pre l else pre l ++ [m]
  | [] => rfl
  | none :: r => by rw [if_pos List.mem_cons_self]; rfl
  | some n :: r => by
    rw [List.cons_append, pre, pre, pre_some m r]
    by_cases h : none ∈ r
    · rw [if_pos h, if_pos (List.mem_cons_of_mem _ h)]
    · rw [if_neg h, if_neg (by simpa using h)]; rfl
theorem onRoad_iff {i j : Nat} {x : Item} : onRoad i j x = true ↔ x.1 = i ∧ x.2.1 = j := by unfold onRoad; rw [Bool.and_eq_true, beq_iff_eq, beq_iff_eq]
theorem chan_append (p q : List Item) (i j : Nat) : chan (p ++ q) i j = chan p i j ++ chan q i j := by unfold chan; rw [List.filter_append, List.map_append]
theorem chan_one (a b g : Nat) (o : Option Nat) (i j : Nat) : chan [(a, b, g, o)] i j = if i = a ∧ j = b then [o] else [] := by
  unfold chan
  by_cases h : i = a ∧ j = b
  · rw [if_pos h, List.filter_cons, if_pos (onRoad_iff.mpr ⟨h.1.symm, h.2.symm⟩)]; rfl
  · rw [if_neg h, List.filter_cons, if_neg (fun z => h (by have := onRoad_iff.mp z; exact ⟨this.1.symm, this.2.symm⟩))]; rfl
theorem chan_items (r : List (Option Nat)) (a b g i j : Nat) : chan (r.map fun o => (a, b, g, o)) i j = if i = a ∧ j = b then r else [] := by
  induction r with
  | nil => simp [chan]
  | cons o r ih =>
    have e : (o :: r).map (fun o => (a, b, g, o)) = [(a, b, g, o)] ++ r.map (fun o => (a, b, g, o)) := rfl
    rw [e, chan_append, ih, chan_one]
    by_cases h : i = a ∧ j = b
    · rw [if_pos h, if_pos h, if_pos h]; rfl
    · rw [if_neg h, if_neg h, if_neg h]; rfl
theorem chan_others (p : List Item) (a b i j : Nat) : chan (others p a b) i j = if i = a ∧ j = b then [] else chan p i j := by
  unfold chan others
  rw [List.filter_filter]
  by_cases h : i = a ∧ j = b
  · rw [if_pos h, h.1, h.2, List.filter_eq_nil_iff.mpr fun x _ => by cases onRoad a b x <;> simp]; rfl
  · rw [if_neg h]
    congr 1
    apply List.filter_congr
    intro x _
    cases q : onRoad i j x with
    | false => rfl
    | true =>
      have z := onRoad_iff.mp q
      have : onRoad a b x = false := by
        cases q2 : onRoad a b x with
        | false => rfl
        | true => have z2 := onRoad_iff.mp q2; exact absurd ⟨z.1.symm.trans z2.1, z.2.symm.trans z2.2⟩ h
      rw [this]; rfl
theorem chan_took (s : Gs) (a b g : Nat) (r : List (Option Nat)) (i j : Nat) : chan (s.took a b g r).post i j = if i = a ∧ j = b then r else chan s.post i j := by
  show chan (others s.post a b ++ _) i j = _
  rw [chan_append, chan_others, chan_items]
  by_cases h : i = a ∧ j = b
  · rw [if_pos h, if_pos h, if_pos h]; rfl
  · rw [if_neg h, if_neg h, if_neg h, List.append_nil]
/-- what the picture tells of a road -/
noncomputable def recd (pic : List Pc) (i j : Nat) : List Nat := (pic.filter fun p => p.i == i && p.j == j).map (·.x)
theorem recd_append (a b : List Pc) (i j : Nat) : recd (a ++ b) i j = recd a i j ++ recd b i j := by unfold recd; rw [List.filter_append, List.map_append]
theorem recd_one (p : Pc) (i j : Nat) : recd [p] i j = if i = p.i ∧ j = p.j then [p.x] else [] := by
  unfold recd
  by_cases h : i = p.i ∧ j = p.j
  · rw [if_pos h, List.filter_cons, if_pos (by simp [h.1, h.2])]; rfl
  · rw [if_neg h, List.filter_cons, if_neg (by simp; intro a b; exact h ⟨a.symm, b.symm⟩)]; rfl
noncomputable def cur (s : Gs) : St := ⟨s.hand, s.bank, fun i j => lets (chan s.post i j)⟩
structure Inv (h0 b0 : Nat → Nat) (x : Nat) (s : Gs) : Prop where
  ex : ∃ E, run true s.deeds ⟨h0, b0, fun _ _ => []⟩ = some E ∧ run false s.deeds E = some (cur s) ∧ (∀ k, s.seen k = false → E.h k = s.hand k ∧ E.b k = s.bank k) ∧ (∀ p ∈ s.pic, p.j = 3 → E.h p.i = p.x ∧ E.b p.i = p.y) ∧
    ∀ i j, j ≠ 3 → E.rd i j = recd s.pic i j ++ if (i, j) ∈ s.stars then [] else pre (chan s.post i j)
  late : ∀ d ∈ s.deeds, d.1 = false → s.seen (actor d.2.1 d.2.2.1 d.2.2.2) = true
  us : ∀ i j, s.seen i = false → none ∉ chan s.post i j ∧ (i, j) ∉ s.stars
  ss : ∀ i j, i < 3 → j < 3 → i ≠ j → s.seen i = true → (i, j) ∉ s.stars → none ∈ chan s.post i j
  st : ∀ i j, (i, j) ∈ s.stars → j < 3 ∧ (s.seen j = true ∨ j = x)
  ur : ∀ i j, s.seen j = false → j ≠ 3 → recd s.pic i j = []
  hs : ∀ p ∈ s.pic, p.j = 3 → s.seen p.i = true
theorem fs_id {α : Type} (f : Nat → α) (k : Nat) : fs f k (f k) = f := by
  funext m; unfold fs; by_cases h : m = k
  · rw [if_pos h, h]
  · rw [if_neg h]
theorem min_parts (a h b : Nat) : h - min (min a (h + b)) h = h - a ∧ b - (min a (h + b) - min (min a (h + b)) h) = b - (a - h) ∧ min a (h + b) = h + b - (h - a) - (b - (a - h)) := by
  rcases Nat.le_total a h with q | q
  · rw [Nat.min_eq_left (Nat.le_trans q (Nat.le_add_right h b)), Nat.min_eq_left q, Nat.sub_self, Nat.sub_eq_zero_of_le q]
    refine ⟨rfl, rfl, ?_⟩
    obtain ⟨d, rfl⟩ := Nat.exists_eq_add_of_le q
    rw [Nat.add_sub_cancel_left, Nat.sub_zero, Nat.add_right_comm, Nat.add_sub_cancel, Nat.add_sub_cancel]
  · rw [Nat.min_eq_right (Nat.le_min.mpr ⟨q, Nat.le_add_right h b⟩)]
    obtain ⟨d, rfl⟩ := Nat.exists_eq_add_of_le q
    rw [Nat.sub_self, Nat.sub_eq_zero_of_le q, Nat.add_sub_cancel_left, Nat.sub_zero]
    rcases Nat.le_total d b with z | z
    · rw [Nat.min_eq_left (Nat.add_le_add_left z h), Nat.add_sub_cancel_left, Nat.add_sub_assoc (Nat.sub_le ..), Nat.sub_sub_self z]
      exact ⟨rfl, rfl, rfl⟩
    · rw [Nat.min_eq_right (Nat.add_le_add_left z h), Nat.add_sub_cancel_left, Nat.sub_self, Nat.sub_eq_zero_of_le z]
      exact ⟨rfl, rfl, rfl⟩
theorem step_pay (s : Gs) (i j a g : Nat) : step i j (a : Int) (cur s) = some (cur (s.pay i j a g)) := by
  have hp : ((0 : Int) ≤ (a : Int)) := by omega
  unfold step
  rw [if_pos hp]
  obtain ⟨e1, e2, e3⟩ := min_parts a (s.hand i) (s.bank i)
  simp only [Int.toNat_natCast, cur, Gs.pay]
  rw [e1, e2, e3]
  congr 2
  funext x y
  rw [chan_append, chan_one]
  unfold rs
  by_cases h : x = i ∧ y = j
  · rw [if_pos h, if_pos h, h.1, h.2]; unfold lets; rw [List.filterMap_append]; rfl
  · rw [if_neg h, if_neg h, List.append_nil]
theorem step_letter (s : Gs) (i j g n : Nat) (r : List (Option Nat)) (h : chan s.post i j = some n :: r) : step i j (-1) (cur s) = some (cur (s.letter i j g n r)) := by
  unfold step
  rw [if_neg (by omega)]
  show (match lets (chan s.post i j) with | [] => none | n :: r => some { cur s with h := fs s.hand j (s.hand j + n), rd := rs (cur s).rd i j r }) = _
  rw [h]
  show some _ = some _
  congr 1
  show St.mk _ _ _ = St.mk _ _ _
  congr 1
  funext x y
  show rs (fun i j => lets (chan s.post i j)) i j (lets r) x y = lets (chan (s.took i j g r).post x y)
  rw [chan_took]
  unfold rs
  by_cases q : x = i ∧ y = j
  · rw [if_pos q, if_pos q]
  · rw [if_neg q, if_neg q]
end
section
variable {h0 b0 : Nat → Nat}
theorem inv_start (h0 b0 : Nat → Nat) : Inv h0 b0 3 (start h0 b0) where
  ex := ⟨⟨h0, b0, fun _ _ => []⟩, rfl, rfl, fun _ _ => ⟨rfl, rfl⟩, fun p hp => absurd hp List.not_mem_nil, fun i j _ => rfl⟩
  late := fun d hd => absurd hd List.not_mem_nil
  us := fun i j _ => ⟨List.not_mem_nil, List.not_mem_nil⟩
  ss := fun i j _ _ _ h => by cases h
  st := fun i j h => absurd h List.not_mem_nil
  ur := fun i j _ _ => rfl
  hs := fun p hp => absurd hp List.not_mem_nil
theorem run_one (e : Bool) (f : Bool) (i j : Nat) (a : Int) (s : St) : run e [(f, i, j, a)] s = if f = e then step i j a s else some s := by
  unfold run
  by_cases h : f = e
  · rw [if_pos h, if_pos h]; cases step i j a s <;> rfl
  · rw [if_neg h, if_neg h]; rfl
theorem actor_pay (i j a : Nat) : actor i j (a : Int) = i := by unfold actor; rw [if_pos (by omega)]
theorem actor_take (i j : Nat) : actor i j (-1) = j := by unfold actor; rw [if_neg (by omega)]
theorem mem_app_one {l : List (Option Nat)} {m : Nat} : none ∈ l ++ [some m] ↔ none ∈ l := by simp
/-- an early deed behind all -/
theorem early {s : Gs} {E E' : St} {i j : Nat} {a : Int} (re : run true s.deeds ⟨h0, b0, fun _ _ => []⟩ = some E) (rf : run false s.deeds E = some (cur s)) (late : ∀ d ∈ s.deeds, d.1 = false → s.seen (actor d.2.1 d.2.2.1 d.2.2.2) = true)
    (un : s.seen (actor i j a) = false) (e : step i j a E = some E') {c : St} (ec : step i j a (cur s) = some c) : run true (s.deeds ++ [(true, i, j, a)]) ⟨h0, b0, fun _ _ => []⟩ = some E' ∧ run false (s.deeds ++ [(true, i, j, a)]) E' = some c := by
  obtain ⟨s2, x, y⟩ := run_comm (fun d hd hf q => by have := late d hd hf; rw [← q, un] at this; cases this) e rf
  rw [ec] at x
  cases x
  refine ⟨?_, ?_⟩
  · rw [run_append, re, Option.bind_some, run_one, if_pos rfl, e]
  · rw [run_append, y, Option.bind_some, run_one, if_neg (by decide)]
/-- a late deed behind all -/
theorem tardy {s : Gs} {E : St} {i j : Nat} {a : Int} (re : run true s.deeds ⟨h0, b0, fun _ _ => []⟩ = some E) (rf : run false s.deeds E = some (cur s)) {c : St} (ec : step i j a (cur s) = some c) :
    run true (s.deeds ++ [(false, i, j, a)]) ⟨h0, b0, fun _ _ => []⟩ = some E ∧ run false (s.deeds ++ [(false, i, j, a)]) E = some c := by
  refine ⟨?_, ?_⟩
  · rw [run_append, re, Option.bind_some, run_one, if_neg (by decide)]
  · rw [run_append, rf, Option.bind_some, run_one, if_pos rfl, ec]
theorem pay_deeds (s : Gs) (i j a g : Nat) : (s.pay i j a g).deeds = s.deeds ++ [(!s.seen i, i, j, (a : Int))] := rfl
theorem inv_pay {s : Gs} {i j a g : Nat} (I : Inv h0 b0 3 s) (hi : i < 3) (hj : j < 3) (hij : i ≠ j) : Inv h0 b0 3 (s.pay i j a g) := by
  obtain ⟨⟨E, re, rf, un, ho, rd⟩, late, us, ss, st, ur, hs⟩ := I
  have ch : ∀ x y, chan (s.pay i j a g).post x y = chan s.post x y ++ if x = i ∧ y = j then [some (s.hand i + s.bank i - (s.hand i - a) - (s.bank i - (a - s.hand i)))] else [] := fun x y => by
    show chan (s.post ++ _) x y = _
    rw [chan_append, chan_one]
  have nn : ∀ x y, none ∈ chan (s.pay i j a g).post x y ↔ none ∈ chan s.post x y := fun x y => by
    rw [ch]
    by_cases q : x = i ∧ y = j
    · rw [if_pos q]; exact mem_app_one
    · rw [if_neg q, List.append_nil]
  have sp := step_pay s i j a g
  refine ⟨?_, ?_, fun x y hx => ⟨fun z => (us x y hx).1 ((nn x y).mp z), (us x y hx).2⟩, fun x y h1 h2 h3 h4 h5 => (nn x y).mpr (ss x y h1 h2 h3 h4 h5), st, ur, hs⟩
  · cases hs' : s.seen i with
    | true =>
      obtain ⟨r1, r2⟩ := tardy re rf sp
      have hd : (s.pay i j a g).deeds = s.deeds ++ [(false, i, j, (a : Int))] := by rw [pay_deeds, hs']; rfl
      refine ⟨E, by rw [hd]; exact r1, by rw [hd]; exact r2, fun k hk => ?_, ho, fun x y hy => ?_⟩
      · have q : k ≠ i := fun q => by have hk : s.seen k = false := hk; rw [q, hs'] at hk; cases hk
        show E.h k = fs s.hand i _ k ∧ E.b k = fs s.bank i _ k
        rw [fs_ne q, fs_ne q]; exact un k hk
      · show E.rd x y = recd s.pic x y ++ if (x, y) ∈ s.stars then [] else pre (chan (s.pay i j a g).post x y)
        rw [rd x y hy]
        congr 1
        by_cases q : (x, y) ∈ s.stars
        · rw [if_pos q, if_pos q]
        · rw [if_neg q, if_neg q, ch]
          by_cases z : x = i ∧ y = j
          · rw [if_pos z, pre_some]
            obtain ⟨rfl, rfl⟩ := z
            rw [if_pos (ss x y hi hj hij hs' q)]
          · rw [if_neg z, List.append_nil]
    | false =>
      obtain ⟨u1, u2⟩ := un i hs'
      have hp : ((0 : Int) ≤ (a : Int)) := by omega
      have hd : (s.pay i j a g).deeds = s.deeds ++ [(true, i, j, (a : Int))] := by rw [pay_deeds, hs']; rfl
      have eE : step i j (a : Int) E = some ⟨fs E.h i (s.hand i - a), fs E.b i (s.bank i - (a - s.hand i)), rs E.rd i j (E.rd i j ++ [s.hand i + s.bank i - (s.hand i - a) - (s.bank i - (a - s.hand i))])⟩ := by
        unfold step
        rw [if_pos hp]
        obtain ⟨e1, e2, e3⟩ := min_parts a (s.hand i) (s.bank i)
        simp only [Int.toNat_natCast, u1, u2]
        rw [e1, e2, e3]
      obtain ⟨r1, r2⟩ := early re rf late (by rw [actor_pay]; exact hs') eE sp
      refine ⟨_, by rw [hd]; exact r1, by rw [hd]; exact r2, fun k hk => ?_, fun p hp h3 => ?_, fun x y hy => ?_⟩
      · show fs E.h i _ k = fs s.hand i _ k ∧ fs E.b i _ k = fs s.bank i _ k
        by_cases q : k = i
        · subst q; rw [fs_self, fs_self, fs_self, fs_self]; exact ⟨rfl, rfl⟩
        · rw [fs_ne q, fs_ne q, fs_ne q, fs_ne q]; exact un k hk
      · have q : p.i ≠ i := fun q => by have := hs p hp h3; rw [q, hs'] at this; cases this
        show fs E.h i _ p.i = p.x ∧ fs E.b i _ p.i = p.y
        rw [fs_ne q, fs_ne q]; exact ho p hp h3
      · show rs E.rd i j _ x y = recd s.pic x y ++ if (x, y) ∈ s.stars then [] else pre (chan (s.pay i j a g).post x y)
        by_cases z : x = i ∧ y = j
        · obtain ⟨rfl, rfl⟩ := z
          rw [rs_self, rd x y hy, if_neg (us x y hs').2, if_neg (us x y hs').2, ch, if_pos ⟨rfl, rfl⟩, pre_some, if_neg (us x y hs').1, List.append_assoc]
        · rw [rs_ne z, rd x y hy, ch, if_neg z, List.append_nil]
  · intro d hd hf
    rw [pay_deeds] at hd
    rcases List.mem_append.mp hd with h | h
    · exact late d h hf
    · rw [List.mem_singleton.mp h] at hf ⊢
      show s.seen (actor i j (a : Int)) = true
      rw [actor_pay]
      have hf : (!s.seen i) = false := hf
      simpa using hf
theorem chan_picture (s : Gs) (k g x y : Nat) : chan (s.picture k g).post x y = chan s.post x y ++ ((if x = k ∧ y = (k + 1) % 3 then [none] else []) ++ (if x = k ∧ y = (k + 2) % 3 then [none] else [])) := by
  show chan (s.post ++ [(k, (k + 1) % 3, g, none), (k, (k + 2) % 3, g, none)]) x y = _
  rw [chan_append, show [(k, (k + 1) % 3, g, none), (k, (k + 2) % 3, g, (none : Option Nat))] = [(k, (k + 1) % 3, g, none)] ++ [(k, (k + 2) % 3, g, none)] from rfl, chan_append, chan_one, chan_one]
theorem pre_nones {l : List (Option Nat)} : ∀ m : List (Option Nat), (∀ o ∈ m, o = none) → pre (l ++ m) = pre l
  | [], _ => by rw [List.append_nil]
  | o :: m, h => by
    have e := h o List.mem_cons_self
    subst e
    clear h
    induction l with
    | nil => rfl
    | cons a l ih => cases a with
      | none => rfl
      | some n => rw [List.cons_append, pre, pre, ih]
theorem lets_nones (l : List (Option Nat)) : ∀ m : List (Option Nat), (∀ o ∈ m, o = none) → lets (l ++ m) = lets l := fun m h => by
  unfold lets
  rw [List.filterMap_append]
  have : m.filterMap id = [] := List.filterMap_eq_nil_iff.mpr fun o ho => by rw [h o ho]; rfl
  rw [this, List.append_nil]
theorem two_nones (c d : Prop) [Decidable c] [Decidable d] : ∀ o ∈ ((if c then [none] else []) ++ (if d then [none] else []) : List (Option Nat)), o = none := by
  intro o ho
  rcases List.mem_append.mp ho with h | h
  · split at h
    · simpa using h
    · cases h
  · split at h
    · simpa using h
    · cases h
theorem inv_picture {s : Gs} {x k g : Nat} (I : Inv h0 b0 x s) (hk : k < 3) (hu : s.seen k = false) (hx : x = 3 ∨ x = k) : Inv h0 b0 3 (s.picture k g) := by
  obtain ⟨⟨E, re, rf, un, ho, rd⟩, late, us, ss, st, ur, hs⟩ := I
  have un' : ∀ m, (s.picture k g).seen m = false → s.seen m = false ∧ m ≠ k := fun m hm => by
    have hm : fs s.seen k true m = false := hm
    by_cases q : m = k
    · rw [q, fs_self] at hm; cases hm
    · rw [fs_ne q] at hm; exact ⟨hm, q⟩
  have up : ∀ m, s.seen m = true → (s.picture k g).seen m = true := fun m hm => by
    show fs s.seen k true m = true
    by_cases q : m = k
    · rw [q, fs_self]
    · rw [fs_ne q]; exact hm
  have ck : (s.picture k g).seen k = true := by show fs s.seen k true k = true; rw [fs_self]
  have ec : cur (s.picture k g) = cur s := by
    show St.mk _ _ _ = St.mk _ _ _
    congr 1
    funext a b
    rw [chan_picture]; exact lets_nones _ _ (two_nones _ _)
  refine ⟨⟨E, re, by rw [ec]; exact rf, fun m hm => un m (un' m hm).1, fun p hp h3 => ?_, fun a b hb => ?_⟩, fun d hd hf => up _ (late d hd hf), fun a b ha => ?_, fun a b h1 h2 h3 h4 h5 => ?_, fun a b hab => ?_, fun a b hb h3 => ?_, fun p hp h3 => ?_⟩
  · have hp : p ∈ s.pic ++ [⟨k, 3, g, s.hand k, s.bank k⟩] := hp
    rcases List.mem_append.mp hp with h | h
    · exact ho p h h3
    · rw [List.mem_singleton.mp h]; exact un k hu
  · show E.rd a b = recd (s.pic ++ [⟨k, 3, g, s.hand k, s.bank k⟩]) a b ++ if (a, b) ∈ s.stars then [] else pre (chan (s.picture k g).post a b)
    rw [recd_append, recd_one, if_neg (fun z => hb z.2), List.append_nil, rd a b hb, chan_picture, pre_nones _ (two_nones _ _)]
  · obtain ⟨h1, h2⟩ := un' a ha
    rw [chan_picture, if_neg (fun z => h2 z.1), if_neg (fun z => h2 z.1), List.append_nil, List.append_nil]
    exact us a b h1
  · have h5 : (a, b) ∉ s.stars := h5
    rw [chan_picture]
    by_cases q : a = k
    · subst q
      by_cases z : b = (a + 1) % 3
      · rw [if_pos ⟨rfl, z⟩]; simp
      · rw [if_neg (fun w => z w.2), if_pos ⟨rfl, by omega⟩]; simp
    · have h4 : fs s.seen k true a = true := h4
      rw [fs_ne q] at h4
      exact List.mem_append_left _ (ss a b h1 h2 h3 h4 h5)
  · obtain ⟨h1, h2⟩ := st a b hab
    refine ⟨h1, ?_⟩
    rcases h2 with h | h
    · exact .inl (up b h)
    · rcases hx with q | q
      · omega
      · rw [h, q]; exact .inl ck
  · show recd (s.pic ++ [⟨k, 3, g, s.hand k, s.bank k⟩]) a b = []
    rw [recd_append, recd_one, if_neg (fun z => h3 z.2), List.append_nil]
    exact ur a b (un' b hb).1 h3
  · have hp : p ∈ s.pic ++ [⟨k, 3, g, s.hand k, s.bank k⟩] := hp
    rcases List.mem_append.mp hp with h | h
    · exact up _ (hs p h h3)
    · rw [List.mem_singleton.mp h]; exact ck
theorem inv_star {s : Gs} {i j g x : Nat} {r : List (Option Nat)} (I : Inv h0 b0 3 s) (hj : j < 3) (h : chan s.post i j = none :: r) (hx : s.seen j = true ∨ x = j) : Inv h0 b0 x (s.star i j g r) := by
  obtain ⟨⟨E, re, rf, un, ho, rd⟩, late, us, ss, st, ur, hs⟩ := I
  have ch : ∀ a b, chan (s.star i j g r).post a b = if a = i ∧ b = j then r else chan s.post a b := chan_took s i j g r
  have ec : cur (s.star i j g r) = cur s := by
    show St.mk _ _ _ = St.mk _ _ _
    congr 1
    funext a b
    rw [ch]
    by_cases q : a = i ∧ b = j
    · rw [if_pos q, q.1, q.2, h]; rfl
    · rw [if_neg q]
  have ms : ∀ a b, (a, b) ∈ (s.star i j g r).stars ↔ (a, b) ∈ s.stars ∨ (a = i ∧ b = j) := fun a b => by
    show (a, b) ∈ s.stars ++ [(i, j)] ↔ _
    rw [List.mem_append, List.mem_singleton, Prod.mk.injEq]
  have si : s.seen i = true := by
    cases q : s.seen i with
    | true => rfl
    | false => exact absurd (by rw [h]; exact List.mem_cons_self) (us i j q).1
  refine ⟨⟨E, re, by rw [ec]; exact rf, un, ho, fun a b hb => ?_⟩, late, fun a b ha => ?_, fun a b h1 h2 h3 h4 h5 => ?_, fun a b hab => ?_, ur, hs⟩
  · show E.rd a b = recd s.pic a b ++ _
    rw [rd a b hb]
    congr 1
    by_cases q : a = i ∧ b = j
    · obtain ⟨rfl, rfl⟩ := q
      rw [if_pos ((ms a b).mpr (.inr ⟨rfl, rfl⟩))]
      by_cases z : (a, b) ∈ s.stars
      · rw [if_pos z]
      · rw [if_neg z, h]; rfl
    · by_cases z : (a, b) ∈ s.stars
      · rw [if_pos z, if_pos ((ms a b).mpr (.inl z))]
      · rw [if_neg z, if_neg (fun w => ((ms a b).mp w).elim z q), ch, if_neg q]
  · have q : a ≠ i := fun q => by have ha : s.seen a = false := ha; rw [q, si] at ha; cases ha
    rw [ch, if_neg (fun z => q z.1)]
    exact ⟨(us a b ha).1, fun w => ((ms a b).mp w).elim (us a b ha).2 fun z => q z.1⟩
  · have q : ¬ (a = i ∧ b = j) := fun q => h5 ((ms a b).mpr (.inr q))
    rw [ch, if_neg q]
    exact ss a b h1 h2 h3 h4 fun w => h5 ((ms a b).mpr (.inl w))
  · rcases (ms a b).mp hab with w | w
    · obtain ⟨z1, z2⟩ := st a b w
      exact ⟨z1, .inl (z2.elim id fun z => by omega)⟩
    · rw [w.2]; exact ⟨hj, hx.imp id fun z => z.symm⟩
theorem inv_letter {s : Gs} {i j g n : Nat} {r : List (Option Nat)} (I : Inv h0 b0 3 s) (hj : j < 3) (hi : i < 3) (hij : i ≠ j) (h : chan s.post i j = some n :: r) : Inv h0 b0 3 (s.letter i j g n r) := by
  obtain ⟨⟨E, re, rf, un, ho, rd⟩, late, us, ss, st, ur, hs⟩ := I
  have ch : ∀ a b, chan (s.letter i j g n r).post a b = if a = i ∧ b = j then r else chan s.post a b := chan_took s i j g r
  have nn : ∀ a b, none ∈ chan (s.letter i j g n r).post a b ↔ none ∈ chan s.post a b := fun a b => by
    rw [ch]
    by_cases q : a = i ∧ b = j
    · rw [if_pos q, q.1, q.2, h]; simp
    · rw [if_neg q]
  have sp := step_letter s i j g n r h
  have hd : (s.letter i j g n r).deeds = s.deeds ++ [(!s.seen j, i, j, -1)] := rfl
  have hpic : (s.letter i j g n r).pic = if s.seen j && !s.stars.contains (i, j) then s.pic ++ [⟨i, j, g, n, 0⟩] else s.pic := rfl
  have late' : ∀ d ∈ (s.letter i j g n r).deeds, d.1 = false → s.seen (actor d.2.1 d.2.2.1 d.2.2.2) = true := fun d hd' hf => by
    rw [hd] at hd'
    rcases List.mem_append.mp hd' with w | w
    · exact late d w hf
    · rw [List.mem_singleton.mp w] at hf ⊢
      show s.seen (actor i j (-1)) = true
      rw [actor_take]
      have hf : (!s.seen j) = false := hf
      simpa using hf
  have us' : ∀ a b, s.seen a = false → none ∉ chan (s.letter i j g n r).post a b ∧ (a, b) ∉ s.stars := fun a b ha => ⟨fun z => (us a b ha).1 ((nn a b).mp z), (us a b ha).2⟩
  have ss' : ∀ a b, a < 3 → b < 3 → a ≠ b → s.seen a = true → (a, b) ∉ s.stars → none ∈ chan (s.letter i j g n r).post a b := fun a b h1 h2 h3 h4 h5 => (nn a b).mpr (ss a b h1 h2 h3 h4 h5)
  cases hs' : s.seen j with
  | false =>
    have hp : (s.letter i j g n r).pic = s.pic := by rw [hpic, hs']; rfl
    have hns : (i, j) ∉ s.stars := fun w => by
      obtain ⟨z1, z2⟩ := st i j w
      rcases z2 with z | z
      · rw [hs'] at z; cases z
      · omega
    have hrd : E.rd i j = n :: pre r := by rw [rd i j (by omega), ur i j hs' (by omega), if_neg hns, h]; rfl
    have eE : step i j (-1) E = some ⟨fs E.h j (E.h j + n), E.b, rs E.rd i j (pre r)⟩ := by
      unfold step; rw [if_neg (by omega), hrd]
    have hd : (s.letter i j g n r).deeds = s.deeds ++ [(true, i, j, -1)] := by rw [hd, hs']; rfl
    obtain ⟨r1, r2⟩ := early re rf late (by rw [actor_take]; exact hs') eE sp
    refine ⟨⟨_, by rw [hd]; exact r1, by rw [hd]; exact r2, fun k hk => ?_, fun p hp' h3 => ?_, fun a b hb => ?_⟩, late', us', ss', st, fun a b hb h3 => by rw [hp]; exact ur a b hb h3, fun p hp' h3 => hs p (by rw [hp] at hp'; exact hp') h3⟩
    · show fs E.h j _ k = fs s.hand j _ k ∧ E.b k = s.bank k
      by_cases q : k = j
      · subst q; rw [fs_self, fs_self, (un k hs').1]; exact ⟨rfl, (un k hs').2⟩
      · rw [fs_ne q, fs_ne q]; exact un k hk
    · rw [hp] at hp'
      have q : p.i ≠ j := fun q => by have := hs p hp' h3; rw [q, hs'] at this; cases this
      show fs E.h j _ p.i = p.x ∧ E.b p.i = p.y
      rw [fs_ne q]; exact ho p hp' h3
    · show rs E.rd i j _ a b = recd (s.letter i j g n r).pic a b ++ if (a, b) ∈ s.stars then [] else pre (chan (s.letter i j g n r).post a b)
      rw [hp, ch]
      by_cases q : a = i ∧ b = j
      · obtain ⟨rfl, rfl⟩ := q
        rw [rs_self, if_neg hns, if_pos ⟨rfl, rfl⟩, ur a b hs' hb]; rfl
      · rw [rs_ne q, rd a b hb, if_neg q]
  | true =>
    have hd : (s.letter i j g n r).deeds = s.deeds ++ [(false, i, j, -1)] := by rw [hd, hs']; rfl
    obtain ⟨r1, r2⟩ := tardy re rf sp
    have hp : ∀ p ∈ (s.letter i j g n r).pic, p.j = 3 → p ∈ s.pic := fun p hp' h3 => by
      rw [hpic] at hp'
      split at hp'
      · rcases List.mem_append.mp hp' with w | w
        · exact w
        · rw [List.mem_singleton.mp w] at h3; have h3 : j = 3 := h3; omega
      · exact hp'
    have hrec : ∀ a b, recd (s.letter i j g n r).pic a b = recd s.pic a b ++ if (a = i ∧ b = j) ∧ (i, j) ∉ s.stars then [n] else [] := fun a b => by
      rw [hpic, hs']
      by_cases w : (i, j) ∈ s.stars
      · rw [if_neg (by simp [w]), if_neg (fun z => z.2 w), List.append_nil]
      · rw [if_pos (by simp [w]), recd_append, recd_one]
        by_cases q : a = i ∧ b = j
        · rw [if_pos q, if_pos ⟨q, w⟩]
        · rw [if_neg q, if_neg (fun z => q z.1)]
    refine ⟨⟨E, by rw [hd]; exact r1, by rw [hd]; exact r2, fun k hk => ?_, fun p hp' h3 => ho p (hp p hp' h3) h3, fun a b hb => ?_⟩, late', us', ss', st, fun a b hb h3 => ?_, fun p hp' h3 => hs p (hp p hp' h3) h3⟩
    · have q : k ≠ j := fun q => by have hk : s.seen k = false := hk; rw [q, hs'] at hk; cases hk
      show E.h k = fs s.hand j _ k ∧ E.b k = s.bank k
      rw [fs_ne q]; exact un k hk
    · show E.rd a b = recd (s.letter i j g n r).pic a b ++ if (a, b) ∈ s.stars then [] else pre (chan (s.letter i j g n r).post a b)
      rw [hrec, ch, rd a b hb]
      by_cases q : a = i ∧ b = j
      · obtain ⟨rfl, rfl⟩ := q
        by_cases w : (a, b) ∈ s.stars
        · rw [if_pos w, if_pos w, if_neg (fun z => z.2 w)]; simp
        · rw [if_neg w, if_neg w, if_pos ⟨⟨rfl, rfl⟩, w⟩, if_pos ⟨rfl, rfl⟩, h, List.append_assoc]; rfl
      · rw [if_neg (c := (a = i ∧ b = j) ∧ _) (fun z => q z.1), if_neg (c := a = i ∧ b = j) q, List.append_nil]
    · have q : ¬ (a = i ∧ b = j) := fun q => by have hb : s.seen b = false := hb; rw [q.2, hs'] at hb; cases hb
      rw [hrec, if_neg (fun z => q z.1), List.append_nil]
      exact ur a b hb h3
theorem inv_give {s : Gs} {i j g : Nat} (I : Inv h0 b0 3 s) (hi : i < 3) (hj : j < 3) (hij : i ≠ j) : Inv h0 b0 3 (s.give i j g) := by
  unfold Gs.give
  split
  · exact I
  · rename_i r h
    cases hs' : s.seen j with
    | true => exact inv_star I hj h (.inl hs')
    | false => exact inv_picture (x := j) (inv_star I hj h (.inr rfl)) hj hs' (.inr rfl)
  · rename_i n r h
    exact inv_letter I hj hi hij h
end
section
noncomputable def val1 (o : Option Nat) : Nat := o.getD 0
noncomputable def wt (p : List Item) : Nat := (p.map fun x => val1 x.2.2.2).sum
noncomputable def sum3 (f : Nat → Nat) : Nat := f 0 + f 1 + f 2
noncomputable def tot (s : Gs) : Nat := sum3 s.hand + sum3 s.bank + wt s.post
theorem three {i : Nat} (h : i < 3) : i = 0 ∨ i = 1 ∨ i = 2 := by
  rcases Nat.lt_succ_iff_lt_or_eq.mp h with h | h
  · rcases Nat.lt_succ_iff_lt_or_eq.mp h with h | h
    · exact .inl (Nat.lt_one_iff.mp h)
    · exact .inr (.inl h)
  · exact .inr (.inr h)
theorem sum3_fs (f : Nat → Nat) {i : Nat} (h : i < 3) (v : Nat) : sum3 (fs f i v) + f i = sum3 f + v := by
  obtain rfl | rfl | rfl : i = 0 ∨ i = 1 ∨ i = 2 := three h
  · show v + f 1 + f 2 + f 0 = f 0 + f 1 + f 2 + v
    clear h; omega
  · show f 0 + v + f 2 + f 1 = f 0 + f 1 + f 2 + v
    clear h; omega
  · show f 0 + f 1 + v + f 2 = f 0 + f 1 + f 2 + v
    exact Nat.add_right_comm ..
theorem len1 {α : Type} {l : List α} {x : α} {N : Nat} (h : l.length ≤ N) : (l ++ [x]).length ≤ N + 1 := by rw [List.length_append]; exact Nat.add_le_add_right h 1
theorem len2 {α : Type} {l : List α} {x y : α} {N : Nat} (h : l.length ≤ N) : (l ++ [x, y]).length ≤ N + 2 := by rw [List.length_append]; exact Nat.add_le_add_right h 2
theorem paid (h b a : Nat) : (h - a) + (b - (a - h)) + (h + b - (h - a) - (b - (a - h))) = h + b := by
  rw [Nat.sub_sub (h + b)]
  exact Nat.add_sub_of_le (Nat.add_le_add (Nat.sub_le ..) (Nat.sub_le ..))
theorem paid_tot {S S' T T' W x y p h b : Nat} (e1 : S' + h = S + x) (e2 : T' + b = T + y) (e3 : x + y + p = h + b) (l : S + T + W ≤ 15) : S' + T' + (W + p) ≤ 15 := by omega
theorem wt_append (p q : List Item) : wt (p ++ q) = wt p + wt q := by unfold wt; rw [List.map_append, List.sum_append]
theorem wt_items (r : List (Option Nat)) (i j g : Nat) : wt (r.map fun o => (i, j, g, o)) = (r.map val1).sum := by unfold wt; rw [List.map_map]; rfl
theorem wt_parts (p : List Item) (i j : Nat) : wt p = wt (others p i j) + ((chan p i j).map val1).sum := by
  induction p with
  | nil => rfl
  | cons x p ih =>
    unfold wt others chan at *
    rw [List.filter_cons, List.filter_cons]
    cases h : onRoad i j x with
    | true =>
      rw [if_neg (by decide), if_pos rfl, List.map_cons, List.sum_cons, List.map_cons, List.map_cons, List.sum_cons, ih]
      exact Nat.add_left_comm ..
    | false =>
      rw [if_pos (by decide), if_neg Bool.false_ne_true, List.map_cons, List.sum_cons, List.map_cons, List.sum_cons, ih]
      exact (Nat.add_assoc ..).symm
theorem len_parts (p : List Item) (i j : Nat) : p.length = (others p i j).length + (chan p i j).length := by
  induction p with
  | nil => rfl
  | cons x p ih =>
    unfold others chan at *
    rw [List.filter_cons, List.filter_cons]
    cases h : onRoad i j x with
    | true =>
      rw [if_neg (by decide), if_pos rfl, List.length_cons, List.map_cons, List.length_cons, ih]; rfl
    | false =>
      rw [if_pos (by decide), if_neg Bool.false_ne_true, List.length_cons, List.length_cons, ih]
      exact Nat.add_right_comm ..
theorem wt_mem {p : List Item} {x : Item} (h : x ∈ p) : val1 x.2.2.2 ≤ wt p := by
  induction p with
  | nil => cases h
  | cons y p ih =>
    unfold wt at *
    rw [List.map_cons, List.sum_cons]
    rcases List.mem_cons.mp h with rfl | h
    · exact Nat.le_add_right ..
    · exact Nat.le_trans (ih h) (Nat.le_add_left ..)
theorem awk (f : Nat → Bool) : ((List.range 3).filter f).length = (f 0).toNat + (f 1).toNat + (f 2).toNat := by
  show ([0, 1, 2].filter f).length = _
  rw [List.filter_cons, List.filter_cons, List.filter_cons]
  generalize f 0 = a
  generalize f 1 = b
  generalize f 2 = c
  cases a <;> cases b <;> cases c <;> rfl
theorem awk_fs (f : Nat → Bool) {k : Nat} (hk : k < 3) (h : f k = false) : ((List.range 3).filter (fs f k true)).length = ((List.range 3).filter f).length + 1 := by
  rw [awk, awk]
  obtain rfl | rfl | rfl := three hk
  · show true.toNat + (f 1).toNat + (f 2).toNat = (f 0).toNat + (f 1).toNat + (f 2).toNat + 1
    rw [h]
    show 1 + (f 1).toNat + (f 2).toNat = 0 + (f 1).toNat + (f 2).toNat + 1
    rw [Nat.zero_add, Nat.add_assoc, Nat.add_comm 1]
  · show (f 0).toNat + true.toNat + (f 2).toNat = (f 0).toNat + (f 1).toNat + (f 2).toNat + 1
    rw [h]
    exact Nat.add_right_comm (f 0).toNat 1 (f 2).toNat
  · show (f 0).toNat + (f 1).toNat + true.toNat = (f 0).toNat + (f 1).toNat + (f 2).toNat + 1
    rw [h]; rfl
theorem mem_reorder {l : List (Nat × Nat)} {k g : Nat} {o : Nat × Nat} : o ∈ reorder l k g ↔ (o ∈ l ∧ o.1 ≠ k) ∨ o = (k, g) := by
  unfold reorder
  rw [List.mem_append, List.mem_filter, List.mem_singleton]
  rw [bne_iff_ne, ne_eq, Int.ofNat_inj]
theorem len_reorder (l : List (Nat × Nat)) (k g : Nat) : (reorder l k g).length ≤ l.length + 1 := by
  exact len1 (List.length_filter_le _ l)
structure Ok (N : Nat) (s : Gs) : Prop where
  post : ∀ x ∈ s.post, x.1 < 3 ∧ x.2.1 < 3 ∧ x.1 ≠ x.2.1 ∧ x.2.2.1 < 2
  order : ∀ o ∈ s.order, o.1 < 3 ∧ o.2 < 2
  all : ∀ k < 3, ∃ g, (k, g) ∈ s.order
  tot : tot s ≤ 15
  nPost : s.post.length ≤ N
  nPic : s.pic.length ≤ N
  nOrder : s.order.length ≤ N
  nStars : s.stars.length ≤ N
  nDeeds : s.deeds.length ≤ N
  pic : ∀ p ∈ s.pic, p.i < 3 ∧ p.j < 4 ∧ p.g < 2 ∧ p.x < 16 ∧ p.y < 16
  deeds : ∀ d ∈ s.deeds, d.2.1 < 3 ∧ d.2.2.1 < 3
  count : Count s
theorem Ok.mono {N M : Nat} {s : Gs} (o : Ok N s) (h : N ≤ M) : Ok M s :=
  ⟨o.post, o.order, o.all, o.tot, Nat.le_trans o.nPost h, Nat.le_trans o.nPic h, Nat.le_trans o.nOrder h, Nat.le_trans o.nStars h, Nat.le_trans o.nDeeds h, o.pic, o.deeds, o.count⟩
theorem Ok.hand {N : Nat} {s : Gs} (o : Ok N s) {k : Nat} (h : k < 3) : s.hand k + s.bank k ≤ 15 := by
  have le : ∀ f : Nat → Nat, f k ≤ sum3 f := fun f => by
    unfold sum3
    obtain rfl | rfl | rfl := three h
    · rw [Nat.add_assoc]; exact Nat.le_add_right ..
    · rw [Nat.add_right_comm]; exact Nat.le_add_left ..
    · exact Nat.le_add_left ..
  exact Nat.le_trans (Nat.add_le_add (le _) (le _)) (Nat.le_trans (Nat.le_add_right ..) o.tot)
theorem ok_reorder {l : List (Nat × Nat)} {k g : Nat} (h1 : ∀ o ∈ l, o.1 < 3 ∧ o.2 < 2) (h2 : ∀ k < 3, ∃ g, (k, g) ∈ l) (hk : k < 3) (hg : g < 2) : (∀ o ∈ reorder l k g, o.1 < 3 ∧ o.2 < 2) ∧ ∀ m < 3, ∃ g', (m, g') ∈ reorder l k g := by
  refine ⟨fun o ho => ?_, fun m hm => ?_⟩
  · rcases mem_reorder.mp ho with h | h
    · exact h1 o h.1
    · rw [h]; exact ⟨hk, hg⟩
  · by_cases q : m = k
    · exact ⟨g, mem_reorder.mpr (.inr (by rw [q]))⟩
    · obtain ⟨g', h⟩ := h2 m hm
      exact ⟨g', mem_reorder.mpr (.inl ⟨h, q⟩)⟩
theorem ok_pay {N : Nat} {s : Gs} {i j a g : Nat} (o : Ok N s) (hi : i < 3) (hj : j < 3) (hij : i ≠ j) (hg : g < 2) : Ok (N + 1) (s.pay i j a g) := by
  have hr := ok_reorder o.order o.all hi hg
  refine ⟨fun x hx => ?_, hr.1, hr.2, ?_, ?_, Nat.le_succ_of_le o.nPic, ?_, Nat.le_succ_of_le o.nStars, ?_, o.pic, fun d hd => ?_, ?_⟩
  · have hx : x ∈ s.post ++ [(i, j, g, _)] := hx
    rcases List.mem_append.mp hx with h | h
    · exact o.post x h
    · rw [List.mem_singleton.mp h]; exact ⟨hi, hj, hij, hg⟩
  · have ht := o.tot
    unfold tot at ht ⊢
    show sum3 (fs s.hand i (s.hand i - a)) + sum3 (fs s.bank i (s.bank i - (a - s.hand i))) + wt (s.post ++ [(i, j, g, some (s.hand i + s.bank i - (s.hand i - a) - (s.bank i - (a - s.hand i))))]) ≤ 15
    rw [wt_append]
    show _ + _ + (wt s.post + (_ + 0)) ≤ 15
    exact paid_tot (sum3_fs s.hand hi (s.hand i - a)) (sum3_fs s.bank hi (s.bank i - (a - s.hand i))) (paid ..) ht
  · show (s.post ++ [_]).length ≤ _
    exact len1 o.nPost
  · exact Nat.le_trans (len_reorder ..) (Nat.succ_le_succ o.nOrder)
  · show (s.deeds ++ [_]).length ≤ _
    exact len1 o.nDeeds
  · rw [pay_deeds] at hd
    rcases List.mem_append.mp hd with h | h
    · exact o.deeds d h
    · rw [List.mem_singleton.mp h]; exact ⟨hi, hj⟩
  · have hc := o.count
    unfold Count grown taken awake at hc ⊢
    rw [pay_deeds, List.filter_append, List.filter_append]
    show (s.post ++ [_]).length + _ + s.stars.length = _ + 2 * ((List.range 3).filter s.seen).length
    have e1 : [((!s.seen i, i, j, (a : Int)) : Deed)].filter (fun d => d.2.2.2 == -1) = [] := by
      rw [List.filter_cons, if_neg]; rfl
      simp
    have e2 : ([((!s.seen i, i, j, (a : Int)) : Deed)].filter fun d => decide (d.2.2.2 ≥ 0)) = [(!s.seen i, i, j, (a : Int))] := by
      rw [List.filter_cons, if_pos]; rfl
      simp
    rw [e1, e2, List.length_append, List.length_append, List.length_append]
    simp only [List.length_cons, List.length_nil]
    omega
theorem turn1 {k : Nat} (hk : k < 3) : k ≠ (k + 1) % 3 := by obtain rfl | rfl | rfl := three hk <;> decide
theorem turn2 {k : Nat} (hk : k < 3) : k ≠ (k + 2) % 3 := by obtain rfl | rfl | rfl := three hk <;> decide
theorem ok_picture {N : Nat} {s : Gs} {k g : Nat} (o : Ok N s) (hk : k < 3) (hg : g < 2) (hu : s.seen k = false) : Ok (N + 2) (s.picture k g) := by
  refine ⟨fun x hx => ?_, o.order, o.all, ?_, ?_, ?_, Nat.le_succ_of_le (Nat.le_succ_of_le o.nOrder), Nat.le_succ_of_le (Nat.le_succ_of_le o.nStars), Nat.le_succ_of_le (Nat.le_succ_of_le o.nDeeds), fun p hp => ?_, o.deeds, ?_⟩
  · have hx : x ∈ s.post ++ [(k, (k + 1) % 3, g, none), (k, (k + 2) % 3, g, none)] := hx
    rcases List.mem_append.mp hx with h | h
    · exact o.post x h
    · rcases List.mem_cons.mp h with h | h
      · rw [h]; exact ⟨hk, Nat.mod_lt _ (by decide), turn1 hk, hg⟩
      · rw [List.mem_singleton.mp h]; exact ⟨hk, Nat.mod_lt _ (by decide), turn2 hk, hg⟩
  · have ht := o.tot
    unfold tot at ht ⊢
    show sum3 s.hand + sum3 s.bank + wt (s.post ++ [(k, (k + 1) % 3, g, none), (k, (k + 2) % 3, g, none)]) ≤ 15
    rw [wt_append]
    exact ht
  · show (s.post ++ [_, _]).length ≤ _
    exact len2 o.nPost
  · exact Nat.le_succ_of_le (len1 o.nPic)
  · have hp : p ∈ s.pic ++ [⟨k, 3, g, s.hand k, s.bank k⟩] := hp
    rcases List.mem_append.mp hp with h | h
    · exact o.pic p h
    · have := o.hand hk
      rw [List.mem_singleton.mp h]; exact ⟨hk, Nat.lt_succ_self 3, hg, Nat.lt_succ_of_le (Nat.le_trans (Nat.le_add_right ..) this), Nat.lt_succ_of_le (Nat.le_trans (Nat.le_add_left ..) this)⟩
  · have hc := o.count
    unfold Count grown taken awake at hc ⊢
    show (s.post ++ [_, _]).length + _ + s.stars.length = _ + 2 * ((List.range 3).filter (fs s.seen k true)).length
    rw [awk_fs s.seen hk hu, List.length_append]
    simp only [List.length_cons, List.length_nil]
    show _ + (s.deeds.filter _).length + _ = (s.deeds.filter _).length + _
    omega
theorem took_post {N : Nat} {s : Gs} {i j g : Nat} {r : List (Option Nat)} (o : Ok N s) (hi : i < 3) (hj : j < 3) (hij : i ≠ j) (hg : g < 2) : ∀ x ∈ (s.took i j g r).post, x.1 < 3 ∧ x.2.1 < 3 ∧ x.1 ≠ x.2.1 ∧ x.2.2.1 < 2 := by
  intro x hx
  have hx : x ∈ others s.post i j ++ (r.map fun o => (i, j, g, o)) := hx
  rcases List.mem_append.mp hx with h | h
  · exact o.post x (List.mem_filter.mp h).1
  · obtain ⟨y, _, rfl⟩ := List.mem_map.mp h
    exact ⟨hi, hj, hij, hg⟩
theorem took_len {s : Gs} {i j g : Nat} {c : Option Nat} {r : List (Option Nat)} (h : chan s.post i j = c :: r) : (s.took i j g r).post.length + 1 = s.post.length ∧ wt (s.took i j g r).post + val1 c = wt s.post := by
  have e1 := len_parts s.post i j
  have e2 := wt_parts s.post i j
  rw [h] at e1 e2
  refine ⟨?_, ?_⟩
  · show (others s.post i j ++ (r.map fun o => (i, j, g, o))).length + 1 = _
    rw [List.length_append, List.length_map, e1, List.length_cons, Nat.add_assoc]
  · show wt (others s.post i j ++ (r.map fun o => (i, j, g, o))) + _ = _
    rw [wt_append, wt_items, e2, List.map_cons, List.sum_cons, Nat.add_assoc, Nat.add_comm (val1 c)]
theorem ok_star {N : Nat} {s : Gs} {i j g : Nat} {r : List (Option Nat)} (o : Ok N s) (hi : i < 3) (hj : j < 3) (hij : i ≠ j) (hg : g < 2) (h : chan s.post i j = none :: r) : Ok (N + 1) (s.star i j g r) := by
  obtain ⟨l1, l2⟩ := took_len (g := g) h
  have l2 : wt (s.took i j g r).post = wt s.post := l2
  refine ⟨took_post o hi hj hij hg, o.order, o.all, ?_, ?_, Nat.le_succ_of_le o.nPic, Nat.le_succ_of_le o.nOrder, ?_, Nat.le_succ_of_le o.nDeeds, o.pic, o.deeds, ?_⟩
  · have ht := o.tot
    unfold tot at ht ⊢
    show sum3 s.hand + sum3 s.bank + wt (s.took i j g r).post ≤ 15
    rw [l2]; exact ht
  · show (s.took i j g r).post.length ≤ _
    exact Nat.le_succ_of_le (Nat.le_of_succ_le (Nat.le_trans (Nat.le_of_eq l1) o.nPost))
  · show (s.stars ++ [_]).length ≤ _
    exact len1 o.nStars
  · have hc := o.count
    unfold Count at hc ⊢
    show (s.took i j g r).post.length + (taken s).length + (s.stars ++ [_]).length = (grown s).length + 2 * (awake s).length
    rw [List.length_append]; simp only [List.length_cons, List.length_nil]; omega
theorem ok_letter {N : Nat} {s : Gs} {i j g n : Nat} {r : List (Option Nat)} (o : Ok N s) (hi : i < 3) (hj : j < 3) (hij : i ≠ j) (hg : g < 2) (h : chan s.post i j = some n :: r) : Ok (N + 1) (s.letter i j g n r) := by
  obtain ⟨l1, l2⟩ := took_len (g := g) h
  have l2 : wt (s.took i j g r).post + n = wt s.post := l2
  have ht := o.tot
  have hr := ok_reorder o.order o.all hj hg
  have hpic : (s.letter i j g n r).pic = if s.seen j && !s.stars.contains (i, j) then s.pic ++ [⟨i, j, g, n, 0⟩] else s.pic := rfl
  refine ⟨took_post o hi hj hij hg, hr.1, hr.2, ?_, ?_, ?_, Nat.le_trans (len_reorder ..) (Nat.succ_le_succ o.nOrder), Nat.le_succ_of_le o.nStars, ?_, fun p hp => ?_, fun d hd => ?_, ?_⟩
  · unfold tot at ht ⊢
    have e1 := sum3_fs s.hand hj (s.hand j + n)
    show sum3 (fs s.hand j (s.hand j + n)) + sum3 s.bank + wt (s.took i j g r).post ≤ 15
    omega
  · show (s.took i j g r).post.length ≤ _
    exact Nat.le_succ_of_le (Nat.le_of_succ_le (Nat.le_trans (Nat.le_of_eq l1) o.nPost))
  · rw [hpic]
    split
    · exact len1 o.nPic
    · exact Nat.le_succ_of_le o.nPic
  · show (s.deeds ++ [_]).length ≤ _
    exact len1 o.nDeeds
  · rw [hpic] at hp
    have hn : n ≤ 15 := Nat.le_trans (l2 ▸ Nat.le_add_left ..) (Nat.le_trans (Nat.le_add_left ..) ht)
    split at hp
    · rcases List.mem_append.mp hp with w | w
      · exact o.pic p w
      · rw [List.mem_singleton.mp w]; exact ⟨hi, Nat.lt_succ_of_lt hj, hg, Nat.lt_succ_of_le hn, Nat.succ_pos 15⟩
    · exact o.pic p hp
  · have hd : d ∈ s.deeds ++ [(!s.seen j, i, j, -1)] := hd
    rcases List.mem_append.mp hd with w | w
    · exact o.deeds d w
    · rw [List.mem_singleton.mp w]; exact ⟨hi, hj⟩
  · have hc := o.count
    unfold Count grown taken awake at hc ⊢
    show (s.took i j g r).post.length + ((s.deeds ++ [((!s.seen j, i, j, -1) : Deed)]).filter fun d => d.2.2.2 == -1).length + s.stars.length = ((s.deeds ++ [((!s.seen j, i, j, -1) : Deed)]).filter fun d => decide (d.2.2.2 ≥ 0)).length + 2 * ((List.range 3).filter s.seen).length
    rw [List.filter_append, List.filter_append]
    have e1 : ([((!s.seen j, i, j, -1) : Deed)].filter fun d => d.2.2.2 == -1) = [(!s.seen j, i, j, -1)] := rfl
    have e2 : ([((!s.seen j, i, j, -1) : Deed)].filter fun d => decide (d.2.2.2 ≥ 0)) = [] := rfl
    rw [e1, e2, List.length_append, List.length_append]
    simp only [List.length_cons, List.length_nil]
    omega
theorem ok_give {N : Nat} {s : Gs} {i j g : Nat} (o : Ok N s) (hi : i < 3) (hj : j < 3) (hij : i ≠ j) (hg : g < 2) : Ok (N + 3) (s.give i j g) := by
  unfold Gs.give
  split
  · exact o.mono (Nat.le_add_right ..)
  · rename_i r h
    have o1 := ok_star o hi hj hij hg h
    cases hs' : s.seen j with
    | true => exact o1.mono (Nat.le_add_right (N + 1) 2)
    | false => exact ok_picture o1 hj hg hs'
  · rename_i n r h
    exact (ok_letter o hi hj hij hg h).mono (Nat.le_add_right (N + 1) 2)
end
section
theorem act_ne (n : Int) : actI n ≠ actJ n := by
  unfold actI actJ
  have h1 : n % 6 / 2 = 0 ∨ n % 6 / 2 = 1 ∨ n % 6 / 2 = 2 := by omega
  have h2 : n % 2 = 0 ∨ n % 2 = 1 := by omega
  rcases h1 with h1 | h1 | h1 <;> rcases h2 with h2 | h2 <;> rw [h1, h2] <;> decide
theorem ok_start (h b : Nat → Nat) (hb : ∀ k, h k ≤ 3 ∧ b k ≤ 2) : Ok 3 (start h b) := by
  refine ⟨fun x hx => absurd hx List.not_mem_nil, fun o ho => ?_, fun k hk => ⟨0, ?_⟩, ?_, Nat.zero_le _, Nat.zero_le _, Nat.le_refl 3, Nat.zero_le _, Nat.zero_le _, fun p hp => absurd hp List.not_mem_nil, fun d hd => absurd hd List.not_mem_nil, rfl⟩
  · have ho : o ∈ [(0, 0), (1, 0), (2, 0)] := ho
    simp at ho
    rcases ho with rfl | rfl | rfl <;> exact ⟨by decide, by decide⟩
  · show (k, 0) ∈ [(0, 0), (1, 0), (2, 0)]
    match k, hk with
    | 0, _ => simp
    | 1, _ => simp
    | 2, _ => simp
  · have h0 := hb 0
    have h1 := hb 1
    have h2 := hb 2
    show h 0 + h 1 + h 2 + (b 0 + b 1 + b 2) + 0 ≤ 15
    omega
theorem ok_act {N : Nat} {s : Gs} {n : Int} (o : Ok N s) : Ok (N + 3) (act s n) := by
  obtain ⟨h1, h2, h3, h4⟩ := act_lt n
  unfold act
  split
  · exact (ok_pay o h1 h3 (act_ne n) h2).mono (by omega)
  · split
    · exact ok_give o h1 h3 (act_ne n) h2
    · cases h : s.seen (actI n) with
      | true => exact o.mono (by omega)
      | false => exact (ok_picture o h1 h2 h).mono (by omega)
theorem inv_act {h0 b0 : Nat → Nat} {s : Gs} {n : Int} (I : Inv h0 b0 3 s) : Inv h0 b0 3 (act s n) := by
  obtain ⟨h1, h2, h3, h4⟩ := act_lt n
  unfold act
  split
  · exact inv_pay I h1 h3 (act_ne n)
  · split
    · exact inv_give I h1 h3 (act_ne n)
    · cases h : s.seen (actI n) with
      | true => exact I
      | false => exact inv_picture I h1 h (.inl rfl)
noncomputable def mu (s : Gs) : Nat := s.post.length + 2 * (3 - (awake s).length)
theorem mu_pay (s : Gs) (i j a g : Nat) : mu (s.pay i j a g) = mu s + 1 := by
  show (s.post ++ [_]).length + _ = _
  rw [List.length_append]
  show s.post.length + 1 + 2 * (3 - (awake s).length) = s.post.length + 2 * (3 - (awake s).length) + 1
  omega
theorem mu_picture {s : Gs} {k g : Nat} (hk : k < 3) (hu : s.seen k = false) : mu (s.picture k g) = mu s := by
  show (s.post ++ [_, _]).length + 2 * (3 - ((List.range 3).filter (fs s.seen k true)).length) = s.post.length + 2 * (3 - ((List.range 3).filter s.seen).length)
  rw [awk_fs s.seen hk hu, List.length_append, awk]
  have : (s.seen 0).toNat + (s.seen 1).toNat + (s.seen 2).toNat ≤ 2 := by
    have a0 := Bool.toNat_le (s.seen 0)
    have a1 := Bool.toNat_le (s.seen 1)
    have a2 := Bool.toNat_le (s.seen 2)
    match k, hk with
    | 0, _ => rw [hu]; simp; omega
    | 1, _ => rw [hu]; simp; omega
    | 2, _ => rw [hu]; simp; omega
  simp only [List.length_cons, List.length_nil]
  omega
theorem mu_give {s : Gs} {i j g : Nat} (hj : j < 3) (h : chan s.post i j ≠ []) : mu (s.give i j g) + 1 = mu s := by
  unfold Gs.give
  split
  · rename_i q; exact absurd q h
  · rename_i r h
    have l := (took_len (g := g) h).1
    have e : mu (s.star i j g r) + 1 = mu s := by
      show (s.took i j g r).post.length + 2 * (3 - (awake s).length) + 1 = s.post.length + 2 * (3 - (awake s).length)
      omega
    cases hs' : s.seen j with
    | true => exact e
    | false =>
      show mu ((s.star i j g r).picture j g) + 1 = mu s
      rw [mu_picture (s := s.star i j g r) hj hs']; exact e
  · rename_i n r h
    have l := (took_len (g := g) h).1
    show (s.took i j g r).post.length + 2 * (3 - (awake s).length) + 1 = s.post.length + 2 * (3 - (awake s).length)
    omega
theorem mu_act {N : Nat} {s : Gs} {n : Int} (o : Ok N s) : mu (act s n) ≤ mu s + 1 := by
  obtain ⟨h1, h2, h3, h4⟩ := act_lt n
  unfold act
  split
  · rw [mu_pay]; exact Nat.le_refl _
  · split
    · by_cases q : chan s.post (actI n) (actJ n) = []
      · have e : s.give (actI n) (actJ n) (actG n) = s := by unfold Gs.give; rw [q]
        rw [e]; omega
      · have := mu_give (g := actG n) h3 q
        omega
    · cases h : s.seen (actI n) with
      | true => show mu s ≤ _; omega
      | false => show mu (s.picture _ _) ≤ _; rw [mu_picture h1 h]; omega
theorem acts_all {h b : Nat → Nat} (hb : ∀ k, h k ≤ 3 ∧ b k ≤ 2) (ns : List Int) : ∀ t, t ≤ ns.length → Ok (3 + 3 * t) (acts (start h b) ns t) ∧ Inv h b 3 (acts (start h b) ns t) ∧ mu (acts (start h b) ns t) ≤ 6 + t
  | 0, _ => ⟨ok_start h b hb, inv_start h b, Nat.le_refl 6⟩
  | t + 1, ht => by
    obtain ⟨o, I, m⟩ := acts_all hb ns t (by omega)
    have e := acts_next (s := start h b) (List.getElem?_eq_getElem (show t < ns.length by omega))
    rw [e]
    refine ⟨(ok_act o).mono (by omega), inv_act I, ?_⟩
    have := mu_act (n := ns[t]'(by omega)) o
    omega
noncomputable def anySeen (s : Gs) : Prop := ∃ k, k < 3 ∧ s.seen k = true
theorem wake_all {h0 b0 : Nat → Nat} {N : Nat} {s : Gs} (o : Ok N s) (I : Inv h0 b0 3 s) : Ok (N + 2) (wake s) ∧ Inv h0 b0 3 (wake s) ∧ mu (wake s) = mu s ∧ anySeen (wake s) := by
  unfold wake
  split
  · rename_i h
    exact ⟨ok_picture o (by decide) (by decide) h.1, inv_picture I (by decide) h.1 (.inl rfl), mu_picture (by decide) h.1, 0, by decide, (fs_self s.seen 0 true : fs s.seen 0 true 0 = true)⟩
  · rename_i h
    refine ⟨o.mono (by omega), I, rfl, ?_⟩
    cases q0 : s.seen 0 with
    | true => exact ⟨0, by decide, q0⟩
    | false =>
      cases q1 : s.seen 1 with
      | true => exact ⟨1, by decide, q1⟩
      | false =>
        cases q2 : s.seen 2 with
        | true => exact ⟨2, by decide, q2⟩
        | false => exact absurd ⟨q0, q1, q2⟩ h
theorem seen_give {s : Gs} {i j g : Nat} {k : Nat} (h : s.seen k = true) : (s.give i j g).seen k = true := by
  unfold Gs.give
  split
  · exact h
  · cases hs' : s.seen j with
    | true => exact h
    | false =>
      show fs s.seen j true k = true
      by_cases q : k = j
      · rw [q, fs_self]
      · rw [fs_ne q]; exact h
  · exact h
theorem rnds_all {h0 b0 : Nat → Nat} {N : Nat} {s : Gs} (o : Ok N s) (I : Inv h0 b0 3 s) (a : anySeen s) : ∀ t, Ok (N + 3 * t) (rnds s t) ∧ Inv h0 b0 3 (rnds s t) ∧ anySeen (rnds s t) ∧ ((rnds s t).post = [] ∨ mu (rnds s t) + t ≤ mu s)
  | 0 => ⟨o, I, a, .inr (Nat.le_refl _)⟩
  | t + 1 => by
    obtain ⟨o', I', a', m⟩ := rnds_all o I a t
    rw [rnds_next]
    generalize rnds s t = u at *
    unfold rnd
    split
    · rename_i h
      exact ⟨o'.mono (by omega), I', a', .inl h⟩
    · rename_i x r h
      obtain ⟨h1, h2, h3, h4⟩ := o'.post x (by rw [h]; exact List.mem_cons_self)
      have hc : chan u.post x.1 x.2.1 ≠ [] := by
        rw [h]; unfold chan
        rw [List.filter_cons, if_pos (onRoad_iff.mpr ⟨rfl, rfl⟩)]
        intro q; cases q
      refine ⟨(ok_give o' h1 h2 h3 (by omega)).mono (by omega), inv_give I' h1 h2 h3, ?_, .inr ?_⟩
      · obtain ⟨k, hk, z⟩ := a'
        exact ⟨k, hk, seen_give z⟩
      · have e := mu_give (g := t % 2) h2 hc
        rcases m with m | m
        · rw [h] at m; cases m
        · omega
/-- where all has arrived, all are seen -/
theorem all_seen {h0 b0 : Nat → Nat} {s : Gs} (I : Inv h0 b0 3 s) (hp : s.post = []) (a : anySeen s) : ∀ j, j < 3 → s.seen j = true := by
  obtain ⟨i, hi, h⟩ := a
  intro j hj
  by_cases q : i = j
  · rw [← q]; exact h
  · by_cases z : (i, j) ∈ s.stars
    · obtain ⟨_, w⟩ := I.st i j z
      exact w.elim id fun w => by omega
    · have := I.ss i j hi hj q h z
      rw [hp] at this; cases this
end
section
open PySem PySem.W PyProof.Rows
set_option maxRecDepth 100000
end
open PySem PySem.W PyProof.Rows
/-- a name looked up -/
local macro_rules | `(tactic| fresh_at) => `(tactic| with_reducible first | exact look_here | exact put_here | (apply put_there; kernel_rfl; fresh_at) | (apply look_there; kernel_rfl; fresh_at))
/-- a global looked up -/
local macro_rules | `(tactic| one_sign) => `(tactic| with_reducible first
  | exact .inl g_name | exact .inl g_lay | exact .inl g_strip | exact .inl g_Int2AP | exact .inl g_build | exact .inl g_plain | exact .inl g_store | exact .inl g_picture | exact .inl g_pay | exact .inl g_hand
  | exact .inl g_reckon | exact .inl g_due | exact .inl g_told | exact .inl g_ParseFlags | exact .inl g_Headers | exact .inl g_Flags | exact .inl g_ndr | exact .inl g_vdr
  | exact .inr b_len | exact .inr b_type | exact .inr b_range | exact .inr b_list | exact .inr b_min | exact .inr b_str | exact .inr b_bytes | exact .inr b_tuple | exact .inr b_divmod | exact .inr b_int | exact .inr b_abs)
/-- side goals -/
local macro_rules | `(tactic| one_item) => `(tactic| first | (with_reducible assumption) | kernel_rfl | decide | omega | rfl | exact fun _ _ => rfl | exact fun _ _ => ⟨_, rfl⟩)
/-- a pure value, one step: by the goal's kind -/
local macro_rules | `(tactic| is_tup) => `(tactic| first
  | ((with_reducible refine (?_ : _ = _)); first | fresh_at | one_item)
  | ((with_reducible refine (?_ : PV _ _ _ _ _ _ _ _)); with_reducible first
    | (apply PV.var; fresh_at)
    | exact PV.constS | exact PV.constI
    | (apply PV.glob; assumption; kernel_rfl; one_sign)
    | apply PV.call0
    | apply PV.sub
    | apply PV.binop
    | apply PV.meth0
    | apply PV.tuple
    | apply PV.attrH
    | apply PV.cmp
    | apply PV.list
    | exact PV.constN | exact PV.constB | exact PV.constY
    | apply PV.ifexp
    | apply PV.meth1
    | assumption)
  | ((with_reducible refine (?_ : PVs _ _ _ _ _ _ _ _)); with_reducible first | apply PVs.cons | exact PVs.nil | assumption)
  | ((with_reducible refine (?_ : O2 _ _ _ _ _ _ _ _)); with_reducible first
    | exact O2.add _ _ | exact O2.sub _ _ | exact O2.eqI _ _ | exact O2.neI _ _ | exact O2.ltI _ _ | exact O2.gtI _ _ | exact O2.geI _ _ | exact O2.eqS _ _ | exact O2.neS _ _ | exact O2.eqB _ _
    | exact O2.isNN | exact O2.isNotNN | apply O2.isN | apply O2.isNotN | exact O2.isT _ | exact O2.isNotT _ | exact O2.iadd _ _ | exact O2.isub _ _
    | apply O2.addS | apply O2.mul | apply O2.mod | apply O2.div
    | apply O2.itemL | apply O2.itemT | apply O2.itemS
    | apply O2.itemP | apply O2.itemD
    | assumption)
  | (with_reducible first
    | exact PKs.nil
    | apply PKs.cons
    | exact SubOk.str _ | exact SubOk.lst _ | exact SubOk.tup _ | apply SubOk.list | apply SubOk.dict
    | assumption
    | exact Ends.next | exact meth_upper _ | exact meth_lower _ | exact meth_join _ | exact meth_decode _ | exact meth_index _ | exact KeepOk.builtin _ | exact KeepOk.type _ | apply KeepOk.def)
  | ((with_reducible apply At.lit); decide; rfl)
  | one_item)
/-- a statement, one step: by the goal's kind -/
local macro_rules | `(tactic| is_list) => `(tactic| first
  | ((with_reducible refine (?_ : _ = _)); is_tup)
  | ((with_reducible refine (?_ : PV _ _ _ _ _ _ _ _)); is_tup)
  | ((with_reducible refine (?_ : PVs _ _ _ _ _ _ _ _)); is_tup)
  | ((with_reducible refine (?_ : XT _ _ _ _ _ _ _ _ _)); with_reducible first
    | apply XT.cons | apply XT.nil | apply XT.letP | apply XT.expr | apply XT.if_ | apply XT.ret | apply XT.aug | apply XT.assignT | apply XT.try_)
  | ((with_reducible refine (?_ : PB _ _ _ _ _ _ _ _)); with_reducible first
    | exact PB.tests_nil | apply PB.tests_one
    | apply PB.cmp | apply PB.not | exact PB.and_nil | exact PB.or_nil | apply PB.and_ | apply PB.or_ | apply PB.val)
  | (with_reducible first
    | apply Kont.next | apply Kont.ret | apply TurnS.ret | apply TurnS.next
    | (apply Ends.ret; first | rfl | assumption)
    | apply CompStep.mk
    | exact O1B.bool _ | exact O1B.int _ | exact O1B.none
    | apply XV.meth0 | apply XV.call0
    | exact Sup.nil | (apply Sup.cons; fresh_at)
    | apply BT.name | apply BT.tuple | apply BTs.cons | exact BTs.nil)
  | (with_reducible refine fun (_ : true = true) => ?_)
  | (with_reducible refine fun (_ : false = false) => ?_)
  | exact fun (h : false = true) => nomatch h
  | (intro _; (with_reducible show PB _ _ _ _ _ _ _ _))
  | exact fun (h : true = false) => nomatch h
  | is_tup)
section
open PySem PySem.W PyProof.Rows
set_option maxRecDepth 100000
theorem f233 (P : Params) : (K0 P).lookup 233 = some (fobj (fdAt (stmtAt 17) "_law_plain" .none (.str "law_yf0032_01" 642) (.ref 232))) := by kernel_rfl
theorem plain_ok {w : World} {H0 : Heap} (T : Tp w H0) {k : Nat} {σ : Store} {i j g : Nat} (hi : i < 3) (hj : j < 4) (hg : g < 2) : FnP w H0 (k+1) (.ref 233) [.int i, .int j, .int g] [] σ (.str (nm i j g)) := by
  have a1 : (i : Int) < ((S "abc").length : Nat) := by have : (S "abc").length = 3 := by kernel_rfl
                                                       omega
  have a2 : At [.str (S ".a"), .str (S ".b"), .str (S ".c"), .str (S "")] (j : Int) (.str (if j = 3 then [] else [46, 97 + j])) := ⟨by omega, by match j, hj with | 0, _ => rfl | 1, _ => rfl | 2, _ => rfl | 3, _ => rfl⟩
  have a5 : [(S "abc").getD (i : Int).toNat 0].length + (if j = 3 then ([] : List Nat) else [46, 97 + j]).length ≤ 10000000 := by split <;> simp
  have a3 : ∀ f : Nat → AV, At [f 0, f 1] (g : Int) (f g) := fun f => ⟨by omega, by rcases (by omega : g = 0 ∨ g = 1) with rfl | rfl <;> rfl⟩
  have a4 := a3 fun g => .str (nm i j g)
  have e1 : [(S "abc").getD (i : Int).toNat 0] ++ (if j = 3 then [] else [46, 97 + j]) = nm i j 0 := by
    exact (by decide +kernel : ∀ i : Nat, i < 3 → ∀ j : Nat, j < 4 → [(S "abc").getD (i : Int).toNat 0] ++ (if j = 3 then [] else [46, 97 + j]) = nm i j 0) i hi j hj
  have up := fn_upper (w := w) (H0 := H0) (k := k) (σ := σ) (nm_up i hi j hj) (nm_len ..)
  refine FnE.pure (FnE.of0 T (xs := ["i", "j", "great"]) (f233 _) (by kernel_rfl) (by kernel_rfl) rfl ?_ fun L => ?_)
  · exact Binds.of3 fun _ _ _ => rfl
  · show XT _ _ _ _ _ _ [("i", .int i), ("j", .int j), ("great", .int g)] _ _
    apply XT.cons
    apply XT.letP
    · kernel_rfl
    · apply PV.eq
      rotate_left
      · exact congrArg AV.str e1
      repeat is_list
    · kernel_rfl
    repeat is_list

theorem f219 (P : Params) : (K0 P).lookup 219 = some (fobj (fdAt (stmtAt 14) "_build_localename" .none (.str "cpy313.locale" 621) (.ref 218))) := by kernel_rfl
theorem f226 (P : Params) : (K0 P).lookup 226 = some (fobj (fdAt (stmtAt 16) "_law_name" .none (.str "law_yf0032_01" 642) (.ref 225))) := by kernel_rfl
theorem build_one {w : World} {H0 : Heap} (T : Tp w H0) {k : Nat} {σ : Store} {x : List Nat} : FnP w H0 (k+1) (.ref 219) [.tup [.str x, .none]] [] σ (.str x) := by
  refine FnE.pure (FnE.of0 T (xs := ["localetuple"]) (f219 _) (by kernel_rfl) (by kernel_rfl) rfl ?_ fun L => ?_)
  · exact Binds.of1 fun _ => rfl
  · show XT _ _ _ _ _ _ [("localetuple", .tup [.str x, .none])] _ _
    apply XT.cons
    repeat is_list
theorem build_two {w : World} {H0 : Heap} (T : Tp w H0) {k : Nat} {σ : Store} {x y : List Nat} (hl : x.length ≤ 10 ∧ y.length ≤ 10) : FnP w H0 (k+1) (.ref 219) [.tup [.str x, .str y]] [] σ (.str (x ++ [46] ++ y)) := by
  have a1 : x.length + (S ".").length ≤ 10000000 := by have : (S ".").length = 1 := by kernel_rfl
                                                       omega
  have a2 : (x ++ S ".").length + y.length ≤ 10000000 := by rw [List.length_append]; have : (S ".").length = 1 := by kernel_rfl
                                                            omega
  refine FnE.pure (FnE.of0 T (xs := ["localetuple"]) (f219 _) (by kernel_rfl) (by kernel_rfl) rfl ?_ fun L => ?_)
  · exact Binds.of1 fun _ => rfl
  · show XT _ _ _ _ _ _ [("localetuple", .tup [.str x, .str y])] _ _
    apply XT.cons
    repeat is_list
    exact Ends.ret (by kernel_rfl)

theorem name_ok {w : World} {H0 : Heap} (T : Tp w H0) {k : Nat} {σ : Store} {i j g : Nat} (hi : i < 3) (hj : j < 4) (hg : g < 2) : FnP w H0 (k+2) (.ref 226) [.int i, .int j, .int g] [] σ (.str (nm i j g)) := by
  have a1 : At [.str (S "a"), .str (S "b"), .str (S "c"), .none] (i : Int) (.str [97 + i]) := ⟨by omega, by match i, hi with | 0, _ => rfl | 1, _ => rfl | 2, _ => rfl⟩
  have a3 : ∀ f : Nat → AV, At [f 0, f 1] (g : Int) (f g) := fun f => ⟨by omega, by rcases (by omega : g = 0 ∨ g = 1) with rfl | rfl <;> rfl⟩
  have a4 := a3 fun g => .str (nm i j g)
  have up := fn_upper (w := w) (H0 := H0) (k := k+1) (σ := σ) (nm_up i hi j hj) (nm_len ..)
  refine FnE.pure (FnE.of0 T (xs := ["i", "j", "great"]) (f226 _) (by kernel_rfl) (by kernel_rfl) rfl ?_ fun L => ?_)
  · exact Binds.of3 fun _ _ _ => rfl
  · show XT _ _ _ _ _ _ [("i", .int i), ("j", .int j), ("great", .int g)] _ _
    rcases (by omega : j = 3 ∨ j < 3) with rfl | h3
    · have a2 : At [.str (S "a"), .str (S "b"), .str (S "c"), .none] ((3 : Nat) : Int) .none := ⟨by omega, rfl⟩
      have b := build_one T (k := k) (σ := σ) (x := [97 + i])
      have b : FnP w H0 (k+1) (.ref 219) [.tup [.str [97 + i], .none]] [] σ (.str (nm i 3 0)) := b
      apply XT.cons
      repeat is_list
    · have a2 : At [.str (S "a"), .str (S "b"), .str (S "c"), .none] (j : Int) (.str [97 + j]) := ⟨by omega, by match j, h3 with | 0, _ => rfl | 1, _ => rfl | 2, _ => rfl⟩
      have b := build_two T (k := k) (σ := σ) (x := [97 + i]) (y := [97 + j]) (by simp)
      have e : [97 + i] ++ [46] ++ [97 + j] = nm i j 0 := by unfold nm; rw [if_neg (by omega)]; rfl
      rw [e] at b
      apply XT.cons
      repeat is_list
end
section
open PySem PySem.W PyProof.Rows
set_option maxRecDepth 100000
theorem k48 (P : Params) : (K0 P).lookup 48 = some ⟨.type "re.Pattern", none, .fields #[.str "[\\x00-\\x1F\\x7F]" 326, .int 32 349, .int 0 0, .none, .none, .ref 47, .int 0 0], #[]⟩ := by kernel_rfl
theorem k53 (P : Params) : (K0 P).lookup 53 = some ⟨.type "re.Pattern", none, .fields #[.str "[\\x00-\\x08\\x0A-\\x1F\\x7F]" 352, .int 32 383, .int 0 0, .none, .none, .ref 52, .int 0 0], #[]⟩ := by kernel_rfl
section
variable {w : World} {H0 : Heap} {k : Nat} {env : Env} {μ : Vars} {σ σ' : Store} {W : Nat → Prop} {P : Fl → Vars → Store → Prop}
theorem fn_type {x : List Nat} : FnP w H0 k (.type "type") [.str x] [] σ (.val (.type "str")) := by
  refine ⟨?_⟩; intro A rm ρ s vs ks R a b Q E hq
  refine b.el0 (a.el1 fun _ a => a.el fun _ => ?_)
  exact call_type_of (typeIs_str _ _ _) (by decide) (hq _ _ _ (.refl _) (.val _))
theorem fn_typeL {x : List AV} : FnP w H0 k (.type "type") [.lst x] [] σ (.val (.type "list")) := by
  refine ⟨?_⟩; intro A rm ρ s vs ks R a b Q E hq
  exact b.el0 (a.el1 fun _ a => a.el fun _ _ x _ _ => call_type_of x.typeIs (by decide) (hq _ _ _ (.refl _) (.val _)))
theorem fn_typeP {n : Nat} {l : List AV} (e : σ n = .list l) : FnP w H0 k (.type "type") [.loc n] [] σ (.val (.type "list")) := by
  refine ⟨?_⟩; intro A rm ρ s vs ks R a b Q E hq
  refine b.el0 (a.el1 fun _ a => a.el fun _ => ?_)
  obtain ⟨_, x, y⟩ := R.list e
  exact call_type_of x.isList.typeIs (by decide) (hq _ _ _ (.refl _) (.val _))
theorem search_name (T : Tp w H0) {x : List Nat} (hx : Plain x) (hl : x.length ≤ 1000000) : FnP w H0 k (.builtin "re.Pattern.search") [.val (.ref 48), .str x] [] σ .none := by
  refine ⟨?_⟩; intro A rm ρ s vs ks R a b Q E hq
  refine b.el0 (a.el2 fun _ _ a b => a.elV (b.el fun _ => ?_))
  have X := T.K.keeps R.top
  exact search_none (X _ _ (k48 _)) (X 47 ⟨.type "tuple", none, .seq (asInts nameCode) 0, #[]⟩ (by kernel_rfl)) name_dull hx hl ⟨rfl, rfl⟩ (hq s.heap s.toks _ (.refl _) .none)
theorem search_value (T : Tp w H0) {x : List Nat} (hx : Plain x) (hl : x.length ≤ 1000000) : FnP w H0 k (.builtin "re.Pattern.search") [.val (.ref 53), .str x] [] σ .none := by
  refine ⟨?_⟩; intro A rm ρ s vs ks R a b Q E hq
  refine b.el0 (a.el2 fun _ _ a b => a.elV (b.el fun _ => ?_))
  have X := T.K.keeps R.top
  exact search_none (X _ _ (k53 _)) (X 52 ⟨.type "tuple", none, .seq (asInts valueCode) 0, #[]⟩ (by kernel_rfl)) value_dull hx hl ⟨rfl, rfl⟩ (hq s.heap s.toks _ (.refl _) .none)
theorem meth_search (T : Tp w H0) {a : Addr} {o : Obj} (h : ∀ P, (K0 P).lookup a = some o) (hc : o.cls = .type "re.Pattern") (hd : o.dict = none) : MethOk w H0 k σ (.val (.ref a)) "search" (.builtin "re.Pattern.search") := by
  refine MethOk.builtin plainAttrs_re slot_re_search type_re_search fun ρ s U R u => ?_
  refine u.elV ?_
  have X := T.K.keeps R.top
  exact ⟨⟨o, X _ _ (h _), hc⟩, fun b e => by cases e; exact ⟨o, X _ _ (h _), hd⟩⟩
end
end
section
open PySem PySem.W PyProof.Rows
set_option maxRecDepth 100000

theorem f83 (P : Params) : (K0 P).lookup 83 = some (fobj (fdAt (methAt 1) "Headers._convert_string_type" .none (.str "cpy313.wsgiref.headers" 289) (.ref 82))) := by kernel_rfl
theorem conv_ok {w : World} {H0 : Heap} (T : Tp w H0) {k : Nat} {σ : Store} {self : AV} {x : List Nat} {b : Bool} (hx : Plain x) (hl : x.length ≤ 1000000) : FnP w H0 (k+1) (.ref 83) [self, .str x] [("name", .bool b)] σ (.str x) := by
  have s1 := search_name (k := k) (σ := σ) T hx hl
  have s2 := search_value (k := k) (σ := σ) T hx hl
  have t1 := fn_type (w := w) (H0 := H0) (k := k) (σ := σ) (x := x)
  have m1 := meth_search (k := k) (σ := σ) T k48 rfl rfl
  have m2 := meth_search (k := k) (σ := σ) T k53 rfl rfl
  have key := FnE.of (W := fun _ => False) (σ := σ) (σ' := σ) (v := .str x) T (k := k) (names := ["name"]) (ks := [.bool b]) (args := [self, .str x]) (xs := ["self", "value", "name"]) (f83 w.params) (by kernel_rfl) (by kernel_rfl) rfl rfl ?_ fun L => ?_
  · exact FnE.pure key
  · rintro s vs ks hv hk
    match vs, hv with
    | [a, b], _ => match ks, hk with
      | [c], _ => exact BindsTo.of_eq rfl
  · show XT _ _ _ _ _ _ [("self", self), ("value", .str x), ("name", .bool b)] _ _
    cases b
    all_goals (apply XT.cons; repeat is_list)
end
section
open PySem PySem.W PyProof.Rows
set_option maxRecDepth 100000
section
variable {w : World} {H0 : Heap} {k : Nat} {env : Env} {μ : Vars} {σ σ' : Store} {W : Nat → Prop} {P : Fl → Vars → Store → Prop}
theorem fn_lenP {n : Nat} {l : List AV} (e : σ n = .list l) (hl : l.length ≤ 1000000) : FnP w H0 k (.builtin "len") [.loc n] [] σ (.int l.length) := by
  refine ⟨?_⟩; intro A rm ρ s vs ks R a b Q E hq
  refine b.el0 (a.el1 fun _ a => a.el fun _ => ?_)
  obtain ⟨_, x, y⟩ := R.list e
  · · · refine len_list x.isList (by rw [List.size_toArray, y.length]; omega) ?_
        rw [List.size_toArray, y.length]
        exact hq _ _ _ (.refl _) (.int _ _)
theorem fn_lenL {l : List AV} (hl : l.length ≤ 1000000) : FnP w H0 k (.builtin "len") [.lst l] [] σ (.int l.length) := by
  refine ⟨?_⟩; intro A rm ρ s vs ks R a b Q E hq
  refine b.el0 (a.el1 fun _ a => a.el fun _ _ x u y => ?_)
  · · refine len_list x (by rw [List.size_toArray, y.length]; omega) ?_
      rw [List.size_toArray, y.length]
      exact hq _ _ _ (.refl _) (.int _ _)
theorem fn_lenS {l : List Nat} (hl : l.length ≤ 1000000) : FnP w H0 k (.builtin "len") [.str l] [] σ (.int l.length) := by
  refine ⟨?_⟩; intro A rm ρ s vs ks R a b Q E hq
  refine b.el0 (a.el1 fun _ a => a.el fun _ => ?_)
  have e : (⟨l.toArray⟩ : Str).length = l.length := by show l.toArray.size = _; simp
  refine len_str (by rw [e]; omega) ?_
  rw [e]
  exact hq _ _ _ (.refl _) (.int _ _)
end
/-- a line of headers -/
noncomputable def hv (e : List Nat × List Nat) : AV := .tup [.str e.1, .str e.2]
noncomputable def low (x : List Nat) : List Nat := (Txt.lower ⟨x.toArray⟩).cps.toList
theorem low_eq (x : List Nat) : Txt.lower ⟨x.toArray⟩ = ⟨(low x).toArray⟩ := by unfold low; simp
/-- lines that can be told -/
noncomputable def HOk (es : List (List Nat × List Nat)) : Prop := ∀ e ∈ es, (low e.1).length ≤ 100
theorem find_first {α : Type} {p : α → Bool} {x : α} {l : List α} : ∀ {i : Nat}, l[i]? = some x → (∀ y ∈ l.take i, p y = false) → p x = true → l.find? p = some x := by
  induction l with
  | nil => intro i e _ _; cases e
  | cons y l ih =>
    intro i e g h
    rw [List.find?_cons]
    cases i with
    | zero => cases e; rw [h]
    | succ i =>
      rw [g y List.mem_cons_self]
      exact ih e (fun z hz => g z (List.mem_cons_of_mem _ hz)) h

theorem f90 (P : Params) : (K0 P).lookup 90 = some (fobj (fdAt (methAt 2) "Headers.__len__" .none (.str "cpy313.wsgiref.headers" 289) (.ref 89))) := by kernel_rfl
theorem f129 (P : Params) : (K0 P).lookup 129 = some (fobj (fdAt (methAt 8) "Headers.get" (.ref 122) (.str "cpy313.wsgiref.headers" 289) (.ref 128))) := by kernel_rfl
theorem f109 (P : Params) : (K0 P).lookup 109 = some (fobj (fdAt (methAt 5) "Headers.__getitem__" .none (.str "cpy313.wsgiref.headers" 289) (.ref 108))) := by kernel_rfl
theorem hlen_ok {w : World} {H0 : Heap} (T : Tp w H0) {k : Nat} {σ : Store} {p d l : Nat} {es : List (List Nat × List Nat)} (H : Hd σ p d l) (e : σ l = .list (es.map hv)) (hl : es.length ≤ 1000) : FnP w H0 (k+1) (.ref 90) [.loc p] [] σ (.int es.length) := by
  have l1 := fn_lenP (w := w) (H0 := H0) (k := k) e (by rw [List.length_map]; omega)
  rw [List.length_map] at l1
  refine FnE.pure (FnE.of0 T (xs := ["self"]) (f90 _) (by kernel_rfl) (by kernel_rfl) rfl ?_ fun L => ?_)
  · exact Binds.of1 fun _ => rfl
  · show XT _ _ _ _ _ _ [("self", .loc p)] _ _
    apply XT.cons
    repeat is_list
theorem hget_ok {w : World} {H0 : Heap} (T : Tp w H0) {k : Nat} {σ : Store} {p d l : Nat} {es : List (List Nat × List Nat)} {n0 : List Nat} (H : Hd σ p d l) (e : σ l = .list (es.map hv)) (hl : es.length ≤ 1000) (ho : HOk es) (hn : Plain (low n0)) (hnl : (low n0).length ≤ 100) :
    FnP w H0 (k+2) (.ref 129) [.loc p, .str n0] [] σ ((es.find? fun x => low x.1 == low n0).elim .none fun x => .str x.2) := by
  have up := fn_lower (w := w) (H0 := H0) (k := k+1) (σ := σ) (low_eq n0) hnl
  have cv := conv_ok (k := k) (σ := σ) (self := .loc p) (b := true) T hn (by omega)
  have m1 := methH (k := k+1) T H (name := "_convert_string_type") (f := 83) (fun _ => by kernel_rfl) (fun _ => by kernel_rfl) (by kernel_rfl)
  have key := FnE.mkX (W := fun _ => False) (σ := σ) (σ₁ := σ) (σ' := σ) (v := (es.find? fun x => low x.1 == low n0).elim .none fun x => .str x.2) T (k := k+1) (names := []) (ks := []) (f129 w.params) rfl rfl (by kernel_rfl) (xs := ["self", "name", "default"]) (by kernel_rfl) rfl
    (BindX.default (args := [.loc p, .str n0]) T rfl (o := ⟨.type "tuple", none, .seq #[.none] 0, #[]⟩) (by kernel_rfl) rfl ?_) ⟨rfl, rfl, rfl⟩ fun L => ?_
  · exact FnE.pure key
  · intro vs hv
    match vs, hv with
    | [a, b], _ => exact ⟨_, rfl, rfl⟩
  · show XT _ _ _ _ _ _ [("self", .loc p), ("name", .str n0), ("default", .none)] _ _
    apply XT.cons
    repeat is_list
    have hls : ∀ i, (es.map hv)[i]? = es[i]?.map hv := fun i => List.getElem?_map
    apply XT.forS [("self", .loc p), ("name", .str (low n0)), ("default", .none)] (fun i σ' => σ' = σ ∧ ∀ x ∈ es.take i, (low x.1 == low n0) = false) (ls := es.map hv)
    · apply ItE.loc
      · repeat is_list
      · exact e
      · rfl
      · exact fun _ => rfl
    · exact fun _ _ h => h
    · repeat is_list
    · exact ⟨rfl, by simp⟩
    · rintro i v σ' hi ⟨rfl, hj⟩
      rw [hls] at hi
      obtain ⟨x, hx, rfl⟩ := Option.map_eq_some_iff.mp hi
      have hlt := (List.getElem?_eq_some_iff.mp hx).1
      have hm : x ∈ es := List.mem_of_getElem? hx
      have lw := fn_lower (w := w) (H0 := H0) (k := k+1) (σ := σ') (low_eq x.1) (ho x hm)
      apply Exists.intro
      apply And.intro
      · unfold hv
        repeat is_list
      · apply XT.cons
        repeat is_list
        · intro hc
          repeat is_list
          exact Ends.ret (by rw [find_first hx hj hc]; rfl)
        · intro hc
          repeat is_list
          refine ⟨rfl, fun y hy => ?_⟩
          rw [List.take_add_one, hx] at hy
          rcases List.mem_append.mp hy with h | h
          · exact hj y h
          · simp at h; subst h; exact hc
    · rintro σ' ⟨rfl, hj⟩
      apply XT.cons
      repeat is_list
      exact Ends.ret (by rw [List.find?_eq_none.mpr fun x hx => by rw [hj x (by rw [List.length_map, List.take_length]; exact hx)]; exact Bool.false_ne_true]; rfl)
end
section
open PySem PySem.W PyProof.Rows
set_option maxRecDepth 100000

theorem f121 (P : Params) : (K0 P).lookup 121 = some (fobj (fdAt (methAt 7) "Headers.get_all" .none (.str "cpy313.wsgiref.headers" 289) (.ref 120))) := by kernel_rfl
theorem f134 (P : Params) : (K0 P).lookup 134 = some (fobj (fdAt (methAt 9) "Headers.keys" .none (.str "cpy313.wsgiref.headers" 289) (.ref 133))) := by kernel_rfl
theorem hitem_ok {w : World} {H0 : Heap} (T : Tp w H0) {k : Nat} {σ : Store} {p d l : Nat} {es : List (List Nat × List Nat)} {n0 : List Nat} (H : Hd σ p d l) (e : σ l = .list (es.map hv)) (hl : es.length ≤ 1000) (ho : HOk es) (hn : Plain (low n0)) (hnl : (low n0).length ≤ 100) :
    FnP w H0 (k+3) (.ref 109) [.loc p, .str n0] [] σ ((es.find? fun x => low x.1 == low n0).elim .none fun x => .str x.2) := by
  have g := hget_ok (k := k) T H e hl ho hn hnl
  have m1 := methH (k := k+2) T H (name := "get") (f := 129) (fun _ => by kernel_rfl) (fun _ => by kernel_rfl) (by kernel_rfl)
  refine FnE.pure (FnE.of0 T (xs := ["self", "name"]) (f109 _) (by kernel_rfl) (by kernel_rfl) rfl ?_ fun L => ?_)
  · exact Binds.of2 fun _ _ => rfl
  · show XT _ _ _ _ _ _ [("self", .loc p), ("name", .str n0)] _ _
    apply XT.cons
    repeat is_list
theorem hkeys_ok {w : World} {H0 : Heap} (T : Tp w H0) {k : Nat} {σ : Store} {p d l : Nat} {es : List (List Nat × List Nat)} (H : Hd σ p d l) (e : σ l = .list (es.map hv)) (hl : es.length ≤ 1000) :
    FnP w H0 (k+1) (.ref 134) [.loc p] [] σ (.lst (es.map fun x => .str x.1)) := by
  refine FnE.pure (FnE.of0 T (xs := ["self"]) (f134 _) (by kernel_rfl) (by kernel_rfl) rfl ?_ fun L => ?_)
  · exact Binds.of1 fun _ => rfl
  · show XT _ _ _ _ _ _ [("self", .loc p)] _ _
    apply XT.cons
    apply XT.ret
    · apply PV.new
      apply PVn.comp0 (es := es) (f := hv) (fun _ => true) (fun x => .str x.1)
      · apply ItE.loc
        · repeat is_list
        · exact e
        · rfl
        · exact fun _ => rfl
      · kernel_rfl
      · kernel_rfl
      · exact hl
      · intro C x hx
        unfold hv
        repeat is_list
    · apply Kont.ret
      exact Ends.ret (by rw [List.filter_eq_self.mpr fun _ _ => rfl])
theorem hall_ok {w : World} {H0 : Heap} (T : Tp w H0) {k : Nat} {σ : Store} {p d l : Nat} {es : List (List Nat × List Nat)} {n0 : List Nat} (H : Hd σ p d l) (e : σ l = .list (es.map hv)) (hl : es.length ≤ 1000) (ho : HOk es) (hn : Plain (low n0)) (hnl : (low n0).length ≤ 100) :
    FnP w H0 (k+2) (.ref 121) [.loc p, .str n0] [] σ (.lst ((es.filter fun x => low x.1 == low n0).map fun x => .str x.2)) := by
  have up := fn_lower (w := w) (H0 := H0) (k := k+1) (σ := σ) (low_eq n0) hnl
  have cv := conv_ok (k := k) (σ := σ) (self := .loc p) (b := true) T hn (by omega)
  have m1 := methH (k := k+1) T H (name := "_convert_string_type") (f := 83) (fun _ => by kernel_rfl) (fun _ => by kernel_rfl) (by kernel_rfl)
  have key := FnE.mkX (W := fun _ => False) (σ := σ) (σ₁ := σ) (σ' := σ) (v := .lst ((es.filter fun x => low x.1 == low n0).map fun x => .str x.2)) T (k := k+1) (names := []) (ks := []) (f121 w.params) rfl rfl (by kernel_rfl) (xs := ["self", "name"]) (by kernel_rfl) rfl
    (BindX.plain (args := [.loc p, .str n0]) rfl ?_) ⟨rfl, rfl, rfl⟩ fun L => ?_
  · exact FnE.pure key
  · exact Binds.of2 fun _ _ => rfl
  · show XT _ _ _ _ _ _ [("self", .loc p), ("name", .str n0)] _ _
    apply XT.cons
    repeat is_list
    · apply PV.new
      apply PVn.comp1 (es := es) (f := hv) (x := "name") (c := L + 1) (fun x => low x.1 == low n0) (fun x => .str x.2)
      · apply ItE.loc
        · repeat is_list
        · exact e
        · rfl
        · exact fun _ => rfl
      · kernel_rfl
      · kernel_rfl
      · kernel_rfl
      · fresh_at
      · exact fun _ => by kernel_rfl
      · kernel_rfl
      · exact hl
      · intro C x hx
        have lw := fn_lower (w := w) (H0 := H0) (k := k+1) (σ := σ) (low_eq x.1) (ho x hx)
        unfold hv
        repeat is_list
        intro _
        repeat is_list
    · apply Kont.ret
      exact Ends.ret rfl
end
section
open PySem PySem.W PyProof.Rows
set_option maxRecDepth 100000

theorem f102 (P : Params) : (K0 P).lookup 102 = some (fobj (fdAt (methAt 4) "Headers.__delitem__" .none (.str "cpy313.wsgiref.headers" 289) (.ref 101))) := by kernel_rfl
/-- the lines under other names -/
noncomputable def without (es : List (List Nat × List Nat)) (n0 : List Nat) : List (List Nat × List Nat) := es.filter fun x => low x.1 != low n0
theorem without_le (es : List (List Nat × List Nat)) (n0 : List Nat) : (without es n0).length ≤ es.length := List.length_filter_le _ _
theorem upd_upd (σ : Store) (n : Nat) (p q : Plc) : upd (upd σ n p) n q = upd σ n q := by
  funext m
  by_cases h : m = n
  · subst h; rw [upd_self, upd_self]
  · rw [upd_ne h, upd_ne h, upd_ne h]
theorem Hd.updL {σ : Store} {p d l : Nat} {q : Plc} {x : List AV} (H : Hd σ p d l) (e : σ l = .list x) (hq : q ≠ .free) : Hd (upd σ l q) p d l := by
  have h1 : p ≠ l := fun z => by have a := H.obj; rw [z, e] at a; cases a
  have h2 : d ≠ l := fun z => by have a := H.dict; rw [z, e] at a; cases a
  exact ⟨by rw [upd_ne h1]; exact H.obj, by rw [upd_ne h2]; exact H.dict, by rw [upd_self]; exact hq⟩
theorem hdel_ok {w : World} {H0 : Heap} (T : Tp w H0) {k : Nat} {σ σ' : Store} {W : Nat → Prop} {p d l : Nat} {es : List (List Nat × List Nat)} {n0 : List Nat} (H : Hd σ p d l) (e : σ l = .list (es.map hv)) (hl : es.length ≤ 1000) (ho : HOk es) (hn : Plain (low n0)) (hnl : (low n0).length ≤ 100)
    (hw : W l) (hσ : upd σ l (.list ((without es n0).map hv)) = σ') : FnE w H0 (k+2) W (.ref 102) [.loc p, .str n0] [] σ .none σ' := by
  have up := fn_lower (w := w) (H0 := H0) (k := k+1) (σ := σ) (low_eq n0) hnl
  have cv := conv_ok (k := k) (σ := σ) (self := .loc p) (b := true) T hn (by omega)
  have m1 := methH (k := k+1) T H (name := "_convert_string_type") (f := 83) (fun _ => by kernel_rfl) (fun _ => by kernel_rfl) (by kernel_rfl)
  have hle := without_le es n0
  refine FnE.mkX (W := W) (σ := σ) (σ₁ := σ) (σ' := σ') (v := .none) T (k := k+1) (names := []) (ks := []) (f102 w.params) rfl rfl (by kernel_rfl) (xs := ["self", "name"]) (by kernel_rfl) rfl
    (BindX.plain (args := [.loc p, .str n0]) rfl ?_) ⟨rfl, rfl, rfl⟩ fun L => ?_
  · exact Binds.of2 fun _ _ => rfl
  · show XT _ _ _ _ _ _ [("self", .loc p), ("name", .str n0)] _ _
    apply XT.cons
    repeat is_list
    apply XT.setAll (l := es.map hv) (l' := (without es n0).map hv) (n := l) (σ' := σ')
    · apply PV.new
      apply PVn.comp1 (es := es) (f := hv) (x := "name") (c := L + 1) (fun x => low x.1 != low n0) hv
      · apply ItE.loc
        · repeat is_list
        · exact e
        · rfl
        · exact fun _ => rfl
      · kernel_rfl
      · kernel_rfl
      · kernel_rfl
      · fresh_at
      · exact fun _ => by kernel_rfl
      · kernel_rfl
      · exact hl
      · intro C x hx
        have lw := fn_lower (w := w) (H0 := H0) (k := k+1) (σ := σ) (low_eq x.1) (ho x hx)
        unfold hv
        repeat is_list
        intro _
        repeat is_list
    · repeat is_list
    · exact e
    · rw [List.length_map]; exact hl
    · rw [List.length_map]; omega
    · exact hw
    · exact hσ
    · kernel_rfl
    · repeat is_list
end
section
open PySem PySem.W PyProof.Rows
set_option maxRecDepth 100000

theorem f97 (P : Params) : (K0 P).lookup 97 = some (fobj (fdAt (methAt 3) "Headers.__setitem__" .none (.str "cpy313.wsgiref.headers" 289) (.ref 96))) := by kernel_rfl
theorem hset_ok {w : World} {H0 : Heap} (T : Tp w H0) {k : Nat} {σ σ' : Store} {W : Nat → Prop} {p d l : Nat} {es : List (List Nat × List Nat)} {n0 v0 : List Nat} (H : Hd σ p d l) (e : σ l = .list (es.map hv)) (hl : es.length ≤ 500) (ho : HOk es) (hn : Plain (low n0)) (hnl : (low n0).length ≤ 100)
    (hp : Plain n0) (hpl : n0.length ≤ 1000) (hv0 : Plain v0) (hvl : v0.length ≤ 1000) (hw : W l) (hσ : upd σ l (.list ((without es n0 ++ [(n0, v0)]).map hv)) = σ') : FnE w H0 (k+3) W (.ref 97) [.loc p, .str n0, .str v0] [] σ .none σ' := by
  have hle := without_le es n0
  have e1 : upd σ l (.list ((without es n0).map hv)) l = .list ((without es n0).map hv) := upd_self ..
  have H1 : Hd (upd σ l (.list ((without es n0).map hv))) p d l := H.updL e (by intro q; cases q)
  have del := hdel_ok (k := k) T H e (by omega) ho hn hnl hw rfl
  have c1 := conv_ok (k := k+1) (σ := upd σ l (.list ((without es n0).map hv))) (self := .loc p) (b := true) T hp (by omega)
  have c2 := conv_ok (k := k+1) (σ := upd σ l (.list ((without es n0).map hv))) (self := .loc p) (b := false) T hv0 (by omega)
  have m1 := methH (k := k+2) T H1 (name := "_convert_string_type") (f := 83) (fun _ => by kernel_rfl) (fun _ => by kernel_rfl) (by kernel_rfl)
  have m2 := meth_append (w := w) (H0 := H0) (k := k+2) e1
  have ap := FnE.append (w := w) (H0 := H0) (k := k+2) (W := W) (v := hv (n0, v0)) e1 (by rw [List.length_map]; omega) hw (show _ = σ' by rw [upd_upd, ← hσ, List.map_append]; rfl)
  refine FnE.of0 T (xs := ["self", "name", "val"]) (f97 _) (by kernel_rfl) (by kernel_rfl) rfl ?_ fun L => ?_
  · exact Binds.of3 fun _ _ _ => rfl
  · show XT _ _ _ _ _ _ [("self", .loc p), ("name", .str n0), ("val", .str v0)] _ _
    apply XT.cons
    apply XT.delH
    · exact T
    · repeat is_list
    · repeat is_list
    · exact H
    · exact del
    repeat is_list
end
section
open PySem PySem.W PyProof.Rows
set_option maxRecDepth 100000

theorem f179 (P : Params) : (K0 P).lookup 179 = some (fobj (fdAt (methAt 16) "Headers.add_header" .none (.str "cpy313.wsgiref.headers" 289) (.ref 178))) := by kernel_rfl
theorem avoids_hv (n : Nat) : ∀ es : List (List Nat × List Nat), avoidsL n (es.map hv) = true
  | [] => by rw [List.map_nil, avoidsL]
  | x :: es => by rw [List.map_cons, avoidsL, avoids_hv n es, hv, AV.avoids, avoidsL, avoidsL, avoidsL]; simp [AV.avoids]
theorem hadd_ok {w : World} {H0 : Heap} (T : Tp w H0) {k : Nat} {σ σ' : Store} {W : Nat → Prop} {p d l : Nat} {es : List (List Nat × List Nat)} {n0 v0 : List Nat} (H : Hd σ p d l) (e : σ l = .list (es.map hv)) (hl : es.length ≤ 500)
    (hp : Plain n0) (hpl : n0.length ≤ 1000) (hv0 : Plain v0) (hvl : v0.length ≤ 1000) (f19 : σ 19 = .free) (f20 : σ 20 = .free) (hw : W l) (av : ∀ n m, n = 19 ∨ n = 20 → (σ m).avoids n = true) (hσ : upd σ l (.list ((es ++ [(n0, v0)]).map hv)) = σ') : FnE w H0 (k+3) W (.ref 179) [.loc p, .str n0, .str v0] [] σ .none σ' := by
  have l19 : l ≠ 19 := fun q => by rw [q, f19] at e; cases e
  have l20 : l ≠ 20 := fun q => by rw [q, f20] at e; cases e
  have p19 : p ≠ 19 := fun q => by have := H.obj; rw [q, f19] at this; cases this
  have p20 : p ≠ 20 := fun q => by have := H.obj; rw [q, f20] at this; cases this
  have d19 : d ≠ 19 := fun q => by have := H.dict; rw [q, f19] at this; cases this
  have d20 : d ≠ 20 := fun q => by have := H.dict; rw [q, f20] at this; cases this
  have key : FnE w H0 (k+3) (fun n => n = l ∨ n = 19 ∨ n = 20) (.ref 179) [.loc p, .str n0, .str v0] [] σ .none
      (upd (upd (upd (upd σ 20 (.dict [])) 19 (.list [])) 19 (.list [.str v0])) l (.list ((es ++ [(n0, v0)]).map hv))) := by
    have H2 : ∀ q, q ≠ Plc.free → Hd (upd (upd σ 20 (.dict [])) 19 q) p d l := fun q hq =>
      ⟨by rw [upd_ne p19, upd_ne p20]; exact H.obj, by rw [upd_ne d19, upd_ne d20]; exact H.dict, by rw [upd_ne l19, upd_ne l20]; exact H.list⟩
    have e3 : upd (upd (upd σ 20 (.dict [])) 19 (.list [])) 19 (.list [.str v0]) = upd (upd σ 20 (.dict [])) 19 (.list [.str v0]) := upd_upd ..
    have c1 := conv_ok (k := k+1) (σ := upd (upd σ 20 (.dict [])) 19 (.list [])) (self := .loc p) (b := false) T hv0 (by omega)
    have m1 := methH (k := k+2) T (H2 (.list []) (by intro q; cases q)) (name := "_convert_string_type") (f := 83) (fun _ => by kernel_rfl) (fun _ => by kernel_rfl) (by kernel_rfl)
    have m2 := meth_append (w := w) (H0 := H0) (k := k+2) (n := 19) (l := []) (show (upd (upd σ 20 (.dict [])) 19 (.list [])) 19 = _ from upd_self ..)
    have a1 := FnE.append (w := w) (H0 := H0) (k := k+2) (W := fun n => n = l ∨ n = 19 ∨ n = 20) (v := .str v0) (l := []) (n := 19) (show (upd (upd σ 20 (.dict [])) 19 (.list [])) 19 = _ from upd_self ..) (by simp) (.inr (.inl rfl)) rfl
    have el : (upd (upd (upd σ 20 (.dict [])) 19 (.list [])) 19 (.list [.str v0])) l = .list (es.map hv) := by rw [upd_ne l19, upd_ne l19, upd_ne l20]; exact e
    have H3 : Hd (upd (upd (upd σ 20 (.dict [])) 19 (.list [])) 19 (.list [.str v0])) p d l := by rw [e3]; exact H2 _ (by intro q; cases q)
    have m3 := methH (k := k+2) T H3 (name := "_convert_string_type") (f := 83) (fun _ => by kernel_rfl) (fun _ => by kernel_rfl) (by kernel_rfl)
    have c2 := conv_ok (k := k+1) (σ := upd (upd (upd σ 20 (.dict [])) 19 (.list [])) 19 (.list [.str v0])) (self := .loc p) (b := true) T hp (by omega)
    have m4 := meth_append (w := w) (H0 := H0) (k := k+2) el
    have a2 := FnE.append (w := w) (H0 := H0) (k := k+2) (W := fun n => n = l ∨ n = 19 ∨ n = 20) (v := hv (n0, v0)) el (by rw [List.length_map]; omega) (.inl rfl) rfl
    have jl : ([v0].map (·.length)).sum + [v0].length * (S "; ").length ≤ 10000000 := by
      have : (S "; ").length = 2 := by kernel_rfl
      rw [this]; simp; omega
    have j1 := fn_joinP (w := w) (H0 := H0) (k := k+2) (n := 19) (l := [v0]) (x := S "; ") (y := v0) (show (upd (upd (upd σ 20 (.dict [])) 19 (.list [])) 19 (.list [.str v0])) 19 = _ from upd_self ..) rfl jl
    refine FnE.mkX (W := fun n => n = l ∨ n = 19 ∨ n = 20) (σ := σ) (σ₁ := upd σ 20 (.dict [])) (v := .none) T (k := k+2) (names := []) (ks := []) (f179 w.params) rfl rfl (by kernel_rfl) (xs := ["self", "_name", "_value", "_params"]) (by kernel_rfl) rfl
      (BindX.kwargs (args := [.loc p, .str n0, .str v0]) f20 (.inr (.inr rfl)) ?_) ⟨rfl, rfl, rfl⟩ fun L => ?_
    · intro vs hv
      match vs, hv with
      | [a, b, c], _ => rfl
    · show XT _ _ _ _ _ _ [("self", .loc p), ("_name", .str n0), ("_value", .str v0), ("_params", .loc 20)] _ _
      apply XT.cons
      apply XT.let_ (v := .loc 19) (σ' := upd (upd σ 20 (.dict [])) 19 (.list []))
      · kernel_rfl
      · apply XV.new (l := []) (n := 19)
        · exact PVn.list PVs.nil (by simp)
        · rw [upd_ne (by decide)]; exact f19
        · exact .inr (.inl rfl)
        · rfl
      · kernel_rfl
      repeat is_list
      · apply XT.items0
        · exact T
        · repeat is_list
        · rw [upd_ne (by decide), upd_ne (by decide)]; exact upd_self ..
        · kernel_rfl
        · kernel_rfl
        · exact fun _ => rfl
        apply XT.cons
        repeat is_list
        exact Ends.next' (by rw [List.map_append]; rfl)
      repeat is_list
  have d1 := (key.drop f19 (fun m hm => ?_) rfl).drop (n := 20) f20 (fun m hm => ?_) rfl
  · refine d1.same ?_ fun n hn => ?_
    · rw [← hσ]; funext m
      by_cases q : m = 20
      · subst q; rw [upd_self, upd_ne (Ne.symm l20), f20]
      · rw [upd_ne q]
        by_cases q' : m = 19
        · subst q'; rw [upd_self, upd_ne (Ne.symm l19), f19]
        · rw [upd_ne q']
          by_cases z : m = l
          · subst z; rw [upd_self, upd_self]
          · rw [upd_ne z, upd_ne z, upd_ne q', upd_ne q', upd_ne q]
    · rcases hn with ⟨⟨q | q | q, h1⟩, h2⟩
      · exact q ▸ hw
      · exact absurd q h1
      · exact absurd q h2
  · by_cases q : m = l
    · subst q; rw [upd_self]; exact avoids_hv ..
    · rw [upd_ne q, upd_ne hm, upd_ne hm]
      by_cases q' : m = 20
      · subst q'; rw [upd_self]; rfl
      · rw [upd_ne q']; exact av 19 m (.inl rfl)
  · by_cases q'' : m = 19
    · subst q''; rw [upd_self]; rfl
    · rw [upd_ne q'']
      by_cases q : m = l
      · subst q; rw [upd_self]; exact avoids_hv ..
      · rw [upd_ne q, upd_ne q'', upd_ne q'', upd_ne hm]; exact av 20 m (.inr rfl)
end
section
open PySem PySem.W PyProof.Rows
set_option maxRecDepth 100000
/-- a house's money as a line -/
noncomputable def ln (a b : Nat) : List Nat := List.replicate a 32 ++ 120 :: List.replicate b 32
theorem ln_len (a b : Nat) : (ln a b).length = a + 1 + b := by unfold ln; simp; omega
theorem ln_front {a b i : Nat} (h : i < a) : (ln a b).getD i 0 = 32 := by unfold ln; simp [List.getD, List.getElem?_append, h]
theorem ln_x {a b : Nat} : (ln a b).getD a 0 = 120 := by unfold ln; simp [List.getD, List.getElem?_append]
theorem ln_back {a b i : Nat} (h : a < i) (h2 : i < a + 1 + b) : (ln a b).getD i 0 = 32 := by
  obtain ⟨j, rfl⟩ := Nat.exists_eq_add_of_le h
  have hj : j < b := Nat.lt_of_add_lt_add_left h2
  unfold ln
  rw [List.getD_eq_getElem?_getD, List.getElem?_append_right (by rw [List.length_replicate]; exact Nat.le_trans (Nat.le_succ a) (Nat.le_add_right ..)), List.length_replicate, show a + 1 + j - a = j + 1 by rw [Nat.add_assoc, Nat.add_sub_cancel_left, Nat.add_comm], List.getElem?_cons_succ, List.getElem?_replicate_of_lt hj]
  rfl
theorem ln_cut {a b i d : Nat} (hi : i ≤ a) (hd : d ≤ b) : ((ln a b).drop i).take (a + 1 + (b - d) - i) = ln (a - i) (b - d) := by
  unfold ln
  rw [List.drop_append_of_le_length (by rw [List.length_replicate]; exact hi), List.drop_replicate]
  have e0 : a + 1 + (b - d) - i = (List.replicate (a - i) 32).length + ((b - d) + 1) := by rw [List.length_replicate, Nat.add_assoc, Nat.sub_add_comm hi, Nat.add_comm 1]
  rw [e0, List.take_length_add_append, List.take_succ_cons, List.take_replicate]
  rw [Nat.min_eq_left (Nat.sub_le ..)]
-- sums
theorem up_one {m n : Nat} (h0 : n ≠ 0) (hn : n ≤ m) : ((m - n : Nat) : Int) + 1 = ((m - (n - 1) : Nat) : Int) := by
  obtain ⟨i, rfl⟩ := Nat.exists_eq_add_of_le hn
  obtain ⟨j, rfl⟩ := Nat.exists_eq_succ_of_ne_zero h0
  rw [Nat.add_sub_cancel_left, Nat.succ_sub_one, Nat.succ_add, Nat.succ_sub (Nat.le_add_right ..), Nat.add_sub_cancel_left]; rfl
theorem down_one {n : Nat} (h0 : n ≠ 0) : (n : Int) - 1 = ((n - 1 : Nat) : Int) := by
  obtain ⟨j, rfl⟩ := Nat.exists_eq_succ_of_ne_zero h0
  exact Int.add_sub_cancel (j : Int) 1
theorem below {a b x : Nat} {L : Int} (hx : x ≤ a) (e : L = ((a + 1 + b : Nat) : Int)) : ((x : Nat) : Int) < L := e ▸ Int.ofNat_lt.mpr (Nat.lt_of_le_of_lt hx (Nat.lt_of_lt_of_le (Nat.lt_succ_self a) (Nat.le_add_right ..)))
theorem below' {a b y : Nat} {L : Int} (e : L = ((a + 1 + b : Nat) : Int)) : ((a + b - y : Nat) : Int) < L := e ▸ Int.ofNat_lt.mpr (Nat.lt_of_le_of_lt (Nat.sub_le ..) (Nat.add_lt_add_right (Nat.lt_succ_self a) b))
theorem rear_one {c n r : Nat} (h0 : r ≠ 0) (hr : r ≤ n) (hc : n - r < c) : ((c - (n - r) : Nat) : Int) - 1 = ((c - (n - (r - 1)) : Nat) : Int) := by
  obtain ⟨i, rfl⟩ := Nat.exists_eq_add_of_le hr
  obtain ⟨j, rfl⟩ := Nat.exists_eq_succ_of_ne_zero h0
  rw [Nat.add_sub_cancel_left] at hc
  rw [Nat.add_sub_cancel_left, Nat.succ_sub_one, Nat.succ_add, Nat.succ_sub (Nat.le_add_right ..), Nat.add_sub_cancel_left, down_one (Nat.sub_ne_zero_of_lt hc), Nat.sub_sub]
theorem part_ok {a b x y : Nat} {L : Int} (hx : x ≤ a) (hy : y ≤ b) (e : L = ((a + 1 + b : Nat) : Int)) : (0 : Int) ≤ ((x : Nat) : Int) ∧ ((x : Nat) : Int) ≤ ((a + b - y : Nat) : Int) + 1 ∧ ((a + b - y : Nat) : Int) + 1 ≤ L := by
  rw [e, Nat.add_sub_assoc hy]
  have h1 : x ≤ a + (b - y) + 1 := Nat.le_trans hx (Nat.le_trans (Nat.le_add_right ..) (Nat.le_succ _))
  have h2 : a + (b - y) + 1 ≤ a + 1 + b := by rw [Nat.add_right_comm]; exact Nat.add_le_add_left (Nat.sub_le ..) _
  exact ⟨Int.natCast_nonneg _, Int.ofNat_le.mpr h1, Int.ofNat_le.mpr h2⟩
theorem part_len {a b x y : Nat} (hy : y ≤ b) : (((a + b - y : Nat) : Int) + 1 - ((x : Nat) : Int)).toNat = a + 1 + (b - y) - x := by
  rw [Nat.add_sub_assoc hy, Nat.add_right_comm]
  exact Int.toNat_sub (a + (b - y) + 1) x
theorem front_left {a m n : Nat} (h : n = 0 ∨ m - n = a) (hn : n ≤ m) : a - (m - n) = a - m := by
  rcases h with rfl | rfl
  · rfl
  · rw [Nat.sub_self, Nat.sub_eq_zero_of_le (Nat.sub_le ..)]
theorem back_left {a b m n r : Nat} (h : n = 0 ∨ m - n = a) (hn : n ≤ m) (hm : m - n ≤ a) (h' : r = 0 ∨ n - r = b) (hr : r ≤ n) : b - (n - r) = b - (m - a) := by
  have e : n = m - a := by
    rcases h with rfl | rfl
    · exact (Nat.sub_eq_zero_of_le hm).symm
    · exact (Nat.sub_sub_self hn).symm
  rw [← e]
  rcases h' with rfl | rfl
  · rfl
  · rw [Nat.sub_self, Nat.sub_eq_zero_of_le (Nat.sub_le ..)]
theorem int_zero {n : Nat} (h : ((n : Int) != 0) = false) : n = 0 := Int.ofNat.inj (bne_eq_false_iff_eq.mp h)
theorem int_pos {n : Nat} (h : ((n : Int) != 0) = true) : n ≠ 0 := fun q => by subst q; cases h

theorem f212 (P : Params) : (K0 P).lookup 212 = some (fobj (fdAt (stmtAt 13) "_strip_padding" .none (.str "cpy313.locale" 621) (.ref 211))) := by kernel_rfl
theorem strip_ok {w : World} {H0 : Heap} (T : Tp w H0) {k : Nat} {σ : Store} {a b m : Nat} (ha : a ≤ 100) (hb : b ≤ 100) (hm : m ≤ 100) : FnP w H0 (k+1) (.ref 212) [.str (ln a b), .int m] [] σ (.str (ln (a - m) (b - (m - a)))) := by
  have hlen := congrArg (Nat.cast (R := Int)) (ln_len a b)
  have hl : (ln a b).length ≤ 1000000 := by rw [ln_len]; omega
  clear ha hb hm
  refine FnE.pure (FnE.of0 T (xs := ["s", "amount"]) (f212 _) (by kernel_rfl) (by kernel_rfl) rfl ?_ fun L => ?_)
  · exact Binds.of2 fun _ _ => rfl
  · show XT _ _ _ _ _ _ [("s", .str (ln a b)), ("amount", .int m)] _ _
    apply XT.cons
    repeat is_list
    apply XT.whileS (fun n => [("s", .str (ln a b)), ("amount", .int n), ("lpos", .int ((m - n : Nat) : Int))]) (fun n σ' => σ' = σ ∧ n ≤ m ∧ m - n ≤ a) m
    · rw [Nat.sub_self]
      exact Sup.cons (by fresh_at) (Sup.cons (by fresh_at) (Sup.cons (v := .int ((0 : Nat) : Int)) put_here Sup.nil))
    · exact ⟨rfl, Nat.le_refl _, by rw [Nat.sub_self]; exact Nat.zero_le _⟩
    · rintro n σ' ⟨rfl, hn, hna⟩
      have i1 : (((m - n : Nat) : Int)) < ((ln a b).length : Nat) := below hna hlen
      have i0 : (0 : Int) ≤ ((m - n : Nat) : Int) := Int.natCast_nonneg _
      apply Exists.intro
      apply And.intro
      · repeat is_list
      · apply And.intro
        · intro hc
          rw [Bool.and_true, Bool.and_eq_true] at hc
          have h0 := int_pos hc.1
          have hlt : m - n < a := Nat.lt_of_le_of_ne hna fun z => by
            have := hc.2
            rw [Int.toNat_natCast, z, ln_x] at this
            exact absurd this (by decide)
          clear hc
          apply XT.cons
          repeat is_list
          rw [up_one h0 hn, down_one h0]
          have lt : n - 1 < n := Nat.sub_one_lt h0
          have le : n - 1 ≤ m := Nat.le_trans (Nat.sub_le ..) hn
          have na : m - (n - 1) ≤ a := Int.ofNat_le.mp (up_one h0 hn ▸ Int.ofNat_le.mpr hlt)
          exact AgainS.next (m := n - 1) lt (by repeat is_list) ⟨rfl, le, na⟩
        · intro hc
          have hnm : n = 0 ∨ m - n = a := by
            rcases Nat.eq_or_lt_of_le hna with y | y
            · exact .inr y
            · rw [Int.toNat_natCast, ln_front y, Bool.and_true, Bool.and_eq_false_iff] at hc
              rcases hc with hc | hc
              · exact .inl (int_zero hc)
              · exact absurd hc (by decide)
          have fl := fn_lenS (w := w) (H0 := H0) (k := k) (σ := σ') (l := ln a b) hl
          clear hc i0 i1
          apply XT.cons
          repeat is_list
          have q1 : (((ln a b).length : Nat) : Int) - 1 = ((a + b : Nat) : Int) := by rw [hlen, Nat.add_right_comm]; exact Int.add_sub_cancel ((a + b : Nat) : Int) 1
          rw [q1]
          apply XT.whileS (fun r => [("s", .str (ln a b)), ("amount", .int r), ("lpos", .int ((m - n : Nat) : Int)), ("rpos", .int ((a + b - (n - r) : Nat) : Int))]) (fun r σ'' => σ'' = σ' ∧ r ≤ n ∧ n - r ≤ b) n
          · exact Sup.cons (by fresh_at) (Sup.cons (by fresh_at) (Sup.cons (by fresh_at) (Sup.cons (v := .int ((a + b - (n - n) : Nat) : Int)) (by rw [Nat.sub_self, Nat.sub_zero]; exact put_here) Sup.nil)))
          · exact ⟨rfl, Nat.le_refl _, by rw [Nat.sub_self]; exact Nat.zero_le _⟩
          · rintro r σ'' ⟨rfl, hr, hrb⟩
            have j1 : (((a + b - (n - r) : Nat) : Int)) < ((ln a b).length : Nat) := below' hlen
            have j0 : (0 : Int) ≤ ((a + b - (n - r) : Nat) : Int) := Int.natCast_nonneg _
            apply Exists.intro
            apply And.intro
            · repeat is_list
            · apply And.intro
              · intro hd
                rw [Bool.and_true, Bool.and_eq_true] at hd
                have h0 := int_pos hd.1
                have hlt : n - r < b := Nat.lt_of_le_of_ne hrb fun z => by
                  have := hd.2
                  rw [Int.toNat_natCast, z, Nat.add_sub_cancel, ln_x] at this
                  exact absurd this (by decide)
                clear hd
                apply XT.cons
                repeat is_list
                rw [rear_one h0 hr (Nat.lt_of_lt_of_le hlt (Nat.le_add_left ..)), down_one h0]
                have lt : r - 1 < r := Nat.sub_one_lt h0
                have le : r - 1 ≤ n := Nat.le_trans (Nat.sub_le ..) hr
                have na : n - (r - 1) ≤ b := Int.ofNat_le.mp (up_one h0 hr ▸ Int.ofNat_le.mpr hlt)
                exact AgainS.next (m := r - 1) lt (by repeat is_list) ⟨rfl, le, na⟩
              · intro hd
                have hrn : r = 0 ∨ n - r = b := by
                  rcases Nat.eq_or_lt_of_le hrb with y | y
                  · exact .inr y
                  · rw [Int.toNat_natCast, Nat.add_sub_assoc hrb, ln_back (Nat.lt_add_of_pos_right (Nat.sub_pos_of_lt y)) (Nat.add_right_comm a 1 b ▸ Nat.lt_succ_of_le (Nat.add_le_add_left (Nat.sub_le ..) _)), Bool.and_true, Bool.and_eq_false_iff] at hd
                    rcases hd with hd | hd
                    · exact .inl (int_zero hd)
                    · exact absurd hd (by decide)
                have cut := part_ok hna hrb hlen
                clear hd j0 j1
                apply XT.cons
                apply XT.ret
                · apply PV.cut
                  · repeat is_list
                  · repeat is_list
                  · repeat is_list
                  · exact cut
                  · exact hl
                  · exact fun _ _ => rfl
                  · exact fun _ _ => rfl
                · apply Kont.ret
                  apply Ends.ret
                  rw [part_len hrb, Int.toNat_natCast, ln_cut hna hrb, front_left hnm hn, back_left hnm hn hna hrn hr]
end
section
open PySem PySem.W PyProof.Rows
set_option maxRecDepth 100000
/-- letters A to P for the low places of a number -/
noncomputable def lowAP (N : Nat) : Nat → List UInt8
  | 0 => []
  | i + 1 => UInt8.ofNat (65 + N / 16 ^ i % 16) :: lowAP N i
theorem lowAP_len (N : Nat) : ∀ i, (lowAP N i).length = i
  | 0 => rfl
  | i + 1 => congrArg (· + 1) (lowAP_len N i)
noncomputable abbrev abc16 : List UInt8 := [65, 66, 67, 68, 69, 70, 71, 72, 73, 74, 75, 76, 77, 78, 79, 80]
theorem cut16 : ∀ r : Nat, r < 16 → (KBy.picked abc16.toArray (some (r : Int)) (some ((r : Int) + 1))).toList = [UInt8.ofNat (65 + r)] := by decide +kernel

theorem f198 (P : Params) : (K0 P).lookup 198 = some (fobj (fdAt (stmtAt 10) "Int2AP" .none (.str "cpy313.imaplib" 552) (.ref 197))) := by kernel_rfl
theorem int2ap_ok {w : World} {H0 : Heap} (T : Tp w H0) {k : Nat} {σ : Store} {a : Int} {N i0 : Nat} (hN : (if a < 0 then -a else a) = (N : Int)) (h4 : i0 ≤ 4) (hz : N / 16 ^ i0 = 0) (hnz : ∀ i < i0, N / 16 ^ i ≠ 0) : FnP w H0 (k+1) (.ref 198) [.int a] [] σ (.bytes (lowAP N i0)) := by
  have fa := fn_abs (w := w) (H0 := H0) (k := k) (σ := σ) a
  rw [hN] at fa
  have fi := fn_int (w := w) (H0 := H0) (k := k) (σ := σ) (N : Int)
  refine FnE.pure (FnE.of0 T (xs := ["num"]) (f198 _) (by kernel_rfl) (by kernel_rfl) rfl ?_ fun L => ?_)
  · exact Binds.of1 fun _ => rfl
  · show XT _ _ _ _ _ _ [("num", .int a)] _ _
    apply XT.cons
    repeat is_list
    apply XT.whileS (fun r => [("val", .bytes (lowAP N (i0 - r))), ("AP", .bytes abc16), ("num", .int ((N / 16 ^ (i0 - r) : Nat) : Int))]) (fun r σ' => σ' = σ ∧ r ≤ i0) i0
    · rw [Nat.sub_self, Nat.pow_zero, Nat.div_one]
      exact Sup.cons (v := .bytes (lowAP N 0)) (show _ = some (AV.bytes []) by fresh_at) (Sup.cons (by fresh_at) (Sup.cons (by fresh_at) Sup.nil))
    · exact ⟨rfl, Nat.le_refl _⟩
    · rintro r σ' ⟨rfl, hr⟩
      apply Exists.intro
      apply And.intro
      · repeat is_list
      · apply And.intro
        · intro hc
          have h0 : r ≠ 0 := by rintro rfl; rw [Nat.sub_zero, hz] at hc; exact absurd hc (by decide)
          have dm := fn_divmod (w := w) (H0 := H0) (k := k) (σ := σ') ((N / 16 ^ (i0 - r) : Nat) : Int) 16 (by decide)
          have e1 : ((N / 16 ^ (i0 - r) : Nat) : Int) / 16 = ((N / 16 ^ (i0 - (r - 1)) : Nat) : Int) := by
            have : i0 - (r - 1) = (i0 - r) + 1 := by omega
            rw [this, Nat.pow_succ, ← Nat.div_div_eq_div_mul]; rfl
          have e2 : ((N / 16 ^ (i0 - r) : Nat) : Int) % 16 = ((N / 16 ^ (i0 - r) % 16 : Nat) : Int) := rfl
          rw [e1, e2] at dm
          have cut := cut16 (N / 16 ^ (i0 - r) % 16) (Nat.mod_lt _ (by decide))
          apply XT.cons
          apply XT.assignT
          · repeat is_list
          · repeat is_list
          · kernel_rfl
          · kernel_rfl
          apply Kont.next
          apply XT.cons
          apply XT.letP
          · kernel_rfl
          · apply PV.binop
            · apply PV.eq
              · apply PV.cutY
                · repeat is_list
                · repeat is_list
                · repeat is_list
                · decide
                · exact fun _ _ => rfl
                · exact fun _ _ => rfl
              · exact congrArg AV.bytes cut
            · repeat is_list
            · exact O2.addY _ _ (by rw [lowAP_len]; simp; omega)
          · kernel_rfl
          apply Kont.next
          apply XT.nil
          have e3 : i0 - (r - 1) = (i0 - r) + 1 := by omega
          refine AgainS.next (m := r - 1) (by omega) ?_ ⟨rfl, by omega⟩
          rw [e3]
          exact Sup.cons (v := .bytes (lowAP N (i0 - r + 1))) put_here (Sup.cons (by fresh_at) (Sup.cons (by fresh_at) Sup.nil))
        · intro hc
          have h0 : r = 0 := by
            rcases Nat.eq_zero_or_pos r with z | z
            · exact z
            · exfalso
              have := hnz (i0 - r) (by omega)
              have hc : ((N / 16 ^ (i0 - r) : Nat) : Int) = 0 := by simpa using hc
              omega
          subst h0
          apply XT.cons
          repeat is_list
          exact Ends.ret (by rw [Nat.sub_zero])
end
section
open PySem PySem.W PyProof.Rows
set_option maxRecDepth 100000
/-- the world of the law: the three tables as they are told, and what the law keeps besides -/
structure Om where
  houses : List (List Nat × List Nat)
  post : List (List Nat × List Nat)
  picture : List (List Nat × List Nat)
  laid : List (Nat × Nat × Nat)
  order : List (Nat × Nat)
  seen : List Bool
  stars : List (Nat × Nat)
  deeds : List (Bool × Nat × Nat × Int)
noncomputable def t2 (x : Nat × Nat) : AV := .tup [.int x.1, .int x.2]
noncomputable def t3 (x : Nat × Nat × Nat) : AV := .tup [.int x.1, .int x.2.1, .int x.2.2]
noncomputable def t4 (x : Bool × Nat × Nat × Int) : AV := .tup [.bool x.1, .int x.2.1, .int x.2.2.1, .int x.2.2.2]
noncomputable def wdict (O : Om) : List (Str × AV) := [("houses", .loc 1), ("post", .loc 4), ("picture", .loc 7), ("amiss", .bool false), ("laid", .loc 10), ("order", .lst (O.order.map t2)), ("seen", .loc 11), ("stars", .loc 12), ("deeds", .loc 13)]
noncomputable def enc (β : Store) (O : Om) : Store := fun n => match n with
  | 0 => .dict (wdict O)
  | 1 => .hdr hdrC 2
  | 2 => .idict 3
  | 3 => .list (O.houses.map hv)
  | 4 => .hdr hdrC 5
  | 5 => .idict 6
  | 6 => .list (O.post.map hv)
  | 7 => .hdr hdrC 8
  | 8 => .idict 9
  | 9 => .list (O.picture.map hv)
  | 10 => .list (O.laid.map t3)
  | 11 => .list (O.seen.map .bool)
  | 12 => .list (O.stars.map t2)
  | 13 => .list (O.deeds.map t4)
  | n => β n
theorem enc_houses (β : Store) (O : Om) (x : List (List Nat × List Nat)) : upd (enc β O) 3 (.list (x.map hv)) = enc β { O with houses := x } := by
  funext n
  by_cases h : n = 3
  · subst h; rw [upd_self]; rfl
  · rw [upd_ne h]; unfold enc; split <;> first | rfl | exact absurd rfl h
theorem enc_post (β : Store) (O : Om) (x : List (List Nat × List Nat)) : upd (enc β O) 6 (.list (x.map hv)) = enc β { O with post := x } := by
  funext n
  by_cases h : n = 6
  · subst h; rw [upd_self]; rfl
  · rw [upd_ne h]; unfold enc; split <;> first | rfl | exact absurd rfl h
theorem enc_picture (β : Store) (O : Om) (x : List (List Nat × List Nat)) : upd (enc β O) 9 (.list (x.map hv)) = enc β { O with picture := x } := by
  funext n
  by_cases h : n = 9
  · subst h; rw [upd_self]; rfl
  · rw [upd_ne h]; unfold enc; split <;> first | rfl | exact absurd rfl h
theorem enc_laid (β : Store) (O : Om) (x : List (Nat × Nat × Nat)) : upd (enc β O) 10 (.list (x.map t3)) = enc β { O with laid := x } := by
  funext n
  by_cases h : n = 10
  · subst h; rw [upd_self]; rfl
  · rw [upd_ne h]; unfold enc; split <;> first | rfl | exact absurd rfl h
theorem enc_seen (β : Store) (O : Om) (x : List Bool) : upd (enc β O) 11 (.list (x.map .bool)) = enc β { O with seen := x } := by
  funext n
  by_cases h : n = 11
  · subst h; rw [upd_self]; rfl
  · rw [upd_ne h]; unfold enc; split <;> first | rfl | exact absurd rfl h
theorem enc_stars (β : Store) (O : Om) (x : List (Nat × Nat)) : upd (enc β O) 12 (.list (x.map t2)) = enc β { O with stars := x } := by
  funext n
  by_cases h : n = 12
  · subst h; rw [upd_self]; rfl
  · rw [upd_ne h]; unfold enc; split <;> first | rfl | exact absurd rfl h
theorem enc_deeds (β : Store) (O : Om) (x : List (Bool × Nat × Nat × Int)) : upd (enc β O) 13 (.list (x.map t4)) = enc β { O with deeds := x } := by
  funext n
  by_cases h : n = 13
  · subst h; rw [upd_self]; rfl
  · rw [upd_ne h]; unfold enc; split <;> first | rfl | exact absurd rfl h
theorem enc_order (β : Store) (O : Om) (x : List (Nat × Nat)) : upd (enc β O) 0 (.dict (wdict { O with order := x })) = enc β { O with order := x } := by
  funext n
  by_cases h : n = 0
  · subst h; rw [upd_self]; rfl
  · rw [upd_ne h]; unfold enc; split <;> first | rfl | exact absurd rfl h
theorem hd_houses (β : Store) (O : Om) : Hd (enc β O) 1 2 3 := ⟨rfl, rfl, by intro q; cases q⟩
theorem hd_post (β : Store) (O : Om) : Hd (enc β O) 4 5 6 := ⟨rfl, rfl, by intro q; cases q⟩
theorem hd_picture (β : Store) (O : Om) : Hd (enc β O) 7 8 9 := ⟨rfl, rfl, by intro q; cases q⟩
end
section
open PySem PySem.W PyProof.Rows
set_option maxRecDepth 100000
theorem avoidsL_all {n : Nat} : ∀ {l : List AV}, (∀ v ∈ l, v.avoids n = true) → avoidsL n l = true
  | [], _ => by rw [avoidsL]
  | v :: l, h => by rw [avoidsL, h v List.mem_cons_self, avoidsL_all fun u hu => h u (List.mem_cons_of_mem _ hu)]; rfl
theorem enc_avoids {β : Store} {O : Om} {n : Nat} (hn : 14 ≤ n) (hβ : ∀ m, (β m).avoids n = true) (m : Nat) : (enc β O m).avoids n = true := by
  have t2a : ∀ x : Nat × Nat, (t2 x).avoids n = true := fun x => by simp [t2, AV.avoids, avoidsL]
  have t3a : ∀ x : Nat × Nat × Nat, (t3 x).avoids n = true := fun x => by simp [t3, AV.avoids, avoidsL]
  have t4a : ∀ x : Bool × Nat × Nat × Int, (t4 x).avoids n = true := fun x => by simp [t4, AV.avoids, avoidsL]
  have all : ∀ {α : Type} (f : α → AV) (l : List α), (∀ x, (f x).avoids n = true) → avoidsL n (l.map f) = true := fun f l h => avoidsL_all fun v hv => by
    obtain ⟨x, _, rfl⟩ := List.mem_map.mp hv; exact h x
  unfold enc
  split
  · simp [wdict, Plc.avoids, avoidsL, AV.avoids, all t2 _ t2a]; omega
  · simp [Plc.avoids]; omega
  · simp [Plc.avoids]; omega
  · exact avoids_hv ..
  · simp [Plc.avoids]; omega
  · simp [Plc.avoids]; omega
  · exact avoids_hv ..
  · simp [Plc.avoids]; omega
  · simp [Plc.avoids]; omega
  · exact avoids_hv ..
  · exact all t3 _ t3a
  · exact all AV.bool _ fun x => by simp [AV.avoids]
  · exact all t2 _ t2a
  · exact all t4 _ t4a
  · exact hβ m
/-- what stands beside the world: nothing in the two places that add_header needs -/
structure Beside (β : Store) : Prop where
  f19 : β 19 = .free
  f20 : β 20 = .free
  av : ∀ n m, n = 19 ∨ n = 20 → (β m).avoids n = true
end
section
open PySem PySem.W PyProof.Rows
set_option maxRecDepth 100000

theorem f240 (P : Params) : (K0 P).lookup 240 = some (fobj (fdAt (stmtAt 18) "_law_lay" .none (.str "law_yf0032_01" 642) (.ref 239))) := by kernel_rfl
theorem lay_post {w : World} {H0 : Heap} (T : Tp w H0) {k : Nat} {β : Store} {O : Om} {W : Nat → Prop} {n0 v0 : List Nat} (B : Beside β) (hl : O.post.length ≤ 500) (hp : Plain n0) (hpl : n0.length ≤ 1000) (hv0 : Plain v0) (hvl : v0.length ≤ 1000) (hw : W 6) :
    FnE w H0 (k+4) W (.ref 240) [.loc 0, .str (S "post"), .str n0, .str v0] [] (enc β O) .none (enc β { O with post := O.post ++ [(n0, v0)] }) := by
  have ad := hadd_ok (k := k) (W := W) (n0 := n0) (v0 := v0) T (hd_post β O) (es := O.post) rfl hl hp hpl hv0 hvl B.f19 B.f20 hw (fun n m hn => enc_avoids (by omega) (fun m => B.av n m hn) m) (enc_post β O _)
  have m1 := methH (k := k+3) T (hd_post β O) (name := "add_header") (f := 179) (fun _ => by kernel_rfl) (fun _ => by kernel_rfl) (by kernel_rfl)
  refine FnE.of0 T (xs := ["world", "table", "name", "text"]) (f240 _) (by kernel_rfl) (by kernel_rfl) rfl ?_ fun L => ?_
  · exact Binds.of4 fun _ _ _ _ => rfl
  · show XT _ _ _ _ _ _ [("world", .loc 0), ("table", .str (S "post")), ("name", .str n0), ("text", .str v0)] _ _
    apply XT.cons
    apply XT.ifX (c := false) (σ' := enc β { O with post := O.post ++ [(n0, v0)] })
    · apply XB.cmp
      · apply XV.meth0
        · exact T
        · apply PV.sub
          · repeat is_list
          · repeat is_list
          · apply O2.itemD (es := wdict O)
            · rfl
            · exact (by kernel_rfl : (wdict O).lookup _ = some (.loc 4))
          · exact SubOk.dict (l := wdict O) rfl
          · exact fun _ _ => ⟨_, rfl⟩
        · exact m1
        · exact KeepOk.def (by kernel_rfl)
        · repeat is_list
        · exact ad
        · kernel_rfl
        · kernel_rfl
        · kernel_rfl
        · kernel_rfl
      · repeat is_list
      · repeat is_list
      · kernel_rfl
    · intro h; cases h
    · intro _
      repeat is_list
theorem lay_picture {w : World} {H0 : Heap} (T : Tp w H0) {k : Nat} {β : Store} {O : Om} {W : Nat → Prop} {n0 v0 : List Nat} (B : Beside β) (hl : O.picture.length ≤ 500) (hp : Plain n0) (hpl : n0.length ≤ 1000) (hv0 : Plain v0) (hvl : v0.length ≤ 1000) (hw : W 9) :
    FnE w H0 (k+4) W (.ref 240) [.loc 0, .str (S "picture"), .str n0, .str v0] [] (enc β O) .none (enc β { O with picture := O.picture ++ [(n0, v0)] }) := by
  have ad := hadd_ok (k := k) (W := W) (n0 := n0) (v0 := v0) T (hd_picture β O) (es := O.picture) rfl hl hp hpl hv0 hvl B.f19 B.f20 hw (fun n m hn => enc_avoids (by omega) (fun m => B.av n m hn) m) (enc_picture β O _)
  have m1 := methH (k := k+3) T (hd_picture β O) (name := "add_header") (f := 179) (fun _ => by kernel_rfl) (fun _ => by kernel_rfl) (by kernel_rfl)
  refine FnE.of0 T (xs := ["world", "table", "name", "text"]) (f240 _) (by kernel_rfl) (by kernel_rfl) rfl ?_ fun L => ?_
  · exact Binds.of4 fun _ _ _ _ => rfl
  · show XT _ _ _ _ _ _ [("world", .loc 0), ("table", .str (S "picture")), ("name", .str n0), ("text", .str v0)] _ _
    apply XT.cons
    apply XT.ifX (c := false) (σ' := enc β { O with picture := O.picture ++ [(n0, v0)] })
    · apply XB.cmp
      · apply XV.meth0
        · exact T
        · apply PV.sub
          · repeat is_list
          · repeat is_list
          · apply O2.itemD (es := wdict O)
            · rfl
            · exact (by kernel_rfl : (wdict O).lookup _ = some (.loc 7))
          · exact SubOk.dict (l := wdict O) rfl
          · exact fun _ _ => ⟨_, rfl⟩
        · exact m1
        · exact KeepOk.def (by kernel_rfl)
        · repeat is_list
        · exact ad
        · kernel_rfl
        · kernel_rfl
        · kernel_rfl
        · kernel_rfl
      · repeat is_list
      · repeat is_list
      · kernel_rfl
    · intro h; cases h
    · intro _
      repeat is_list
end
section
open PySem PySem.W PyProof.Rows
set_option maxRecDepth 100000

theorem f245 (P : Params) : (K0 P).lookup 245 = some (fobj (fdAt (stmtAt 19) "_law_store" .none (.str "law_yf0032_01" 642) (.ref 244))) := by kernel_rfl
theorem nm_plain {i j g : Nat} (hi : i < 3) (hj : j < 4) (hg : g < 2) : Plain (nm i j g) := by
  have : ∀ i, i < 3 → ∀ j, j < 4 → ∀ g, g < 2 → ∀ c ∈ nm i j g, 32 ≤ c ∧ c < 127 := by decide
  exact this i hi j hj g hg
theorem low_nm {i j g : Nat} (hi : i < 3) (hj : j < 4) (hg : g < 2) : low (nm i j g) = nm i j 0 := by
  have : ∀ i, i < 3 → ∀ j, j < 4 → ∀ g, g < 2 → low (nm i j g) = nm i j 0 := by decide +kernel
  exact this i hi j hj g hg
theorem store_ok {w : World} {H0 : Heap} (T : Tp w H0) {k : Nat} {β : Store} {O : Om} {W : Nat → Prop} {i g : Nat} {line : List Nat} (hi : i < 3) (hg : g < 2) (hl : O.houses.length ≤ 400) (ho : HOk O.houses) (hol : O.order.length ≤ 400) (hp : Plain line) (hpl : line.length ≤ 1000) (hw : W 3) (hw0 : W 0) :
    FnE w H0 (k+4) W (.ref 245) [.loc 0, .int i, .int g, .str line] [] (enc β O) .none (enc β { O with houses := without O.houses (nm i 3 g) ++ [(nm i 3 g, line)], order := reorder O.order i g }) := by
  have st := hset_ok (k := k) (W := W) (n0 := nm i 3 g) (v0 := line) T (hd_houses β O) (es := O.houses) rfl (by omega) ho (by rw [low_nm hi (by omega) hg]; exact nm_plain hi (by omega) (by omega)) (by rw [low_nm hi (by omega) hg]; exact nm_len ..) (nm_plain hi (by omega) hg) (Nat.le_trans (nm_len ..) (by decide)) hp hpl hw (enc_houses β O _)
  have nn := name_ok (k := k+1) (σ := enc β O) T hi (show 3 < 4 by decide) hg
  have hf := List.length_filter_le (fun x : Nat × Nat => (x.1 : Int) != (i : Int)) O.order
  refine FnE.mkX (W := W) (σ := enc β O) (σ₁ := enc β O) (v := .none) T (k := k+3) (names := []) (ks := []) (f245 w.params) rfl rfl (by kernel_rfl) (xs := ["world", "k", "great", "line"]) (by kernel_rfl) rfl
    (BindX.plain (args := [.loc 0, .int i, .int g, .str line]) rfl ?_) ⟨rfl, rfl, rfl⟩ fun L => ?_
  · exact Binds.of4 fun _ _ _ _ => rfl
  · show XT _ _ _ _ _ _ [("world", .loc 0), ("k", .int i), ("great", .int g), ("line", .str line)] _ _
    apply XT.cons
    apply XT.setsub (σ' := enc β { O with houses := without O.houses (nm i 3 g) ++ [(nm i 3 g, line)] })
    · repeat is_list
    · apply PV.sub
      · repeat is_list
      · repeat is_list
      · apply O2.itemD (es := wdict O)
        · rfl
        · exact (by kernel_rfl : (wdict O).lookup _ = some (.loc 1))
      · exact SubOk.dict (l := wdict O) rfl
      · exact fun _ _ => ⟨_, rfl⟩
    · repeat is_list
    · exact SE.hdr T (hd_houses β O) st
    · kernel_rfl
    apply Kont.next
    apply XT.cons
    apply XT.setsub (σ' := enc β { O with houses := without O.houses (nm i 3 g) ++ [(nm i 3 g, line)], order := reorder O.order i g })
    · apply PV.binop
      · apply PV.new
        apply PVn.comp1 (es := O.order) (f := t2) (x := "k") (c := L + 1) (fun x => (x.1 : Int) != (i : Int)) t2
        · apply ItE.lst
          · apply PV.sub
            · repeat is_list
            · repeat is_list
            · apply O2.itemD (es := wdict O)
              · rfl
              · exact (by kernel_rfl : (wdict O).lookup _ = some (.lst (O.order.map t2)))
            · exact SubOk.dict (l := wdict O) rfl
            · exact fun _ _ => ⟨_, rfl⟩
          · rfl
          · exact fun _ => rfl
        · kernel_rfl
        · kernel_rfl
        · kernel_rfl
        · fresh_at
        · exact fun _ => by kernel_rfl
        · kernel_rfl
        · omega
        · intro C x hx
          unfold t2
          repeat is_list
          intro _
          repeat is_list
      · repeat is_list
      · exact O2.addL _ _ (by rw [List.length_map]; simp; omega)
    · repeat is_list
    · repeat is_list
    · apply SE.dict (es := wdict { O with houses := without O.houses (nm i 3 g) ++ [(nm i 3 g, line)] })
      · rfl
      · kernel_rfl
      · exact hw0
      · have e : (reorder O.order i g).map t2 = (O.order.filter fun x => (x.1 : Int) != (i : Int)).map t2 ++ [.tup [.int i, .int g]] := by unfold reorder; rw [List.map_append]; rfl
        rw [← e]
        have d : dset ⟨(Str.ofString "order").cps.toList.toArray⟩ (.lst ((reorder O.order i g).map t2)) (wdict { O with houses := without O.houses (nm i 3 g) ++ [(nm i 3 g, line)] }) = wdict { O with houses := without O.houses (nm i 3 g) ++ [(nm i 3 g, line)], order := reorder O.order i g } := by kernel_rfl
        rw [d]
        exact enc_order β { O with houses := without O.houses (nm i 3 g) ++ [(nm i 3 g, line)] } (reorder O.order i g)
    · kernel_rfl
    repeat is_list
end
section
open PySem PySem.W PyProof.Rows
set_option maxRecDepth 100000
theorem idx_ln : ∀ a < 16, ∀ b < 16, Builtin.Str.occurrences ⟨(ln a b).toArray⟩ ⟨(S "x").toArray⟩ 0 (ln a b).length 1 = [a] := by decide +kernel
theorem lowAP2 : ∀ n < 16, lowAP (16 + n) 2 = [66, UInt8.ofNat (65 + n)] := by decide +kernel
theorem lowAP3 : ∀ h < 16, ∀ n < 16, lowAP (256 + 16 * h + n) 3 = [66, UInt8.ofNat (65 + h), UInt8.ofNat (65 + n)] := by decide +kernel
end
section
open PySem PySem.W PyProof.Rows
set_option maxRecDepth 100000
noncomputable def word : Option Nat → List Nat
  | none => [42]
  | some n => [66, 65 + n]
noncomputable def pcText (p : Pc) : List Nat := if p.j = 3 then [66, 65 + p.x, 65 + p.y] else [66, 65 + p.x]
noncomputable def om (s : Gs) : Om :=
  { houses := s.order.map fun o => (nm o.1 3 o.2, ln (s.hand o.1) (s.bank o.1)), post := s.post.map fun x => (nm x.1 x.2.1 x.2.2.1, word x.2.2.2), picture := s.pic.map fun p => (nm p.i p.j p.g, pcText p), laid := s.pic.map fun p => (p.i, p.j, p.g), order := s.order, seen := [s.seen 0, s.seen 1, s.seen 2], stars := s.stars, deeds := s.deeds }
/-- what the walk asks of the world; the lists are N long at most -/
structure Fine (N : Nat) (s : Gs) : Prop where
  post : ∀ x ∈ s.post, x.1 < 3 ∧ x.2.1 < 3 ∧ x.2.2.1 < 2 ∧ ∀ n, x.2.2.2 = some n → n < 16
  order : ∀ o ∈ s.order, o.1 < 3 ∧ o.2 < 2
  all : ∀ k < 3, ∃ g, (k, g) ∈ s.order
  cash : ∀ k < 3, s.hand k + s.bank k < 16
  nPost : s.post.length ≤ N
  nPic : s.pic.length ≤ N
  nOrder : s.order.length ≤ N
  nStars : s.stars.length ≤ N
  nDeeds : s.deeds.length ≤ N
theorem low_same {i j g i' j' g' : Nat} (hi : i < 3) (hj : j < 4) (hg : g < 2) (hi' : i' < 3) (hj' : j' < 4) (hg' : g' < 2) : (low (nm i j g) == low (nm i' j' g')) = (i == i' && j == j') := by
  rw [low_nm hi hj hg, low_nm hi' hj' hg']
  have : ∀ i < 3, ∀ j < 4, ∀ i' < 3, ∀ j' < 4, (nm i j 0 == nm i' j' 0) = (i == i' && j == j') := by decide +kernel
  exact this i hi j hj i' hi' j' hj'
theorem find_house {s : Gs} {k g : Nat} (ho : ∀ o ∈ s.order, o.1 < 3 ∧ o.2 < 2) (ha : ∃ g, (k, g) ∈ s.order) (hk : k < 3) (hg : g < 2) :
    ((om s).houses.find? fun x => low x.1 == low (nm k 3 g)).elim AV.none (fun x => .str x.2) = .str (ln (s.hand k) (s.bank k)) := by
  show ((s.order.map fun o => (nm o.1 3 o.2, ln (s.hand o.1) (s.bank o.1))).find? fun x => low x.1 == low (nm k 3 g)).elim AV.none (fun x => .str x.2) = _
  obtain ⟨g0, hm⟩ := ha
  generalize s.order = l at ho hm
  induction l with
  | nil => simp at hm
  | cons o l ih =>
    rw [List.map_cons, List.find?_cons]
    obtain ⟨h1, h2⟩ := ho o List.mem_cons_self
    rw [show (low (nm o.1 3 o.2) == low (nm k 3 g)) = (o.1 == k && 3 == 3) from low_same h1 (by omega) h2 hk (by omega) hg]
    by_cases h : o.1 = k
    · subst h; simp
    · have : (o.1 == k) = false := by simpa using h
      rw [this, Bool.false_and]
      refine ih (fun o ho' => ho o (List.mem_cons_of_mem _ ho')) ?_
      rcases List.mem_cons.mp hm with e | e
      · rw [← e] at h; exact absurd rfl h
      · exact e
theorem store_houses {s : Gs} {k g a b : Nat} (ho : ∀ o ∈ s.order, o.1 < 3 ∧ o.2 < 2) (hk : k < 3) (hg : g < 2) :
    without (om s).houses (nm k 3 g) ++ [(nm k 3 g, ln a b)] = (reorder s.order k g).map fun o => (nm o.1 3 o.2, ln (fs s.hand k a o.1) (fs s.bank k b o.1)) := by
  unfold reorder without
  rw [List.map_append]
  congr 1
  · show (s.order.map fun o => (nm o.1 3 o.2, ln (s.hand o.1) (s.bank o.1))).filter _ = _
    generalize s.order = l at ho
    induction l with
    | nil => rfl
    | cons o l ih =>
      obtain ⟨h1, h2⟩ := ho o List.mem_cons_self
      have ih := ih fun o ho' => ho o (List.mem_cons_of_mem _ ho')
      rw [List.map_cons, List.filter_cons, List.filter_cons, ih]
      have e : (low (nm o.1 3 o.2) != low (nm k 3 g)) = ((o.1 : Int) != (k : Int)) := by
        rw [bne, low_same h1 (by omega) h2 hk (by omega) hg]
        by_cases h : o.1 = k
        · simp [h]
        · have : ¬ ((o.1 : Int) = k) := by omega
          rw [beq_eq_false_iff_ne.mpr h, Bool.false_and, bne, beq_eq_false_iff_ne.mpr this]
      simp only [e]
      by_cases h : o.1 = k
      · simp [h]
      · have : ((o.1 : Int) != (k : Int)) = true := by simp; omega
        rw [if_pos this, if_pos this, List.map_cons, fs_ne h, fs_ne h]
  · simp [fs_self]
theorem post_chan {p : List Item} {i j g : Nat} (hp : ∀ x ∈ p, x.1 < 3 ∧ x.2.1 < 3 ∧ x.2.2.1 < 2) (hi : i < 3) (hj : j < 3) (hg : g < 2) :
    (((p.map fun x => (nm x.1 x.2.1 x.2.2.1, word x.2.2.2)).filter fun x => low x.1 == low (nm i j g)).map fun x => AV.str x.2) = (chan p i j).map fun o => .str (word o) := by
  unfold chan
  induction p with
  | nil => rfl
  | cons o l ih =>
    obtain ⟨h1, h2, h3⟩ := hp o List.mem_cons_self
    have ih := ih fun o ho' => hp o (List.mem_cons_of_mem _ ho')
    rw [List.map_cons, List.filter_cons, List.filter_cons]
    simp only [low_same h1 (show o.2.1 < 4 by omega) h3 hi (show j < 4 by omega) hg]
    by_cases h : onRoad i j o = true
    · rw [if_pos h, if_pos (show (o.1 == i && o.2.1 == j) = true from h), List.map_cons, List.map_cons, List.map_cons, ih]
    · rw [if_neg h, if_neg (show ¬ (o.1 == i && o.2.1 == j) = true from h), ih]
theorem post_find {p : List Item} {i j g : Nat} (hp : ∀ x ∈ p, x.1 < 3 ∧ x.2.1 < 3 ∧ x.2.2.1 < 2) (hi : i < 3) (hj : j < 3) (hg : g < 2) :
    ((p.map fun x => (nm x.1 x.2.1 x.2.2.1, word x.2.2.2)).find? fun x => low x.1 == low (nm i j g)).elim AV.none (fun x => .str x.2) = (chan p i j).head?.elim .none fun o => .str (word o) := by
  have := post_chan hp hi hj hg
  rw [← List.head?_filter]
  have e := congrArg List.head? this
  rw [List.head?_map, List.head?_map] at e
  revert e
  generalize ((p.map fun x => (nm x.1 x.2.1 x.2.2.1, word x.2.2.2)).filter fun x => low x.1 == low (nm i j g)).head? = a
  generalize (chan p i j).head? = b
  intro e
  cases a <;> cases b <;> simp_all
theorem post_others {p : List Item} {i j g : Nat} (hp : ∀ x ∈ p, x.1 < 3 ∧ x.2.1 < 3 ∧ x.2.2.1 < 2) (hi : i < 3) (hj : j < 3) (hg : g < 2) :
    without (p.map fun x => (nm x.1 x.2.1 x.2.2.1, word x.2.2.2)) (nm i j g) = (others p i j).map fun x => (nm x.1 x.2.1 x.2.2.1, word x.2.2.2) := by
  unfold without others
  induction p with
  | nil => rfl
  | cons o l ih =>
    obtain ⟨h1, h2, h3⟩ := hp o List.mem_cons_self
    have ih := ih fun o ho' => hp o (List.mem_cons_of_mem _ ho')
    rw [List.map_cons, List.filter_cons, List.filter_cons]
    simp only [bne, low_same h1 (show o.2.1 < 4 by omega) h3 hi (show j < 4 by omega) hg]
    by_cases h : (!onRoad i j o) = true
    · rw [if_pos h, if_pos (show (!(o.1 == i && o.2.1 == j)) = true from h), List.map_cons]; exact congrArg _ ih
    · rw [if_neg h, if_neg (show ¬ (!(o.1 == i && o.2.1 == j)) = true from h)]; exact ih
theorem hok_nm {α : Type} {l : List α} {f : α → List Nat × List Nat} (hp : ∀ x ∈ l, ∃ i j g, i < 3 ∧ j < 4 ∧ g < 2 ∧ (f x).1 = nm i j g) : HOk (l.map f) := fun e he => by
  obtain ⟨x, hx, rfl⟩ := List.mem_map.mp he
  obtain ⟨i, j, g, hi, hj, hg, e⟩ := hp x hx
  rw [e, low_nm hi hj hg]; exact nm_len ..
theorem Fine.hHouses {N : Nat} {s : Gs} (f : Fine N s) : HOk (om s).houses := hok_nm fun x hx => ⟨_, 3, _, (f.order x hx).1, by decide, (f.order x hx).2, rfl⟩
theorem Fine.hPost {N : Nat} {s : Gs} (f : Fine N s) : HOk (om s).post := hok_nm fun x hx => ⟨_, _, _, (f.post x hx).1, by have := (f.post x hx).2.1; omega, (f.post x hx).2.2.1, rfl⟩
theorem ln_plain (a b : Nat) : Plain (ln a b) := by
  intro c hc
  unfold ln at hc
  rcases List.mem_append.mp hc with h | h
  · have := List.eq_of_mem_replicate h; omega
  · rcases List.mem_cons.mp h with h | h
    · omega
    · have := List.eq_of_mem_replicate h; omega
theorem word_plain {o : Option Nat} (h : ∀ n, o = some n → n < 16) : Plain (word o) := by
  intro c hc
  cases o with
  | none => simp [word] at hc; omega
  | some n =>
    have := h n rfl
    simp [word] at hc; omega
theorem word_len (o : Option Nat) : (word o).length ≤ 100 := by cases o <;> simp [word]
section
variable {w : World} {H0 : Heap} {k : Nat} {env : Env} {μ : Vars} {β : Store} {O : Om} {W : Nat → Prop} {P : Fl → Vars → Store → Prop}
theorem PV.wget {o : Expr} {key : Str} {j : Nat} {p pos : Pos} {v : AV} (x : PV w H0 k (eval o env) env μ (enc β O) (.loc 0)) (e : (wdict O).lookup ⟨key.cps.toList.toArray⟩ = some v) : PV w H0 k (eval (.Subscript o (.Constant (.str key) j p) pos) env) env μ (enc β O) v :=
  PV.sub x PV.constS (O2.itemD (es := wdict O) rfl e) (SubOk.dict (l := wdict O) rfl) (fun _ _ => ⟨_, rfl⟩)
theorem wl_houses : (wdict O).lookup ⟨(S "houses").toArray⟩ = some (.loc 1) := by kernel_rfl
theorem wl_post : (wdict O).lookup ⟨(S "post").toArray⟩ = some (.loc 4) := by kernel_rfl
theorem wl_picture : (wdict O).lookup ⟨(S "picture").toArray⟩ = some (.loc 7) := by kernel_rfl
theorem wl_laid : (wdict O).lookup ⟨(S "laid").toArray⟩ = some (.loc 10) := by kernel_rfl
theorem wl_seen : (wdict O).lookup ⟨(S "seen").toArray⟩ = some (.loc 11) := by kernel_rfl
theorem wl_stars : (wdict O).lookup ⟨(S "stars").toArray⟩ = some (.loc 12) := by kernel_rfl
theorem wl_deeds : (wdict O).lookup ⟨(S "deeds").toArray⟩ = some (.loc 13) := by kernel_rfl
theorem wl_amiss : (wdict O).lookup ⟨(S "amiss").toArray⟩ = some (.bool false) := by kernel_rfl
theorem wl_order : (wdict O).lookup ⟨(S "order").toArray⟩ = some (.lst (O.order.map t2)) := by kernel_rfl
/-- world[key].append(..) -/
theorem XT.wappend (T : Tp w H0) {o : Expr} {key : Str} {j n : Nat} {p p2 apos pos spos : Pos} {arg : Expr} {l : List AV} {v : AV} {σ' : Store} (x : PV w H0 k (eval o env) env μ (enc β O) (.loc 0)) (e : (wdict O).lookup ⟨key.cps.toList.toArray⟩ = some (.loc n)) (en : enc β O n = .list l) (hl : l.length ≤ 1000) (hw : W n)
    (a : PV w H0 k (eval arg env) env μ (enc β O) v) (hst : starEach [arg] env = (false, eval arg env) :: []) (hσ : upd (enc β O) n (.list (l ++ [v])) = σ') (hbase : attributeBase (.Subscript o (.Constant (.str key) j p) p2) "append" env (eval (.Subscript o (.Constant (.str key) j p) p2) env) = eval (.Subscript o (.Constant (.str key) j p) p2) env)
    (hline : (apos.endLine == pos.line) = true) (hi : interactive env = false) (hs : swapsWith (.Call (.Attribute (.Subscript o (.Constant (.str key) j p) p2) "append" apos) [arg] [] pos) none spos.line env = pure false) (h : P .next μ σ') :
    XT w H0 k W env (exec (.Expr (.Call (.Attribute (.Subscript o (.Constant (.str key) j p) p2) "append" apos) [arg] [] pos) spos) env) μ (enc β O) P := by
  refine XT.expr (XV.meth0 T (PV.wget x e) (meth_append en) (KeepOk.builtin _) (l := [v]) ?_ (FnE.append en hl hw hσ) (by rw [hst]; rfl) hbase (by rw [hst]; rfl) hline) rfl hi hs h
  exact PVs.cons a PVs.nil hst
end
theorem PB.and2 {w : World} {H0 : Heap} {k : Nat} {env : Env} {μ : Vars} {σ : Store} {x y : Expr} {pos : Pos} {whole : Sem Value} {c d : Bool} (a : PB w H0 k (isTrue x env (eval x env)) env μ σ c) (b : c = true → PB w H0 k (isTrue y env (eval y env)) env μ σ d) :
    PB w H0 k (isTrue (.BoolOp .And [x, y] pos) env whole) env μ σ (c && d) := (PB.and_ a fun h => PB.and_ (b h) fun _ => PB.and_nil).eq (by rw [Bool.and_true])
theorem PB.or2 {w : World} {H0 : Heap} {k : Nat} {env : Env} {μ : Vars} {σ : Store} {x y : Expr} {pos : Pos} {whole : Sem Value} {c d : Bool} (a : PB w H0 k (isTrue x env (eval x env)) env μ σ c) (b : c = false → PB w H0 k (isTrue y env (eval y env)) env μ σ d) :
    PB w H0 k (isTrue (.BoolOp .Or [x, y] pos) env whole) env μ σ (c || d) := (PB.or_ a fun h => PB.or_ (b h) fun _ => PB.or_nil).eq (by rw [Bool.or_false])
end
/-- what the world holds -/
local macro_rules | `(tactic| is_tup) => `(tactic| first
  | ((with_reducible refine (?_ : PV _ _ _ _ _ _ _ _)); with_reducible first | apply PV.wget | apply PV.unot | apply PV.uneg)
  | ((with_reducible refine (?_ : O2 _ _ _ _ _ _ _ _)); with_reducible first | exact O2.eqNil (Lst.lst _) | exact O2.neNil (Lst.lst _))
  | ((with_reducible refine (?_ : _ = _)); with_reducible first | exact wl_houses | exact wl_post | exact wl_picture | exact wl_laid | exact wl_seen | exact wl_stars | exact wl_deeds | exact wl_order | exact wl_amiss))
/-- a thing appended to what the world holds -/
local macro_rules | `(tactic| is_list) => `(tactic| first
  | ((with_reducible refine (?_ : XT _ _ _ _ _ _ _ _ _)); with_reducible first | apply XT.wappend | apply XT.setsub | apply XT.ret0)
  | ((with_reducible refine (?_ : PB _ _ _ _ _ _ _ _)); with_reducible first | apply PB.and2 | apply PB.or2))
section
open PySem PySem.W PyProof.Rows
set_option maxRecDepth 100000

theorem f252 (P : Params) : (K0 P).lookup 252 = some (fobj (fdAt (stmtAt 20) "_law_picture" .none (.str "law_yf0032_01" 642) (.ref 251))) := by kernel_rfl
theorem oneMinus {g : Nat} (hg : g < 2) : (1 : Int) - (g : Int) = ((1 - g : Nat) : Int) := by omega
theorem seen_set {f : Nat → Bool} {k : Nat} (hk : k < 3) {b : Bool} : ([f 0, f 1, f 2].map AV.bool).set ((k : Nat) : Int).toNat (.bool b) = [fs f k b 0, fs f k b 1, fs f k b 2].map AV.bool := by
  rw [Int.toNat_natCast]
  match k, hk with
  | 0, _ => rfl
  | 1, _ => rfl
  | 2, _ => rfl
theorem seen_at {f : Nat → Bool} {k : Nat} (hk : k < 3) : At ([f 0, f 1, f 2].map AV.bool) (k : Int) (.bool (f k)) := ⟨by omega, by
  rw [Int.toNat_natCast]
  match k, hk with
  | 0, _ => rfl
  | 1, _ => rfl
  | 2, _ => rfl⟩
theorem picture_ok {w : World} {H0 : Heap} (T : Tp w H0) {k : Nat} {β : Store} {s : Gs} {N : Nat} {W : Nat → Prop} {k0 g : Nat} (B : Beside β) (f : Fine N s) (hN : N ≤ 300) (hk : k0 < 3) (hg : g < 2) (w6 : W 6) (w9 : W 9) (w10 : W 10) (w11 : W 11) :
    FnE w H0 (k+5) W (.ref 252) [.loc 0, .int k0, .int g] [] (enc β (om s)) .none (enc β (om (s.picture k0 g))) := by
  have hc := f.cash k0 hk
  have hln := ln_len (s.hand k0) (s.bank k0)
  have nn := name_ok (w := w) (H0 := H0) (k := k+1) (σ := enc β (om s)) T hk (show 3 < 4 by decide) (show 1 - g < 2 by omega)
  rw [← oneMinus hg] at nn
  have it := hitem_ok (k := k) T (hd_houses β (om s)) (es := (om s).houses) (n0 := nm k0 3 (1 - g)) rfl (by show (s.order.map _).length ≤ 1000; rw [List.length_map]; have := f.nOrder; omega) f.hHouses (by rw [low_nm hk (by decide) (by omega)]; exact nm_plain hk (by decide) (by decide)) (by rw [low_nm hk (by decide) (by omega)]; exact nm_len ..)
  rw [find_house f.order (f.all k0 hk) hk (by omega)] at it
  have ix := fn_index (w := w) (H0 := H0) (k := k+4) (σ := enc β (om s)) (idx_ln _ (show s.hand k0 < 16 by omega) _ (show s.bank k0 < 16 by omega))
  have le := fn_lenS (w := w) (H0 := H0) (k := k+4) (σ := enc β (om s)) (l := ln (s.hand k0) (s.bank k0)) (by omega)
  have ap := int2ap_ok (w := w) (H0 := H0) (k := k+3) (σ := enc β (om s)) (a := (1 - 2 * (g : Int)) * (256 + 16 * (s.hand k0 : Int) + ((ln (s.hand k0) (s.bank k0)).length : Nat) - 1 - (s.hand k0 : Int))) (N := 256 + 16 * s.hand k0 + s.bank k0) (i0 := 3) T
    (by
      rw [hln]
      rcases (by omega : g = 0 ∨ g = 1) with rfl | rfl
      · rw [if_neg (by omega)]; omega
      · rw [if_pos (by omega)]; omega) (by decide) (by omega) (by
      intro i hi
      match i, hi with
      | 0, _ => rw [Nat.pow_zero, Nat.div_one]; omega
      | 1, _ => rw [Nat.pow_one]; omega
      | 2, _ => rw [show 16 ^ 2 = 256 from rfl]; omega)
  rw [lowAP3 _ (by omega) _ (by omega)] at ap
  have de := fn_decode (w := w) (H0 := H0) (k := k+4) (σ := enc β (om s)) (dec3 (s.hand k0) (by omega) (s.bank k0) (by omega)) (by simp)
  have nk := name_ok (w := w) (H0 := H0) (k := k+2) (σ := enc β (om s)) T hk (show 3 < 4 by decide) hg
  have ly := lay_picture (k := k) (W := W) (O := om s) (n0 := nm k0 3 g) (v0 := [66, 65 + s.hand k0, 65 + s.bank k0]) T B (by show (s.pic.map _).length ≤ 500; rw [List.length_map]; have := f.nPic; omega) (nm_plain hk (by decide) hg) (Nat.le_trans (nm_len ..) (by decide)) (by intro c hc; simp at hc; omega) (by simp) w9
  generalize hO1 : ({ om s with picture := (om s).picture ++ [(nm k0 3 g, [66, 65 + s.hand k0, 65 + s.bank k0])] } : Om) = O1 at ly
  have s10 : enc β O1 10 = .list ((om s).laid.map t3) := by subst hO1; rfl
  have n10 : ((om s).laid.map t3).length ≤ 1000 := by rw [List.length_map]; show (s.pic.map _).length ≤ 1000; rw [List.length_map]; have := f.nPic; omega
  generalize hO2 : ({ O1 with laid := (om s).laid ++ [(k0, 3, g)] } : Om) = O2
  have e2 : upd (enc β O1) 10 (.list ((om s).laid.map t3 ++ [.tup [.int k0, .int 3, .int g]])) = enc β O2 := by
    have := enc_laid β O1 ((om s).laid ++ [(k0, 3, g)])
    rw [List.map_append, hO2] at this; exact this
  have s11 : enc β O2 11 = .list ([s.seen 0, s.seen 1, s.seen 2].map .bool) := by subst hO2 hO1; rfl
  generalize hO3 : ({ O2 with seen := [fs s.seen k0 true 0, fs s.seen k0 true 1, fs s.seen k0 true 2] } : Om) = O3
  have st : SE w H0 (k+4) W (enc β O2) (.loc 11) (.int (k0 : Nat)) (.bool true) (enc β O3) :=
    SE.list s11 (by omega) (by simp; omega) (by simp) w11 (by rw [seen_set hk, enc_seen, hO3])
  have hpost : O3.post = (om s).post := by subst hO3 hO2 hO1; rfl
  generalize hst : [(nm k0 ((k0 + 1) % 3) g, ([42] : List Nat)), (nm k0 ((k0 + 2) % 3) g, [42])] = stars
  have eEnd : ({ O3 with post := (om s).post ++ stars } : Om) = om (s.picture k0 g) := by
    subst hst hO3 hO2 hO1
    simp [om, Gs.picture, pcText, word]
  have eBeg : enc β ({ O3 with post := (om s).post ++ stars.take 0 } : Om) = enc β O3 := by
    rw [List.take_zero, List.append_nil, ← hpost]
  refine FnE.of0 T (xs := ["world", "k", "great"]) (f252 _) (by kernel_rfl) (by kernel_rfl) rfl ?_ fun L => ?_
  · exact Binds.of3 fun _ _ _ => rfl
  · show XT _ _ _ _ _ _ [("world", .loc 0), ("k", .int k0), ("great", .int g)] _ _
    apply XT.cons
    apply XT.letP
    · kernel_rfl
    · apply PV.subH
      · exact T
      · repeat is_list
      · repeat is_list
      · exact hd_houses β (om s)
      · exact it
      · exact fun _ _ => rfl
    · kernel_rfl
    repeat is_list
    apply XT.forS [("world", .loc 0), ("k", .int k0), ("great", .int g)] (fun i σ' => σ' = enc β { O3 with post := (om s).post ++ stars.take i }) (ls := [.int ((k0 + 1) % 3 : Nat), .int ((k0 + 2) % 3 : Nat)])
    · apply ItE.lst
      · apply PV.eq
        · repeat is_list
        · rfl
      · rfl
      · exact fun _ => rfl
    · exact fun _ h => h.elim
    · repeat is_list
    · exact eBeg.symm
    · rintro i v σ' hi rfl
      have hi2 : i < 2 := (List.getElem?_eq_some_iff.mp hi).1
      obtain ⟨j, rfl, hj, hj2⟩ : ∃ j : Nat, v = .int (j : Int) ∧ j < 3 ∧ stars.take (i + 1) = stars.take i ++ [(nm k0 j g, [42])] := by
        match i, hi2 with
        | 0, _ => cases hi; exact ⟨_, rfl, Nat.mod_lt _ (by decide), by rw [← hst]; rfl⟩
        | 1, _ => cases hi; exact ⟨_, rfl, Nat.mod_lt _ (by decide), by rw [← hst]; rfl⟩
      have nj := name_ok (w := w) (H0 := H0) (k := k+2) (σ := enc β { O3 with post := (om s).post ++ stars.take i }) T hk (show j < 4 by omega) hg
      have lp := lay_post (k := k) (β := β) (W := W) (O := { O3 with post := (om s).post ++ stars.take i }) (n0 := nm k0 j g) (v0 := [42]) T B (by
        show ((s.post.map _) ++ stars.take i).length ≤ 500
        rw [List.length_append, List.length_map, List.length_take, ← hst]; have := f.nPost; simp; omega) (nm_plain hk (by omega) hg) (Nat.le_trans (nm_len ..) (by decide)) (by intro c hc; simp at hc; omega) (by simp) w6
      dsimp only at lp
      rw [List.append_assoc, ← hj2] at lp
      apply Exists.intro
      apply And.intro
      · repeat is_list
      · apply XT.cons
        repeat is_list
    · rintro σ' rfl
      apply XT.nil
      exact Ends.next' (by rw [← eEnd]; congr 2; rw [← hst]; rfl)
end
section
open PySem PySem.W PyProof.Rows
set_option maxRecDepth 100000

theorem f259 (P : Params) : (K0 P).lookup 259 = some (fobj (fdAt (stmtAt 21) "_law_pay" .none (.str "law_yf0032_01" 642) (.ref 258))) := by kernel_rfl
theorem lenPost {N : Nat} {s : Gs} (f : Fine N s) : (om s).post.length ≤ N := by show (s.post.map _).length ≤ N; rw [List.length_map]; exact f.nPost
theorem lenHouses {N : Nat} {s : Gs} (f : Fine N s) : (om s).houses.length ≤ N := by show (s.order.map _).length ≤ N; rw [List.length_map]; exact f.nOrder
theorem lenPic {N : Nat} {s : Gs} (f : Fine N s) : (om s).picture.length ≤ N := by show (s.pic.map _).length ≤ N; rw [List.length_map]; exact f.nPic
theorem low_ok {i j g : Nat} (hi : i < 3) (hj : j < 4) (hg : g < 2) : Plain (low (nm i j g)) ∧ (low (nm i j g)).length ≤ 100 := by
  rw [low_nm hi hj hg]; exact ⟨nm_plain hi hj (by decide), nm_len ..⟩
theorem letter_plain {n : Nat} (h : n < 16) : Plain [66, 65 + n] := by intro c hc; simp at hc; omega
/-- the line of a house, read -/
theorem line_ok {w : World} {H0 : Heap} (T : Tp w H0) {k : Nat} {β : Store} {s : Gs} {N : Nat} {k0 g : Nat} (f : Fine N s) (hN : N ≤ 300) (hk : k0 < 3) (hg : g < 2) : FnP w H0 (k+3) (.ref 109) [.loc 1, .str (nm k0 3 g)] [] (enc β (om s)) (.str (ln (s.hand k0) (s.bank k0))) := by
  have it := hitem_ok (k := k) T (hd_houses β (om s)) (es := (om s).houses) (n0 := nm k0 3 g) rfl (by have := lenHouses f; omega) f.hHouses (low_ok hk (by decide) hg).1 (low_ok hk (by decide) hg).2
  rwa [find_house f.order (f.all k0 hk) hk hg] at it
theorem pay_ok {w : World} {H0 : Heap} (T : Tp w H0) {k : Nat} {β : Store} {s : Gs} {N : Nat} {W : Nat → Prop} {i j m g : Nat} (B : Beside β) (f : Fine N s) (hN : N ≤ 300) (hi : i < 3) (hj : j < 3) (hm : m < 8) (hg : g < 2) (w0 : W 0) (w3 : W 3) (w6 : W 6) (w13 : W 13) :
    FnE w H0 (k+5) W (.ref 259) [.loc 0, .int i, .int j, .int m, .int g] [] (enc β (om s)) .none (enc β (om (s.pay i j m g))) := by
  have hc := f.cash i hi
  have hln := ln_len (s.hand i) (s.bank i)
  have hln2 := ln_len (s.hand i - m) (s.bank i - (m - s.hand i))
  have nn := name_ok (w := w) (H0 := H0) (k := k+1) (σ := enc β (om s)) T hi (show 3 < 4 by decide) (show 1 - g < 2 by omega)
  rw [← oneMinus hg] at nn
  have it := line_ok (k := k) (β := β) T f hN hi (show 1 - g < 2 by omega)
  have sp := strip_ok (w := w) (H0 := H0) (k := k+3) (σ := enc β (om s)) (a := s.hand i) (b := s.bank i) (m := m) T (by omega) (by omega) (by omega)
  have l1 := fn_lenS (w := w) (H0 := H0) (k := k+4) (σ := enc β (om s)) (l := ln (s.hand i) (s.bank i)) (by omega)
  have l2 := fn_lenS (w := w) (H0 := H0) (k := k+4) (σ := enc β (om s)) (l := ln (s.hand i - m) (s.bank i - (m - s.hand i))) (by omega)
  generalize hpd : s.hand i + s.bank i - (s.hand i - m) - (s.bank i - (m - s.hand i)) = paid
  have hp16 : paid < 16 := by omega
  have ap := int2ap_ok (w := w) (H0 := H0) (k := k+3) (σ := enc β (om s)) (a := (1 - 2 * (g : Int)) * (16 + ((ln (s.hand i) (s.bank i)).length : Nat) - ((ln (s.hand i - m) (s.bank i - (m - s.hand i))).length : Nat))) (N := 16 + paid) (i0 := 2) T
    (by
      rw [hln, hln2]
      rcases (by omega : g = 0 ∨ g = 1) with rfl | rfl
      · rw [if_neg (by omega)]; omega
      · rw [if_pos (by omega)]; omega) (by decide) (by omega) (by
      intro i hi
      match i, hi with
      | 0, _ => rw [Nat.pow_zero, Nat.div_one]; omega
      | 1, _ => rw [Nat.pow_one]; omega)
  rw [lowAP2 _ hp16] at ap
  have so := store_ok (k := k) (β := β) (O := om s) (W := W) (i := i) (g := g) (line := ln (s.hand i - m) (s.bank i - (m - s.hand i))) T hi hg (by have := lenHouses f; omega) f.hHouses (by show s.order.length ≤ 400; have := f.nOrder; omega) (ln_plain _ _) (by omega) w3 w0
  rw [store_houses f.order hi hg] at so
  generalize hO1 : ({ om s with houses := (reorder s.order i g).map fun o => (nm o.1 3 o.2, ln (fs s.hand i (s.hand i - m) o.1) (fs s.bank i (s.bank i - (m - s.hand i)) o.1)), order := reorder (om s).order i g } : Om) = O1 at so
  have de := fn_decode (w := w) (H0 := H0) (k := k+4) (σ := enc β O1) (dec2 paid hp16) (by simp)
  have nk := name_ok (w := w) (H0 := H0) (k := k+2) (σ := enc β O1) T hi (show j < 4 by omega) hg
  have hpost : O1.post = (om s).post := by subst hO1; rfl
  have lp := lay_post (k := k) (β := β) (W := W) (O := O1) (n0 := nm i j g) (v0 := [66, 65 + paid]) T B (by rw [hpost]; have := lenPost f; omega) (nm_plain hi (by omega) hg) (Nat.le_trans (nm_len ..) (by decide)) (letter_plain hp16) (by simp) w6
  generalize hO2 : ({ O1 with post := O1.post ++ [(nm i j g, [66, 65 + paid])] } : Om) = O2 at lp
  have s11 : enc β O2 11 = .list ([s.seen 0, s.seen 1, s.seen 2].map .bool) := by subst hO2 hO1; rfl
  have a11 := seen_at (f := s.seen) hi
  have s13 : enc β O2 13 = .list ((om s).deeds.map t4) := by subst hO2 hO1; rfl
  have n13 : ((om s).deeds.map t4).length ≤ 1000 := by rw [List.length_map]; have : (om s).deeds.length ≤ N := f.nDeeds; omega
  generalize hO3 : ({ O2 with deeds := (om s).deeds ++ [(!s.seen i, i, j, (m : Int))] } : Om) = O3
  have e3 : upd (enc β O2) 13 (.list ((om s).deeds.map t4 ++ [.tup [.bool (!s.seen i), .int i, .int j, .int m]])) = enc β O3 := by
    have := enc_deeds β O2 ((om s).deeds ++ [(!s.seen i, i, j, (m : Int))])
    rw [List.map_append, hO3] at this; exact this
  have eEnd : O3 = om (s.pay i j m g) := by
    subst hO3 hO2 hO1
    simp [om, Gs.pay, word, hpd]
  refine FnE.of0 T (xs := ["world", "i", "j", "amount", "great"]) (f259 _) (by kernel_rfl) (by kernel_rfl) rfl ?_ fun L => ?_
  · exact Binds.of5 fun _ _ _ _ _ => rfl
  · show XT _ _ _ _ _ _ [("world", .loc 0), ("i", .int i), ("j", .int j), ("amount", .int m), ("great", .int g)] _ _
    apply XT.cons
    apply XT.letP
    · kernel_rfl
    · apply PV.subH
      · exact T
      · repeat is_list
      · repeat is_list
      · exact hd_houses β (om s)
      · exact it
      · exact fun _ _ => rfl
    · kernel_rfl
    repeat is_list
    exact Ends.next' (by rw [eEnd])
end
section
open PySem PySem.W PyProof.Rows
set_option maxRecDepth 100000
set_option maxHeartbeats 4000000
theorem idx16 : ∀ n < 16, Builtin.Str.occurrences ⟨(S "ABCDEFGHIJKLMNOP").toArray⟩ ⟨([65 + n] : List Nat).toArray⟩ 0 (S "ABCDEFGHIJKLMNOP").length 1 = [n] := by decide +kernel
theorem tail1 : ∀ n < 16, Txt.slice ⟨([66, 65 + n] : List Nat).toArray⟩ (some 1) none = ⟨([65 + n] : List Nat).toArray⟩ := by decide +kernel
theorem blanks_ln (n a b : Nat) : List.replicate n 32 ++ ln a b = ln (a + n) b := by
  unfold ln; rw [← List.append_assoc, List.replicate_append_replicate, Nat.add_comm n a]
theorem split_len (p : List Item) (i j : Nat) : (others p i j).length + (chan p i j).length = p.length := by
  unfold others chan
  rw [List.length_map]
  induction p with
  | nil => rfl
  | cons o l ih =>
    rw [List.filter_cons, List.filter_cons]
    cases onRoad i j o <;> simp <;> omega
theorem mem_chan {p : List Item} {i j : Nat} {o : Option Nat} (h : o ∈ chan p i j) : ∃ x ∈ p, x.2.2.2 = o := by
  unfold chan at h
  obtain ⟨x, hx, e⟩ := List.mem_map.mp h
  exact ⟨x, (List.mem_filter.mp hx).1, e⟩
theorem Fine.took {N : Nat} {s : Gs} (f : Fine N s) {i j g : Nat} {c : Option Nat} {r : List (Option Nat)} (h : chan s.post i j = c :: r) (hi : i < 3) (hj : j < 3) (hg : g < 2) : Fine N (s.took i j g r) where
  post := fun x hx => by
    rcases List.mem_append.mp hx with h' | h'
    · exact f.post x (List.mem_filter.mp h').1
    · obtain ⟨o, ho, rfl⟩ := List.mem_map.mp h'
      refine ⟨hi, hj, hg, fun n e => ?_⟩
      obtain ⟨x, hx, e'⟩ := mem_chan (p := s.post) (i := i) (j := j) (o := o) (by rw [h]; exact List.mem_cons_of_mem _ ho)
      have e : o = some n := e
      exact (f.post x hx).2.2.2 n (e'.trans e)
  order := f.order
  all := f.all
  cash := f.cash
  nPost := by
    show (others s.post i j ++ r.map _).length ≤ N
    have := split_len s.post i j
    rw [h] at this
    have := f.nPost
    rw [List.length_append, List.length_map]
    simp at *; omega
  nPic := f.nPic
  nOrder := f.nOrder
  nStars := f.nStars
  nDeeds := f.nDeeds
noncomputable abbrev pm (p : List Item) : List (List Nat × List Nat) := p.map fun x => (nm x.1 x.2.1 x.2.2.1, word x.2.2.2)
theorem contains_any (l : List (Nat × Nat)) (i j : Nat) : ((l.map fun x => ((x.1 : Int), (x.2 : Int))).any fun p => p.1 == (i : Int) && p.2 == (j : Int)) = l.contains (i, j) := by
  induction l with
  | nil => rfl
  | cons x l ih =>
    rw [List.map_cons, List.any_cons, ih, List.contains_cons]
    congr 1
    obtain ⟨a, b⟩ := x
    rw [Bool.eq_iff_iff]; simp; omega
theorem stars_add (β : Store) (q : Gs) (i j : Nat) : upd (enc β (om q)) 12 (.list (q.stars.map t2 ++ [.tup [.int i, .int j]])) = enc β (om { q with stars := q.stars ++ [(i, j)] }) := by
  have := enc_stars β (om q) (q.stars ++ [(i, j)])
  rw [List.map_append] at this; exact this
theorem deeds_add (β : Store) (q : Gs) (b : Bool) (i j : Nat) (a : Int) : upd (enc β (om q)) 13 (.list (q.deeds.map t4 ++ [.tup [.bool b, .int i, .int j, .int a]])) = enc β (om { q with deeds := q.deeds ++ [(b, i, j, a)] }) := by
  have := enc_deeds β (om q) (q.deeds ++ [(b, i, j, a)])
  rw [List.map_append] at this; exact this
theorem fs_same {α : Type} (f : Nat → α) (k : Nat) : fs f k (f k) = f := by
  funext x; unfold fs
  by_cases h : x = k
  · rw [if_pos h, h]
  · rw [if_neg h]

section
/-- a text from a place on -/
local macro_rules | `(tactic| is_tup) => `(tactic| with_reducible apply PV.cutF)
theorem f266 (P : Params) : (K0 P).lookup 266 = some (fobj (fdAt (stmtAt 22) "_law_hand" .none (.str "law_yf0032_01" 642) (.ref 265))) := by kernel_rfl
theorem all_ok {w : World} {H0 : Heap} (T : Tp w H0) {k : Nat} {β : Store} {s : Gs} {N : Nat} {i j g : Nat} (f : Fine N s) (hN : N ≤ 300) (hi : i < 3) (hj : j < 3) (hg : g < 2) : FnP w H0 (k+2) (.ref 121) [.loc 4, .str (nm i j g)] [] (enc β (om s)) (.lst ((chan s.post i j).map fun o => .str (word o))) := by
  have al := hall_ok (k := k) T (hd_post β (om s)) (es := (om s).post) (n0 := nm i j g) rfl (by have := lenPost f; omega) f.hPost (low_ok hi (show j < 4 by omega) hg).1 (low_ok hi (show j < 4 by omega) hg).2
  rwa [show ((om s).post.filter fun x => low x.1 == low (nm i j g)).map (fun x => AV.str x.2) = _ from post_chan (fun x hx => ⟨(f.post x hx).1, (f.post x hx).2.1, (f.post x hx).2.2.1⟩) hi hj hg] at al
theorem hand_none {w : World} {H0 : Heap} (T : Tp w H0) {k : Nat} {β : Store} {s : Gs} {N : Nat} {W : Nat → Prop} {i j g : Nat} (f : Fine N s) (hN : N ≤ 300) (hi : i < 3) (hj : j < 3) (hg : g < 2) (h : chan s.post i j = []) :
    FnE w H0 (k+6) W (.ref 266) [.loc 0, .int i, .int j, .int g] [] (enc β (om s)) .none (enc β (om s)) := by
  have nn := name_ok (w := w) (H0 := H0) (k := k+3) (σ := enc β (om s)) T hi (show j < 4 by omega) (show 1 - g < 2 by omega)
  rw [← oneMinus hg] at nn
  have nk := name_ok (w := w) (H0 := H0) (k := k+3) (σ := enc β (om s)) T hi (show j < 4 by omega) hg
  have al := all_ok (k := k+3) (β := β) T f hN hi hj (show 1 - g < 2 by omega)
  rw [h] at al
  have m1 := methH (k := k+5) T (hd_post β (om s)) (name := "get_all") (f := 121) (fun _ => by kernel_rfl) (fun _ => by kernel_rfl) (by kernel_rfl)
  refine FnE.of0 T (xs := ["world", "i", "j", "great"]) (f266 _) (by kernel_rfl) (by kernel_rfl) rfl ?_ fun L => ?_
  · exact Binds.of4 fun _ _ _ _ => rfl
  · show XT _ _ _ _ _ _ [("world", .loc 0), ("i", .int i), ("j", .int j), ("great", .int g)] _ _
    apply XT.cons
    repeat is_list
    intro _; repeat is_list
theorem hand_some {w : World} {H0 : Heap} (T : Tp w H0) {k : Nat} {β : Store} {s : Gs} {N : Nat} {W : Nat → Prop} {i j g : Nat} {c : Option Nat} {r : List (Option Nat)} (B : Beside β) (f : Fine N s) (hN : N ≤ 290) (hi : i < 3) (hj : j < 3) (hg : g < 2) (h : chan s.post i j = c :: r)
    (w0 : W 0) (w3 : W 3) (w6 : W 6) (w9 : W 9) (w10 : W 10) (w11 : W 11) (w12 : W 12) (w13 : W 13) :
    FnE w H0 (k+6) W (.ref 266) [.loc 0, .int i, .int j, .int g] [] (enc β (om s)) .none (enc β (om (s.give i j g))) := by
  have nn := name_ok (w := w) (H0 := H0) (k := k+3) (σ := enc β (om s)) T hi (show j < 4 by omega) (show 1 - g < 2 by omega)
  rw [← oneMinus hg] at nn
  have nk := name_ok (w := w) (H0 := H0) (k := k+3) (σ := enc β (om s)) T hi (show j < 4 by omega) hg
  have al := all_ok (k := k+3) (β := β) T f (by omega) hi hj (show 1 - g < 2 by omega)
  rw [h, List.map_cons] at al
  have m1 := methH (k := k+5) T (hd_post β (om s)) (name := "get_all") (f := 121) (fun _ => by kernel_rfl) (fun _ => by kernel_rfl) (by kernel_rfl)
  have m2 := methH (k := k+5) T (hd_post β (om s)) (name := "get") (f := 129) (fun _ => by kernel_rfl) (fun _ => by kernel_rfl) (by kernel_rfl)
  have hp : ∀ x ∈ s.post, x.1 < 3 ∧ x.2.1 < 3 ∧ x.2.2.1 < 2 := fun x hx => ⟨(f.post x hx).1, (f.post x hx).2.1, (f.post x hx).2.2.1⟩
  have hlen := split_len s.post i j
  rw [h] at hlen
  have hlen : (others s.post i j).length + (r.length + 1) = s.post.length := hlen
  have hnp := f.nPost
  have ge := hget_ok (k := k+3) T (hd_post β (om s)) (es := (om s).post) (n0 := nm i j g) rfl (by have := lenPost f; omega) f.hPost (low_ok hi (show j < 4 by omega) hg).1 (low_ok hi (show j < 4 by omega) hg).2
  rw [show ((om s).post.find? fun x => low x.1 == low (nm i j g)).elim AV.none (fun x => AV.str x.2) = _ from post_find hp hi hj hg, h] at ge
  have ge : FnP w H0 (k+5) (.ref 129) [.loc 4, .str (nm i j g)] [] (enc β (om s)) (.str (word c)) := ge
  have de := hdel_ok (k := k+3) (W := W) T (hd_post β (om s)) (es := (om s).post) (n0 := nm i j g) rfl (by have := lenPost f; omega) f.hPost (low_ok hi (show j < 4 by omega) hg).1 (low_ok hi (show j < 4 by omega) hg).2 w6 (enc_post β (om s) _)
  rw [show without (om s).post (nm i j g) = _ from post_others hp hi hj hg] at de
  have a0 : At (.str (word c) :: r.map fun o => AV.str (word o)) 0 (.str (word c)) := ⟨by decide, rfl⟩
  have lr : (AV.str (word c) :: r.map fun o => AV.str (word o)).length ≤ 1000 := by rw [List.length_cons, List.length_map]; omega
  have ft := f.took h hi hj hg
  have hcr : ∀ o ∈ c :: r, ∀ n, o = some n → n < 16 := fun o ho n e => by
    obtain ⟨x, hx, e'⟩ := mem_chan (p := s.post) (i := i) (j := j) (o := o) (by rw [h]; exact ho)
    exact (f.post x hx).2.2.2 n (e'.trans e)
  have eO0 : enc β ({ om s with post := pm (others s.post i j) } : Om) = enc β { om s with post := pm (others s.post i j ++ (r.take 0).map fun o => (i, j, g, o)) } := by rw [List.take_zero, List.map_nil, List.append_nil]
  have eOt : enc β ({ om s with post := pm (others s.post i j ++ (r.take r.length).map fun o => (i, j, g, o)) } : Om) = enc β (om (s.took i j g r)) := by rw [List.take_length]; rfl
  refine FnE.of0 T (xs := ["world", "i", "j", "great"]) (f266 _) (by kernel_rfl) (by kernel_rfl) rfl ?_ fun L => ?_
  · exact Binds.of4 fun _ _ _ _ => rfl
  · show XT _ _ _ _ _ _ [("world", .loc 0), ("i", .int i), ("j", .int j), ("great", .int g)] _ _
    apply XT.cons
    repeat is_list
    intro _
    repeat is_list
    intro _
    apply XT.nil
    apply Kont.next
    apply XT.cons
    apply XT.delH
    · exact T
    · repeat is_list
    · repeat is_list
    · exact hd_post β (om s)
    · exact de
    apply Kont.next
    apply XT.cons
    rw [eO0]
    apply XT.forS [("world", .loc 0), ("i", .int i), ("j", .int j), ("great", .int g), ("letters", .lst (.str (word c) :: r.map fun o => .str (word o))), ("road", .str (nm i j g))] (fun t σ' => σ' = enc β { om s with post := pm (others s.post i j ++ (r.take t).map fun o => (i, j, g, o)) }) (ls := r.map fun o => .str (word o))
    · apply ItE.lst
      · apply PV.new
        apply PVn.from (l := .str (word c) :: r.map fun o => .str (word o)) (a := 1)
        · repeat is_list
        · exact PV.constI
        · exact lr
        · exact fun _ _ => rfl
      · rfl
      · exact fun _ => rfl
    · exact fun _ h => h.elim
    · repeat is_list
    · rfl
    · rintro t v σ' ht rfl
      rw [List.getElem?_map] at ht
      obtain ⟨o, ho, rfl⟩ := Option.map_eq_some_iff.mp ht
      have htl := (List.getElem?_eq_some_iff.mp ho).1
      have hom : o ∈ r := List.mem_of_getElem? ho
      have hw := hcr o (List.mem_cons_of_mem _ hom)
      have lp := lay_post (k := k+1) (β := β) (W := W) (O := { om s with post := pm (others s.post i j ++ (r.take t).map fun o => (i, j, g, o)) }) (n0 := nm i j g) (v0 := word o) T B (by
        show (pm _).length ≤ 500
        rw [List.length_map, List.length_append, List.length_map, List.length_take]; omega) (nm_plain hi (by omega) hg) (Nat.le_trans (nm_len ..) (by decide)) (word_plain hw) (Nat.le_trans (word_len o) (by decide)) w6
      have e : pm (others s.post i j ++ (r.take t).map fun o => (i, j, g, o)) ++ [(nm i j g, word o)] = pm (others s.post i j ++ (r.take (t + 1)).map fun o => (i, j, g, o)) := by
        rw [List.take_add_one, ho]
        simp [pm]
      dsimp only at lp
      rw [e] at lp
      apply Exists.intro
      apply And.intro
      · repeat is_list
      · apply XT.cons
        repeat is_list
    · rintro σ' rfl
      rw [List.length_map, eOt]
      have s11 : enc β (om (s.took i j g r)) 11 = .list ([s.seen 0, s.seen 1, s.seen 2].map .bool) := rfl
      have a11 := seen_at (f := s.seen) hj
      cases c with
      | none =>
        have eg : s.give i j g = if s.seen j then s.star i j g r else (s.star i j g r).picture j g := by unfold Gs.give; rw [h]
        apply XT.cons
        apply XT.if_ (c := true)
        · apply PB.eq
          · repeat is_list
          · kernel_rfl
        · intro _
          cases hs : s.seen j with
          | true =>
            rw [hs] at eg a11
            have s12 : enc β (om (s.took i j g r)) 12 = .list ((s.took i j g r).stars.map t2) := rfl
            have n12 : ((s.took i j g r).stars.map t2).length ≤ 1000 := by rw [List.length_map]; have := ft.nStars; omega
            have e12 := stars_add β (s.took i j g r) i j
            apply XT.cons
            apply XT.if_ (c := false)
            · apply PB.eq
              · repeat is_list
              · rfl
            · exact fun h => nomatch h
            · intro _
              repeat is_list
              exact Ends.ret' rfl (by rw [eg]; rfl)
          | false =>
            rw [hs] at eg a11
            have pic := picture_ok (k := k) (W := W) T B ft (by omega) hj hg w6 w9 w10 w11
            have s12 : enc β (om ((s.took i j g r).picture j g)) 12 = .list (((s.took i j g r).picture j g).stars.map t2) := rfl
            have n12 : (((s.took i j g r).picture j g).stars.map t2).length ≤ 1000 := by rw [List.length_map]; have : ((s.took i j g r).picture j g).stars.length ≤ N := ft.nStars; omega
            have e12 := stars_add β ((s.took i j g r).picture j g) i j
            apply XT.cons
            apply XT.if_ (c := true)
            · apply PB.eq
              · repeat is_list
              · rfl
            · intro _
              repeat is_list
              exact Ends.ret' rfl (by rw [eg]; rfl)
            · exact fun h => nomatch h
        · exact fun h => nomatch h
      | some n =>
        have hn := hcr (some n) List.mem_cons_self n rfl
        have hc := f.cash j hj
        have nn2 := name_ok (w := w) (H0 := H0) (k := k+2) (σ := enc β (om (s.took i j g r))) T hj (show 3 < 4 by decide) (show 1 - g < 2 by omega)
        rw [← oneMinus hg] at nn2
        have it := line_ok (k := k+1) (β := β) T ft (by omega) hj (show 1 - g < 2 by omega)
        have ixn := fn_index (w := w) (H0 := H0) (k := k+5) (σ := enc β (om (s.took i j g r))) (idx16 n hn)
        have mb : O2 w H0 (k+5) (binaryOp .Mult) (enc β (om (s.took i j g r))) (.str (S " ")) (.int n) (.str (List.replicate n 32)) := O2.blanks n (by omega)
        have hsl : Txt.slice ⟨(word (some n)).toArray⟩ (some 1) none = ⟨([65 + n] : List Nat).toArray⟩ := tail1 n hn
        have hwl : (word (some n)).length ≤ 1000000 := Nat.le_trans (word_len _) (by decide)
        have hal : (List.replicate n 32).length + (ln (s.hand j) (s.bank j)).length ≤ 10000000 := by rw [List.length_replicate, ln_len]; omega
        have so := store_ok (k := k+1) (β := β) (O := om (s.took i j g r)) (W := W) (i := j) (g := g) (line := ln ((s.took i j g r).hand j + n) ((s.took i j g r).bank j)) T hj hg (by have := lenHouses ft; omega) ft.hHouses (by have : s.order.length ≤ N := f.nOrder; show s.order.length ≤ 400; omega) (ln_plain _ _) (by rw [ln_len]; show s.hand j + n + 1 + s.bank j ≤ 1000; omega) w3 w0
        rw [store_houses ft.order hj hg, fs_same] at so
        have so : FnE w H0 (k+5) W (.ref 245) [.loc 0, .int j, .int g, .str (List.replicate n 32 ++ ln (s.hand j) (s.bank j))] [] (enc β (om (s.took i j g r))) .none (enc β (om { s.took i j g r with hand := fs s.hand j (s.hand j + n), order := reorder s.order j g })) := by
          rw [blanks_ln]; exact so
        generalize hq : ({ s.took i j g r with hand := fs s.hand j (s.hand j + n), order := reorder s.order j g } : Gs) = q at so
        have s11 : enc β (om q) 11 = .list ([s.seen 0, s.seen 1, s.seen 2].map .bool) := by subst hq; rfl
        have ni : O2 w H0 (k+5) (compareOp .NotIn) (enc β (om q)) (.tup [.int i, .int j]) (.loc 12) (.bool (!s.stars.contains (i, j))) := by
          have := O2.notIn (w := w) (H0 := H0) (k := k+5) (σ := enc β (om q)) (l := .loc 12) (ps := s.stars.map fun x => ((x.1 : Int), (x.2 : Int))) (a := i) (b := j) (Lst.loc (by subst hq; rw [List.map_map]; rfl))
          rwa [contains_any] at this
        have eg : s.give i j g = s.letter i j g n r := by unfold Gs.give; rw [h]
        apply XT.cons
        apply XT.if_ (c := false)
        · apply PB.eq
          · repeat is_list
          · kernel_rfl
        · exact fun h => nomatch h
        intro _
        apply XT.nil
        apply Kont.next
        apply XT.cons
        apply XT.letP
        · kernel_rfl
        · apply PV.subH
          · exact T
          · repeat is_list
          · repeat is_list
          · exact hd_houses β (om (s.took i j g r))
          · exact it
          · exact fun _ _ => rfl
        · kernel_rfl
        apply Kont.next
        apply XT.cons
        repeat is_list
        · intro hb
          try rw [Bool.and_true] at hb
          have lp := lay_picture (k := k+1) (β := β) (W := W) (O := om q) (n0 := nm i j g) (v0 := word (some n)) T B (by subst hq; have := lenPic ft; exact Nat.le_trans this (by omega)) (nm_plain hi (by omega) hg) (Nat.le_trans (nm_len ..) (by decide)) (letter_plain hn) (Nat.le_trans (word_len _) (by decide)) w9
          generalize hO1 : ({ om q with picture := (om q).picture ++ [(nm i j g, word (some n))] } : Om) = O1 at lp
          have s10 : enc β O1 10 = .list ((om q).laid.map t3) := by subst hO1; rfl
          have n10 : ((om q).laid.map t3).length ≤ 1000 := by subst hq; rw [List.length_map]; show (s.pic.map _).length ≤ 1000; rw [List.length_map]; have := f.nPic; omega
          have e10 : upd (enc β O1) 10 (.list ((om q).laid.map t3 ++ [.tup [.int i, .int j, .int g]])) = enc β (om { q with pic := q.pic ++ [⟨i, j, g, n, 0⟩] }) := by
            have := enc_laid β O1 ((om q).laid ++ [(i, j, g)])
            rw [List.map_append] at this
            refine this.trans (congrArg (enc β) ?_)
            subst hO1
            simp [om, pcText, word, show j ≠ 3 by omega]
          generalize hq2 : ({ q with pic := q.pic ++ [⟨i, j, g, n, 0⟩] } : Gs) = q2 at e10
          have s11 : enc β (om q2) 11 = .list ([s.seen 0, s.seen 1, s.seen 2].map .bool) := by subst hq2 hq; rfl
          have s13 : enc β (om q2) 13 = .list (q2.deeds.map t4) := rfl
          have n13 : (q2.deeds.map t4).length ≤ 1000 := by rw [List.length_map]; subst hq2 hq; have := f.nDeeds; show s.deeds.length ≤ 1000; omega
          have e13 := deeds_add β q2 (!s.seen j) i j (-1)
          repeat is_list
          refine Ends.next' (congrArg (fun q => enc β (om q)) ?_)
          rw [eg]; unfold Gs.letter; rw [hb]; subst hq2 hq; rfl
        · intro hb
          try rw [Bool.and_true] at hb
          have s13 : enc β (om q) 13 = .list (q.deeds.map t4) := rfl
          have n13 : (q.deeds.map t4).length ≤ 1000 := by rw [List.length_map]; subst hq; have := f.nDeeds; show s.deeds.length ≤ 1000; omega
          have e13 := deeds_add β q (!s.seen j) i j (-1)
          repeat is_list
          refine Ends.next' (congrArg (fun q => enc β (om q)) ?_)
          rw [eg]; unfold Gs.letter; rw [hb]; subst hq; rfl
theorem hand_ok {w : World} {H0 : Heap} (T : Tp w H0) {k : Nat} {β : Store} {s : Gs} {N : Nat} {W : Nat → Prop} {i j g : Nat} (B : Beside β) (f : Fine N s) (hN : N ≤ 290) (hi : i < 3) (hj : j < 3) (hg : g < 2)
    (w0 : W 0) (w3 : W 3) (w6 : W 6) (w9 : W 9) (w10 : W 10) (w11 : W 11) (w12 : W 12) (w13 : W 13) :
    FnE w H0 (k+6) W (.ref 266) [.loc 0, .int i, .int j, .int g] [] (enc β (om s)) .none (enc β (om (s.give i j g))) := by
  cases h : chan s.post i j with
  | nil =>
    have e : s.give i j g = s := by unfold Gs.give; rw [h]
    rw [e]; exact hand_none T f (by omega) hi hj hg h
  | cons c r => exact hand_some T B f hN hi hj hg h w0 w3 w6 w9 w10 w11 w12 w13
end
end
section
open PySem PySem.W PyProof.Rows
set_option maxRecDepth 100000
set_option maxHeartbeats 4000000
/-- plain reckoning as lists -/
noncomputable def moneyL (st : St) : List AV := [0, 1, 2].map fun k => .lst [.int (st.h k), .int (st.b k)]
noncomputable def road (l : List Nat) : AV := .lst (l.map fun (n : Nat) => AV.int (n : Int))
noncomputable def roadsL (st : St) : List AV := (List.range 9).map fun r => road (st.rd (r / 3) (r % 3))
noncomputable def bet (γ : Store) (st : St) : Store := fun n => match n with
  | 14 => .list (moneyL st)
  | 15 => .list (roadsL st)
  | n => γ n
theorem bet_money (γ : Store) (O : Om) (st st' : St) (h : st'.rd = st.rd) : upd (enc (bet γ st) O) 14 (.list (moneyL st')) = enc (bet γ st') O := by
  have e : roadsL st' = roadsL st := by unfold roadsL; rw [h]
  funext n
  by_cases q : n = 14
  · subst q; rw [upd_self]; rfl
  · rw [upd_ne q]; unfold enc
    split <;> first | rfl | skip
    unfold bet
    split <;> first | rfl | exact absurd rfl q | rw [e]
theorem bet_roads (γ : Store) (O : Om) (st st' : St) (h : st'.h = st.h) (h' : st'.b = st.b) : upd (enc (bet γ st) O) 15 (.list (roadsL st')) = enc (bet γ st') O := by
  have e : moneyL st' = moneyL st := by unfold moneyL; rw [h, h']
  funext n
  by_cases q : n = 15
  · subst q; rw [upd_self]; rfl
  · rw [upd_ne q]; unfold enc
    split <;> first | rfl | skip
    unfold bet
    split <;> first | rfl | exact absurd rfl q | rw [e]
theorem money_at (st : St) {k : Nat} (hk : k < 3) : At (moneyL st) (k : Int) (.lst [.int (st.h k), .int (st.b k)]) := ⟨by omega, by
  rw [Int.toNat_natCast]
  match k, hk with
  | 0, _ => rfl
  | 1, _ => rfl
  | 2, _ => rfl⟩
theorem money_set (st : St) {k : Nat} (hk : k < 3) (a b : Nat) (rd : Nat → Nat → List Nat) : (moneyL st).set ((k : Nat) : Int).toNat (.lst [.int a, .int b]) = moneyL ⟨fs st.h k a, fs st.b k b, rd⟩ := by
  rw [Int.toNat_natCast]
  match k, hk with
  | 0, _ => rfl
  | 1, _ => rfl
  | 2, _ => rfl
theorem roads_at (st : St) {i j : Nat} (hi : i < 3) (hj : j < 3) : At (roadsL st) (3 * (i : Int) + (j : Int)) (road (st.rd i j)) := ⟨by omega, by
  have e : (3 * (i : Int) + (j : Int)).toNat = 3 * i + j := by omega
  rw [e]
  have h1 : (3 * i + j) / 3 = i := by omega
  have h2 : (3 * i + j) % 3 = j := by omega
  unfold roadsL
  rw [List.getElem?_map, List.getElem?_range (show 3 * i + j < 9 by omega)]
  show some (road (st.rd ((3 * i + j) / 3) ((3 * i + j) % 3))) = _
  rw [h1, h2]⟩
theorem roads_set (st : St) {i j : Nat} (hi : i < 3) (hj : j < 3) (l : List Nat) (h b : Nat → Nat) : (roadsL st).set (3 * (i : Int) + (j : Int)).toNat (road l) = roadsL ⟨h, b, rs st.rd i j l⟩ := by
  have e : (3 * (i : Int) + (j : Int)).toNat = 3 * i + j := by omega
  rw [e]
  match i, hi, j, hj with
  | 0, _, 0, _ => rfl
  | 0, _, 1, _ => rfl
  | 0, _, 2, _ => rfl
  | 1, _, 0, _ => rfl
  | 1, _, 1, _ => rfl
  | 1, _, 2, _ => rfl
  | 2, _, 0, _ => rfl
  | 2, _, 1, _ => rfl
  | 2, _, 2, _ => rfl
theorem step_len {i j : Nat} {a : Int} {s s' : St} (e : step i j a s = some s') (n : Nat) (h : ∀ x y, (s.rd x y).length ≤ n) : ∀ x y, (s'.rd x y).length ≤ n + 1 := by
  intro x y
  unfold step at e
  by_cases q : 0 ≤ a
  · rw [if_pos q] at e; cases e
    show (rs s.rd i j _ x y).length ≤ _
    unfold rs
    by_cases z : x = i ∧ y = j
    · rw [if_pos z, List.length_append]; have := h i j; simp; omega
    · rw [if_neg z]; have := h x y; omega
  · rw [if_neg q] at e
    cases r : s.rd i j with
    | nil => rw [r] at e; cases e
    | cons m t =>
      rw [r] at e; cases e
      show (rs s.rd i j _ x y).length ≤ _
      unfold rs
      by_cases z : x = i ∧ y = j
      · rw [if_pos z]; have := h i j; rw [r] at this; simp at this; omega
      · rw [if_neg z]; have := h x y; omega
theorem run_take {e : Bool} {l : List Deed} {s s' : St} (h : run e l s = some s') (t : Nat) : ∃ s1, run e (l.take t) s = some s1 := by
  rw [← List.take_append_drop t l, run_append] at h
  cases q : run e (l.take t) s with
  | none => rw [q] at h; cases h
  | some s1 => exact ⟨s1, rfl⟩
theorem run_next {e : Bool} {l : List Deed} {s s1 s2 : St} {t : Nat} {d : Deed} (h : run e (l.take t) s = some s1) (h2 : run e (l.take (t + 1)) s = some s2) (hd : l[t]? = some d) : (if d.1 = e then step d.2.1 d.2.2.1 d.2.2.2 s1 else some s1) = some s2 := by
  rw [List.take_add_one, hd, run_append, h] at h2
  have h2 : run e [d] s1 = some s2 := h2
  obtain ⟨f, i, j, a⟩ := d
  unfold run at h2
  by_cases q : f = e
  · rw [if_pos q] at h2 ⊢
    cases z : step i j a s1 with
    | none => rw [z] at h2; cases h2
    | some u => rw [z] at h2; simpa [run] using h2
  · rw [if_neg q] at h2 ⊢; simpa [run] using h2
/-- what the reckoning of money and roads may write -/
noncomputable def W2 (n : Nat) : Prop := n = 14 ∨ n = 15
theorem PV.one {w : World} {H0 : Heap} {k : Nat} {env : Env} {μ : Vars} {σ : Store} {j : Nat} {pos : Pos} : PV w H0 k (eval (.Constant (.int 1) j pos) env) env μ σ (.int ((1 : Nat) : Int)) := PV.constI
end
section
open PySem PySem.W PyProof.Rows
set_option maxRecDepth 100000
set_option maxHeartbeats 4000000
theorem road_lt {i j : Nat} (hi : i < 3) (hj : j < 3) : 3 * i + j < 9 := Nat.lt_of_lt_of_le (Nat.add_lt_add_left hj _) (Nat.mul_le_mul_left 3 (show i + 1 ≤ 3 from hi))
theorem if_min (m x : Nat) : (if (x : Int) < (m : Int) then (x : Int) else (m : Int)) = ((min m x : Nat) : Int) := by
  by_cases h : x < m
  · rw [if_pos (Int.ofNat_lt.mpr h), Nat.min_eq_right (Nat.le_of_lt h)]
  · rw [if_neg (fun z => h (Int.ofNat_lt.mp z)), Nat.min_eq_left (Nat.le_of_not_lt h)]
theorem sub_min {p h c : Nat} (e : min p h = c) : (h : Int) - (c : Int) = ((h - c : Nat) : Int) := (Int.ofNat_sub (e ▸ Nat.min_le_right p h)).symm
theorem add_min {m p h b c : Nat} (e : min m (h + b) = p) (e' : min p h = c) : (b : Int) - (p : Int) + (c : Int) = ((b - (p - c) : Nat) : Int) := by
  have l : p ≤ h + b := e ▸ Nat.min_le_right m (h + b)
  subst e'
  rcases Nat.le_total p h with q | q
  · rw [Nat.min_eq_left q, Nat.sub_self, Int.sub_add_cancel]; rfl
  · rw [Nat.min_eq_right q]
    obtain ⟨d, rfl⟩ := Nat.exists_eq_add_of_le q
    have ld : d ≤ b := Nat.le_of_add_le_add_left l
    rw [Nat.add_sub_cancel_left, Int.ofNat_sub ld, Int.natCast_add, Int.add_comm (h : Int), ← Int.sub_sub, Int.sub_add_cancel]

section
/-- a list from its second on -/
local macro_rules | `(tactic| is_tup) => `(tactic| first | with_reducible (apply PV.new; apply PVn.fromL (a := 1)) | with_reducible exact Lst.lst _ | exact PV.one)
theorem f273 (P : Params) : (K0 P).lookup 273 = some (fobj (fdAt (stmtAt 23) "_law_reckon" .none (.str "law_yf0032_01" 642) (.ref 272))) := by kernel_rfl
theorem reckon_ok {w : World} {H0 : Heap} (T : Tp w H0) {k : Nat} {γ : Store} {O : Om} {st st' : St} {e : Bool} {M : Nat} (hr : run e O.deeds st = some st') (hd : ∀ d ∈ O.deeds, d.2.1 < 3 ∧ d.2.2.1 < 3) (hM : M + O.deeds.length ≤ 900) (hl : ∀ x y, (st.rd x y).length ≤ M) :
    FnE w H0 (k+1) W2 (.ref 273) [.loc 13, .bool e, .loc 14, .loc 15] [] (enc (bet γ st) O) (.bool true) (enc (bet γ st') O) := by
  refine FnE.of0 T (xs := ["deeds", "early", "money", "roads"]) (f273 _) (by kernel_rfl) (by kernel_rfl) rfl ?_ fun L => ?_
  · exact Binds.of4 fun _ _ _ _ => rfl
  · show XT _ _ _ _ _ _ [("deeds", .loc 13), ("early", .bool e), ("money", .loc 14), ("roads", .loc 15)] _ _
    apply XT.cons
    apply XT.forS [("deeds", .loc 13), ("early", .bool e), ("money", .loc 14), ("roads", .loc 15)] (fun t σ' => ∃ s1, run e (O.deeds.take t) st = some s1 ∧ σ' = enc (bet γ s1) O ∧ ∀ x y, (s1.rd x y).length ≤ M + t) (ls := O.deeds.map t4)
    · apply ItE.loc
      · repeat is_list
      · rfl
      · rfl
      · exact fun _ => rfl
    · rintro n rfl (h | h) <;> cases h
    · repeat is_list
    · exact ⟨st, rfl, rfl, fun x y => hl x y⟩
    · rintro t v σ' ht ⟨s1, hs1, rfl, hl1⟩
      rw [List.getElem?_map] at ht
      obtain ⟨⟨f, i, j, a⟩, hdt, rfl⟩ := Option.map_eq_some_iff.mp ht
      obtain ⟨hi, hj⟩ := hd _ (List.mem_of_getElem? hdt)
      have hi : i < 3 := hi
      have hj : j < 3 := hj
      have htl := (List.getElem?_eq_some_iff.mp hdt).1
      obtain ⟨s2, hs2⟩ := run_take hr (t + 1)
      have nx := run_next hs1 hs2 hdt
      have hlx := hl1 i j
      have s14 : enc (bet γ s1) O 14 = .list (moneyL s1) := rfl
      have s15 : enc (bet γ s1) O 15 = .list (roadsL s1) := rfl
      have n14 : (moneyL s1).length ≤ 1000000 := (by decide : 3 ≤ 1000000)
      have n15 : (roadsL s1).length ≤ 1000000 := (by decide : 9 ≤ 1000000)
      have am := money_at s1 hi
      have aj := money_at s1 hj
      have ar := roads_at s1 hi hj
      have keep : ∀ u, run e (O.deeds.take (t + 1)) st = some u → (∀ x y, (u.rd x y).length ≤ M + (t + 1)) := fun u hu => by
        rw [hs2] at hu; cases hu
        by_cases q : f = e
        · rw [if_pos q] at nx
          exact step_len nx (M + t) hl1
        · rw [if_neg q] at nx; cases nx
          exact fun x y => Nat.le_succ_of_le (hl1 x y)
      have e4 : t4 (f, i, j, a) = .tup [.bool f, .int i, .int j, .int a] := rfl
      rw [e4]
      by_cases hf : f = e
      · rw [if_pos hf] at nx
        have nx : step i j a s1 = some s2 := nx
        unfold step at nx
        by_cases ha : 0 ≤ a
        · obtain ⟨m, rfl⟩ := Int.eq_ofNat_of_zero_le ha
          rw [if_pos ha, Int.toNat_natCast] at nx
          generalize hp : min m (s1.h i + s1.b i) = p at nx
          generalize hc : min p (s1.h i) = c at nx
          cases nx
          have fm1 := fn_min (w := w) (H0 := H0) (k := k) (σ := enc (bet γ s1) O) (m : Int) ((s1.h i : Int) + (s1.b i : Int))
          rw [show (if (s1.h i : Int) + (s1.b i : Int) < (m : Int) then (s1.h i : Int) + (s1.b i : Int) else (m : Int)) = (p : Int) from hp ▸ if_min m (s1.h i + s1.b i)] at fm1
          have fm2 := fn_min (w := w) (H0 := H0) (k := k) (σ := enc (bet γ s1) O) (p : Int) (s1.h i : Int)
          rw [show (if (s1.h i : Int) < (p : Int) then (s1.h i : Int) else (p : Int)) = (c : Int) from hc ▸ if_min p (s1.h i)] at fm2
          have st1 : SE w H0 k W2 (enc (bet γ s1) O) (.loc 14) (.int (i : Nat)) (.lst [.int ((s1.h i : Int) - (c : Int)), .int ((s1.b i : Int) - (p : Int) + (c : Int))]) (enc (bet γ ⟨fs s1.h i (s1.h i - c), fs s1.b i (s1.b i - (p - c)), s1.rd⟩) O) :=
            SE.list s14 (Int.natCast_nonneg _) (Int.ofNat_lt.mpr hi) (by decide : 3 ≤ 1000) (.inl rfl) (by
              rw [sub_min hc, add_min hp hc, money_set s1 hi _ _ s1.rd]
              exact bet_money γ O s1 _ rfl)
          generalize hs3 : (⟨fs s1.h i (s1.h i - c), fs s1.b i (s1.b i - (p - c)), s1.rd⟩ : St) = s3 at st1
          have s15' : enc (bet γ s3) O 15 = .list (roadsL s3) := rfl
          have n15' : (roadsL s3).length ≤ 1000000 := n15
          have ar' : At (roadsL s3) (3 * (i : Int) + (j : Int)) (.lst ((s1.rd i j).map fun (n : Nat) => AV.int (n : Int))) := by have := roads_at s3 hi hj; subst hs3; exact this
          have al : O2 w H0 k (binaryOp .Add) (enc (bet γ s3) O) (.lst ((s1.rd i j).map fun (n : Nat) => AV.int (n : Int))) (.lst [.int (p : Int)]) (.lst ((s1.rd i j).map (fun (n : Nat) => AV.int (n : Int)) ++ [.int (p : Int)])) := O2.addL _ _ (by rw [List.length_map]; exact Nat.le_trans (Nat.add_le_add_right (Nat.le_trans hlx (Nat.le_trans (Nat.add_le_add_left (Nat.le_of_lt htl) M) hM)) 1) (by decide))
          have st2 : SE w H0 k W2 (enc (bet γ s3) O) (.loc 15) (.int (3 * (i : Int) + (j : Int))) (.lst ((s1.rd i j).map (fun (n : Nat) => AV.int (n : Int)) ++ [.int (p : Int)])) (enc (bet γ ⟨fs s1.h i (s1.h i - c), fs s1.b i (s1.b i - (p - c)), rs s1.rd i j (s1.rd i j ++ [p])⟩) O) :=
            SE.list s15' (Int.natCast_nonneg (3 * i + j)) (Int.ofNat_lt.mpr (road_lt hi hj)) (by decide : 9 ≤ 1000) (.inr rfl) (by
              have e := roads_set s3 hi hj (s1.rd i j ++ [p]) s3.h s3.b
              unfold road at e
              rw [List.map_append] at e
              rw [show ([.int (p : Int)] : List AV) = [p].map fun (n : Nat) => AV.int (n : Int) from rfl, e]
              subst hs3
              exact bet_roads γ O _ _ rfl rfl)
          apply Exists.intro
          apply And.intro
          · repeat is_list
          · apply XT.cons
            repeat is_list
            all_goals try (intro h; exfalso; simp [hf] at h; done)
            intro _
            repeat is_list
            all_goals try (intro h; exfalso; simp at h; omega)
            intro _
            repeat is_list
            all_goals exact ⟨_, hs2, rfl, keep _ hs2⟩
        · rw [if_neg ha] at nx
          cases hrd : s1.rd i j with
          | nil => rw [hrd] at nx; cases nx
          | cons n r =>
            rw [hrd] at nx ar hlx
            cases nx
            have hlr : r.length + 1 ≤ M + t := hlx
            have ar : At (roadsL s1) (3 * (i : Int) + (j : Int)) (.lst (AV.int (n : Int) :: r.map fun (n : Nat) => AV.int (n : Int))) := ar
            have ln2 : (AV.int (n : Int) :: r.map fun (n : Nat) => AV.int (n : Int)).length ≤ 1000 := by rw [List.length_cons, List.length_map]; exact Nat.le_trans (Nat.le_trans hlr (Nat.add_le_add_left (Nat.le_of_lt htl) M)) (Nat.le_trans hM (by decide))
            have ln1 : (AV.int (n : Int) :: r.map fun (n : Nat) => AV.int (n : Int)).length ≤ 1000000 := Nat.le_trans ln2 (by decide)
            have st1 : SE w H0 k W2 (enc (bet γ s1) O) (.loc 14) (.int (j : Nat)) (.lst [.int ((s1.h j : Int) + (n : Int)), .int (s1.b j : Int)]) (enc (bet γ ⟨fs s1.h j (s1.h j + n), s1.b, s1.rd⟩) O) :=
              SE.list s14 (Int.natCast_nonneg _) (Int.ofNat_lt.mpr hj) (by decide : 3 ≤ 1000) (.inl rfl) (by
                rw [show (s1.h j : Int) + (n : Int) = ((s1.h j + n : Nat) : Int) from rfl, money_set s1 hj _ _ s1.rd, fs_same]
                exact bet_money γ O s1 _ rfl)
            generalize hs3 : (⟨fs s1.h j (s1.h j + n), s1.b, s1.rd⟩ : St) = s3 at st1
            have s15' : enc (bet γ s3) O 15 = .list (roadsL s3) := rfl
            have n15' : (roadsL s3).length ≤ 1000000 := n15
            have ar' : At (roadsL s3) (3 * (i : Int) + (j : Int)) (.lst (AV.int (n : Int) :: r.map fun (n : Nat) => AV.int (n : Int))) := by
              have := roads_at s3 hi hj
              rw [show s3.rd i j = n :: r by subst hs3; exact hrd] at this
              exact this
            have st2 : SE w H0 k W2 (enc (bet γ s3) O) (.loc 15) (.int (3 * (i : Int) + (j : Int))) (.lst ((AV.int (n : Int) :: r.map fun (n : Nat) => AV.int (n : Int)).drop 1)) (enc (bet γ ⟨fs s1.h j (s1.h j + n), s1.b, rs s1.rd i j r⟩) O) :=
              SE.list s15' (Int.natCast_nonneg (3 * i + j)) (Int.ofNat_lt.mpr (road_lt hi hj)) (by decide : 9 ≤ 1000) (.inr rfl) (by
                have e := roads_set s3 hi hj r s3.h s3.b
                unfold road at e
                rw [List.drop_one, List.tail_cons, e]
                subst hs3
                exact bet_roads γ O _ _ rfl rfl)
            apply Exists.intro
            apply And.intro
            · repeat is_list
            · apply XT.cons
              repeat is_list
              all_goals try (intro h; exfalso; simp at h; omega)
              intro _
              repeat is_list
              all_goals try (intro h; exfalso; simp [hf] at h; omega)
              intro _
              repeat is_list
              intro _
              repeat is_list
              all_goals exact ⟨_, hs2, rfl, keep _ hs2⟩
      · rw [if_neg hf] at nx
        cases nx
        apply Exists.intro
        apply And.intro
        · repeat is_list
        · apply XT.cons
          repeat is_list
          all_goals try (intro h; exfalso; simp [hf] at h; done)
          intro _
          repeat is_list
          all_goals try (intro h; exfalso; simp [hf] at h; done)
          intro _
          repeat is_list
          all_goals exact ⟨_, hs2, rfl, keep _ hs2⟩
    · rintro σ' ⟨s1, hs1, rfl, _⟩
      rw [List.length_map, List.take_length, hr] at hs1; cases hs1
      apply XT.cons
      repeat is_list
end
end
section
open PySem PySem.W PyProof.Rows
set_option maxRecDepth 100000
set_option maxHeartbeats 4000000
/-- the pieces, taken off the roads in their order -/
noncomputable def eats (st : St) : List Pc → (Nat → Nat → List Nat) → Prop
  | [], l => ∀ i, i < 3 → ∀ j, j < 3 → l i j = []
  | p :: r, l => if p.j = 3 then st.h p.i = p.x ∧ st.b p.i = p.y ∧ eats st r l else ∃ t, l p.i p.j = p.x :: t ∧ eats st r (rs l p.i p.j t)
noncomputable abbrev lf (st : St) (l : Nat → Nat → List Nat) : St := ⟨st.h, st.b, l⟩
noncomputable def due1 (p : Pc) : AV := hv (nm p.i p.j p.g, pcText p)
theorem upd_swap (σ : Store) {n m : Nat} (h : n ≠ m) (p q : Plc) : upd (upd σ n p) m q = upd (upd σ m q) n p := by
  funext x
  by_cases a : x = n
  · subst a; rw [upd_ne h, upd_self, upd_self]
  · by_cases b : x = m
    · subst b; rw [upd_self, upd_ne a, upd_self]
    · rw [upd_ne b, upd_ne a, upd_ne a, upd_ne b]
theorem abc_two : ∀ x < 16, ∀ y < 16, (S "B" ++ [(S "ABCDEFGHIJKLMNOP").getD ((x : Nat) : Int).toNat 0]) ++ [(S "ABCDEFGHIJKLMNOP").getD ((y : Nat) : Int).toNat 0] = [66, 65 + x, 65 + y] := by decide +kernel
theorem abc_one : ∀ x < 16, S "B" ++ [(S "ABCDEFGHIJKLMNOP").getD ((x : Nat) : Int).toNat 0] = [66, 65 + x] := by decide +kernel
theorem avoids_ints (n : Nat) : ∀ l : List Nat, avoidsL n (l.map fun (x : Nat) => AV.int (x : Int)) = true
  | [] => by rw [List.map_nil, avoidsL]
  | x :: l => by rw [List.map_cons, avoidsL, avoids_ints n l]; simp [AV.avoids]
theorem avoids_road (n : Nat) (l : List Nat) : (road l).avoids n = true := by unfold road; rw [AV.avoids]; exact avoids_ints n l
theorem avoids_roads (n : Nat) (st : St) : avoidsL n (roadsL st) = true := avoidsL_all fun v hv => by
  obtain ⟨r, _, rfl⟩ := List.mem_map.mp hv; exact avoids_road ..
theorem avoids_due (n : Nat) (l : List Pc) : avoidsL n (l.map due1) = true := avoidsL_all fun v hv => by
  obtain ⟨p, _, rfl⟩ := List.mem_map.mp hv
  simp [due1, Mine.hv, AV.avoids, avoidsL]
/-- what is left on the roads -/
noncomputable def ate : List Pc → (Nat → Nat → List Nat) → Nat → Nat → List Nat
  | [], l => l
  | p :: r, l => if p.j = 3 then ate r l else ate r (rs l p.i p.j (l p.i p.j).tail)
theorem ate_append : ∀ (a b : List Pc) (l : Nat → Nat → List Nat), ate (a ++ b) l = ate b (ate a l)
  | [], b, l => rfl
  | p :: a, b, l => by
    rw [List.cons_append, ate, ate]
    by_cases q : p.j = 3
    · rw [if_pos q, if_pos q]; exact ate_append a b l
    · rw [if_neg q, if_neg q]; exact ate_append a b _
theorem ate_next {pic : List Pc} {t : Nat} {p : Pc} (h : pic[t]? = some p) (l : Nat → Nat → List Nat) : ate (pic.take (t + 1)) l = if p.j = 3 then ate (pic.take t) l else rs (ate (pic.take t) l) p.i p.j (ate (pic.take t) l p.i p.j).tail := by
  rw [List.take_add_one, h]
  show ate (pic.take t ++ [p]) l = _
  rw [ate_append, ate]
  by_cases q : p.j = 3
  · rw [if_pos q, if_pos q]; rfl
  · rw [if_neg q, if_neg q]; rfl
theorem ate_len {M : Nat} : ∀ (a : List Pc) (l : Nat → Nat → List Nat), (∀ x y, (l x y).length ≤ M) → ∀ x y, (ate a l x y).length ≤ M
  | [], l, h => h
  | p :: a, l, h => by
    rw [ate]
    by_cases q : p.j = 3
    · rw [if_pos q]; exact ate_len a l h
    · rw [if_neg q]
      refine ate_len a _ fun x y => ?_
      unfold rs
      by_cases z : x = p.i ∧ y = p.j
      · rw [if_pos z, List.length_tail]; have := h p.i p.j; omega
      · rw [if_neg z]; exact h x y
theorem eats_at {st : St} : ∀ {pic : List Pc} {l : Nat → Nat → List Nat} (t : Nat), t ≤ pic.length → eats st pic l → eats st (pic.drop t) (ate (pic.take t) l)
  | pic, l, 0, _, h => by simpa [ate] using h
  | [], l, t + 1, h, _ => by simp at h
  | p :: r, l, t + 1, ht, h => by
    rw [List.drop_succ_cons, List.take_succ_cons, ate]
    rw [eats] at h
    by_cases q : p.j = 3
    · rw [if_pos q] at h ⊢; exact eats_at t (by simpa using ht) h.2.2
    · rw [if_neg q] at h ⊢
      obtain ⟨s, e, h⟩ := h
      rw [e, List.tail_cons]
      exact eats_at t (by simpa using ht) h
end
section
open PySem PySem.W PyProof.Rows
set_option maxRecDepth 100000
set_option maxHeartbeats 4000000

section
/-- a list from its second on -/
local macro_rules | `(tactic| is_tup) => `(tactic| first | with_reducible (apply PV.new; apply PVn.fromL (a := 1)) | with_reducible exact Lst.lst _ | exact PV.one)
theorem f278 (P : Params) : (K0 P).lookup 278 = some (fobj (fdAt (stmtAt 24) "_law_due" .none (.str "law_yf0032_01" 642) (.ref 277))) := by kernel_rfl
noncomputable def W3 (n : Nat) : Prop := n = 17 ∨ n = 18
noncomputable def dueS (σ : Store) (st : St) (pic : List Pc) (t : Nat) : Store := upd (upd σ 18 (.list (roadsL (lf st (ate (pic.take t) st.rd))))) 17 (.list ((pic.take t).map due1))
theorem due_raw {w : World} {H0 : Heap} (T : Tp w H0) {k : Nat} {σ : Store} {st : St} {pic : List Pc} {M : Nat} (hM : M ≤ 900) (hl : ∀ x y, (st.rd x y).length ≤ M) (hn : pic.length ≤ 900)
    (hp : ∀ p ∈ pic, p.i < 3 ∧ p.j < 4 ∧ p.g < 2 ∧ p.x < 16 ∧ p.y < 16) (he : eats st pic st.rd)
    (s10 : σ 10 = .list ((pic.map fun p => (p.i, p.j, p.g)).map t3)) (s14 : σ 14 = .list (moneyL st)) (s15 : σ 15 = .list (roadsL st)) (s17 : σ 17 = .free) (s18 : σ 18 = .free) :
    FnE w H0 (k+2) W3 (.ref 278) [.loc 10, .loc 14, .loc 15] [] σ (.loc 17) (dueS σ st pic pic.length) := by
  have d0 : upd (upd σ 18 (.list (roadsL st))) 17 (.list []) = dueS σ st pic 0 := rfl
  have lR : (roadsL st).length ≤ 1000 := by show 9 ≤ 1000; decide
  refine FnE.of0 T (xs := ["laid", "money", "roads"]) (f278 _) (by kernel_rfl) (by kernel_rfl) rfl ?_ fun L => ?_
  · exact Binds.of3 fun _ _ _ => rfl
  · show XT _ _ _ _ _ _ [("laid", .loc 10), ("money", .loc 14), ("roads", .loc 15)] _ _
    apply XT.cons
    apply XT.assignWX (v := [.str (S "ABCDEFGHIJKLMNOP"), .loc 18, .loc 17]) (names := ["letters", "left", "due"]) (σ' := dueS σ st pic 0)
    · apply XV.tuple
      · apply XVs.cons
        · exact (PV.constS).eff
        · apply XVs.cons
          · apply XV.new (n := 18) (l := roadsL st)
            · apply PVn.listOf
              · exact T
              · repeat is_list
              · repeat is_list
              · exact Lst.loc s15
              · exact lR
              · rfl
            · exact s18
            · exact .inr rfl
            · rfl
          · apply XVs.cons
            · apply XV.new (n := 17) (l := [])
              · exact PVn.list PVs.nil (by simp)
              · rw [upd_ne (by decide)]; exact s17
              · exact .inl rfl
              · exact d0
            · exact PVs.nil.eff
            · rfl
          · rfl
        · rfl
      · decide
    · apply Binding.cons
      · kernel_rfl
      apply Binding.cons
      · kernel_rfl
      apply Binding.cons
      · kernel_rfl
      exact Binding.nil
    · kernel_rfl
    · kernel_rfl
    · rfl
    apply Kont.next
    apply XT.cons
    apply XT.forS [("laid", .loc 10), ("money", .loc 14), ("roads", .loc 15), ("letters", .str (S "ABCDEFGHIJKLMNOP")), ("left", .loc 18), ("due", .loc 17)] (fun t σ' => σ' = dueS σ st pic t) (ls := (pic.map fun p => (p.i, p.j, p.g)).map t3)
    · apply ItE.loc
      · repeat is_list
      · show upd (upd σ 18 _) 17 _ 10 = _
        rw [upd_ne (by decide), upd_ne (by decide)]; exact s10
      · rfl
      · exact fun _ => rfl
    · rintro n rfl (h | h) <;> cases h
    · repeat is_list
    · rfl
    · rintro t v σ' ht rfl
      rw [List.getElem?_map, List.getElem?_map] at ht
      cases hpt : pic[t]? with
      | none => rw [hpt] at ht; cases ht
      | some p =>
        rw [hpt] at ht
        have hv : v = .tup [.int p.i, .int p.j, .int p.g] := by cases ht; rfl
        subst hv
        have htl := (List.getElem?_eq_some_iff.mp hpt).1
        obtain ⟨hi, hj4, hg, hx, hy⟩ := hp p (List.mem_of_getElem? hpt)
        have hE := eats_at (st := st) (pic := pic) (l := st.rd) t (by omega) he
        rw [List.drop_eq_getElem_cons htl, (List.getElem?_eq_some_iff.mp hpt).2] at hE
        have hN := ate_next hpt st.rd
        have hlen := ate_len (M := M) (pic.take t) st.rd hl p.i p.j
        rw [eats] at hE
        have q14 : ∀ t, dueS σ st pic t 14 = .list (moneyL st) := fun t => by unfold dueS; rw [upd_ne (by decide), upd_ne (by decide)]; exact s14
        have q14' := q14 t
        have q17 : ∀ t, dueS σ st pic t 17 = .list ((pic.take t).map due1) := fun t => upd_self ..
        have n14 : (moneyL st).length ≤ 1000000 := by show 3 ≤ 1000000; decide
        have n15 : ∀ s, (roadsL s).length ≤ 1000000 := fun s => by show 9 ≤ 1000000; decide
        have am := money_at st hi
        have lA : (S "ABCDEFGHIJKLMNOP").length ≤ 1000000 := by decide +kernel
        have lx : ((p.x : Nat) : Int) < ((S "ABCDEFGHIJKLMNOP").length : Nat) := by rw [show (S "ABCDEFGHIJKLMNOP").length = 16 by kernel_rfl]; omega
        have ly : ((p.y : Nat) : Int) < ((S "ABCDEFGHIJKLMNOP").length : Nat) := by rw [show (S "ABCDEFGHIJKLMNOP").length = 16 by kernel_rfl]; omega
        have lx0 : (0 : Int) ≤ ((p.x : Nat) : Int) := by omega
        have ly0 : (0 : Int) ≤ ((p.y : Nat) : Int) := by omega
        rcases (by omega : p.j = 3 ∨ p.j < 3) with hj | hj
        · rw [if_pos hj] at hE hN
          obtain ⟨e1, e2, _⟩ := hE
          rw [e1, e2] at am
          have pl := plain_ok (w := w) (H0 := H0) (k := k) (σ := dueS σ st pic t) T hi hj4 hg
          have a1 : (S "B").length + [(S "ABCDEFGHIJKLMNOP").getD ((p.x : Nat) : Int).toNat 0].length ≤ 10000000 := by rw [show (S "B").length = 1 by kernel_rfl]; simp
          have a2 : (S "B" ++ [(S "ABCDEFGHIJKLMNOP").getD ((p.x : Nat) : Int).toNat 0]).length + [(S "ABCDEFGHIJKLMNOP").getD ((p.y : Nat) : Int).toNat 0].length ≤ 10000000 := by rw [List.length_append, show (S "B").length = 1 by kernel_rfl]; simp
          have eT : (S "B" ++ [(S "ABCDEFGHIJKLMNOP").getD ((p.x : Nat) : Int).toNat 0]) ++ [(S "ABCDEFGHIJKLMNOP").getD ((p.y : Nat) : Int).toNat 0] = pcText p := by unfold pcText; rw [if_pos hj, abc_two _ hx _ hy]
          have ma := meth_append (w := w) (H0 := H0) (k := k+1) (q17 t)
          have fa : FnE w H0 (k+1) W3 (.builtin "list.append") [.loc 17, .tup [.str (nm p.i p.j p.g), .str (pcText p)]] [] (dueS σ st pic t) .none (dueS σ st pic (t + 1)) := FnE.append (q17 t) (by rw [List.length_map, List.length_take]; omega) (.inl rfl) (by
            unfold dueS; rw [upd_upd, hN, List.take_add_one, hpt, List.map_append]; rfl)
          apply Exists.intro
          apply And.intro
          · repeat is_list
          · apply XT.cons
            apply XT.if_ (c := true)
            · apply PB.eq
              · repeat is_list
              · rw [hj]; rfl
            · intro _
              apply XT.cons
              apply XT.letP
              · kernel_rfl
              · apply PV.eq
                rotate_left
                · exact congrArg AV.str eT
                repeat is_list
              · kernel_rfl
              apply Kont.next
              repeat is_list
            · exact fun h => nomatch h
        · rw [if_neg (by omega)] at hE hN
          obtain ⟨r, hr, _⟩ := hE
          rw [hr, List.tail_cons] at hN
          rw [hr] at hlen
          have hlr : r.length + 1 ≤ M := hlen
          have q18 : dueS σ st pic t 18 = .list (roadsL (lf st (ate (pic.take t) st.rd))) := by unfold dueS; rw [upd_ne (by decide), upd_self]
          have n18 := n15 (lf st (ate (pic.take t) st.rd))
          have ar := roads_at (lf st (ate (pic.take t) st.rd)) hi hj
          rw [show (lf st (ate (pic.take t) st.rd)).rd p.i p.j = p.x :: r from hr] at ar
          have ar : At (roadsL (lf st (ate (pic.take t) st.rd))) (3 * (p.i : Int) + (p.j : Int)) (.lst (AV.int (p.x : Int) :: r.map fun (n : Nat) => AV.int (n : Int))) := ar
          have ln1 : (AV.int (p.x : Int) :: r.map fun (n : Nat) => AV.int (n : Int)).length ≤ 1000000 := by rw [List.length_cons, List.length_map]; omega
          have ln2 : (AV.int (p.x : Int) :: r.map fun (n : Nat) => AV.int (n : Int)).length ≤ 1000 := by rw [List.length_cons, List.length_map]; omega
          generalize hσm : upd (upd σ 18 (.list (roadsL (lf st (ate (pic.take (t + 1)) st.rd))))) 17 (.list ((pic.take t).map due1)) = σm
          have st1 : SE w H0 (k+1) W3 (dueS σ st pic t) (.loc 18) (.int (3 * (p.i : Int) + (p.j : Int))) (.lst ((AV.int (p.x : Int) :: r.map fun (n : Nat) => AV.int (n : Int)).drop 1)) σm :=
            SE.list q18 (by omega) (by show 3 * (p.i : Int) + (p.j : Int) < 9; omega) (by show 9 ≤ 1000; decide) (.inr rfl) (by
              have e := roads_set (lf st (ate (pic.take t) st.rd)) hi hj r st.h st.b
              unfold road at e
              rw [List.drop_one, List.tail_cons, e, ← hσm, hN]
              unfold dueS
              rw [upd_swap _ (show (17 : Nat) ≠ 18 by decide), upd_upd])
          have m17 : σm 17 = .list ((pic.take t).map due1) := by rw [← hσm]; exact upd_self ..
          have pl := plain_ok (w := w) (H0 := H0) (k := k) (σ := σm) T hi hj4 hg
          have a1 : (S "B").length + [(S "ABCDEFGHIJKLMNOP").getD ((p.x : Nat) : Int).toNat 0].length ≤ 10000000 := by rw [show (S "B").length = 1 by kernel_rfl]; simp
          have eT : S "B" ++ [(S "ABCDEFGHIJKLMNOP").getD ((p.x : Nat) : Int).toNat 0] = pcText p := by unfold pcText; rw [if_neg (by omega), abc_one _ hx]
          have ma := meth_append (w := w) (H0 := H0) (k := k+1) m17
          have fa : FnE w H0 (k+1) W3 (.builtin "list.append") [.loc 17, .tup [.str (nm p.i p.j p.g), .str (pcText p)]] [] σm .none (dueS σ st pic (t + 1)) := FnE.append m17 (by rw [List.length_map, List.length_take]; omega) (.inl rfl) (by
            unfold dueS; rw [← hσm, upd_upd, List.take_add_one, hpt, List.map_append]; rfl)
          apply Exists.intro
          apply And.intro
          · repeat is_list
          · apply XT.cons
            apply XT.if_ (c := false)
            · apply PB.eq
              · repeat is_list
              · exact beq_eq_false_iff_ne.mpr (by omega)
            · exact fun h => nomatch h
            · intro _
              apply XT.cons
              apply XT.if_ (c := false)
              · apply PB.eq
                · repeat is_list
                · rfl
              · exact fun h => nomatch h
              · intro _
                apply XT.cons
                apply XT.letP
                · kernel_rfl
                · apply PV.eq
                  rotate_left
                  · exact congrArg AV.str eT
                  repeat is_list
                · kernel_rfl
                apply Kont.next
                repeat is_list
    · rintro σ' rfl
      rw [List.length_map, List.length_map]
      have hE := eats_at (st := st) (pic := pic) (l := st.rd) pic.length (Nat.le_refl _) he
      rw [List.drop_length, eats] at hE
      have q18 : dueS σ st pic pic.length 18 = .list (roadsL (lf st (ate (pic.take pic.length) st.rd))) := by unfold dueS; rw [upd_ne (by decide), upd_self]
      generalize hσE : dueS σ st pic pic.length = σE at q18 ⊢
      generalize hlE : ate (pic.take pic.length) st.rd = lE at hE q18
      apply XT.cons
      apply XT.if_ (c := false)
      · apply PB.eq
        · apply PB.cmp
          · apply PV.new
            apply PVn.comp0 (es := List.range 9) (f := fun r => AV.lst ((lE (r / 3) (r % 3)).map fun (n : Nat) => AV.int (n : Int))) (fun r => !((lE (r / 3) (r % 3)).map fun (n : Nat) => AV.int (n : Int)).isEmpty) (fun r => AV.lst ((lE (r / 3) (r % 3)).map fun (n : Nat) => AV.int (n : Int)))
            · apply ItE.loc
              · repeat is_list
              · exact q18
              · rfl
              · exact fun _ => rfl
            · kernel_rfl
            · kernel_rfl
            · decide
            · intro C r hr
              repeat is_list
              intro _
              repeat is_list
          · repeat is_list
          · exact O2.neNil (Lst.lst _)
          · kernel_rfl
        · have : (List.range 9).filter (fun r => !((lE (r / 3) (r % 3)).map fun (n : Nat) => AV.int (n : Int)).isEmpty) = [] := by
            rw [List.filter_eq_nil_iff]
            intro r hr
            have hr := List.mem_range.mp hr
            rw [hE (r / 3) (by omega) (r % 3) (by omega)]
            decide
          rw [this]; rfl
      · exact fun h => nomatch h
      · intro _
        apply XT.nil
        apply Kont.next
        apply XT.cons
        repeat is_list
theorem due_ok {w : World} {H0 : Heap} (T : Tp w H0) {k : Nat} {σ : Store} {st : St} {pic : List Pc} {M : Nat} (hM : M ≤ 900) (hl : ∀ x y, (st.rd x y).length ≤ M) (hn : pic.length ≤ 900)
    (hp : ∀ p ∈ pic, p.i < 3 ∧ p.j < 4 ∧ p.g < 2 ∧ p.x < 16 ∧ p.y < 16) (he : eats st pic st.rd)
    (s10 : σ 10 = .list ((pic.map fun p => (p.i, p.j, p.g)).map t3)) (s14 : σ 14 = .list (moneyL st)) (s15 : σ 15 = .list (roadsL st)) (s17 : σ 17 = .free) (s18 : σ 18 = .free) (av : ∀ n m, n = 17 ∨ n = 18 → (σ m).avoids n = true) :
    FnP w H0 (k+2) (.ref 278) [.loc 10, .loc 14, .loc 15] [] σ (.lst (pic.map due1)) := by
  have x := due_raw (k := k) T hM hl hn hp he s10 s14 s15 s17 s18
  have d1 := x.drop (n := 18) s18 (fun m hm => by
    unfold dueS
    by_cases q : m = 17
    · subst q; rw [upd_self]; exact avoids_due ..
    · rw [upd_ne q, upd_ne hm]; exact av 18 m (.inr rfl)) rfl
  have d2 := d1.dropL (n := 17) (l := pic.map due1) s17 (fun m => by
    by_cases z : m = 18
    · subst z; rw [upd_self]; rfl
    · rw [upd_ne z]
      unfold dueS
      by_cases q : m = 17
      · subst q; rw [upd_self]; exact avoids_due ..
      · rw [upd_ne q, upd_ne z]; exact av 17 m (.inl rfl)) (by rw [upd_ne (by decide)]; unfold dueS; rw [upd_self, List.take_length])
  refine FnE.pure (d2.same ?_ fun n hn => ?_)
  · funext m
    by_cases q : m = 17
    · subst q; rw [upd_self, s17]
    · rw [upd_ne q]
      by_cases z : m = 18
      · subst z; rw [upd_self, s18]
      · rw [upd_ne z]; unfold dueS; rw [upd_ne q, upd_ne z]
  · rcases hn with ⟨⟨h | h, a⟩, b⟩
    · exact b h
    · exact a h
end
end
section
open PySem PySem.W PyProof.Rows
set_option maxRecDepth 100000
set_option maxHeartbeats 4000000

theorem f205 (P : Params) : (K0 P).lookup 205 = some (fobj (fdAt (stmtAt 11) "ParseFlags" .none (.str "cpy313.imaplib" 552) (.ref 204))) := by kernel_rfl
theorem parse_ok {w : World} {H0 : Heap} (T : Tp w H0) {k : Nat} {σ : Store} {x sent : List UInt8} {ws : List (List UInt8)} {N P q : Nat} (f : FlagsAt x N P q) (hsent : (x.drop (P + 7)).take (q - (P + 7)) = sent) (hs : sent.any Builtin.Bytes.isSpace = true)
    (hw : Builtin.Bytes.words (sent.length + 1) (sent.length + 1) sent = ws) (hwl : ∀ y ∈ ws, y.length ≤ 100000) (hwn : ws.length ≤ 1000) : FnP w H0 (k+1) (.ref 205) [.bytes x] [] σ (.tup (ws.map .bytes)) := by
  refine FnE.pure (FnE.of0 T (xs := ["resp"]) (f205 _) (by kernel_rfl) (by kernel_rfl) rfl ?_ fun L => ?_)
  · exact Binds.of1 fun _ => rfl
  · show XT _ _ _ _ _ _ [("resp", .bytes x)] _ _
    apply XT.consM T (k := k)
    · kernel_rfl
    · apply PVm.match T f
      · repeat is_list
      · repeat is_list
      · rfl
      · kernel_rfl
      · kernel_rfl
    · kernel_rfl
    · intro H1 M O t T1 hM hO
      have tm := true_match (w := w) (k := k) (σ := σ) hM
      have mg := meth_group (w := w) (k := k) (σ := σ) hM
      have fg := fn_group (k := k) (σ := σ) T1 hM hO f.hl
      rw [hsent] at fg
      have ms := meth_split (w := w) (H0 := H1) (k := k) (σ := σ) sent
      have fsp := fn_split (w := w) (H0 := H1) (k := k) (σ := σ) hs hw hwl (by omega)
      have ft := fn_tupleOf (w := w) (H0 := H1) (k := k) (σ := σ) (Lst.lst (ws.map .bytes)) (by rw [List.length_map]; exact hwn)
      apply XT.cons
      apply XT.if_ (c := false)
      · apply PB.not (c := true)
        apply PB.val
        · repeat is_list
        · exact tm
        · kernel_rfl
      · exact fun h => nomatch h
      · intro _
        apply XT.nil
        apply Kont.next
        apply XT.cons
        repeat is_list
end
section
open PySem PySem.W PyProof.Rows
set_option maxRecDepth 100000
set_option maxHeartbeats 4000000
theorem sent_len (es : List (List Nat × List Nat)) (hb : ∀ x ∈ es, x.1.length ≤ 100 ∧ x.2.length ≤ 100) : (sentS es).length ≤ 204 * es.length + 2 := by
  unfold sentS
  rw [List.length_append]
  have : (es.flatMap fun e => e.1 ++ [58, 32] ++ e.2 ++ [13, 10]).length ≤ 204 * es.length := by
    induction es with
    | nil => simp
    | cons x es ih =>
      have h1 := hb x List.mem_cons_self
      have h2 := ih fun y hy => hb y (List.mem_cons_of_mem _ hy)
      rw [List.flatMap_cons, List.length_append, List.length_cons]
      simp only [List.length_append, List.length_cons, List.length_nil]
      omega
  rw [show ([13, 10] : List Nat).length = 2 from rfl]; omega
theorem sent_small (es : List (List Nat × List Nat)) (hb : ∀ x ∈ es, (∀ c ∈ x.1, c < 128) ∧ ∀ c ∈ x.2, c < 128) : ∀ c ∈ sentS es, c < 128 := by
  intro c hc
  unfold sentS at hc
  rcases List.mem_append.mp hc with h | h
  · obtain ⟨x, hx, h⟩ := List.mem_flatMap.mp h
    obtain ⟨h1, h2⟩ := hb x hx
    simp only [List.mem_append, List.mem_cons, List.not_mem_nil, or_false] at h
    rcases h with ((h | h | h) | h) | h | h
    · exact h1 c h
    · omega
    · omega
    · exact h2 c h
    · omega
    · omega
  · simp at h; omega

theorem f158 (P : Params) : (K0 P).lookup 158 = some (fobj (fdAt (methAt 13) "Headers.__str__" .none (.str "cpy313.wsgiref.headers" 289) (.ref 157))) := by kernel_rfl
theorem f165 (P : Params) : (K0 P).lookup 165 = some (fobj (fdAt (methAt 14) "Headers.__bytes__" .none (.str "cpy313.wsgiref.headers" 289) (.ref 164))) := by kernel_rfl
theorem f146 (P : Params) : (K0 P).lookup 146 = some (fobj (fdAt (methAt 11) "Headers.items" .none (.str "cpy313.wsgiref.headers" 289) (.ref 145))) := by kernel_rfl
theorem hitems_ok {w : World} {H0 : Heap} (T : Tp w H0) {k : Nat} {σ : Store} {p d l : Nat} {es : List (List Nat × List Nat)} (H : Hd σ p d l) (e : σ l = .list (es.map hv)) (hl : es.length ≤ 400) : FnP w H0 (k+1) (.ref 146) [.loc p] [] σ (.lst (es.map hv)) := by
  refine FnE.pure (FnE.of0 T (xs := ["self"]) (f146 _) (by kernel_rfl) (by kernel_rfl) rfl ?_ fun L => ?_)
  · exact Binds.of1 fun _ => rfl
  · show XT _ _ _ _ _ _ [("self", .loc p)] _ _
    apply XT.cons
    apply XT.ret
    · apply PV.new
      apply PVn.allL
      · repeat is_list
      · exact Lst.loc e
      · rw [List.length_map]; omega
      · exact fun _ _ => rfl
    · apply Kont.ret
      exact Ends.ret rfl
theorem hstr_ok {w : World} {H0 : Heap} (T : Tp w H0) {k : Nat} {σ : Store} {p d l : Nat} {es : List (List Nat × List Nat)} (H : Hd σ p d l) (e : σ l = .list (es.map hv)) (hl : es.length ≤ 400) (hb : ∀ x ∈ es, x.1.length ≤ 100 ∧ x.2.length ≤ 100) : FnP w H0 (k+1) (.ref 158) [.loc p] [] σ (.str (sentS es)) := by
  have al : O2 w H0 k (binaryOp .Add) σ (.lst (es.map fun x => AV.str (x.1 ++ [58, 32] ++ x.2))) (.lst [.str (S ""), .str (S "")]) (.lst ((es.map (fun (x : List Nat × List Nat) => x.1 ++ [58, 32] ++ x.2) ++ [[], []]).map AV.str)) := by
    have := O2.addL (w := w) (H0 := H0) (k := k) (σ := σ) (es.map fun x => AV.str (x.1 ++ [58, 32] ++ x.2)) [.str (S ""), .str (S "")] (by rw [List.length_map]; simp; omega)
    rw [List.map_append, List.map_map]; exact this
  have sl := sent_len es hb
  have hsum : ∀ l : List (List Nat × List Nat), (∀ x ∈ l, x.1.length ≤ 100 ∧ x.2.length ≤ 100) → ((l.map fun x => x.1 ++ [58, 32] ++ x.2).map (·.length)).sum ≤ 202 * l.length := by
    intro l
    induction l with
    | nil => intro _; simp
    | cons x l ih =>
      intro h
      have h1 := h x List.mem_cons_self
      have h2 := ih fun y hy => h y (List.mem_cons_of_mem _ hy)
      simp only [List.map_cons, List.sum_cons, List.length_append, List.length_cons, List.length_nil] at h2 ⊢
      omega
  have j1 := fn_joinL (w := w) (H0 := H0) (k := k) (σ := σ) (l := es.map (fun (x : List Nat × List Nat) => x.1 ++ [58, 32] ++ x.2) ++ [[], []]) (x := S "\r\n") (y := sentS es)
    (by
      have := join_lines (S "\r\n") (es.map fun x => x.1 ++ [58, 32] ++ x.2)
      rw [this]
      unfold sentS
      rw [List.flatMap_map]; rfl)
    (by
      have h2 := hsum es hb
      rw [List.map_append, List.sum_append, List.length_append, List.length_map, show (S "\r\n").length = 2 by kernel_rfl]
      simp at h2 ⊢; omega)
  refine FnE.pure (FnE.of0 T (xs := ["self"]) (f158 _) (by kernel_rfl) (by kernel_rfl) rfl ?_ fun L => ?_)
  · exact Binds.of1 fun _ => rfl
  · show XT _ _ _ _ _ _ [("self", .loc p)] _ _
    apply XT.cons
    apply XT.ret
    · apply PV.meth0
      · exact T
      · repeat is_list
      · exact meth_join _
      · exact KeepOk.builtin _
      · apply PVs.cons
        · apply PV.binop
          · apply PV.eq
            · apply PV.new
              apply PVn.comp0 (es := es) (f := hv) (fun _ => true) (fun x => AV.str (x.1 ++ [58, 32] ++ x.2))
              · apply ItE.loc
                · repeat is_list
                · exact e
                · rfl
                · exact fun _ => rfl
              · kernel_rfl
              · kernel_rfl
              · omega
              · intro C x hx
                have pc := O2.pct (w := w) (H0 := H0) (k := k) (σ := σ) x.1 x.2 (by have := hb x hx; omega) (by have := hb x hx; omega)
                unfold hv
                apply CompStep.mk
                · repeat is_list
                · repeat is_list
                · repeat is_list
                · intro _
                  apply PV.binop
                  · repeat is_list
                  · repeat is_list
                  · exact pc
            · rw [List.filter_eq_self.mpr fun _ _ => rfl]
          · repeat is_list
          · exact al
        · repeat is_list
        · rfl
      · exact j1
      · kernel_rfl
      · kernel_rfl
      · kernel_rfl
      · kernel_rfl
    · apply Kont.ret
      exact Ends.ret rfl
theorem hbytes_ok {w : World} {H0 : Heap} (T : Tp w H0) {k : Nat} {σ : Store} {p d l : Nat} {es : List (List Nat × List Nat)} (H : Hd σ p d l) (e : σ l = .list (es.map hv)) (hl : es.length ≤ 400) (hb : ∀ x ∈ es, x.1.length ≤ 100 ∧ x.2.length ≤ 100) (hs : ∀ x ∈ es, (∀ c ∈ x.1, c < 128) ∧ ∀ c ∈ x.2, c < 128) :
    FnP w H0 (k+5) (.ref 165) [.loc p] [] σ (.bytes (oct (sentS es))) := by
  have sl := sent_len es hb
  have st := fn_strH T H (hstr_ok (k := k) T H e hl hb)
  have en := fn_encodeL (w := w) (H0 := H0) (k := k+4) (σ := σ) (sent_small es hs) (by omega)
  have me := meth_encode (w := w) (H0 := H0) (k := k+4) (σ := σ) (sentS es)
  refine FnE.pure (FnE.of0 T (xs := ["self"]) (f165 _) (by kernel_rfl) (by kernel_rfl) rfl ?_ fun L => ?_)
  · exact Binds.of1 fun _ => rfl
  · show XT _ _ _ _ _ _ [("self", .loc p)] _ _
    apply XT.cons
    repeat is_list
end
section
open PySem PySem.W PyProof.Rows
set_option maxRecDepth 100000
set_option maxHeartbeats 4000000
/-- a name or a text of a table: plain signs, no blank, no bracket -/
noncomputable def Sign (x : List Nat) : Prop := x ≠ [] ∧ ∀ c ∈ x, 33 ≤ c ∧ c < 127 ∧ c ≠ 40 ∧ c ≠ 41
noncomputable def preL : List UInt8 := [42, 32, 49, 32, 70, 69, 84, 67, 72, 32, 40, 70, 76, 65, 71, 83, 32, 40, 97, 58, 32, 66, 65, 41, 32, 80, 69, 82, 77, 65, 78, 69, 78, 84, 70, 76, 65, 71, 83, 32, 40]
noncomputable def postL : List UInt8 := [41, 32, 85, 73, 68, 32, 55, 41]
theorem space_no {c : Nat} (h : 33 ≤ c ∧ c < 127) : Builtin.Bytes.isSpace c.toUInt8 = false := by
  have : ∀ c, c < 127 → 33 ≤ c → Builtin.Bytes.isSpace c.toUInt8 = false := by decide +kernel
  exact this c h.2 h.1
theorem words_pieces {x : List UInt8} (hx : x ≠ []) (hs : ∀ c ∈ x, Builtin.Bytes.isSpace c = false) {c : UInt8} (hc : Builtin.Bytes.isSpace c = true) (r : List UInt8) : (x ++ c :: r).dropWhile Builtin.Bytes.isSpace = x ++ c :: r ∧ (x ++ c :: r).takeWhile (!Builtin.Bytes.isSpace ·) = x ∧ (x ++ c :: r).dropWhile (!Builtin.Bytes.isSpace ·) = c :: r := by
  refine ⟨?_, ?_, ?_⟩
  · cases x with
    | nil => exact absurd rfl hx
    | cons a x => rw [List.cons_append, List.dropWhile_cons, hs a List.mem_cons_self]; rfl
  · rw [List.takeWhile_append_of_pos (fun a ha => by rw [hs a ha]; rfl), List.takeWhile_cons, hc]; simp
  · rw [List.dropWhile_append_of_pos (fun a ha => by rw [hs a ha]; rfl), List.dropWhile_cons, hc]; simp
theorem words_step {pre x : List UInt8} (hp : ∀ c ∈ pre, Builtin.Bytes.isSpace c = true) (hx : x ≠ []) (hs : ∀ c ∈ x, Builtin.Bytes.isSpace c = false) {c : UInt8} (hc : Builtin.Bytes.isSpace c = true) (r : List UInt8) (fuel left : Nat) :
    Builtin.Bytes.words (fuel + 1) (left + 1) (pre ++ (x ++ c :: r)) = x :: Builtin.Bytes.words fuel left (c :: r) := by
  obtain ⟨h1, h2, h3⟩ := words_pieces hx hs hc r
  rw [Builtin.Bytes.words]
  rw [List.dropWhile_append_of_pos hp, h1]
  cases hz : x ++ c :: r with
  | nil => simp at hz
  | cons a l =>
    dsimp only
    rw [← hz, h2, h3, if_neg (by simp)]
    rfl
theorem words_sent : ∀ (es : List (List Nat × List Nat)), (∀ x ∈ es, Sign x.1 ∧ Sign x.2) → ∀ (pre : List UInt8), (∀ c ∈ pre, Builtin.Bytes.isSpace c = true) → ∀ fuel left, 2 * es.length + 1 ≤ fuel → 2 * es.length + 1 ≤ left →
    Builtin.Bytes.words fuel left (pre ++ oct (sentS es)) = es.flatMap fun e => [oct (e.1 ++ [58]), oct e.2]
  | [], _, pre, hp, fuel, left, hf, hl => by
    obtain ⟨f, rfl⟩ : ∃ f, fuel = f + 1 := ⟨fuel - 1, by simp at hf; omega⟩
    rw [Builtin.Bytes.words, List.dropWhile_append_of_pos hp]
    rfl
  | x :: es, h, pre, hp, fuel, left, hf, hl => by
    rw [List.length_cons] at hf hl
    obtain ⟨f, rfl⟩ : ∃ f, fuel = f + 1 + 1 := ⟨fuel - 2, by omega⟩
    obtain ⟨l, rfl⟩ : ∃ l, left = l + 1 + 1 := ⟨left - 2, by omega⟩
    obtain ⟨⟨n1, s1⟩, n2, s2⟩ := h x List.mem_cons_self
    have e : oct (sentS (x :: es)) = oct (x.1 ++ [58]) ++ (32 : UInt8) :: (oct x.2 ++ (13 : UInt8) :: ([10] ++ oct (sentS es))) := by
      simp [sentS, oct]
    have o1 : ∀ c ∈ oct (x.1 ++ [58]), Builtin.Bytes.isSpace c = false := fun c hc => by
      obtain ⟨n, hn, rfl⟩ := List.mem_map.mp hc
      rcases List.mem_append.mp hn with h | h
      · exact space_no ⟨(s1 n h).1, (s1 n h).2.1⟩
      · simp at h; subst h; decide
    have o2 : ∀ c ∈ oct x.2, Builtin.Bytes.isSpace c = false := fun c hc => by
      obtain ⟨n, hn, rfl⟩ := List.mem_map.mp hc
      exact space_no ⟨(s2 n hn).1, (s2 n hn).2.1⟩
    rw [e, words_step hp (by simp [oct]) o1 (by decide)]
    rw [show (32 : UInt8) :: (oct x.2 ++ (13 : UInt8) :: ([10] ++ oct (sentS es))) = [32] ++ (oct x.2 ++ (13 : UInt8) :: ([10] ++ oct (sentS es))) from rfl]
    rw [words_step (by decide) (by simpa [oct] using n2) o2 (by decide)]
    rw [show (13 : UInt8) :: ([10] ++ oct (sentS es)) = [13, 10] ++ oct (sentS es) from rfl, words_sent es (fun y hy => h y (List.mem_cons_of_mem _ hy)) [13, 10] (by decide) f l (by omega) (by omega)]
    rfl
theorem first_of {p : Nat → Bool} : ∀ (l : List Nat), (∃ c ∈ l, p c = true) → ∃ n, n < l.length ∧ p (l.getD n 0) = true ∧ ∀ m, m < n → p (l.getD m 0) = false
  | [], h => by obtain ⟨c, hc, _⟩ := h; simp at hc
  | a :: l, h => by
    cases q : p a with
    | true => exact ⟨0, by simp, q, fun m hm => by omega⟩
    | false =>
      obtain ⟨c, hc, e⟩ := h
      rcases List.mem_cons.mp hc with rfl | hc
      · rw [q] at e; cases e
      · obtain ⟨n, h1, h2, h3⟩ := first_of l ⟨c, hc, e⟩
        refine ⟨n + 1, by simpa using h1, by simpa using h2, fun m hm => ?_⟩
        cases m with
        | zero => simpa using q
        | succ m => simpa using h3 m (by omega)
theorem sent_signs {es : List (List Nat × List Nat)} (h : ∀ x ∈ es, Sign x.1 ∧ Sign x.2) : ∀ c ∈ sentS es, c < 127 ∧ c ≠ 40 ∧ c ≠ 41 := by
  intro c hc
  unfold sentS at hc
  rcases List.mem_append.mp hc with hc | hc
  · obtain ⟨x, hx, hc⟩ := List.mem_flatMap.mp hc
    obtain ⟨⟨_, h1⟩, _, h2⟩ := h x hx
    simp only [List.mem_append, List.mem_cons, List.not_mem_nil, or_false] at hc
    rcases hc with ((hc | hc | hc) | hc) | hc | hc
    · exact ⟨(h1 c hc).2.1, (h1 c hc).2.2⟩
    · omega
    · omega
    · exact ⟨(h2 c hc).2.1, (h2 c hc).2.2⟩
    · omega
    · omega
  · simp at hc; omega
theorem oct_nat {l : List Nat} (h : ∀ c ∈ l, c < 256) : (oct l).map (·.toNat) = l := by
  unfold oct
  rw [List.map_map]
  have : l.map ((fun (b : UInt8) => b.toNat) ∘ Nat.toUInt8) = l.map id := List.map_congr_left fun c hc => by
    show (Nat.toUInt8 c).toNat = c
    simp; have := h c hc; omega
  rw [this, List.map_id]
theorem getD_left {a b : List Nat} {y : Nat} (h : y < a.length) : (a ++ b).getD y 0 = a.getD y 0 := by simp [List.getD, List.getElem?_append_left h]
theorem getD_right {a b : List Nat} {y : Nat} (h : a.length ≤ y) : (a ++ b).getD y 0 = b.getD (y - a.length) 0 := by simp [List.getD, List.getElem?_append_right h]
theorem getD_mem {a : List Nat} {y : Nat} (h : y < a.length) : a.getD y 0 ∈ a := by simp [List.getD, h]
theorem toArr_getD (l : List Nat) (y : Nat) : l.toArray.getD y 0 = l.getD y 0 := by
  rw [Array.getD_eq_getD_getElem?, List.getD_eq_getElem?_getD, List.getElem?_toArray]
theorem flags_at {es : List (List Nat × List Nat)} (h : ∀ x ∈ es, Sign x.1 ∧ Sign x.2) (hl : (sentS es).length ≤ 99000) : ∃ N, FlagsAt (preL ++ oct (sentS es) ++ postL) N 34 (41 + (sentS es).length) := by
  have hs := sent_signs h
  obtain ⟨n, h1, h2, h3⟩ := first_of (p := fun c => c == 10) (sentS es) ⟨10, by unfold sentS; simp, rfl⟩
  have hx : ((preL ++ oct (sentS es) ++ postL).toArray.map (·.toNat)) = (preL.map (·.toNat) ++ (sentS es ++ postL.map (·.toNat))).toArray := by
    apply Array.ext'
    simp only [List.map_toArray, List.map_append]
    rw [oct_nat (fun c hc => by have := hs c hc; omega), List.append_assoc]
  have hlen : (preL ++ oct (sentS es) ++ postL).length = 41 + (sentS es).length + 8 := by
    rw [List.length_append, List.length_append, oct_len]; rfl
  have pl : (preL.map (·.toNat)).length = 41 := rfl
  have g : ∀ y, (preL.map (·.toNat) ++ (sentS es ++ postL.map (·.toNat))).toArray.getD y 0 = (preL.map (·.toNat) ++ (sentS es ++ postL.map (·.toNat))).getD y 0 := fun y => toArr_getD _ y
  have gp : ∀ y, y < 41 → (preL.map (·.toNat) ++ (sentS es ++ postL.map (·.toNat))).getD y 0 = (preL.map (·.toNat)).getD y 0 := fun y hy => getD_left (by rw [pl]; exact hy)
  have gm : ∀ y, 41 ≤ y → y < 41 + (sentS es).length → (preL.map (·.toNat) ++ (sentS es ++ postL.map (·.toNat))).getD y 0 = (sentS es).getD (y - 41) 0 := fun y hy hy2 => by
    rw [getD_right (by rw [pl]; exact hy), pl, getD_left (by omega)]
  have gr : ∀ y, 41 + (sentS es).length ≤ y → (preL.map (·.toNat) ++ (sentS es ++ postL.map (·.toNat))).getD y 0 = (postL.map (·.toNat)).getD (y - 41 - (sentS es).length) 0 := fun y hy => by
    rw [getD_right (by rw [pl]; omega), pl, getD_right (by omega)]
  have d1 : ∀ y, y < 41 → (preL.map (·.toNat)).getD y 0 ≠ 10 := by decide +kernel
  have d2 : ∀ y, y < 8 → (postL.map (·.toNat)).getD y 0 ≠ 40 := by decide +kernel
  refine ⟨41 + n, by omega, by omega, by omega, by omega, by omega, ?_, ?_, ?_, ?_, ?_, ?_⟩
  · intro y hy
    rw [hx, g]
    by_cases z : y < 41
    · rw [gp y z]; exact d1 y z
    · rw [gm y (by omega) (by omega)]
      have := h3 (y - 41) (by omega)
      simpa using this
  · rw [hx, g, gm _ (by omega) (by omega), show 41 + n - 41 = n by omega]
    simpa using h2
  · intro k hk
    rw [hx, g, gp _ (by omega)]
    have : ∀ k, k < 7 → (preL.map (·.toNat)).getD (34 + k) 0 = fcode.getD (11 + 2 * k + 1) 0 := by decide +kernel
    exact this k hk
  · intro y hy hy2
    rw [hx, g]
    by_cases z : y < 41 + (sentS es).length
    · rw [gm y (by omega) z]; exact (hs _ (getD_mem (by omega))).2.1
    · rw [gr y (by omega)]; exact d2 _ (by omega)
  · intro y hy hy2
    rw [hx, g, gm y (by omega) (by omega)]
    exact (hs _ (getD_mem (by omega))).2.2
  · rw [hx, g, gr _ (Nat.le_refl _), show 41 + (sentS es).length - 41 - (sentS es).length = 0 by omega]; rfl
theorem sent_mid (es : List (List Nat × List Nat)) : ((preL ++ oct (sentS es) ++ postL).drop (34 + 7)).take (41 + (sentS es).length - (34 + 7)) = oct (sentS es) := by
  rw [List.append_assoc, show (34 + 7 : Nat) = preL.length from rfl, List.drop_left, show 41 + (sentS es).length - preL.length = (oct (sentS es)).length by rw [oct_len]; show 41 + _ - 41 = _; omega, List.take_left]
end
section
open PySem PySem.W PyProof.Rows
set_option maxRecDepth 100000
set_option maxHeartbeats 4000000

theorem f283 (P : Params) : (K0 P).lookup 283 = some (fobj (fdAt (stmtAt 25) "_law_told" .none (.str "law_yf0032_01" 642) (.ref 282))) := by kernel_rfl
/-- the octets a piece is told in -/
noncomputable def insT (e : List Nat × List Nat) : List (AV × AV) := [(.str (e.1 ++ S ":"), .bytes (oct (e.1 ++ S ":"))), (.str e.2, .bytes (oct e.2))]
theorem told_ok {w : World} {H0 : Heap} (T : Tp w H0) {k : Nat} {σ : Store} {p d l : Nat} {es : List (List Nat × List Nat)} (H : Hd σ p d l) (e : σ l = .list (es.map hv)) (hl : es.length ≤ 400) (hg : ∀ x ∈ es, Sign x.1 ∧ Sign x.2) (hb : ∀ x ∈ es, x.1.length ≤ 100 ∧ x.2.length ≤ 100) :
    FnP w H0 (k+9) (.ref 283) [.loc p, .lst (es.map hv)] [] σ (.bool true) := by
  have sl := sent_len es hb
  have hs : ∀ x ∈ es, (∀ c ∈ x.1, c < 128) ∧ ∀ c ∈ x.2, c < 128 := fun x hx => ⟨fun c hc => by have := ((hg x hx).1.2 c hc).2.1; omega, fun c hc => by have := ((hg x hx).2.2 c hc).2.1; omega⟩
  have by1 := fn_bytesH T H (hbytes_ok (k := k) T H e hl hb hs)
  have hsum : ∀ l : List (List Nat × List Nat), (∀ x ∈ l, x.1.length ≤ 100 ∧ x.2.length ≤ 100) → ((l.map fun x => ((x.1 ++ S ": ") ++ x.2) ++ S "\r\n").map (·.length)).sum ≤ 204 * l.length := by
    intro l
    induction l with
    | nil => intro _; simp
    | cons x l ih =>
      intro h
      have h1 := h x List.mem_cons_self
      have h2 := ih fun y hy => h y (List.mem_cons_of_mem _ hy)
      simp only [List.map_cons, List.sum_cons, List.length_append, List.length_cons] at h2 ⊢
      rw [show (S ": ").length = 2 by kernel_rfl, show (S "\r\n").length = 2 by kernel_rfl]
      omega
  have j1 := fn_joinL (w := w) (H0 := H0) (k := k+8) (σ := σ) (l := es.map fun (x : List Nat × List Nat) => ((x.1 ++ S ": ") ++ x.2) ++ S "\r\n") (x := S "") (y := (es.map fun (x : List Nat × List Nat) => ((x.1 ++ S ": ") ++ x.2) ++ S "\r\n").flatten)
    (join_flat _) (by
      have h2 := hsum es hb
      rw [List.length_map, show (S "").length = 0 by kernel_rfl]; omega)
  rw [List.map_map] at j1
  have e1 : (es.map fun (x : List Nat × List Nat) => ((x.1 ++ S ": ") ++ x.2) ++ S "\r\n").flatten ++ S "\r\n" = sentS es := by
    unfold sentS; rw [List.flatMap_def]; rfl
  have la : (es.map fun (x : List Nat × List Nat) => ((x.1 ++ S ": ") ++ x.2) ++ S "\r\n").flatten.length + (S "\r\n").length ≤ 10000000 := by
    rw [← List.length_append, e1]; omega
  have en := fn_encode (w := w) (H0 := H0) (k := k+8) (σ := σ) (x := (es.map fun (x : List Nat × List Nat) => ((x.1 ++ S ": ") ++ x.2) ++ S "\r\n").flatten ++ S "\r\n") (by rw [e1]; exact sent_small es hs) (by rw [e1]; omega)
  have me := meth_encode (w := w) (H0 := H0) (k := k+8) (σ := σ) ((es.map fun (x : List Nat × List Nat) => ((x.1 ++ S ": ") ++ x.2) ++ S "\r\n").flatten ++ S "\r\n")
  obtain ⟨N, fl⟩ := flags_at hg (by omega)
  have hw := words_sent es hg [] (by simp) ((oct (sentS es)).length + 1) ((oct (sentS es)).length + 1)
  have hlow : 2 * es.length ≤ (sentS es).length := by
    unfold sentS
    rw [List.length_append]
    have : ∀ l : List (List Nat × List Nat), 2 * l.length ≤ (l.flatMap fun e => e.1 ++ [58, 32] ++ e.2 ++ [13, 10]).length := by
      intro l
      induction l with
      | nil => simp
      | cons x l ih => rw [List.flatMap_cons, List.length_append, List.length_cons]; simp only [List.length_append, List.length_cons, List.length_nil]; omega
    have := this es; omega
  have hw := hw (by rw [oct_len]; omega) (by rw [oct_len]; omega)
  rw [List.nil_append] at hw
  have pf := parse_ok (k := k+7) (σ := σ) T fl (sent_mid es) (by
      rw [List.any_eq_true]
      exact ⟨10, by unfold sentS oct; simp, by decide⟩) hw (by
      intro y hy
      obtain ⟨x, hx, hy⟩ := List.mem_flatMap.mp hy
      have := hb x hx
      simp only [List.mem_cons, List.not_mem_nil, or_false] at hy
      rcases hy with rfl | rfl
      · rw [oct_len, List.length_append]; simp; omega
      · rw [oct_len]; omega) (by
      have : ∀ l : List (List Nat × List Nat), (l.flatMap fun e => [oct (e.1 ++ [58]), oct e.2]).length = 2 * l.length := by
        intro l
        induction l with
        | nil => rfl
        | cons x l ih => rw [List.flatMap_cons, List.length_append, ih, List.length_cons]; simp; omega
      rw [this]; omega)
  have hws : (es.flatMap fun e => (insT e).map (·.2)) = (es.flatMap fun e => [oct (e.1 ++ [58]), oct e.2]).map AV.bytes := by
    rw [List.map_flatMap]; rfl
  have tu := fn_tupleOf (w := w) (H0 := H0) (k := k+8) (σ := σ) (Lst.lst (es.flatMap fun e => (insT e).map (·.2))) (by
      have : ∀ l : List (List Nat × List Nat), (l.flatMap fun e => (insT e).map (·.2)).length = 2 * l.length := by
        intro l
        induction l with
        | nil => rfl
        | cons x l ih => rw [List.flatMap_cons, List.length_append, ih, List.length_cons]; simp [insT]; omega
      rw [this]; omega)
  have la1 : (preL.length : Nat) + (oct (sentS es)).length ≤ 10000000 := by rw [oct_len]; show 41 + _ ≤ _; omega
  have la2 : (preL ++ oct (sentS es)).length + postL.length ≤ 10000000 := by rw [List.length_append, oct_len]; show 41 + _ + 8 ≤ _; omega
  refine FnE.pure (FnE.of0 T (xs := ["picture", "due"]) (f283 _) (by kernel_rfl) (by kernel_rfl) rfl ?_ fun L => ?_)
  · exact Binds.of2 fun _ _ => rfl
  · show XT _ _ _ _ _ _ [("picture", .loc p), ("due", .lst (es.map hv))] _ _
    apply XT.cons
    apply XT.letP
    · kernel_rfl
    · repeat is_list
    · kernel_rfl
    apply Kont.next
    apply XT.cons
    apply XT.if_ (c := false)
    · apply PB.eq
      · apply PB.cmp
        · repeat is_list
        · apply PV.meth0
          · exact T
          · apply PV.binop
            · apply PV.meth0
              · exact T
              · repeat is_list
              · exact meth_join _
              · exact KeepOk.builtin _
              · apply PVs.cons
                · apply PV.eq
                  · apply PV.new
                    apply PVn.comp0 (es := es) (f := hv) (fun _ => true) (fun x => AV.str (((x.1 ++ S ": ") ++ x.2) ++ S "\r\n"))
                    · apply ItE.lst
                      · repeat is_list
                      · rfl
                      · exact fun _ => rfl
                    · kernel_rfl
                    · kernel_rfl
                    · omega
                    · intro C x hx
                      obtain ⟨hb1, hb2⟩ := hb x hx
                      have l1 : x.1.length + (S ": ").length ≤ 10000000 := by rw [show (S ": ").length = 2 by kernel_rfl]; omega
                      have l2 : (x.1 ++ S ": ").length + x.2.length ≤ 10000000 := by rw [List.length_append, show (S ": ").length = 2 by kernel_rfl]; omega
                      have l3 : ((x.1 ++ S ": ") ++ x.2).length + (S "\r\n").length ≤ 10000000 := by rw [List.length_append, List.length_append, show (S ": ").length = 2 by kernel_rfl, show (S "\r\n").length = 2 by kernel_rfl]; omega
                      unfold hv
                      apply CompStep.mk
                      · repeat is_list
                      · repeat is_list
                      · repeat is_list
                      · intro _
                        repeat is_list
                  · rw [List.filter_eq_self.mpr fun _ _ => rfl]
                · repeat is_list
                · rfl
              · exact j1
              · kernel_rfl
              · kernel_rfl
              · kernel_rfl
              · kernel_rfl
            · repeat is_list
            · exact O2.addS _ _ la
          · exact me
          · exact KeepOk.builtin _
          · repeat is_list
          · exact en
          · kernel_rfl
          · kernel_rfl
          · kernel_rfl
          · kernel_rfl
        · exact O2.neY _ _
        · kernel_rfl
      · rw [e1]; simp
    · exact fun h => nomatch h
    intro _
    apply XT.nil
    apply Kont.next
    apply XT.cons
    apply XT.letP
    · kernel_rfl
    · apply PV.call0
      · exact T
      · repeat is_list
      · exact KeepOk.def (by kernel_rfl)
      · apply PVs.cons
        · apply PV.binop
          · apply PV.binop
            · repeat is_list
            · repeat is_list
            · exact O2.addY _ _ la1
          · repeat is_list
          · exact O2.addY _ _ la2
        · repeat is_list
        · rfl
      · exact pf
      · kernel_rfl
    · kernel_rfl
    apply Kont.next
    apply XT.cons
    apply XT.ret
    · apply PV.cmp
      · repeat is_list
      · apply PV.call0
        · exact T
        · repeat is_list
        · exact KeepOk.type _
        · apply PVs.cons
          · apply PV.new
            apply PVn.comp2 (es := es) (f := hv) insT
            · apply ItE.lst
              · repeat is_list
              · rfl
              · exact fun _ => rfl
            · kernel_rfl
            · kernel_rfl
            · rfl
            · exact fun _ _ => rfl
            · intro C x hx
              obtain ⟨hb1, hb2⟩ := hb x hx
              obtain ⟨hs1, hs2⟩ := hs x hx
              have l1 : x.1.length + (S ":").length ≤ 10000000 := by rw [show (S ":").length = 1 by kernel_rfl]; omega
              unfold hv
              apply OutStep.mk
              · repeat is_list
              · show PV _ _ _ _ _ _ _ (.lst [.str (x.1 ++ S ":"), .str x.2])
                repeat is_list
              · intro q hq
                have hq : q = (.str (x.1 ++ S ":"), .bytes (oct (x.1 ++ S ":"))) ∨ q = (.str x.2, .bytes (oct x.2)) := by simpa [insT] using hq
                rcases hq with rfl | rfl
                · have en := fn_encode (w := w) (H0 := H0) (k := k+8) (σ := σ) (x := x.1 ++ S ":") (by
                    intro c hc
                    rcases List.mem_append.mp hc with h | h
                    · exact hs1 c h
                    · have : c = 58 := by simpa using (show c ∈ [58] from h)
                      omega) (by rw [List.length_append, show (S ":").length = 1 by kernel_rfl]; omega)
                  have me := meth_encode (w := w) (H0 := H0) (k := k+8) (σ := σ) (x.1 ++ S ":")
                  apply InStep.mk
                  · repeat is_list
                  · exact (show Sup [("name", AV.str x.1), ("text", AV.str x.2)] _ from Sup.cons (by kernel_rfl) (Sup.cons (by kernel_rfl) Sup.nil))
                  · repeat is_list
                · have en := fn_encode (w := w) (H0 := H0) (k := k+8) (σ := σ) hs2 (by omega)
                  have me := meth_encode (w := w) (H0 := H0) (k := k+8) (σ := σ) x.2
                  apply InStep.mk
                  · repeat is_list
                  · exact (show Sup [("name", AV.str x.1), ("text", AV.str x.2)] _ from Sup.cons (by kernel_rfl) (Sup.cons (by kernel_rfl) Sup.nil))
                  · repeat is_list
            · omega
            · intro x hx; simp [insT]
          · repeat is_list
          · rfl
        · exact tu
        · kernel_rfl
      · rw [hws]
        apply O2.eqSameT
        intro x hx
        obtain ⟨y, _, rfl⟩ := List.mem_map.mp hx
        have := EqR.bytes 5 y y
        rwa [beq_self_eq_true] at this
      · kernel_rfl
    · apply Kont.ret
      exact Ends.ret rfl
end
section
open PySem PySem.W PyProof.Rows
set_option maxRecDepth 100000
set_option maxHeartbeats 4000000
section

theorem f76 (P : Params) : (K0 P).lookup 76 = some (fobj (fdAt (methAt 0) "Headers.__init__" (.ref 69) (.str "cpy313.wsgiref.headers" 289) (.ref 75))) := by kernel_rfl
/-- `__init__` from its second statement on -/
theorem init_rest {w : World} {H0 : Heap} (T : Tp w H0) {k : Nat} {W : Nat → Prop} {σ : Store} {p d l : Nat} {es : List (List Nat × List Nat)} (L : Addr) (hp : σ p = .hdr hdrC d) (hd : σ d = .dict []) (e : σ l = .list (es.map hv)) (hne : p ≠ d) (hld : l ≠ d) (hlen : es.length ≤ 400)
    (hg : ∀ x ∈ es, Plain x.1 ∧ Plain x.2) (hb : ∀ x ∈ es, x.1.length ≤ 1000 ∧ x.2.length ≤ 1000) (hw : W d) (hwl : ¬ W l) :
    XT w H0 (k+1) W (callEnvC (fdAt (methAt 0) "Headers.__init__" (.ref 69) (.str "cpy313.wsgiref.headers" 289) (.ref 75)) L 76) (execs ((bodyOf (methAt 0)).drop 1) (callEnvC (fdAt (methAt 0) "Headers.__init__" (.ref 69) (.str "cpy313.wsgiref.headers" 289) (.ref 75)) L 76))
      [("self", .loc p), ("headers", .loc l)] σ (Ends .none (upd σ d (.idict l))) := by
  have t1 := fn_typeP (w := w) (H0 := H0) (k := k+1) e
  have H : Hd (upd σ d (.idict l)) p d l := ⟨by rw [upd_ne hne]; exact hp, upd_self .., by rw [upd_ne hld, e]; intro q; cases q⟩
  have el : upd σ d (.idict l) l = .list (es.map hv) := by rw [upd_ne hld]; exact e
  have m1 := methH (k := k+1) T H (name := "_convert_string_type") (f := 83) (fun _ => by kernel_rfl) (fun _ => by kernel_rfl) (by kernel_rfl)
  have hls : ∀ i, (es.map hv)[i]? = es[i]?.map hv := fun i => List.getElem?_map
  apply XT.cons
  apply XT.if_ (c := false)
  · apply PB.eq
    · repeat is_list
    · rfl
  · exact fun h => nomatch h
  intro _
  repeat is_list
  apply XT.setH (W := W) (σ' := upd σ d (.idict l)) T
  · repeat is_list
  · repeat is_list
  · exact hp
  · exact hd
  · exact hw
  · rfl
  · kernel_rfl
  apply Kont.next
  apply XT.cons
  apply XT.if_ (c := true)
  · apply PB.val
    · exact PV.constB
    · exact O1B.bool _
    · rfl
  · intro _
    apply XT.cons
    apply XT.forS [("self", .loc p), ("headers", .loc l)] (fun i σ' => σ' = upd σ d (.idict l)) (ls := es.map hv)
    · apply ItE.loc
      · repeat is_list
      · exact el
      · rfl
      · exact fun _ => rfl
    · rintro n rfl h; exact hwl h
    · repeat is_list
    · rfl
    · rintro i v σ' hi rfl
      rw [hls] at hi
      obtain ⟨x, hx, rfl⟩ := Option.map_eq_some_iff.mp hi
      have hm : x ∈ es := List.mem_of_getElem? hx
      have c1 := conv_ok (k := k) (σ := upd σ d (.idict l)) (self := .loc p) (b := true) T (hg x hm).1 (by have := hb x hm; omega)
      have c2 := conv_ok (k := k) (σ := upd σ d (.idict l)) (self := .loc p) (b := false) T (hg x hm).2 (by have := hb x hm; omega)
      apply Exists.intro
      apply And.intro
      · unfold hv
        repeat is_list
      · apply XT.cons
        apply XT.expr
        · apply PV.eff
          repeat is_list
        repeat is_list
        apply PV.eff
        repeat is_list
    · rintro σ' rfl
      apply XT.nil
      apply Kont.next
      apply XT.nil
      exact Ends.next
  · exact fun h => nomatch h
theorem XT.wide {w : World} {H0 : Heap} {k : Nat} {W W' : Nat → Prop} {env : Env} {t : Sem Flow} {μ : Vars} {σ : Store} {P : Fl → Vars → Store → Prop} (x : XT w H0 k W' env t μ σ P) (h : ∀ n, W' n → W n) : XT w H0 k W env t μ σ P :=
  ⟨fun A rm ρ s R F Q E hq => x.out A rm ρ s R F Q E fun f fl ρ' h' tk μ' σ' p fr ev => hq f fl ρ' h' tk μ' σ' p fr (ev.wide h)⟩
/-- Headers() -/
theorem new_ok {w : World} {H0 : Heap} (T : Tp w H0) {k : Nat} {W : Nat → Prop} {σ σ' : Store} (p d l : Nat) (hp : σ p = .free) (hd : σ d = .free) (hl : σ l = .free) (h1 : p ≠ d) (h2 : l ≠ d) (h3 : l ≠ p) (wp : W p) (wd : W d) (wl : W l)
    (hσ : upd (upd (upd (upd σ d (.dict [])) p (.hdr hdrC d)) l (.list [])) d (.idict l) = σ') : FnE w H0 (k+3) W (.ref 182) [] [] σ (.loc p) σ' := by
  subst hσ
  refine FnE.newH (k := k+1) T p d (f76 _) rfl rfl (by kernel_rfl) (xs := ["self", "headers"]) (by kernel_rfl) (BindX.default (args := [.loc p]) T rfl (o := ⟨.type "tuple", none, .seq #[.none] 0, #[]⟩) (by kernel_rfl) rfl ?_) ⟨rfl, rfl, rfl⟩ hp hd h1 wp wd fun L => ?_
  · intro vs hv
    match vs, hv with
    | [a], _ => exact ⟨_, rfl, rfl⟩
  · show XT _ _ _ _ _ _ [("self", .loc p), ("headers", .none)] _ _
    apply XT.cons
    apply XT.let_ (σ' := upd (upd (upd σ d (.dict [])) p (.hdr hdrC d)) l (.list [])) (v := .loc l)
    · kernel_rfl
    · apply XV.ifexp (c := false)
      · repeat is_list
      · exact fun h => nomatch h
      · intro _
        apply XV.new (n := l) (l := [])
        · apply PVn.list
          · repeat is_list
          · decide
        · rw [upd_ne h3, upd_ne h2]; exact hl
        · exact wl
        · rfl
    · kernel_rfl
    apply Kont.next
    apply XT.wide (W' := fun n => n = d)
    · exact init_rest (es := []) T L (by rw [upd_ne (Ne.symm h3), upd_self]) (by rw [upd_ne (Ne.symm h2), upd_ne (Ne.symm h1), upd_self]) (upd_self ..) h1 h2 (by decide) (fun _ h => absurd h List.not_mem_nil) (fun _ h => absurd h List.not_mem_nil) rfl h2
    · rintro n rfl; exact wd
/-- Headers(a list of pairs) -/
theorem new_okL {w : World} {H0 : Heap} (T : Tp w H0) {k : Nat} {W : Nat → Prop} {σ σ' : Store} (p d l : Nat) {es : List (List Nat × List Nat)} (e : σ l = .list (es.map hv)) (hp : σ p = .free) (hd : σ d = .free) (h1 : p ≠ d) (wp : W p) (wd : W d) (hlen : es.length ≤ 400)
    (hg : ∀ x ∈ es, Plain x.1 ∧ Plain x.2) (hb : ∀ x ∈ es, x.1.length ≤ 1000 ∧ x.2.length ≤ 1000)
    (hσ : upd (upd (upd σ d (.dict [])) p (.hdr hdrC d)) d (.idict l) = σ') : FnE w H0 (k+3) W (.ref 182) [.loc l] [] σ (.loc p) σ' := by
  subst hσ
  have h2 : l ≠ d := fun q => by rw [q, hd] at e; cases e
  have h3 : l ≠ p := fun q => by rw [q, hp] at e; cases e
  refine FnE.newH (k := k+1) T p d (f76 _) rfl rfl (by kernel_rfl) (xs := ["self", "headers"]) (by kernel_rfl) (BindX.full (args := [.loc p, .loc l]) T rfl (o := ⟨.type "tuple", none, .seq #[.none] 0, #[]⟩) (by kernel_rfl) rfl ?_) ⟨rfl, rfl, rfl⟩ hp hd h1 wp wd fun L => ?_
  · intro vs hv
    match vs, hv with
    | [a, b], _ => exact ⟨_, rfl, rfl⟩
  · show XT _ _ _ _ _ _ [("self", .loc p), ("headers", .loc l)] _ _
    apply XT.cons
    apply XT.letP (v := .loc l)
    · kernel_rfl
    · apply PV.ifexp (c := true)
      · repeat is_list
      · intro _; repeat is_list
      · exact fun h => nomatch h
    · kernel_rfl
    apply Kont.next
    apply XT.weaken (μ' := [("self", .loc p), ("headers", .loc l)])
    · apply XT.wide (W' := fun n => n = d)
      · exact init_rest (es := es) T L (by rw [upd_self]) (by rw [upd_ne (Ne.symm h1), upd_self]) (by rw [upd_ne h3, upd_ne h2]; exact e) h1 h2 hlen hg hb rfl h2
      · rintro n rfl; exact wd
    · exact fun x v q => q
end
end
section
open PySem PySem.W PyProof.Rows
set_option maxRecDepth 100000
set_option maxHeartbeats 4000000
section

noncomputable abbrev lawFd : FuncData := fdAt (stmtAt 26) "law" .none (.str "law_yf0032_01" 642) (.ref 287)
noncomputable abbrev lenv (L : Addr) : Env := callEnvC lawFd L 288
theorem f288 (P : Params) : (K0 P).lookup 288 = some (fobj lawFd) := by kernel_rfl
/-- every place may be written by the law -/
noncomputable def Any (n : Nat) : Prop := True
noncomputable def zl (l : List Int) : List AV := l.map .int
noncomputable def free0 : Store := fun _ => .free
theorem zl_at {l : List Int} {i : Nat} (h : i < l.length) : At (zl l) (i : Int) (.int (l.getD i 0)) := At.nat (by
  unfold zl; rw [List.getElem?_map, List.getElem?_eq_getElem h, List.getD, List.getElem?_eq_getElem h]; rfl)
theorem upto_at {n i : Nat} {v : AV} (h : (upto n)[i]? = some v) : v = .int (i : Int) ∧ i < n := by
  unfold upto at h
  rw [List.getElem?_map] at h
  obtain ⟨x, hx, rfl⟩ := Option.map_eq_some_iff.mp h
  have hl := (List.getElem?_eq_some_iff.mp hx).1
  rw [List.length_range] at hl
  rw [List.getElem?_range hl] at hx
  cases hx
  exact ⟨rfl, hl⟩
theorem law_cells {w : World} {H0 : Heap} (T : Tp w H0) {k : Nat} {L : Addr} {sc : List Int} {P : Fl → Vars → Store → Prop} (hl : sc.length ≤ 63)
    (next : XT w H0 k Any (lenv L) (execs ((bodyOf (stmtAt 26)).drop 2) (lenv L)) [("script", .lst (zl sc)), ("cells", .loc 16)] (upd free0 16 (.list (zl (cellsAt sc sc.length)))) P) :
    XT w H0 k Any (lenv L) (execs (bodyOf (stmtAt 26)) (lenv L)) [("script", .lst (zl sc))] free0 P := by
  have ll : (zl sc).length = sc.length := List.length_map ..
  have l1 := fn_lenL (w := w) (H0 := H0) (k := k) (σ := upd free0 16 (.list (zl cell0))) (l := zl sc) (by rw [ll]; omega)
  rw [ll] at l1
  apply XT.cons
  apply XT.let_ (σ' := upd free0 16 (.list (zl cell0))) (v := .loc 16)
  · kernel_rfl
  · apply XV.new (n := 16) (l := [.int 11, .int 6, .int 1, .int 96, .int 224, .int 22, .int 14, .int 244, .int 204, .int 75, .int 16, .int 367, .int 212])
    · apply PVn.list
      · repeat is_list
      · decide
    · rfl
    · trivial
    · rfl
  · kernel_rfl
  apply Kont.next
  apply XT.cons
  apply XT.forS [("script", .lst (zl sc)), ("cells", .loc 16)] (fun i σ' => σ' = upd free0 16 (.list (zl (cellsAt sc i)))) (ls := upto sc.length)
  · apply ItE.range (px := ⟨0, 0, 0, 0⟩)
    · repeat is_list
    · repeat is_list
    · omega
    · rfl
    · exact fun _ => rfl
    · exact T
  · exact fun _ h => h.elim
  · repeat is_list
  · rfl
  · rintro i v σ' hi rfl
    obtain ⟨hv, hlt⟩ := upto_at hi
    subst hv
    have e16 : upd free0 16 (.list (zl (cellsAt sc i))) 16 = .list (zl (cellsAt sc i)) := upd_self ..
    have n16 : (zl (cellsAt sc i)).length = 13 := by unfold zl; rw [List.length_map]; exact cellsAt_len ..
    have a1 : At (zl (cellsAt sc i)) ((i : Int) % 13) (.int ((cellsAt sc i).getD (i % 13) 0)) := by
      rw [show (i : Int) % 13 = ((i % 13 : Nat) : Int) by omega]
      exact zl_at (by rw [cellsAt_len]; omega)
    have a2 : At (zl sc) (i : Int) (.int (sc.getD i 0)) := zl_at hlt
    have st : SE w H0 k Any (upd free0 16 (.list (zl (cellsAt sc i)))) (.loc 16) (.int ((i : Int) % 13)) (.int ((cellsAt sc i).getD (i % 13) 0 + sc.getD i 0)) (upd free0 16 (.list (zl (cellsAt sc (i + 1))))) :=
      SE.list e16 (by omega) (by rw [n16]; omega) (by rw [n16]; decide) trivial (by
        rw [upd_upd, cellsAt, show ((i : Int) % 13).toNat = i % 13 by omega]
        unfold zl
        rw [List.map_set])
    apply Exists.intro
    apply And.intro
    · repeat is_list
    · apply XT.cons
      apply XT.augsub
      · repeat is_list
      · repeat is_list
      · exact O2.itemP e16 a1 (by rw [n16]; decide)
      · apply PV.sub
        · repeat is_list
        · repeat is_list
        · exact O2.itemL a2 (by rw [ll]; omega)
        · repeat is_list
        · exact fun _ _ => ⟨_, rfl⟩
      · exact O2.iadd _ _
      · exact st
      · exact fun _ _ _ => rfl
      apply Kont.next
      apply XT.nil
      exact TurnS.next (by repeat is_list) rfl
  · rintro σ' rfl
    rw [show (upto sc.length).length = sc.length by unfold upto; rw [List.length_map, List.length_range]]
    exact next
end
end
section
open PySem PySem.W PyProof.Rows
set_option maxRecDepth 100000
set_option maxHeartbeats 4000000
section

noncomputable def gam (c : List Int) : Store := upd (upd free0 16 (.list (zl c))) 14 (.list (moneyL (st0 c)))
noncomputable def houses0 (c : List Int) : List (List Nat × List Nat) := (List.range 3).map fun k => (nm k 3 0, ln (hand0 c k) (bank0 c k))
theorem PV.three {w : World} {H0 : Heap} {k : Nat} {env : Env} {μ : Vars} {σ : Store} {j : Nat} {pos : Pos} : PV w H0 k (eval (.Constant (.int 3) j pos) env) env μ σ (.int ((3 : Nat) : Int)) := PV.constI
theorem law_money {w : World} {H0 : Heap} (T : Tp w H0) {k : Nat} {L : Addr} {s : AV} {c : List Int} {P : Fl → Vars → Store → Prop} (hc : c.length = 13)
    (next : XT w H0 k Any (lenv L) (execs ((bodyOf (stmtAt 26)).drop 4) (lenv L)) [("script", s), ("cells", .loc 16), ("money", .loc 14), ("given", .loc 3)] (upd (gam c) 3 (.list ((houses0 c).map hv))) P) :
    XT w H0 k Any (lenv L) (execs ((bodyOf (stmtAt 26)).drop 2) (lenv L)) [("script", s), ("cells", .loc 16)] (upd free0 16 (.list (zl c))) P := by
  have e16 : upd free0 16 (.list (zl c)) 16 = .list (zl c) := upd_self ..
  have n16 : (zl c).length ≤ 1000000 := by unfold zl; rw [List.length_map, hc]; decide
  have e14 : gam c 14 = .list (moneyL (st0 c)) := upd_self ..
  have n14 : (moneyL (st0 c)).length ≤ 1000000 := by show 3 ≤ 1000000; decide
  apply XT.cons
  apply XT.let_ (σ' := gam c) (v := .loc 14)
  · kernel_rfl
  · apply XV.new (n := 14)
    · apply PVn.comp1 (es := List.range 3) (f := fun (i : Nat) => AV.int (i : Int)) (x := "cells") (c := L + 1) (fun _ => true) (fun i => .lst [.int (c.getD i 0 % 4), .int (c.getD i 0 / 4 % 3)])
      · show ItE _ _ _ _ _ _ _ (upto 3) _ _
        apply ItE.range (px := ⟨0, 0, 0, 0⟩)
        · repeat is_list
        · exact PVs.cons PV.three PVs.nil rfl
        · decide
        · rfl
        · exact fun _ => rfl
        · exact T
      · kernel_rfl
      · kernel_rfl
      · kernel_rfl
      · fresh_at
      · exact fun _ => by kernel_rfl
      · kernel_rfl
      · decide
      · intro C x hx
        have hx := List.mem_range.mp hx
        have ac : At (zl c) (x : Int) (.int (c.getD x 0)) := zl_at (by omega)
        repeat is_list
    · rfl
    · trivial
    · show upd _ 14 (.list [_, _, _]) = _
      unfold gam moneyL st0
      simp only [List.map_cons, List.map_nil, hand0_eq, bank0_eq]
  · kernel_rfl
  apply Kont.next
  apply XT.cons
  apply XT.letComp1 (es := List.range 3) (f := fun (i : Nat) => AV.int (i : Int)) (y := "money") (c := L + 2) 3 (fun _ => true) (fun i => hv (nm i 3 0, ln (hand0 c i) (bank0 c i)))
  · kernel_rfl
  · kernel_rfl
  · show ItE _ _ _ _ _ _ _ (upto 3) _ _
    apply ItE.range (px := ⟨0, 0, 0, 0⟩)
    · repeat is_list
    · exact PVs.cons PV.three PVs.nil rfl
    · decide
    · rfl
    · exact fun _ => rfl
    · exact T
  · kernel_rfl
  · kernel_rfl
  · kernel_rfl
  · fresh_at
  · exact fun _ => by kernel_rfl
  · kernel_rfl
  · decide
  · intro C x hx
    have hx := List.mem_range.mp hx
    have ac : At (moneyL (st0 c)) (x : Int) (.lst [.int ((hand0 c x : Nat) : Int), .int ((bank0 c x : Nat) : Int)]) := money_at (st0 c) hx
    have hb := hand0_le c x
    have o1 : O2 w H0 k (binaryOp .Mult) (gam c) (.str (S " ")) (.int ((hand0 c x : Nat) : Int)) (.str (List.replicate (hand0 c x) 32)) := O2.blanks _ (by omega)
    have o2 : O2 w H0 k (binaryOp .Mult) (gam c) (.str (S " ")) (.int ((bank0 c x : Nat) : Int)) (.str (List.replicate (bank0 c x) 32)) := O2.blanks _ (by omega)
    have o3 : O2 w H0 k getItem (gam c) (.str (S "abc")) (.int (x : Int)) (.str (nm x 3 0)) := by
      have : ∀ x < 3, [(S "abc").getD ((x : Nat) : Int).toNat 0] = nm x 3 0 := by decide +kernel
      rw [← this x hx]
      exact O2.itemS (by omega) (by show (x : Int) < 3; omega) (by decide)
    have o4 : O2 w H0 k (binaryOp .Add) (gam c) (.str (List.replicate (hand0 c x) 32)) (.str (S "x")) (.str (List.replicate (hand0 c x) 32 ++ S "x")) := O2.addS _ _ (by rw [List.length_replicate]; show _ + 1 ≤ _; omega)
    have o5 : O2 w H0 k (binaryOp .Add) (gam c) (.str (List.replicate (hand0 c x) 32 ++ S "x")) (.str (List.replicate (bank0 c x) 32)) (.str (ln (hand0 c x) (bank0 c x))) := by
      have := O2.addS (w := w) (H0 := H0) (k := k) (σ := gam c) (List.replicate (hand0 c x) 32 ++ S "x") (List.replicate (bank0 c x) 32) (by rw [List.length_append, List.length_replicate, List.length_replicate]; show _ + 1 + _ ≤ _; omega)
      rw [show (List.replicate (hand0 c x) 32 ++ S "x") ++ List.replicate (bank0 c x) 32 = ln (hand0 c x) (bank0 c x) by unfold ln; rw [List.append_assoc]; rfl] at this
      exact this
    unfold hv
    apply CompStep.mk
    · repeat is_list
    · repeat is_list
    · repeat is_list
    · intro _
      apply PV.tuple
      · apply PVs.cons
        · apply PV.sub
          · repeat is_list
          · repeat is_list
          · exact o3
          · repeat is_list
          · exact fun _ _ => ⟨_, rfl⟩
        · apply PVs.cons
          · apply PV.binop
            · apply PV.binop
              · apply PV.binop
                · repeat is_list
                · repeat is_list
                · exact o1
              · repeat is_list
              · exact o4
            · apply PV.binop
              · repeat is_list
              · repeat is_list
              · exact o2
            · exact o5
          · repeat is_list
          · rfl
        · rfl
      · repeat is_list
  · rfl
  · trivial
  · rfl
  exact Kont.next (XT.weaken next (Sup.weaken (by repeat is_list)))
end
end
section
open PySem PySem.W PyProof.Rows
set_option maxRecDepth 100000
set_option maxHeartbeats 4000000
section

noncomputable abbrev new0 (p d l : Nat) (σ : Store) : Store := upd (upd (upd (upd σ d (.dict [])) p (.hdr hdrC d)) l (.list [])) d (.idict l)
noncomputable def w0 (c : List Int) : Store := upd (upd (gam c) 3 (.list ((houses0 c).map hv))) 0 (.dict [])
noncomputable def w1 (c : List Int) : Store := upd (upd (upd (w0 c) 2 (.dict [])) 1 (.hdr hdrC 2)) 2 (.idict 3)
noncomputable def w2 (c : List Int) : Store := new0 4 5 6 (w1 c)
noncomputable def w3 (c : List Int) : Store := new0 7 8 9 (w2 c)
noncomputable def w4 (c : List Int) : Store := upd (w3 c) 10 (.list [])
noncomputable def w5 (c : List Int) : Store := upd (w4 c) 11 (.list [.bool false, .bool false, .bool false])
noncomputable def w6 (c : List Int) : Store := upd (w5 c) 12 (.list [])
noncomputable def w7 (c : List Int) : Store := upd (w6 c) 13 (.list [])
noncomputable def om0 (c : List Int) : Om := om (start (hand0 c) (bank0 c))
theorem w7_enc (c : List Int) : upd (w7 c) 0 (.dict (wdict (om0 c))) = enc (gam c) (om0 c) := by
  funext n
  match n with
  | 0 => rfl
  | 1 => rfl
  | 2 => rfl
  | 3 => rfl
  | 4 => rfl
  | 5 => rfl
  | 6 => rfl
  | 7 => rfl
  | 8 => rfl
  | 9 => rfl
  | 10 => rfl
  | 11 => rfl
  | 12 => rfl
  | 13 => rfl
  | n + 14 =>
    show upd (w7 c) 0 _ (n + 14) = gam c (n + 14)
    unfold w7 w6 w5 w4 w3 w2 w1 w0 new0
    repeat rw [upd_ne (by omega)]
theorem law_world {w : World} {H0 : Heap} (T : Tp w H0) {k : Nat} {L : Addr} {s : AV} {c : List Int} {P : Fl → Vars → Store → Prop} (hc : c.length = 13)
    (next : XT w H0 (k+3) Any (lenv L) (execs ((bodyOf (stmtAt 26)).drop 5) (lenv L)) [("cells", .loc 16), ("money", .loc 14), ("given", .loc 3), ("world", .loc 0)] (enc (gam c) (om (start (hand0 c) (bank0 c)))) P) :
    XT w H0 (k+3) Any (lenv L) (execs ((bodyOf (stmtAt 26)).drop 4) (lenv L)) [("script", s), ("cells", .loc 16), ("money", .loc 14), ("given", .loc 3)] (upd (gam c) 3 (.list ((houses0 c).map hv))) P := by
  have hl : ∀ k < 3, Plain (nm k 3 0) ∧ (nm k 3 0).length ≤ 1000 := fun k hk => ⟨nm_plain hk (by decide) (by decide), by have := nm_len k 3 0; omega⟩
  have n1 : FnE w H0 (k+3) Any (.ref 182) [.loc 3] [] (w0 c) (.loc 1) (w1 c) := new_okL T 1 2 3 (es := houses0 c) rfl rfl rfl (by decide) trivial trivial (by unfold houses0; rw [List.length_map]; decide) (by
    intro x hx
    obtain ⟨k, hk, rfl⟩ := List.mem_map.mp hx
    exact ⟨(hl k (List.mem_range.mp hk)).1, ln_plain _ _⟩) (by
    intro x hx
    obtain ⟨k, hk, rfl⟩ := List.mem_map.mp hx
    refine ⟨(hl k (List.mem_range.mp hk)).2, ?_⟩
    have := hand0_le c k
    rw [ln_len]; omega) rfl
  have n2 : FnE w H0 (k+3) Any (.ref 182) [] [] (w1 c) (.loc 4) (w2 c) := new_ok T 4 5 6 rfl rfl rfl (by decide) (by decide) (by decide) trivial trivial trivial rfl
  have n3 : FnE w H0 (k+3) Any (.ref 182) [] [] (w2 c) (.loc 7) (w3 c) := new_ok T 7 8 9 rfl rfl rfl (by decide) (by decide) (by decide) trivial trivial trivial rfl
  apply XT.cons
  apply XT.let_ (σ' := enc (gam c) (om0 c)) (v := .loc 0)
  · kernel_rfl
  · apply XV.dict 0 (es := wdict (om0 c)) (σ₂ := w7 c)
    · rfl
    · trivial
    · show XPs _ _ _ _ _ _ _ (w0 c) [(_, _), (_, _), (_, _), (_, _), (_, _), (_, _), (_, _), (_, _), (_, _)] _
      apply XPs.cons (σ₁ := w1 c)
      · apply XV.call0
        · exact T
        · repeat is_list
        · exact KeepOk.def (by kernel_rfl)
        · repeat is_list
        · exact n1
        · kernel_rfl
      apply XPs.cons (σ₁ := w2 c)
      · apply XV.call0
        · exact T
        · repeat is_list
        · exact KeepOk.def (by kernel_rfl)
        · repeat is_list
        · exact n2
        · kernel_rfl
      apply XPs.cons (σ₁ := w3 c)
      · apply XV.call0
        · exact T
        · repeat is_list
        · exact KeepOk.def (by kernel_rfl)
        · repeat is_list
        · exact n3
        · kernel_rfl
      apply XPs.cons (σ₁ := w3 c)
      · exact PV.constB.eff
      apply XPs.cons (σ₁ := w4 c)
      · apply XV.new (n := 10) (l := [])
        · exact PVn.list PVs.nil (by simp)
        · rfl
        · trivial
        · rfl
      apply XPs.cons (σ₁ := w4 c)
      · apply PV.eff
        show PV _ _ _ _ _ _ _ (.lst [.tup [.int 0, .int 0], .tup [.int 1, .int 0], .tup [.int 2, .int 0]])
        repeat is_list
      apply XPs.cons (σ₁ := w5 c)
      · apply XV.new (n := 11) (l := [.bool false, .bool false, .bool false])
        · apply PVn.mul (a := [.bool false]) (n := 3)
          · repeat is_list
          · exact PV.three
          · decide
          · decide
        · rfl
        · trivial
        · rfl
      apply XPs.cons (σ₁ := w6 c)
      · apply XV.new (n := 12) (l := [])
        · exact PVn.list PVs.nil (by simp)
        · rfl
        · trivial
        · rfl
      apply XPs.cons (σ₁ := w7 c)
      · apply XV.new (n := 13) (l := [])
        · exact PVn.list PVs.nil (by simp)
        · rfl
        · trivial
        · rfl
      exact XPs.nil
    · rfl
    · exact w7_enc c
    · show List.Nodup (α := Str) ["houses", "post", "picture", "amiss", "laid", "order", "seen", "stars", "deeds"]
      decide
    · rfl
    · rfl
    · intro h; cases h
    · decide
    · show 9 ≤ 15; decide
  · kernel_rfl
  exact Kont.next (XT.weaken next (Sup.weaken (by repeat is_list)))
end
end
section
open PySem PySem.W PyProof.Rows
set_option maxRecDepth 100000
set_option maxHeartbeats 4000000
section

theorem EqI.bools (a b c x y z : Bool) : EqI [.bool a, .bool b, .bool c] [.bool x, .bool y, .bool z] [a == x, b == y, c == z] := ⟨rfl, rfl, fun i u v e e' => by
  match i with
  | 0 => simp at e e'; subst e e'; exact .bool _ _ _
  | 1 => simp at e e'; subst e e'; exact .bool _ _ _
  | 2 => simp at e e'; subst e e'; exact .bool _ _ _
  | i + 3 => simp at e⟩
theorem gam_avoids (c : List Int) (n m : Nat) : (gam c m).avoids n = true := by
  unfold gam
  by_cases h : m = 14
  · subst h; rw [upd_self]
    show avoidsL n (moneyL _) = true
    unfold moneyL
    simp [avoidsL, AV.avoids]
  · rw [upd_ne h]
    by_cases h' : m = 16
    · subst h'; rw [upd_self]
      show avoidsL n (zl c) = true
      refine avoidsL_all fun v hv => ?_
      obtain ⟨x, _, rfl⟩ := List.mem_map.mp hv
      simp [AV.avoids]
    · rw [upd_ne h']; rfl
theorem gam_beside (c : List Int) : Beside (gam c) := ⟨rfl, rfl, fun n m _ => gam_avoids c n m⟩
theorem seen_is (s : Gs) {i : Nat} (h : i < 3) : At ([s.seen 0, s.seen 1, s.seen 2].map .bool) (i : Int) (.bool (s.seen i)) := At.nat (by
  match i, h with
  | 0, _ => rfl
  | 1, _ => rfl
  | 2, _ => rfl)
theorem law_acts {w : World} {H0 : Heap} (T : Tp w H0) {k : Nat} {L : Addr} {c : List Int} {s0 : Gs} {P : Fl → Vars → Store → Prop} (hc : c.length = 13) (hF : ∀ t, t ≤ 10 → Fine 250 (acts s0 (c.drop 3) t))
    (next : XT w H0 (k+6) Any (lenv L) (execs ((bodyOf (stmtAt 26)).drop 7) (lenv L)) [("money", .loc 14), ("given", .loc 3), ("world", .loc 0)] (enc (gam c) (om (wake (acts s0 (c.drop 3) 10)))) P) :
    XT w H0 (k+6) Any (lenv L) (execs ((bodyOf (stmtAt 26)).drop 5) (lenv L)) [("cells", .loc 16), ("money", .loc 14), ("given", .loc 3), ("world", .loc 0)] (enc (gam c) (om s0)) P := by
  have n16 : (zl c).length = 13 := by unfold zl; rw [List.length_map, hc]
  have hd : (zl c).drop 3 = zl (c.drop 3) := by unfold zl; rw [List.map_drop]
  have nd : (c.drop 3).length = 10 := by rw [List.length_drop, hc]
  have B := gam_beside c
  apply XT.cons
  apply XT.forS [("cells", .loc 16), ("money", .loc 14), ("given", .loc 3), ("world", .loc 0)] (fun i σ' => σ' = enc (gam c) (om (acts s0 (c.drop 3) i))) (ls := zl (c.drop 3))
  · apply ItE.lst
    · apply PV.new
      rw [← hd]
      apply PVn.fromL (v := .loc 16) (a := 3)
      · repeat is_list
      · exact Lst.loc rfl
      · exact PV.three
      · rw [n16]; decide
      · exact fun _ _ => rfl
    · rfl
    · exact fun _ => rfl
  · exact fun _ h => h.elim
  · repeat is_list
  · rfl
  · rintro i v σ' hi rfl
    unfold zl at hi
    rw [List.getElem?_map] at hi
    obtain ⟨n, hn, rfl⟩ := Option.map_eq_some_iff.mp hi
    have hlt := (List.getElem?_eq_some_iff.mp hn).1
    have f := hF i (by omega)
    have en := acts_next (s := s0) hn
    generalize acts s0 (c.drop 3) i = s at *
    obtain ⟨e1, e2, e3, e4⟩ := act_eq n
    obtain ⟨l1, l2, l3, l4⟩ := act_lt n
    have py : FnE w H0 (k+6) Any (.ref 259) [.loc 0, .int ((actI n : Nat) : Int), .int ((actJ n : Nat) : Int), .int (n / 24 % 8), .int ((actG n : Nat) : Int)] [] (enc (gam c) (om s)) .none (enc (gam c) (om (s.pay (actI n) (actJ n) (actM n) (actG n)))) := by
      rw [e4]; exact pay_ok (k := k+1) T B f (by decide) l1 l3 l4 l2 trivial trivial trivial trivial
    have ha := hand_ok (k := k) (W := Any) (β := gam c) T B f (by decide) l1 l3 l2 trivial trivial trivial trivial trivial trivial trivial trivial
    have pc := picture_ok (k := k+1) (W := Any) (β := gam c) T B f (by decide) l1 l2 trivial trivial trivial trivial
    have sa := seen_is s l1
    apply Exists.intro
    apply And.intro
    · repeat is_list
    · apply XT.cons
      apply XT.assignW (v := [.int ((actI n : Nat) : Int), .int ((actG n : Nat) : Int)]) (names := ["i", "great"])
      · rw [← e1, ← e2]
        repeat is_list
      · apply Binding.cons
        · kernel_rfl
        apply Binding.cons
        · kernel_rfl
        exact Binding.nil
      · kernel_rfl
      · kernel_rfl
      · rfl
      apply Kont.next
      apply XT.cons
      apply XT.letP (v := .int ((actJ n : Nat) : Int))
      · kernel_rfl
      · rw [← e3]
        repeat is_list
      · kernel_rfl
      apply Kont.next
      apply XT.cons
      apply XT.if_ (c := decide (n / 6 % 4 < 2))
      · repeat is_list
      · intro h
        have h : n / 6 % 4 < 2 := by simpa using h
        have ea : act s n = s.pay (actI n) (actJ n) (actM n) (actG n) := by unfold act; rw [if_pos h]
        rw [ea] at en
        apply XT.cons
        apply XT.expr
        · apply XV.call0
          · exact T
          · repeat is_list
          · exact KeepOk.def (by kernel_rfl)
          · repeat is_list
          · exact py
          · kernel_rfl
        · rfl
        · kernel_rfl
        · kernel_rfl
        repeat (first | apply Kont.next | apply XT.nil)
        apply TurnS.next
        · repeat is_list
        · rw [en]
      · intro h
        have h : ¬ (n / 6 % 4 < 2) := by simpa using h
        apply XT.cons
        apply XT.if_ (c := n / 6 % 4 == 2)
        · repeat is_list
        · intro h2
          have h2 : n / 6 % 4 = 2 := by simpa using h2
          have ea : act s n = s.give (actI n) (actJ n) (actG n) := by unfold act; rw [if_neg h, if_pos h2]
          rw [ea] at en
          apply XT.cons
          apply XT.expr
          · apply XV.call0
            · exact T
            · repeat is_list
            · exact KeepOk.def (by kernel_rfl)
            · repeat is_list
            · exact ha
            · kernel_rfl
          · rfl
          · kernel_rfl
          · kernel_rfl
          repeat (first | apply Kont.next | apply XT.nil)
          apply TurnS.next
          · repeat is_list
          · rw [en]
        · intro h2
          have h2 : ¬ (n / 6 % 4 = 2) := by simpa using h2
          apply XT.cons
          apply XT.if_ (c := !s.seen (actI n))
          · apply PB.not
            apply PB.val
            · apply PV.sub
              · repeat is_list
              · repeat is_list
              · exact O2.itemP (l := [s.seen 0, s.seen 1, s.seen 2].map .bool) rfl sa (by show 3 ≤ 1000000; decide)
              · exact SubOk.list rfl
              · exact fun _ _ => ⟨_, rfl⟩
            · exact O1B.bool _
            · rfl
          · intro h3
            have h3 : s.seen (actI n) = false := by simpa using h3
            have ea : act s n = s.picture (actI n) (actG n) := by unfold act; rw [if_neg h, if_neg h2, h3]; rfl
            rw [ea] at en
            apply XT.cons
            apply XT.expr
            · apply XV.call0
              · exact T
              · repeat is_list
              · exact KeepOk.def (by kernel_rfl)
              · repeat is_list
              · exact pc
              · kernel_rfl
            · rfl
            · kernel_rfl
            · kernel_rfl
            repeat (first | apply Kont.next | apply XT.nil)
            apply TurnS.next
            · repeat is_list
            · rw [en]
          · intro h3
            have h3 : s.seen (actI n) = true := by simpa using h3
            have ea : act s n = s := by unfold act; rw [if_neg h, if_neg h2, h3]; rfl
            rw [ea] at en
            repeat (first | apply Kont.next | apply XT.nil)
            apply TurnS.next
            · repeat is_list
            · rw [en]
  · rintro σ' rfl
    have : (zl (c.drop 3)).length = 10 := by unfold zl; rw [List.length_map, nd]
    rw [this]
    have f := hF 10 (by decide)
    generalize acts s0 (c.drop 3) 10 = s at *
    have pc := picture_ok (k := k+1) (W := Any) (β := gam c) (k0 := 0) (g := 0) T B f (by decide) (by decide) (by decide) trivial trivial trivial trivial
    apply XT.cons
    apply XT.if_ (c := [s.seen 0 == false, s.seen 1 == false, s.seen 2 == false].all id)
    · apply PB.cmp
      · repeat is_list
      · repeat is_list
      · exact O2.eqLs (Lst.loc (l := [s.seen 0, s.seen 1, s.seen 2].map .bool) rfl) (Lst.lst _) (EqI.bools ..)
      · kernel_rfl
    · intro h
      have e : wake s = s.picture 0 0 := by
        unfold wake; rw [if_pos]
        simpa using h
      rw [e] at next
      apply XT.cons
      apply XT.expr
      · apply XV.call0
        · exact T
        · repeat is_list
        · exact KeepOk.def (by kernel_rfl)
        · repeat is_list
        · exact pc
        · kernel_rfl
      · rfl
      · kernel_rfl
      · kernel_rfl
      apply Kont.next
      apply XT.nil
      exact Kont.next (XT.weaken next (Sup.weaken (by repeat is_list)))
    · intro h
      have e : wake s = s := by
        unfold wake; rw [if_neg]
        intro z
        rw [z.1, z.2.1, z.2.2] at h
        simp at h
      rw [e] at next
      apply XT.nil
      exact Kont.next (XT.weaken next (Sup.weaken (by repeat is_list)))
end
end
section
open PySem PySem.W PyProof.Rows
set_option maxRecDepth 100000
set_option maxHeartbeats 4000000
section

theorem law_count {w : World} {H0 : Heap} (T : Tp w H0) {k : Nat} {L : Addr} {γ : Store} {s : Gs} {P : Fl → Vars → Store → Prop} (f : Fine 250 s) (hc : Count s)
    (next : XT w H0 (k+6) Any (lenv L) (execs ((bodyOf (stmtAt 26)).drop 10) (lenv L)) [("money", .loc 14), ("given", .loc 3), ("world", .loc 0)] (enc γ (om s)) P) :
    XT w H0 (k+6) Any (lenv L) (execs ((bodyOf (stmtAt 26)).drop 7) (lenv L)) [("money", .loc 14), ("given", .loc 3), ("world", .loc 0)] (enc γ (om s)) P := by
  have nd := f.nDeeds
  have np := f.nPost
  have ns := f.nStars
  have lg : ((grown s).map t4).length = (grown s).length := List.length_map ..
  have lt : ((taken s).map t4).length = (taken s).length := List.length_map ..
  have la : ((awake s).map fun (i : Nat) => AV.int (i : Int)).length = (awake s).length := List.length_map ..
  have ng : (grown s).length ≤ s.deeds.length := List.length_filter_le ..
  have nt : (taken s).length ≤ s.deeds.length := List.length_filter_le ..
  have na : (awake s).length ≤ 3 := List.length_filter_le ..
  have l1 := fn_lenL (w := w) (H0 := H0) (k := k+6) (σ := enc γ (om s)) (l := (grown s).map t4) (by rw [lg]; omega)
  have l2 := fn_lenL (w := w) (H0 := H0) (k := k+6) (σ := enc γ (om s)) (l := (awake s).map fun (i : Nat) => AV.int (i : Int)) (by rw [la]; omega)
  have l3 := fn_lenL (w := w) (H0 := H0) (k := k+6) (σ := enc γ (om s)) (l := (taken s).map t4) (by rw [lt]; omega)
  have es : enc γ (om s) 12 = .list (s.stars.map t2) := rfl
  have l4 := fn_lenP (w := w) (H0 := H0) (k := k+6) es (by rw [List.length_map]; omega)
  rw [lg] at l1; rw [la] at l2; rw [lt] at l3; rw [List.length_map] at l4
  have lp : (om s).post.length = s.post.length := List.length_map ..
  have hl := hlen_ok (k := k+4) T (hd_post γ (om s)) (es := (om s).post) rfl (by rw [lp]; omega)
  rw [lp] at hl
  have l5 := fn_lenH T (hd_post γ (om s)) hl (by omega)
  have hk := hkeys_ok (k := k+5) T (hd_post γ (om s)) (es := (om s).post) rfl (by rw [lp]; omega)
  have m1 := methH (k := k+6) T (hd_post γ (om s)) (name := "keys") (f := 134) (fun _ => by kernel_rfl) (fun _ => by kernel_rfl) (by kernel_rfl)
  have l6 := fn_lenL (w := w) (H0 := H0) (k := k+6) (σ := enc γ (om s)) (l := (om s).post.map fun x => AV.str x.1) (by rw [List.length_map, lp]; omega)
  rw [List.length_map, lp] at l6
  have ew : (s.post.length : Int) = (((grown s).length : Int) + 2 * ((awake s).length : Int) - ((taken s).length : Int)) - (s.stars.length : Int) := by
    unfold Count at hc; omega
  apply XT.cons
  apply XT.letP (v := .int (((grown s).length : Int) + 2 * ((awake s).length : Int)))
  · kernel_rfl
  · apply PV.binop
    · apply PV.call0
      · exact T
      · repeat is_list
      · exact KeepOk.builtin _
      · apply PVs.cons
        · apply PV.new
          apply PVn.comp0 (es := s.deeds) (f := t4) (fun d => decide (d.2.2.2 ≥ 0)) t4
          · apply ItE.loc
            · repeat is_list
            · rfl
            · rfl
            · exact fun _ => rfl
          · kernel_rfl
          · kernel_rfl
          · omega
          · intro C x hx
            have a3 : At [.bool x.1, .int x.2.1, .int x.2.2.1, .int x.2.2.2] 3 (.int x.2.2.2) := ⟨by decide, rfl⟩
            show CompStep _ _ _ _ _ _ _ (.tup [.bool x.1, .int x.2.1, .int x.2.2.1, .int x.2.2.2]) _ _ _ (.tup [.bool x.1, .int x.2.1, .int x.2.2.1, .int x.2.2.2])
            apply CompStep.mk
            · repeat is_list
            · repeat is_list
            · apply PB.tests_one
              apply PB.cmp
              · apply PV.sub
                · repeat is_list
                · repeat is_list
                · exact O2.itemT a3 (by show 4 ≤ 1000000; decide)
                · exact SubOk.tup _
                · exact fun _ _ => ⟨_, rfl⟩
              · repeat is_list
              · exact O2.geI _ _
              · kernel_rfl
            · intro _
              repeat is_list
        · repeat is_list
        · rfl
      · exact l1
      · kernel_rfl
    · apply PV.binop
      · repeat is_list
      · apply PV.call0
        · exact T
        · repeat is_list
        · exact KeepOk.builtin _
        · apply PVs.cons
          · apply PV.new
            apply PVn.comp1 (es := List.range 3) (f := fun (i : Nat) => AV.int (i : Int)) (x := "world") (c := L + 3) s.seen (fun i => .int (i : Int))
            · show ItE _ _ _ _ _ _ _ (upto 3) _ _
              apply ItE.range (px := ⟨0, 0, 0, 0⟩)
              · repeat is_list
              · exact PVs.cons PV.three PVs.nil rfl
              · decide
              · rfl
              · exact fun _ => rfl
              · exact T
            · kernel_rfl
            · kernel_rfl
            · kernel_rfl
            · fresh_at
            · exact fun _ => by kernel_rfl
            · kernel_rfl
            · decide
            · intro C x hx
              have sa := seen_is s (List.mem_range.mp hx)
              apply CompStep.mk
              · repeat is_list
              · repeat is_list
              · apply PB.tests_one
                apply PB.val
                · apply PV.sub
                  · repeat is_list
                  · repeat is_list
                  · exact O2.itemP (l := [s.seen 0, s.seen 1, s.seen 2].map .bool) rfl sa (by show 3 ≤ 1000000; decide)
                  · exact SubOk.list rfl
                  · exact fun _ _ => ⟨_, rfl⟩
                · exact O1B.bool _
                · rfl
              · intro _
                repeat is_list
          · repeat is_list
          · rfl
        · exact l2
        · kernel_rfl
      · exact O2.mul _ _ (by decide)
    · exact O2.add _ _
  · kernel_rfl
  apply Kont.next
  apply XT.cons
  apply XT.letP (v := .int ((((grown s).length : Int) + 2 * ((awake s).length : Int) - ((taken s).length : Int)) - (s.stars.length : Int)))
  · kernel_rfl
  · apply PV.binop
    · apply PV.binop
      · repeat is_list
      · apply PV.call0
        · exact T
        · repeat is_list
        · exact KeepOk.builtin _
        · apply PVs.cons
          · apply PV.new
            apply PVn.comp0 (es := s.deeds) (f := t4) (fun d => d.2.2.2 == -1) t4
            · apply ItE.loc
              · repeat is_list
              · rfl
              · rfl
              · exact fun _ => rfl
            · kernel_rfl
            · kernel_rfl
            · omega
            · intro C x hx
              have a3 : At [.bool x.1, .int x.2.1, .int x.2.2.1, .int x.2.2.2] 3 (.int x.2.2.2) := ⟨by decide, rfl⟩
              show CompStep _ _ _ _ _ _ _ (.tup [.bool x.1, .int x.2.1, .int x.2.2.1, .int x.2.2.2]) _ _ _ (.tup [.bool x.1, .int x.2.1, .int x.2.2.1, .int x.2.2.2])
              apply CompStep.mk
              · repeat is_list
              · repeat is_list
              · apply PB.tests_one
                apply PB.cmp
                · apply PV.sub
                  · repeat is_list
                  · repeat is_list
                  · exact O2.itemT a3 (by show 4 ≤ 1000000; decide)
                  · exact SubOk.tup _
                  · exact fun _ _ => ⟨_, rfl⟩
                · repeat is_list
                · exact O2.eqI _ _
                · kernel_rfl
              · intro _
                repeat is_list
          · repeat is_list
          · rfl
        · exact l3
        · kernel_rfl
      · exact O2.sub _ _
    · apply PV.call0
      · exact T
      · repeat is_list
      · exact KeepOk.builtin _
      · repeat is_list
      · exact l4
      · kernel_rfl
    · exact O2.sub _ _
  · kernel_rfl
  apply Kont.next
  apply XT.cons
  rw [← ew]
  apply XT.if_ (c := false)
  · apply PB.eq (v := false || false)
    · apply PB.or2
      · apply PB.eq
        · apply PB.cmp
          · apply PV.call0
            · exact T
            · repeat is_list
            · exact KeepOk.builtin _
            · repeat is_list
            · exact l5
            · kernel_rfl
          · repeat is_list
          · exact O2.neI _ _
          · kernel_rfl
        · simp
      · intro _
        apply PB.eq
        · apply PB.cmp
          · apply PV.call0
            · exact T
            · repeat is_list
            · exact KeepOk.builtin _
            · apply PVs.cons
              · apply PV.meth0
                · exact T
                · repeat is_list
                · exact m1
                · exact KeepOk.def (by kernel_rfl)
                · repeat is_list
                · exact hk
                · kernel_rfl
                · kernel_rfl
                · kernel_rfl
                · kernel_rfl
              · repeat is_list
              · rfl
            · exact l6
            · kernel_rfl
          · repeat is_list
          · exact O2.neI _ _
          · kernel_rfl
        · simp
    · rfl
  · exact fun h => nomatch h
  · intro _
    apply XT.nil
    exact Kont.next (XT.weaken next (Sup.weaken (by repeat is_list)))
end
end
section
open PySem PySem.W PyProof.Rows
set_option maxRecDepth 100000
set_option maxHeartbeats 4000000
section

theorem abc_occ : ∀ i < 3, Builtin.Str.occurrences ⟨(S "abc").toArray⟩ ⟨([97 + i] : List Nat).toArray⟩ 0 (S "abc").length 1 = i :: [] := by decide +kernel
theorem nm_first {i j : Nat} (h : j < 3) : (nm i j 0).getD 0 0 = 97 + i ∧ (nm i j 0).getD 2 0 = 97 + j ∧ (nm i j 0).length = 3 := by
  unfold nm; rw [if_neg (by omega)]; exact ⟨rfl, rfl, rfl⟩
theorem law_rounds {w : World} {H0 : Heap} (T : Tp w H0) {k : Nat} {L : Addr} {γ : Store} {s0 : Gs} {P : Fl → Vars → Store → Prop} (B : Beside γ) (hF : ∀ t, t ≤ 20 → Fine 250 (rnds s0 t))
    (next : XT w H0 (k+6) Any (lenv L) (execs ((bodyOf (stmtAt 26)).drop 11) (lenv L)) [("money", .loc 14), ("given", .loc 3), ("world", .loc 0)] (enc γ (om (rnds s0 20))) P) :
    XT w H0 (k+6) Any (lenv L) (execs ((bodyOf (stmtAt 26)).drop 10) (lenv L)) [("money", .loc 14), ("given", .loc 3), ("world", .loc 0)] (enc γ (om s0)) P := by
  apply XT.cons
  apply XT.forS [("money", .loc 14), ("given", .loc 3), ("world", .loc 0)] (fun i σ' => σ' = enc γ (om (rnds s0 i))) (ls := upto 20)
  · apply ItE.range (px := ⟨0, 0, 0, 0⟩)
    · repeat is_list
    · exact PVs.cons (show PV _ _ _ _ _ _ _ (.int ((20 : Nat) : Int)) from PV.constI) PVs.nil rfl
    · decide
    · rfl
    · exact fun _ => rfl
    · exact T
  · exact fun _ h => h.elim
  · repeat is_list
  · rfl
  · rintro i v σ' hi rfl
    obtain ⟨hv, hlt⟩ := upto_at hi
    subst hv
    have f := hF i (by omega)
    have en := rnds_next s0 i
    generalize rnds s0 i = s at *
    have np := f.nPost
    have lp : (om s).post.length = s.post.length := List.length_map ..
    have hl := hlen_ok (k := k+4) T (hd_post γ (om s)) (es := (om s).post) rfl (by rw [lp]; omega)
    rw [lp] at hl
    have l5 := fn_lenH T (hd_post γ (om s)) hl (by omega)
    have hk := hkeys_ok (k := k+5) T (hd_post γ (om s)) (es := (om s).post) rfl (by rw [lp]; omega)
    have m1 := methH (k := k+6) T (hd_post γ (om s)) (name := "keys") (f := 134) (fun _ => by kernel_rfl) (fun _ => by kernel_rfl) (by kernel_rfl)
    apply Exists.intro
    apply And.intro
    · repeat is_list
    · apply XT.cons
      cases hp : s.post with
      | nil =>
        have er : rnd s i = s := by unfold rnd; rw [hp]
        rw [er] at en
        rw [hp] at l5
        apply XT.if_ (c := false)
        · apply PB.eq
          · apply PB.cmp
            · apply PV.call0
              · exact T
              · repeat is_list
              · exact KeepOk.builtin _
              · repeat is_list
              · exact l5
              · kernel_rfl
            · repeat is_list
            · exact O2.gtI _ _
            · kernel_rfl
          · rfl
        · exact fun h => nomatch h
        · intro _
          repeat (first | apply Kont.next | apply XT.nil)
          apply TurnS.next
          · repeat is_list
          · rw [en]
      | cons x r =>
        obtain ⟨i', j', g', o⟩ := x
        have er : rnd s i = s.give i' j' (i % 2) := by unfold rnd; rw [hp]
        rw [er] at en
        obtain ⟨h1, h2, h3, _⟩ := f.post (i', j', g', o) (by rw [hp]; exact List.mem_cons_self)
        have h1 : i' < 3 := h1
        have h2 : j' < 3 := h2
        have h3 : g' < 2 := h3
        have ha : FnE w H0 (k+6) Any (.ref 266) [.loc 0, .int ((i' : Nat) : Int), .int ((j' : Nat) : Int), .int ((i : Int) % 2)] [] (enc γ (om s)) .none (enc γ (om (s.give i' j' (i % 2)))) := by
          rw [show (i : Int) % 2 = ((i % 2 : Nat) : Int) by omega]
          exact hand_ok T B f (by decide) h1 h2 (by omega) trivial trivial trivial trivial trivial trivial trivial trivial
        have a0 : At ((om s).post.map fun x => AV.str x.1) 0 (.str (nm i' j' g')) := ⟨by decide, by
          show ((s.post.map _).map _)[0]? = _
          rw [hp]; rfl⟩
        have low : FnP w H0 (k+6) (.builtin "str.lower") [.str (nm i' j' g')] [] (enc γ (om s)) (.str (nm i' j' 0)) := by
          have e := low_eq (nm i' j' g')
          rw [low_nm h1 (by omega) h3] at e
          exact fn_lower e (nm_len ..)
        obtain ⟨n0, n2, n3⟩ := nm_first (i := i') h2
        have i0 : O2 w H0 (k+6) getItem (enc γ (om s)) (.str (nm i' j' 0)) (.int 0) (.str [97 + i']) := by
          rw [← n0]; exact O2.itemS (by decide) (by rw [n3]; decide) (by rw [n3]; decide)
        have i2 : O2 w H0 (k+6) getItem (enc γ (om s)) (.str (nm i' j' 0)) (.int 2) (.str [97 + j']) := by
          rw [← n2]; exact O2.itemS (by decide) (by rw [n3]; decide) (by rw [n3]; decide)
        have x0 := fn_index (w := w) (H0 := H0) (k := k+6) (σ := enc γ (om s)) (abc_occ i' h1)
        have x2 := fn_index (w := w) (H0 := H0) (k := k+6) (σ := enc γ (om s)) (abc_occ j' h2)
        apply XT.if_ (c := true)
        · apply PB.eq
          · apply PB.cmp
            · apply PV.call0
              · exact T
              · repeat is_list
              · exact KeepOk.builtin _
              · repeat is_list
              · exact l5
              · kernel_rfl
            · repeat is_list
            · exact O2.gtI _ _
            · kernel_rfl
          · rw [hp, List.length_cons]; exact decide_eq_true (by omega)
        · intro _
          apply XT.cons
          apply XT.letP (v := .str (nm i' j' 0))
          · kernel_rfl
          · apply PV.meth0
            · exact T
            · apply PV.sub
              · apply PV.meth0
                · exact T
                · repeat is_list
                · exact m1
                · exact KeepOk.def (by kernel_rfl)
                · repeat is_list
                · exact hk
                · kernel_rfl
                · kernel_rfl
                · kernel_rfl
                · kernel_rfl
              · repeat is_list
              · exact O2.itemL a0 (by rw [List.length_map, lp]; omega)
              · exact SubOk.lst _
              · exact fun _ _ => ⟨_, rfl⟩
            · exact meth_lower _
            · exact KeepOk.builtin _
            · repeat is_list
            · exact low
            · kernel_rfl
            · kernel_rfl
            · kernel_rfl
            · kernel_rfl
          · kernel_rfl
          apply Kont.next
          apply XT.cons
          apply XT.expr
          · apply XV.call0
            · exact T
            · repeat is_list
            · exact KeepOk.def (by kernel_rfl)
            · apply PVs.cons
              · repeat is_list
              · apply PVs.cons
                · apply PV.meth0
                  · exact T
                  · repeat is_list
                  · exact meth_index _
                  · exact KeepOk.builtin _
                  · apply PVs.cons
                    · apply PV.sub
                      · repeat is_list
                      · repeat is_list
                      · exact i0
                      · exact SubOk.str _
                      · exact fun _ _ => ⟨_, rfl⟩
                    · repeat is_list
                    · rfl
                  · exact x0
                  · kernel_rfl
                  · kernel_rfl
                  · kernel_rfl
                  · kernel_rfl
                · apply PVs.cons
                  · apply PV.meth0
                    · exact T
                    · repeat is_list
                    · exact meth_index _
                    · exact KeepOk.builtin _
                    · apply PVs.cons
                      · apply PV.sub
                        · repeat is_list
                        · repeat is_list
                        · exact i2
                        · exact SubOk.str _
                        · exact fun _ _ => ⟨_, rfl⟩
                      · repeat is_list
                      · rfl
                    · exact x2
                    · kernel_rfl
                    · kernel_rfl
                    · kernel_rfl
                    · kernel_rfl
                  · repeat is_list
                  · rfl
                · rfl
              · rfl
            · exact ha
            · kernel_rfl
          · rfl
          · kernel_rfl
          · kernel_rfl
          repeat (first | apply Kont.next | apply XT.nil)
          apply TurnS.next
          · repeat is_list
          · rw [en]
        · exact fun h => nomatch h
  · rintro σ' rfl
    exact next
end
end
section
open PySem PySem.W PyProof.Rows
set_option maxRecDepth 100000
set_option maxHeartbeats 4000000
section

theorem law_check {w : World} {H0 : Heap} (T : Tp w H0) {k : Nat} {L : Addr} {c : List Int} {s : Gs} {E : St} {P : Fl → Vars → Store → Prop} (f : Fine 250 s) (hp : s.post = []) (hs : s.seen 0 = true ∧ s.seen 1 = true ∧ s.seen 2 = true)
    (he : run true s.deeds (st0 c) = some E)
    (next : XT w H0 (k+6) Any (lenv L) (execs ((bodyOf (stmtAt 26)).drop 14) (lenv L)) [("money", .loc 14), ("given", .loc 3), ("world", .loc 0), ("roads", .loc 15)] (enc (bet (gam c) E) (om s)) P)
    (hd : ∀ d ∈ s.deeds, d.2.1 < 3 ∧ d.2.2.1 < 3) :
    XT w H0 (k+6) Any (lenv L) (execs ((bodyOf (stmtAt 26)).drop 11) (lenv L)) [("money", .loc 14), ("given", .loc 3), ("world", .loc 0)] (enc (gam c) (om s)) P := by
  have nd := f.nDeeds
  have lp : (om s).post.length = s.post.length := List.length_map ..
  have hl := hlen_ok (k := k+4) T (hd_post (gam c) (om s)) (es := (om s).post) rfl (by rw [lp, hp]; decide)
  rw [lp, hp] at hl
  have l5 := fn_lenH T (hd_post (gam c) (om s)) hl (by decide)
  have e15 : upd (enc (gam c) (om s)) 15 (.list (roadsL (st0 c))) = enc (bet (gam c) (st0 c)) (om s) := by
    have := bet_roads (gam c) (om s) (st0 c) (st0 c) rfl rfl
    rw [← this]
    funext n
    by_cases h : n = 15
    · subst h; rw [upd_self, upd_self]
    · rw [upd_ne h, upd_ne h]
      unfold enc
      split <;> first | rfl | skip
      unfold bet
      split <;> first | rfl | exact absurd rfl h
  have rk := (reckon_ok (k := k+5) (γ := gam c) (O := om s) (M := 0) T he hd (by show 0 + s.deeds.length ≤ 900; omega) (fun _ _ => Nat.le_refl 0)).same rfl (W₂ := Any) fun _ _ => trivial
  apply XT.cons
  apply XT.if_ (c := false)
  · apply PB.eq (v := false || (false || (false || false)))
    · apply PB.or_
      · apply PB.eq
        · apply PB.cmp
          · apply PV.call0
            · exact T
            · repeat is_list
            · exact KeepOk.builtin _
            · repeat is_list
            · exact l5
            · kernel_rfl
          · repeat is_list
          · exact O2.neI _ _
          · kernel_rfl
        · rfl
      intro _
      apply PB.or_
      · apply PB.eq
        · apply PB.cmp
          · repeat is_list
          · repeat is_list
          · exact O2.neLs (Lst.loc (l := [s.seen 0, s.seen 1, s.seen 2].map .bool) rfl) (Lst.lst _) (EqI.bools ..)
          · kernel_rfl
        · rw [hs.1, hs.2.1, hs.2.2]; rfl
      intro _
      apply PB.or_
      · apply PB.val
        · repeat is_list
        · exact O1B.bool _
        · rfl
      intro _
      exact PB.or_nil
    · rfl
  · exact fun h => nomatch h
  intro _
  apply XT.nil
  apply Kont.next
  apply XT.cons
  apply XT.letComp0 (es := List.range 9) (f := fun (i : Nat) => AV.int (i : Int)) 15 (fun _ => true) (fun _ => .lst [])
  · kernel_rfl
  · kernel_rfl
  · show ItE _ _ _ _ _ _ _ (upto 9) _ _
    apply ItE.range (px := ⟨0, 0, 0, 0⟩)
    · repeat is_list
    · exact PVs.cons (show PV _ _ _ _ _ _ _ (.int ((9 : Nat) : Int)) from PV.constI) PVs.nil rfl
    · decide
    · rfl
    · exact fun _ => rfl
    · exact T
  · kernel_rfl
  · kernel_rfl
  · decide
  · intro C x hx
    apply CompStep.mk
    · repeat is_list
    · repeat is_list
    · repeat is_list
    · intro _
      repeat is_list
  · rfl
  · trivial
  · exact e15
  apply Kont.next
  apply XT.cons
  apply XT.ifX (c := !true)
  · apply XB.not
    apply XB.val
    · apply XV.call0
      · exact T
      · repeat is_list
      · exact KeepOk.def (by kernel_rfl)
      · repeat is_list
      · exact rk
      · kernel_rfl
    · rfl
  · exact fun h => nomatch h
  intro _
  apply XT.nil
  exact Kont.next (XT.weaken next (Sup.weaken (by repeat is_list)))
end
end
section
open PySem PySem.W PyProof.Rows
set_option maxRecDepth 100000
set_option maxHeartbeats 4000000
section

theorem PV.and2 {w : World} {H0 : Heap} {k : Nat} {env : Env} {μ : Vars} {σ : Store} {x y : Expr} {pos : Pos} {v : AV} (a : PV w H0 k (eval x env) env μ σ (.bool true)) (b : PV w H0 k (eval y env) env μ σ v) : PV w H0 k (eval (.BoolOp .And [x, y] pos) env) env μ σ v := by
  refine ⟨?_⟩; intro A rm ρ s R F Q E hq
  refine wpAny_And2 (a.out A rm ρ s R F _ E fun h₁ t₁ V k₁ u => ?_)
  cases u
  refine wpAny_truthy_bool ?_
  rw [if_pos rfl]
  exact b.out A rm ρ _ (R.keeps k₁) (F.keeps k₁) Q E fun h₂ t₂ V k₂ q => hq h₂ t₂ V (k₁.trans k₂) q
theorem sign_nm {i j g : Nat} (hi : i < 3) (hj : j < 4) (hg : g < 2) : Sign (nm i j g) := by
  have : ∀ i < 3, ∀ j < 4, ∀ g < 2, (!(nm i j g).isEmpty && (nm i j g).all fun c => decide (33 ≤ c ∧ c < 127 ∧ c ≠ 40 ∧ c ≠ 41)) = true := by decide +kernel
  have := this i hi j hj g hg
  rw [Bool.and_eq_true, List.all_eq_true] at this
  refine ⟨fun e => ?_, fun c hc => by simpa using this.2 c hc⟩
  have z := this.1
  rw [e] at z; cases z
theorem sign_pc {p : Pc} (hx : p.x < 16) (hy : p.y < 16) : Sign (pcText p) := by
  unfold pcText Sign
  split
  · refine ⟨by simp, fun c hc => ?_⟩
    simp at hc; omega
  · refine ⟨by simp, fun c hc => ?_⟩
    simp at hc; omega
theorem pc_len (p : Pc) : (pcText p).length ≤ 100 := by unfold pcText; split <;> simp
theorem bet_avoids {c : List Int} {E : St} (n m : Nat) : (bet (gam c) E m).avoids n = true := by
  unfold bet
  split
  · show avoidsL n (moneyL _) = true
    unfold moneyL
    simp [avoidsL, AV.avoids]
  · exact avoids_roads ..
  · exact gam_avoids ..
theorem law_tell {w : World} {H0 : Heap} (T : Tp w H0) {k : Nat} {L : Addr} {c : List Int} {s : Gs} {E F : St} {M : Nat} {P : Fl → Vars → Store → Prop} (f : Fine 250 s)
    (hE : eats E s.pic E.rd) (hM : M + s.deeds.length ≤ 900) (hl : ∀ x y, (E.rd x y).length ≤ M) (hf : run false s.deeds E = some F) (hF : ∀ i, i < 3 → ∀ j, j < 3 → F.rd i j = [])
    (hpc : ∀ p ∈ s.pic, p.i < 3 ∧ p.j < 4 ∧ p.g < 2 ∧ p.x < 16 ∧ p.y < 16) (hd : ∀ d ∈ s.deeds, d.2.1 < 3 ∧ d.2.2.1 < 3)
    (next : XT w H0 (k+9) Any (lenv L) (execs ((bodyOf (stmtAt 26)).drop 17) (lenv L)) [("money", .loc 14), ("given", .loc 3), ("world", .loc 0)] (enc (bet (gam c) F) (om s)) P) :
    XT w H0 (k+9) Any (lenv L) (execs ((bodyOf (stmtAt 26)).drop 14) (lenv L)) [("money", .loc 14), ("given", .loc 3), ("world", .loc 0), ("roads", .loc 15)] (enc (bet (gam c) E) (om s)) P := by
  have np := f.nPic
  have du := due_ok (k := k+7) (σ := enc (bet (gam c) E) (om s)) T (st := E) (pic := s.pic) (M := M) (by omega) hl (by omega) hpc hE rfl rfl rfl rfl rfl (fun n m h => enc_avoids (by omega) (fun m => bet_avoids n m) m)
  have edu : s.pic.map due1 = (om s).picture.map hv := by
    show _ = (s.pic.map _).map hv
    rw [List.map_map]; rfl
  rw [edu] at du
  have lp : (om s).picture.length = s.pic.length := List.length_map ..
  have tl := told_ok (k := k) T (hd_picture (bet (gam c) E) (om s)) (es := (om s).picture) rfl (by rw [lp]; omega) (fun x hx => by
    obtain ⟨p, hp, rfl⟩ := List.mem_map.mp hx
    obtain ⟨h1, h2, h3, h4, h5⟩ := hpc p hp
    exact ⟨sign_nm h1 h2 h3, sign_pc h4 h5⟩) (fun x hx => by
    obtain ⟨p, hp, rfl⟩ := List.mem_map.mp hx
    exact ⟨nm_len .., pc_len _⟩)
  have rk := (reckon_ok (k := k+8) (γ := gam c) (O := om s) (M := M) T hf hd hM hl).same rfl (W₂ := Any) fun _ _ => trivial
  have e15 : enc (bet (gam c) F) (om s) 15 = .list (roadsL F) := rfl
  have e9 : roadsL F = (List.range 9).map fun r => road (F.rd (r / 3) (r % 3)) := rfl
  apply XT.cons
  apply XT.letP (v := .lst ((om s).picture.map hv))
  · kernel_rfl
  · apply PV.call0
    · exact T
    · repeat is_list
    · exact KeepOk.def (by kernel_rfl)
    · repeat is_list
    · exact du
    · kernel_rfl
  · kernel_rfl
  apply Kont.next
  apply XT.cons
  apply XT.if_ (c := false)
  · apply PB.eq (v := false || !true)
    · apply PB.or2
      · apply PB.cmp
        · repeat is_list
        · repeat is_list
        · apply O2.isN
          rfl
        · kernel_rfl
      · intro _
        apply PB.not
        apply PB.val
        · apply PV.call0
          · exact T
          · repeat is_list
          · exact KeepOk.def (by kernel_rfl)
          · repeat is_list
          · exact tl
          · kernel_rfl
        · exact O1B.bool _
        · rfl
    · rfl
  · exact fun h => nomatch h
  intro _
  apply XT.nil
  apply Kont.next
  apply XT.cons
  apply XT.ifX (c := false)
  · apply XB.or_false
    · show XB _ _ _ _ _ _ _ _ (!true) _
      apply XB.not
      apply XB.val
      · apply XV.call0
        · exact T
        · repeat is_list
        · exact KeepOk.def (by kernel_rfl)
        · repeat is_list
        · exact rk
        · kernel_rfl
      · rfl
    · apply PB.eq (v := false || false)
      · apply PB.or_
        · apply PB.eq
          · apply PB.cmp
            · apply PV.new
              apply PVn.comp0 (es := List.range 9) (f := fun r => road (F.rd (r / 3) (r % 3))) (fun r => !(F.rd (r / 3) (r % 3)).isEmpty) (fun r => road (F.rd (r / 3) (r % 3)))
              · apply ItE.loc
                · repeat is_list
                · rfl
                · rfl
                · exact fun _ => rfl
              · kernel_rfl
              · kernel_rfl
              · decide
              · intro C r hr
                apply CompStep.mk
                · repeat is_list
                · repeat is_list
                · apply PB.tests_one
                  apply PB.eq
                  · apply PB.cmp
                    · repeat is_list
                    · repeat is_list
                    · exact O2.neNil (Lst.lst _)
                    · kernel_rfl
                  · rw [List.isEmpty_map]
                · intro _
                  repeat is_list
            · repeat is_list
            · exact O2.neNil (Lst.lst _)
            · kernel_rfl
          · rw [List.isEmpty_map]
            rw [List.filter_eq_nil_iff.mpr fun r hr => by
              have hr := List.mem_range.mp hr
              rw [hF (r / 3) (by omega) (r % 3) (by omega)]; simp]
            rfl
        intro _
        exact PB.or_nil
      · rfl
  · exact fun h => nomatch h
  intro _
  apply XT.nil
  exact Kont.next (XT.weaken next (Sup.weaken (by repeat is_list)))
theorem law_end {w : World} {H0 : Heap} (T : Tp w H0) {k : Nat} {L : Addr} {c : List Int} {s : Gs} {F : St} (f : Fine 250 s) (hF : ∀ i, i < 3 → F.h i = s.hand i ∧ F.b i = s.bank i) :
    XT w H0 (k+9) Any (lenv L) (execs ((bodyOf (stmtAt 26)).drop 17) (lenv L)) [("money", .loc 14), ("given", .loc 3), ("world", .loc 0)] (enc (bet (gam c) F) (om s)) (Ends (.bool true) (upd (enc (bet (gam c) F) (om s)) 17 (.list ((om s).houses.map hv)))) := by
  have no := f.nOrder
  have lh : (om s).houses.length = s.order.length := List.length_map ..
  have n14 : (moneyL F).length ≤ 1000000 := by show 3 ≤ 1000000; decide
  have e14 : enc (bet (gam c) F) (om s) 14 = .list (moneyL F) := rfl
  have e17 : upd (enc (bet (gam c) F) (om s)) 17 (.list ((om s).houses.map hv)) 17 = .list ((om s).houses.map hv) := upd_self ..
  have Hh : Hd (upd (enc (bet (gam c) F) (om s)) 17 (.list ((om s).houses.map hv))) 1 2 3 := ⟨rfl, rfl, by intro h; cases h⟩
  have it := hitems_ok (k := k+8) T Hh (es := (om s).houses) rfl (by rw [lh]; omega)
  have m1 := methH (k := k+9) T Hh (name := "items") (f := 146) (fun _ => by kernel_rfl) (fun _ => by kernel_rfl) (by kernel_rfl)
  have self : EqI ((om s).houses.map hv) ((om s).houses.map hv) (((om s).houses.map hv).map fun _ => true) := EqI.self fun x hx => by
    obtain ⟨y, _, rfl⟩ := List.mem_map.mp hx
    have := EqR.tup (n := 4) (a := [.str y.1, .str y.2]) (b := [.str y.1, .str y.2]) (c := [y.1 == y.1, y.2 == y.2]) rfl rfl fun i u v e e' => by
      match i with
      | 0 => simp at e e'; subst e e'; exact .str _ _ _
      | 1 => simp at e e'; subst e e'; exact .str _ _ _
      | i + 2 => simp at e
    rw [beq_self_eq_true, beq_self_eq_true] at this
    exact this
  have tt : ((((om s).houses.map hv).map fun _ => true).all id) = true := by rw [List.all_eq_true]; intro x hx; obtain ⟨_, _, rfl⟩ := List.mem_map.mp hx; rfl
  apply XT.cons
  apply XT.letComp1 (es := s.order) (f := t2) (y := "money") (c := L + 2) (σ' := upd (enc (bet (gam c) F) (om s)) 17 (.list ((om s).houses.map hv))) 17 (fun _ => true) (fun o => hv (nm o.1 3 o.2, ln (s.hand o.1) (s.bank o.1)))
  · kernel_rfl
  · kernel_rfl
  · apply ItE.lst
    · repeat is_list
    · rfl
    · exact fun _ => rfl
  · kernel_rfl
  · kernel_rfl
  · kernel_rfl
  · fresh_at
  · exact fun _ => by kernel_rfl
  · kernel_rfl
  · omega
  · intro C o ho
    obtain ⟨h1, h2⟩ := f.order o ho
    obtain ⟨f1, f2⟩ := hF o.1 h1
    have hc := f.cash o.1 h1
    have ac : At (moneyL F) (o.1 : Int) (.lst [.int ((s.hand o.1 : Nat) : Int), .int ((s.bank o.1 : Nat) : Int)]) := by
      have := money_at F h1
      rwa [f1, f2] at this
    have pl := plain_ok (k := k+8) (σ := enc (bet (gam c) F) (om s)) T h1 (show 3 < 4 by decide) h2
    have o1 : O2 w H0 (k+9) (binaryOp .Mult) (enc (bet (gam c) F) (om s)) (.str (S " ")) (.int ((s.hand o.1 : Nat) : Int)) (.str (List.replicate (s.hand o.1) 32)) := O2.blanks _ (by omega)
    have o2 : O2 w H0 (k+9) (binaryOp .Mult) (enc (bet (gam c) F) (om s)) (.str (S " ")) (.int ((s.bank o.1 : Nat) : Int)) (.str (List.replicate (s.bank o.1) 32)) := O2.blanks _ (by omega)
    have o4 : O2 w H0 (k+9) (binaryOp .Add) (enc (bet (gam c) F) (om s)) (.str (List.replicate (s.hand o.1) 32)) (.str (S "x")) (.str (List.replicate (s.hand o.1) 32 ++ S "x")) := O2.addS _ _ (by rw [List.length_replicate]; show _ + 1 ≤ _; omega)
    have o5 : O2 w H0 (k+9) (binaryOp .Add) (enc (bet (gam c) F) (om s)) (.str (List.replicate (s.hand o.1) 32 ++ S "x")) (.str (List.replicate (s.bank o.1) 32)) (.str (ln (s.hand o.1) (s.bank o.1))) := by
      have := O2.addS (w := w) (H0 := H0) (k := k+9) (σ := enc (bet (gam c) F) (om s)) (List.replicate (s.hand o.1) 32 ++ S "x") (List.replicate (s.bank o.1) 32) (by rw [List.length_append, List.length_replicate, List.length_replicate]; show _ + 1 + _ ≤ _; omega)
      rw [show (List.replicate (s.hand o.1) 32 ++ S "x") ++ List.replicate (s.bank o.1) 32 = ln (s.hand o.1) (s.bank o.1) by unfold ln; rw [List.append_assoc]; rfl] at this
      exact this
    unfold hv t2
    apply CompStep.mk
    · repeat is_list
    · repeat is_list
    · repeat is_list
    · intro _
      apply PV.tuple
      · apply PVs.cons
        · apply PV.call0
          · exact T
          · repeat is_list
          · exact KeepOk.def (by kernel_rfl)
          · apply PVs.cons
            · repeat is_list
            · apply PVs.cons
              · exact PV.three
              · repeat is_list
              · rfl
            · rfl
          · exact pl
          · kernel_rfl
        · apply PVs.cons
          · apply PV.binop
            · apply PV.binop
              · apply PV.binop
                · repeat is_list
                · repeat is_list
                · exact o1
              · repeat is_list
              · exact o4
            · apply PV.binop
              · repeat is_list
              · repeat is_list
              · exact o2
            · exact o5
          · repeat is_list
          · rfl
        · rfl
      · repeat is_list
  · rfl
  · trivial
  · rw [List.filter_eq_self.mpr fun _ _ => rfl]
    show _ = upd _ 17 (.list ((s.order.map _).map hv))
    rw [List.map_map]; rfl
  apply Kont.next
  apply XT.cons
  apply XT.ret
  · apply PV.and2
    · apply PV.eq
      · apply PV.cmp
        · apply PV.meth0
          · exact T
          · apply PV.sub
            · repeat is_list
            · repeat is_list
            · apply O2.itemD (es := wdict (om s))
              · rfl
              · exact wl_houses
            · exact SubOk.dict (l := wdict (om s)) rfl
            · exact fun _ _ => ⟨_, rfl⟩
          · exact m1
          · exact KeepOk.def (by kernel_rfl)
          · repeat is_list
          · exact it
          · kernel_rfl
          · kernel_rfl
          · kernel_rfl
          · kernel_rfl
        · repeat is_list
        · exact O2.eqLs (Lst.lst _) (Lst.loc e17) self
        · kernel_rfl
      · rw [tt]
    · apply PV.eq
      · apply PV.cmp
        · repeat is_list
        · repeat is_list
        · exact O2.eqLs (Lst.loc (l := (om s).houses.map hv) rfl) (Lst.loc e17) self
        · kernel_rfl
      · rw [tt]
  · apply Kont.ret
    exact Ends.ret rfl
end
end
section
open PySem PySem.W PyProof.Rows
set_option maxRecDepth 100000
set_option maxHeartbeats 4000000
theorem run_len {e : Bool} : ∀ {l : List Deed} {s s' : St} {n : Nat}, run e l s = some s' → (∀ x y, (s.rd x y).length ≤ n) → ∀ x y, (s'.rd x y).length ≤ n + l.length
  | [], s, s', n, h, b => by cases h; exact b
  | (f, i, j, a) :: l, s, s', n, h, b => by
    intro x y
    unfold run at h
    by_cases q : f = e
    · rw [if_pos q] at h
      cases z : step i j a s with
      | none => rw [z] at h; cases h
      | some u =>
        rw [z] at h
        have := run_len h (step_len z n b) x y
        rw [List.length_cons]; omega
    · rw [if_neg q] at h
      have := run_len h b x y
      rw [List.length_cons]; omega
noncomputable abbrev lastS (c : List Int) : Gs := rnds (wake (acts (start (hand0 c) (bank0 c)) (c.drop 3) 10)) 20
/-- what the law needs of the plain story -/
structure Good (c : List Int) : Prop where
  f1 : ∀ t, t ≤ 10 → Fine 250 (acts (start (hand0 c) (bank0 c)) (c.drop 3) t)
  f2 : ∀ t, t ≤ 20 → Fine 250 (rnds (wake (acts (start (hand0 c) (bank0 c)) (c.drop 3) 10)) t)
  count : Count (wake (acts (start (hand0 c) (bank0 c)) (c.drop 3) 10))
  last : ∀ s, s = rnds (wake (acts (start (hand0 c) (bank0 c)) (c.drop 3) 10)) 20 → s.post = [] ∧ (s.seen 0 = true ∧ s.seen 1 = true ∧ s.seen 2 = true) ∧ (∀ p ∈ s.pic, p.i < 3 ∧ p.j < 4 ∧ p.g < 2 ∧ p.x < 16 ∧ p.y < 16) ∧ (∀ d ∈ s.deeds, d.2.1 < 3 ∧ d.2.2.1 < 3) ∧
    ∃ E F, run true s.deeds (st0 c) = some E ∧ run false s.deeds E = some F ∧ eats E s.pic E.rd ∧ (∀ i, i < 3 → ∀ j, j < 3 → F.rd i j = []) ∧ ∀ i, i < 3 → F.h i = s.hand i ∧ F.b i = s.bank i
theorem law_ok {w : World} {H0 : Heap} (T : Tp w H0) {k : Nat} {sc : List Int} (hl : sc.length ≤ 63) (G : Good (cellsAt sc sc.length)) : ∃ σ', FnE w H0 (k+10) Any (.ref 288) [.lst (zl sc)] [] free0 (.bool true) σ' := by
  have hc := cellsAt_len sc sc.length
  obtain ⟨f1, f2, cnt, last⟩ := G
  obtain ⟨hp, hs, hpc, hd, E, F, r1, r2, he, hF, hhb⟩ := last _ rfl
  have f := f2 20 (Nat.le_refl _)
  have f0 := f2 0 (Nat.zero_le _)
  refine ⟨upd (enc (bet (gam (cellsAt sc sc.length)) F) (om (lastS (cellsAt sc sc.length)))) 17 (.list ((om (lastS (cellsAt sc sc.length))).houses.map hv)), FnE.mkX (names := []) (ks := []) (k := k+9) T (f288 _) rfl rfl (by kernel_rfl) (xs := ["script"]) (avs := [.lst (zl sc)]) (σ₁ := free0) (by kernel_rfl) rfl (BindX.plain (names := []) (ks := []) (xs := ["script"]) (args := [.lst (zl sc)]) rfl ?_) ⟨rfl, rfl, rfl⟩ fun L => ?_⟩
  · exact Binds.of1 fun _ => rfl
  · show XT _ _ _ _ _ _ [("script", .lst (zl sc))] _ _
    refine law_cells T hl ?_
    generalize cellsAt sc sc.length = c at *
    refine law_money T hc ?_
    refine law_world (k := k+6) T hc ?_
    refine law_acts (k := k+3) T hc f1 ?_
    refine law_count (k := k+3) T f0 cnt ?_
    refine law_rounds (k := k+3) T (gam_beside c) f2 ?_
    refine law_check (k := k+3) T f hp hs r1 ?_ hd
    have lE := run_len r1 (n := 0) (fun _ _ => Nat.le_refl 0)
    have nd := f.nDeeds
    refine law_tell (k := k) (M := 250) T f he (by omega) (fun x y => by have := lE x y; omega) r2 hF hpc hd ?_
    exact law_end T f hhb
end
section
open PySem PySem.W PyProof.Rows
set_option maxRecDepth 100000
set_option maxHeartbeats 4000000
theorem zl_rel {ρ : Place} {σ : Store} {h : Heap} : ∀ {vs : List Value} {ns : List Int}, IntsAre vs ns → VRels ρ σ h (zl ns) vs
  | _, _, .nil => .nil
  | _, _, .cons n t x => .cons (.int n t) (zl_rel x)
theorem ns_same {h : Heap} {a : Addr} {m m' : Str → Option Value} (x : h.Ns a m) (y : h.Ns a m') : ∀ z, m z = m' z := by
  obtain ⟨o, es, ep, e, d, _, f⟩ := x
  obtain ⟨o', es', ep', e', d', _, f'⟩ := y
  rw [e] at e'; cases e'; rw [d] at d'; cases d'
  intro z; rw [← f, ← f']
theorem walk (good : ∀ c : List Int, c.length = 13 → Good c) : WalkO qv loose (fun _ _ => True) TopG rwL.row.toRowW lawD [] fun f vs => PySem.call f vs := by
  intro w s₀ s₁ mg mb G Y a o pm cd doc dV kV ho hd hcd hD hmg hg args vals as hpre hlay hrd hwl hlo
  refine Ground.open G ?_
  intro T B D TE TW
  wrow_args hpre hlay hrd hwl hlo
  rename_i ns _ _ _ _ _ _ _ lst vs _ hL ra w1 r0 hI _ hlen _
  obtain ⟨YK, m, hm, hgt, hbt, hsy⟩ := Y
  have em := ns_same hm T.g
  have tp : Tp w s₁.heap := ⟨YK, T.nolimit, hsy, mg, mb, T.g, T.b, fun p hp => by rw [← em]; exact hgt p hp, fun p hp => by
    obtain ⟨h1, h2, h3⟩ := btabV_ok p hp
    exact ⟨by rw [← em]; exact hbt _ h1, by rw [T.builtins _ h2]; exact h3⟩⟩
  have ea : a = 288 := by
    have h1 := hgt ("law", .ref 288) (by decide +kernel)
    rw [em] at h1
    have h2 : mg "law" = some (.ref a) := hmg
    rw [h1] at h2; cases h2; rfl
  subst ea
  have hl : ns.length ≤ 63 := by omega
  obtain ⟨σ', fn⟩ := law_ok (k := 0) tp hl (good _ (cellsAt_len ..))
  have R : Rel w s₁.heap ⟨fun _ => 0, fun _ => False⟩ free0 s₁.heap := ⟨.refl _, fun _ => .free, fun n m h => absurd rfl h, fun n h => absurd rfl h, fun _ h => h.elim⟩
  have rm : Rm (0 + 10) callerA := ⟨rfl, by decide, by decide⟩
  refine fn.out callerA rm _ s₁ [.ref lst] [] R (.cons (.lst hL (by rintro (⟨n, hn, _⟩ | h); exact hn rfl; exact h) (zl_rel hI)) .nil) .nil _ _ fun ρ' h' tk V ev R' r => ?_
  cases r
  refine ⟨.inl ⟨.bool true, .bool true, [], rfl, fun cls => ?_, .bool true, ?_, fun _ => ⟨.nil, fun _ h => absurd h List.not_mem_nil⟩⟩, .of_keep fun b o e => ev.keep b o e (fun n _ hn => absurd rfl hn) id, rfl, .of_eq hg⟩
  · kernel_rfl
  · kernel_rfl
theorem holds (good : ∀ c : List Int, c.length = 13 → Good c) : rwL.Holds := head (walk good)
end
section
theorem eats_of {E : St} : ∀ (pic : List Pc) (l : Nat → Nat → List Nat), (∀ p ∈ pic, p.j = 3 → E.h p.i = p.x ∧ E.b p.i = p.y) → (∀ i j, j ≠ 3 → l i j = recd pic i j) → eats E pic l
  | [], l, _, h => fun i hi j hj => h i j (by omega)
  | p :: r, l, h1, h2 => by
    have e : p :: r = [p] ++ r := rfl
    rw [eats]
    by_cases q : p.j = 3
    · rw [if_pos q]
      obtain ⟨a, b⟩ := h1 p List.mem_cons_self q
      refine ⟨a, b, eats_of r l (fun x hx => h1 x (List.mem_cons_of_mem _ hx)) fun i j hj => ?_⟩
      rw [h2 i j hj, e, recd_append, recd_one, if_neg (fun z => hj (z.2.trans q))]; rfl
    · rw [if_neg q]
      refine ⟨recd r p.i p.j, ?_, eats_of r _ (fun x hx => h1 x (List.mem_cons_of_mem _ hx)) fun i j hj => ?_⟩
      · rw [h2 _ _ q, e, recd_append, recd_one, if_pos ⟨rfl, rfl⟩]; rfl
      · by_cases z : i = p.i ∧ j = p.j
        · obtain ⟨rfl, rfl⟩ := z; rw [rs_self]
        · rw [rs_ne z, h2 i j hj, e, recd_append, recd_one, if_neg z]; rfl
theorem Ok.fine {N : Nat} {s : Gs} (o : Ok N s) (h : N ≤ 250) : Fine 250 s := by
  have o := o.mono h
  refine ⟨fun x hx => ?_, o.order, o.all, fun k hk => by have := o.hand hk; omega, o.nPost, o.nPic, o.nOrder, o.nStars, o.nDeeds⟩
  obtain ⟨h1, h2, h3, h4⟩ := o.post x hx
  refine ⟨h1, h2, h4, fun n hn => ?_⟩
  have hw := wt_mem hx
  have ht := o.tot
  unfold Mine.tot at ht
  have : val1 x.2.2.2 = n := by rw [hn]; rfl
  omega
theorem good (c : List Int) (hc : c.length = 13) : Good c := by
  have hb := hand0_le c
  have hn : (c.drop 3).length = 10 := by rw [List.length_drop, hc]
  have A := acts_all hb (c.drop 3)
  obtain ⟨o1, i1, m1⟩ := A 10 (by omega)
  obtain ⟨o2, i2, m2, a2⟩ := wake_all o1 i1
  have R := rnds_all o2 i2 a2
  refine ⟨fun t ht => (A t (by omega)).1.fine (by omega), fun t ht => (R t).1.fine (by omega), o2.count, ?_⟩
  rintro s rfl
  obtain ⟨o3, i3, a3, m3⟩ := R 20
  have hp : (rnds (wake (acts (start (hand0 c) (bank0 c)) (c.drop 3) 10)) 20).post = [] := by
    rcases m3 with h | h
    · exact h
    · omega
  have al := all_seen i3 hp a3
  obtain ⟨E, re, rf, un, ho, rd⟩ := i3.ex
  have ec : ∀ i j, chan (rnds (wake (acts (start (hand0 c) (bank0 c)) (c.drop 3) 10)) 20).post i j = [] := fun i j => by rw [hp]; rfl
  refine ⟨hp, ⟨al 0 (by decide), al 1 (by decide), al 2 (by decide)⟩, o3.pic, o3.deeds, E, cur _, re, rf, eats_of _ _ ho fun i j hj => ?_, fun i _ j _ => ?_, fun i _ => ⟨rfl, rfl⟩⟩
  · rw [rd i j hj, ec]
    split <;> simp [pre]
  · show lets (chan _ i j) = []
    rw [ec]; rfl
theorem the_law : rwL.Holds := holds good
end
end Mine
set_option maxRecDepth 100000 in
set_option maxHeartbeats 8000000 in
theorem PySem.Challenge.cw_yf0032_01_holds : PySem.Challenge.rw_yf0032_01.Holds := by
  exact Mine.the_law
