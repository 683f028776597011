import PyProof.Rows.All
import PyProof.IsiH_list
import KE.KAnyBase
import KE.KCallOwn
import KE.KSuper
import OpenK.XOpen
import OpenK.ZHead
import Wide.FinOn
import OpenK.AllK
import Wide.All
import Lean
import PySem.Challenge.RW_xj0027_01
section
open PySem PySem.W PyProof.Rows PySem.Calls
set_option Elab.async false
set_option maxRecDepth 100000
namespace Mine
noncomputable abbrev pw : Program := PySem.Challenge.pw_xj0027_01
noncomputable def sM (i : Nat) : Stmt := pw.main.body.getD i (.Pass ⟨0, 0, 0, 0⟩)
noncomputable def sC (i j : Nat) : Stmt := match sM i with
  | .ClassDef _ _ _ b _ _ _ _ _ _ _ => b.getD j (.Pass ⟨0, 0, 0, 0⟩)
  | _ => .Pass ⟨0, 0, 0, 0⟩
noncomputable def fD (s : Stmt) (n q : Str) (pm code dV ct : Value) (cl : List (Str × Addr)) : FuncData := match s with
  | .FunctionDef _ a b _ _ _ sc _ _ _ => { name := n, qualname := q, params := a, body := .stmts b, scope := sc, globals := mainGlobals, closure := cl, defaults := dV, kwdefaults := .none, doc := .none, pyModule := pm, code := code, closureTuple := ct, builtins := builtinsNs }
  | _ => default
noncomputable def Kx (P : Params) : Frag := [
  (2, ⟨.none, none, .dict (List.toArray [⟨PyData.keyHash P "\x69mport.loaded._sre", .str "\x69mport.loaded._sre" 183, .bool true⟩, ⟨PyData.keyHash P "class._frozen_importlib.BuiltinImporter", .str "class._frozen_importlib.BuiltinImporter" 185, .ref 14⟩, ⟨PyData.keyHash P "watched.\x69mport", .str "watched.\x69mport" 206, .ref 18⟩, ⟨PyData.keyHash P "class._frozen_importlib.ModuleSpec", .str "class._frozen_importlib.ModuleSpec" 216, .ref 22⟩, ⟨PyData.keyHash P "sys.modules.booked-epoch", .str "sys.modules.booked-epoch" 245, .int 3 0⟩, ⟨PyData.keyHash P "\x69mport.later-laid._sre", .str "\x69mport.later-laid._sre" 270, .bool true⟩, ⟨PyData.keyHash P "watched.library", .str "watched.library" 272, .ref 27⟩, ⟨PyData.keyHash P "watched.library-objects", .str "watched.library-objects" 0, .str "\x0c" 0⟩, ⟨PyData.keyHash P "watched.library-deep._sre", .str "watched.library-deep._sre" 273, .str "\x04\x00\x00\x0b\x04\x00\x00\x0b\x04\x00\x00\x03\x04\x00\x00\x0b\x08\x04dict\x02" 0⟩]) 9, List.toArray []⟩),
  (3, ⟨.type "dict", none, .dict (List.toArray [⟨PyData.keyHash P "__name__", .str "__name__" 165, .str "law_xj0027_01" 622⟩, ⟨PyData.keyHash P "__doc__", .str "__doc__" 166, .none⟩, ⟨PyData.keyHash P "__package__", .str "__package__" 167, .none⟩, ⟨PyData.keyHash P "__loader__", .str "__loader__" 168, .builtin "__main__.__loader__#opaque"⟩, ⟨PyData.keyHash P "__spec__", .str "__spec__" 169, .none⟩, ⟨PyData.keyHash P "__annotations__", .str "__annotations__" 170, .ref 6⟩, ⟨PyData.keyHash P "__builtins__", .str "__builtins__" 171, .ref 4⟩, ⟨PyData.keyHash P "__file__", .str "__file__" 173, .str "/claim/cut.py" 172⟩, ⟨PyData.keyHash P "__cached__", .str "__cached__" 174, .none⟩, ⟨PyData.keyHash P "_sre", .str "_sre" 275, .ref 12⟩, ⟨PyData.keyHash P "_wall", .str "_wall" 288, .ref 38⟩, ⟨PyData.keyHash P "_twin_re_1", .str "_twin_re_1" 306, .ref 43⟩, ⟨PyData.keyHash P "_twin_re_2", .str "_twin_re_2" 348, .ref 48⟩, ⟨PyData.keyHash P "CRLF", .str "CRLF" 350, .str "\x0d\n" 349⟩, ⟨PyData.keyHash P "quotedata", .str "quotedata" 357, .ref 55⟩, ⟨PyData.keyHash P "NL", .str "NL" 361, .str "\n" 360⟩, ⟨PyData.keyHash P "EMPTYSTRING", .str "EMPTYSTRING" 363, .str "" 362⟩, ⟨PyData.keyHash P "_ValueFormatter", .str "_ValueFormatter" 471, .ref 128⟩, ⟨PyData.keyHash P "_Accumulator", .str "_Accumulator" 567, .ref 212⟩, ⟨PyData.keyHash P "lt", .str "lt" 577, .ref 223⟩, ⟨PyData.keyHash P "gt", .str "gt" 585, .ref 230⟩, ⟨PyData.keyHash P "concat", .str "concat" 594, .ref 237⟩, ⟨PyData.keyHash P "countOf", .str "countOf" 604, .ref 244⟩, ⟨PyData.keyHash P "getitem", .str "getitem" 612, .ref 251⟩, ⟨PyData.keyHash P "setitem", .str "setitem" 621, .ref 258⟩, ⟨PyData.keyHash P "_law_turned", .str "_law_turned" 630, .ref 265⟩, ⟨PyData.keyHash P "law", .str "law" 636, .ref 270⟩]) 27, List.toArray []⟩),
  (4, ⟨.type "module", some 0, .plain, List.toArray []⟩),
  (42, ⟨.type "tuple", none, .seq (List.toArray [.int 14 0, .int 4 0, .int 0 0, .int 1 0, .int 1 0, .int 6 0, .int 1 0, .int 16 0, .int 46 0, .int 1 0]) 0, List.toArray []⟩),
  (43, ⟨.type "re.Pattern", none, .fields (List.toArray [.str "(?m)^\\." 292, .int 40 305, .int 0 0, .none, .none, .ref 42, .int 0 0]), List.toArray []⟩),
  (47, ⟨.type "tuple", none, .seq (List.toArray [.int 14 0, .int 9 0, .int 4 0, .int 1 0, .int 2 0, .int 16 0, .int 10 0, .int 16 0, .int 13 0, .int 0 0, .int 7 0, .int 7 0, .int 16 0, .int 13 0, .int 16 0, .int 10 0, .int 15 0, .int 18 0, .int 5 0, .int 16 0, .int 10 0, .int 15 0, .int 13 0, .int 11 0, .int 16 0, .int 13 0, .int 5 0, .int 5 0, .int 0 0, .int 16 0, .int 10 0, .int 1 0, .int 15 0, .int 2 0, .int 0 0, .int 1 0]) 0, List.toArray []⟩),
  (48, ⟨.type "re.Pattern", none, .fields (List.toArray [.str "(?:\\r\\n|\\n|\\r(?!\\n))" 308, .int 32 347, .int 0 0, .none, .none, .ref 47, .int 0 0]), List.toArray []⟩),
  (54, ⟨.type "code", none, .fields (List.toArray [.str "quotedata" 351, .str "quotedata" 352, .str "/claim/cut.py" 353, .int 9 0, .int 1 0, .int 0 0, .int 0 0, .int 3 0, .ref 49, .bool true, .int 276 0, .ref 50, .none, .ref 51, .ref 52, .ref 53, .int 355 0, .int 9 0, .str "/claim/cut.py" 356]), List.toArray []⟩),
  (55, ⟨.type "function", none, .func (fD (sM 6) "quotedata" "quotedata" (.str "cpy313.smtplib" 289) (.ref 54) (.none) (.none) []), List.toArray []⟩),
  (68, ⟨.type "code", none, .fields (List.toArray [.str "__init__" 376, .str "_ValueFormatter.__init__" 377, .str "/claim/cut.py" 378, .int 16 0, .int 5 0, .int 0 0, .int 0 0, .int 3 0, .ref 63, .bool true, .int 276 0, .ref 64, .none, .ref 65, .ref 66, .ref 67, .int 384 0, .int 16 0, .str "/claim/cut.py" 385]), List.toArray []⟩),
  (69, ⟨.type "function", none, .func (fD (sC 10 0) "__init__" "_ValueFormatter.__init__" (.str "cpy313.email.header" 358) (.ref 68) (.none) (.none) []), List.toArray []⟩),
  (75, ⟨.type "code", none, .fields (List.toArray [.str "_str" 387, .str "_ValueFormatter._str" 388, .str "/claim/cut.py" 389, .int 24 0, .int 2 0, .int 0 0, .int 0 0, .int 3 0, .ref 70, .bool true, .int 276 0, .ref 71, .none, .ref 72, .ref 73, .ref 74, .int 392 0, .int 24 0, .str "/claim/cut.py" 393]), List.toArray []⟩),
  (76, ⟨.type "function", none, .func (fD (sC 10 1) "_str" "_ValueFormatter._str" (.str "cpy313.email.header" 358) (.ref 75) (.none) (.none) []), List.toArray []⟩),
  (89, ⟨.type "code", none, .fields (List.toArray [.str "newline" 402, .str "_ValueFormatter.newline" 403, .str "/claim/cut.py" 404, .int 31 0, .int 1 0, .int 0 0, .int 0 0, .int 3 0, .ref 84, .bool true, .int 276 0, .ref 85, .none, .ref 86, .ref 87, .ref 88, .int 407 0, .int 31 0, .str "/claim/cut.py" 408]), List.toArray []⟩),
  (90, ⟨.type "function", none, .func (fD (sC 10 3) "newline" "_ValueFormatter.newline" (.str "cpy313.email.header" 358) (.ref 89) (.none) (.none) []), List.toArray []⟩),
  (124, ⟨.type "code", none, .fields (List.toArray [.str "_append_chunk" 444, .str "_ValueFormatter._append_chunk" 445, .str "/claim/cut.py" 446, .int 54 0, .int 3 0, .int 0 0, .int 0 0, .int 3 0, .ref 119, .bool true, .int 276 0, .ref 120, .none, .ref 121, .ref 122, .ref 123, .int 455 0, .int 54 0, .str "/claim/cut.py" 456]), List.toArray []⟩),
  (125, ⟨.type "function", none, .func (fD (sC 10 8) "_append_chunk" "_ValueFormatter._append_chunk" (.str "cpy313.email.header" 358) (.ref 124) (.none) (.none) []), List.toArray []⟩),
  (127, ⟨.type "dict", none, .dict (List.toArray [⟨PyData.keyHash P "__module__", .str "__module__" 371, .str "cpy313.email.header" 358⟩, ⟨PyData.keyHash P "__firstlineno__", .str "__firstlineno__" 375, .int 14 374⟩, ⟨PyData.keyHash P "__init__", .str "__init__" 386, .ref 69⟩, ⟨PyData.keyHash P "_str", .str "_str" 394, .ref 76⟩, ⟨PyData.keyHash P "__str__", .str "__str__" 401, .ref 83⟩, ⟨PyData.keyHash P "newline", .str "newline" 409, .ref 90⟩, ⟨PyData.keyHash P "add_transition", .str "add_transition" 416, .ref 97⟩, ⟨PyData.keyHash P "feed", .str "feed" 426, .ref 104⟩, ⟨PyData.keyHash P "_maxlengths", .str "_maxlengths" 433, .ref 111⟩, ⟨PyData.keyHash P "_ascii_split", .str "_ascii_split" 443, .ref 118⟩, ⟨PyData.keyHash P "_append_chunk", .str "_append_chunk" 457, .ref 125⟩, ⟨PyData.keyHash P "__static_attributes__", .str "__static_attributes__" 464, .ref 126⟩, ⟨PyData.keyHash P "__dict__", .str "__dict__" 466, .ref 129⟩, ⟨PyData.keyHash P "__weakref__", .str "__weakref__" 468, .ref 130⟩, ⟨PyData.keyHash P "__doc__", .str "__doc__" 469, .none⟩]) 4, List.toArray []⟩),
  (128, ⟨.type "type", none, .cls { name := "_ValueFormatter", bases := [.type "object"], mro := [.ref 128, .type "object"], ns := 127, qualname := "_ValueFormatter", hasDict := true }, List.toArray [none, none, some (.str "_ValueFormatter" 364), some (.str "_ValueFormatter" 372), some (.builtin "object.__new__"), some (.bool true)]⟩),
  (136, ⟨.type "cell", none, .cell (some (.ref 212)), List.toArray []⟩),
  (141, ⟨.type "tuple", none, .seq (List.toArray [.int 0 484]) 0, List.toArray []⟩),
  (148, ⟨.type "code", none, .fields (List.toArray [.str "__init__" 485, .str "_Accumulator.__init__" 486, .str "/claim/cut.py" 487, .int 82 0, .int 2 0, .int 0 0, .int 0 0, .int 3 0, .ref 143, .bool true, .int 276 0, .ref 144, .none, .ref 145, .ref 146, .ref 147, .int 491 0, .int 82 0, .str "/claim/cut.py" 492]), List.toArray []⟩),
  (149, ⟨.type "function", none, .func (fD (sC 11 0) "__init__" "_Accumulator.__init__" (.str "cpy313.email.header" 358) (.ref 148) (.ref 141) (.ref 142) [("__class__", 136)]), List.toArray []⟩),
  (155, ⟨.type "code", none, .fields (List.toArray [.str "push" 494, .str "_Accumulator.push" 495, .str "/claim/cut.py" 496, .int 86 0, .int 3 0, .int 0 0, .int 0 0, .int 3 0, .ref 150, .bool true, .int 276 0, .ref 151, .none, .ref 152, .ref 153, .ref 154, .int 500 0, .int 86 0, .str "/claim/cut.py" 501]), List.toArray []⟩),
  (156, ⟨.type "function", none, .func (fD (sC 11 1) "push" "_Accumulator.push" (.str "cpy313.email.header" 358) (.ref 155) (.none) (.none) []), List.toArray []⟩),
  (157, ⟨.type "tuple", none, .seq (List.toArray [.int 0 503]) 0, List.toArray []⟩),
  (163, ⟨.type "code", none, .fields (List.toArray [.str "pop_from" 504, .str "_Accumulator.pop_from" 505, .str "/claim/cut.py" 506, .int 89 0, .int 2 0, .int 0 0, .int 0 0, .int 3 0, .ref 158, .bool true, .int 276 0, .ref 159, .none, .ref 160, .ref 161, .ref 162, .int 510 0, .int 89 0, .str "/claim/cut.py" 511]), List.toArray []⟩),
  (164, ⟨.type "function", none, .func (fD (sC 11 2) "pop_from" "_Accumulator.pop_from" (.str "cpy313.email.header" 358) (.ref 163) (.ref 157) (.none) []), List.toArray []⟩),
  (171, ⟨.type "code", none, .fields (List.toArray [.str "pop" 513, .str "_Accumulator.pop" 514, .str "/claim/cut.py" 515, .int 94 0, .int 1 0, .int 0 0, .int 0 0, .int 3 0, .ref 166, .bool true, .int 276 0, .ref 167, .none, .ref 168, .ref 169, .ref 170, .int 518 0, .int 94 0, .str "/claim/cut.py" 519]), List.toArray []⟩),
  (172, ⟨.type "function", none, .func (fD (sC 11 3) "pop" "_Accumulator.pop" (.str "cpy313.email.header" 358) (.ref 171) (.none) (.ref 165) [("__class__", 136)]), List.toArray []⟩),
  (178, ⟨.type "code", none, .fields (List.toArray [.str "__len__" 521, .str "_Accumulator.__len__" 522, .str "/claim/cut.py" 523, .int 99 0, .int 1 0, .int 0 0, .int 0 0, .int 3 0, .ref 173, .bool true, .int 276 0, .ref 174, .none, .ref 175, .ref 176, .ref 177, .int 525 0, .int 99 0, .str "/claim/cut.py" 526]), List.toArray []⟩),
  (179, ⟨.type "function", none, .func (fD (sC 11 4) "__len__" "_Accumulator.__len__" (.str "cpy313.email.header" 358) (.ref 178) (.none) (.none) []), List.toArray []⟩),
  (185, ⟨.type "code", none, .fields (List.toArray [.str "__str__" 528, .str "_Accumulator.__str__" 529, .str "/claim/cut.py" 530, .int 102 0, .int 1 0, .int 0 0, .int 0 0, .int 3 0, .ref 180, .bool true, .int 276 0, .ref 181, .none, .ref 182, .ref 183, .ref 184, .int 532 0, .int 102 0, .str "/claim/cut.py" 533]), List.toArray []⟩),
  (186, ⟨.type "function", none, .func (fD (sC 11 5) "__str__" "_Accumulator.__str__" (.str "cpy313.email.header" 358) (.ref 185) (.none) (.none) []), List.toArray []⟩),
  (187, ⟨.type "tuple", none, .seq (List.toArray [.none]) 0, List.toArray []⟩),
  (193, ⟨.type "code", none, .fields (List.toArray [.str "reset" 535, .str "_Accumulator.reset" 536, .str "/claim/cut.py" 537, .int 105 0, .int 2 0, .int 0 0, .int 0 0, .int 3 0, .ref 188, .bool true, .int 276 0, .ref 189, .none, .ref 190, .ref 191, .ref 192, .int 540 0, .int 105 0, .str "/claim/cut.py" 541]), List.toArray []⟩),
  (194, ⟨.type "function", none, .func (fD (sC 11 6) "reset" "_Accumulator.reset" (.str "cpy313.email.header" 358) (.ref 193) (.ref 187) (.none) []), List.toArray []⟩),
  (200, ⟨.type "code", none, .fields (List.toArray [.str "is_onlyws" 543, .str "_Accumulator.is_onlyws" 544, .str "/claim/cut.py" 545, .int 111 0, .int 1 0, .int 0 0, .int 0 0, .int 3 0, .ref 195, .bool true, .int 276 0, .ref 196, .none, .ref 197, .ref 198, .ref 199, .int 547 0, .int 111 0, .str "/claim/cut.py" 548]), List.toArray []⟩),
  (201, ⟨.type "function", none, .func (fD (sC 11 7) "is_onlyws" "_Accumulator.is_onlyws" (.str "cpy313.email.header" 358) (.ref 200) (.none) (.none) []), List.toArray []⟩),
  (208, ⟨.type "code", none, .fields (List.toArray [.str "part_count" 550, .str "_Accumulator.part_count" 551, .str "/claim/cut.py" 552, .int 114 0, .int 1 0, .int 0 0, .int 0 0, .int 3 0, .ref 203, .bool true, .int 276 0, .ref 204, .none, .ref 205, .ref 206, .ref 207, .int 555 0, .int 114 0, .str "/claim/cut.py" 556]), List.toArray []⟩),
  (209, ⟨.type "function", none, .func (fD (sC 11 8) "part_count" "_Accumulator.part_count" (.str "cpy313.email.header" 358) (.ref 208) (.none) (.ref 202) [("__class__", 136)]), List.toArray []⟩),
  (211, ⟨.type "dict", none, .dict (List.toArray [⟨PyData.keyHash P "__module__", .str "__module__" 479, .str "cpy313.email.header" 358⟩, ⟨PyData.keyHash P "__firstlineno__", .str "__firstlineno__" 483, .int 80 482⟩, ⟨PyData.keyHash P "__init__", .str "__init__" 493, .ref 149⟩, ⟨PyData.keyHash P "push", .str "push" 502, .ref 156⟩, ⟨PyData.keyHash P "pop_from", .str "pop_from" 512, .ref 164⟩, ⟨PyData.keyHash P "pop", .str "pop" 520, .ref 172⟩, ⟨PyData.keyHash P "__len__", .str "__len__" 527, .ref 179⟩, ⟨PyData.keyHash P "__str__", .str "__str__" 534, .ref 186⟩, ⟨PyData.keyHash P "reset", .str "reset" 542, .ref 194⟩, ⟨PyData.keyHash P "is_onlyws", .str "is_onlyws" 549, .ref 201⟩, ⟨PyData.keyHash P "part_count", .str "part_count" 557, .ref 209⟩, ⟨PyData.keyHash P "__static_attributes__", .str "__static_attributes__" 559, .ref 210⟩, ⟨PyData.keyHash P "__dict__", .str "__dict__" 562, .ref 213⟩, ⟨PyData.keyHash P "__weakref__", .str "__weakref__" 564, .ref 214⟩, ⟨PyData.keyHash P "__doc__", .str "__doc__" 565, .none⟩]) 5, List.toArray []⟩),
  (212, ⟨.type "type", none, .cls { name := "_Accumulator", bases := [.type "list"], mro := [.ref 212, .type "list", .type "object"], ns := 211, qualname := "_Accumulator", hasDict := true }, List.toArray [some (.ref 133), none, some (.str "_Accumulator" 472), some (.str "_Accumulator" 480), some (.builtin "list.__new__"), some (.bool true)]⟩),
  (222, ⟨.type "code", none, .fields (List.toArray [.str "lt" 570, .str "lt" 571, .str "/claim/cut.py" 572, .int 117 0, .int 2 0, .int 0 0, .int 0 0, .int 3 0, .ref 217, .bool true, .int 276 0, .ref 218, .none, .ref 219, .ref 220, .ref 221, .int 575 0, .int 117 0, .str "/claim/cut.py" 576]), List.toArray []⟩),
  (223, ⟨.type "function", none, .func (fD (sM 13) "lt" "lt" (.str "cpy313.operator" 568) (.ref 222) (.none) (.none) []), List.toArray []⟩),
  (229, ⟨.type "code", none, .fields (List.toArray [.str "gt" 578, .str "gt" 579, .str "/claim/cut.py" 580, .int 119 0, .int 2 0, .int 0 0, .int 0 0, .int 3 0, .ref 224, .bool true, .int 276 0, .ref 225, .none, .ref 226, .ref 227, .ref 228, .int 583 0, .int 119 0, .str "/claim/cut.py" 584]), List.toArray []⟩),
  (230, ⟨.type "function", none, .func (fD (sM 14) "gt" "gt" (.str "cpy313.operator" 568) (.ref 229) (.none) (.none) []), List.toArray []⟩),
  (236, ⟨.type "code", none, .fields (List.toArray [.str "concat" 586, .str "concat" 587, .str "/claim/cut.py" 588, .int 121 0, .int 2 0, .int 0 0, .int 0 0, .int 3 0, .ref 231, .bool true, .int 276 0, .ref 232, .none, .ref 233, .ref 234, .ref 235, .int 592 0, .int 121 0, .str "/claim/cut.py" 593]), List.toArray []⟩),
  (237, ⟨.type "function", none, .func (fD (sM 15) "concat" "concat" (.str "cpy313.operator" 568) (.ref 236) (.none) (.none) []), List.toArray []⟩),
  (243, ⟨.type "code", none, .fields (List.toArray [.str "countOf" 595, .str "countOf" 596, .str "/claim/cut.py" 597, .int 126 0, .int 2 0, .int 0 0, .int 0 0, .int 3 0, .ref 238, .bool true, .int 276 0, .ref 239, .none, .ref 240, .ref 241, .ref 242, .int 602 0, .int 126 0, .str "/claim/cut.py" 603]), List.toArray []⟩),
  (244, ⟨.type "function", none, .func (fD (sM 16) "countOf" "countOf" (.str "cpy313.operator" 568) (.ref 243) (.none) (.none) []), List.toArray []⟩),
  (250, ⟨.type "code", none, .fields (List.toArray [.str "getitem" 605, .str "getitem" 606, .str "/claim/cut.py" 607, .int 132 0, .int 2 0, .int 0 0, .int 0 0, .int 3 0, .ref 245, .bool true, .int 276 0, .ref 246, .none, .ref 247, .ref 248, .ref 249, .int 610 0, .int 132 0, .str "/claim/cut.py" 611]), List.toArray []⟩),
  (251, ⟨.type "function", none, .func (fD (sM 17) "getitem" "getitem" (.str "cpy313.operator" 568) (.ref 250) (.none) (.none) []), List.toArray []⟩),
  (257, ⟨.type "code", none, .fields (List.toArray [.str "setitem" 613, .str "setitem" 614, .str "/claim/cut.py" 615, .int 134 0, .int 3 0, .int 0 0, .int 0 0, .int 3 0, .ref 252, .bool true, .int 276 0, .ref 253, .none, .ref 254, .ref 255, .ref 256, .int 619 0, .int 134 0, .str "/claim/cut.py" 620]), List.toArray []⟩),
  (258, ⟨.type "function", none, .func (fD (sM 18) "setitem" "setitem" (.str "cpy313.operator" 568) (.ref 257) (.none) (.none) []), List.toArray []⟩),
  (264, ⟨.type "code", none, .fields (List.toArray [.str "_law_turned" 624, .str "_law_turned" 625, .str "/claim/cut.py" 626, .int 137 0, .int 1 0, .int 0 0, .int 0 0, .int 3 0, .ref 259, .bool true, .int 276 0, .ref 260, .none, .ref 261, .ref 262, .ref 263, .int 628 0, .int 137 0, .str "/claim/cut.py" 629]), List.toArray []⟩),
  (265, ⟨.type "function", none, .func (fD (sM 20) "_law_turned" "_law_turned" (.str "law_xj0027_01" 622) (.ref 264) (.none) (.none) []), List.toArray []⟩),
  (269, ⟨.type "code", none, .fields (List.toArray [.str "law" 631, .str "law" 632, .str "/claim/cut.py" 633, .int 139 0, .int 1 0, .int 0 0, .int 0 0, .int 3 0, .ref 266, .bool true, .int 276 0, .ref 267, .none, .none, .none, .ref 268, .int 634 0, .int 139 0, .str "/claim/cut.py" 635]), List.toArray []⟩),
  (270, ⟨.type "function", none, .func (fD (sM 21) "law" "law" (.str "law_xj0027_01" 622) (.ref 269) (.none) (.none) []), List.toArray []⟩)
]
end Mine
end
section
open PySem PySem.W PyProof.Rows PySem.Calls
set_option Elab.async false
set_option maxRecDepth 100000
namespace Mine
noncomputable def asx : List Addr := [2, 3, 4, 42, 43, 47, 48, 54, 55, 68, 69, 75, 76, 89, 90, 124, 125, 127, 128, 136, 141, 148, 149, 155, 156, 157, 163, 164, 171, 172, 178, 179, 185, 186, 187, 193, 194, 200, 201, 208, 209, 211, 212, 222, 223, 229, 230, 236, 237, 243, 244, 250, 251, 257, 258, 264, 265, 269, 270]
noncomputable def Kt : List (Option Obj) := [some { cls := .none, data := .fields #[] }, some { cls := .none, data := .fields #[] }]
noncomputable def obsX (s : Shared) : (List (Option Obj) × Nat × Nat) × List (Option Obj) := ((asx.map s.heap.get?, s.heap.objs.size, s.toks), [174, 181].map s.heap.get?)
noncomputable def valX (w : World) : (List (Option Obj) × Nat × Nat) × List (Option Obj) := (((Kx w.params).map fun p => some p.2, 271, 637), Kt)
noncomputable def qx : Program := view pw [21]
noncomputable def loosex : List Str := ["_twin_re_1", "_twin_re_2", "_Accumulator", "_sre", "_wall", "CRLF", "quotedata", "NL", "EMPTYSTRING", "_ValueFormatter", "lt", "gt", "concat", "countOf", "getitem", "setitem", "_law_turned"]
noncomputable abbrev Xtx (s : Shared) : Bool := xlAt qx [] s && recOk (RowW.records PySem.Challenge.rw_xj0027_01.row.toRowW) s
set_option maxHeartbeats 0 in
theorem left0 : LeftO PySem.Challenge.rw_xj0027_01.row.toRowW.prog qx loosex Xtx obsX valX 3128 := fun w => by kernel_rfl
end Mine
end
section
open PySem PySem.W PyProof.Rows PySem.Calls
set_option Elab.async false
namespace Mine

inductive U where
  | b (x : Bool)
  | i (n : Int)
  | s (t : Str)
inductive V where
  | u (x : U)
  | l (xs : List U)
  | z (xs : List Str)

noncomputable def RepU (v : Value) : U → Prop
  | .b x => v = .bool x
  | .i n => ∃ t, v = .int n t
  | .s t => ∃ k, v = .str t k

inductive Reps : List Value → List U → Prop where
  | nil : Reps [] []
  | cons {v : Value} {u : U} {vs : List Value} {us : List U} : RepU v u → Reps vs us → Reps (v :: vs) (u :: us)

/-- texts made one behind the other: their tokens follow on each other, none is the interpreter's own -/
inductive RepK : Nat → List Value → List Str → Prop where
  | nil {k : Nat} : RepK k [] []
  | cons {t : Str} {k : Nat} {vs : List Value} {ts : List Str} : RepK (k + 1) vs ts → RepK k (.str t k :: vs) (t :: ts)
noncomputable def RepZ (vs : List Value) (ts : List Str) : Prop := ∃ k, k ≠ 0 ∧ RepK k vs ts
theorem RepK.reps {k : Nat} {vs : List Value} {ts : List Str} (h : RepK k vs ts) : Reps vs (ts.map .s) := by
  induction h with
  | nil => exact .nil
  | cons _ ih => exact .cons ⟨_, rfl⟩ ih
theorem RepZ.reps {vs : List Value} {ts : List Str} (h : RepZ vs ts) : Reps vs (ts.map .s) := let ⟨_, _, h⟩ := h; h.reps

noncomputable def RepV (h : Heap) (v : Value) : V → Prop
  | .u x => RepU v x
  | .l xs => ∃ a vs n, v = .ref a ∧ h.get? a = some { cls := .type "list", data := .seq (List.toArray vs) n } ∧ Reps vs xs
  | .z xs => ∃ a vs n, v = .ref a ∧ h.get? a = some { cls := .type "list", data := .seq (List.toArray vs) n } ∧ RepZ vs xs

noncomputable def okU : U → Bool
  | .b _ => true
  | .i _ => true
  | .s t => t.cps.size ≤ 4000
noncomputable def okV : V → Bool
  | .u x => okU x
  | .l xs => xs.length ≤ 4000 && xs.all okU
  | .z xs => xs.length ≤ 4000 && xs.all fun t => decide (t.cps.size ≤ 4000)
noncomputable def gd (v : V) : Option V := if okV v then some v else none

theorem gd_some {v x : V} (h : gd v = some x) : x = v ∧ okV v = true := by
  unfold gd at h
  split at h
  · exact ⟨(Option.some.inj h).symm, by assumption⟩
  · cases h

theorem Reps.length {vs : List Value} {us : List U} (h : Reps vs us) : vs.length = us.length := by
  induction h with
  | nil => rfl
  | cons _ _ ih => rw [List.length_cons, List.length_cons, ih]
theorem Reps.get {vs : List Value} {us : List U} (h : Reps vs us) : ∀ (i : Nat) (u : U), us[i]? = some u → ∃ v, vs[i]? = some v ∧ RepU v u := by
  induction h with
  | nil => intro i u e; simp at e
  | cons r _ ih =>
    intro i u e
    cases i with
    | zero => simp at e; subst e; exact ⟨_, by simp, r⟩
    | succ i => simpa using ih i u (by simpa using e)
theorem Reps.append {vs ws : List Value} {us xs : List U} (h : Reps vs us) (g : Reps ws xs) : Reps (vs ++ ws) (us ++ xs) := by
  induction h with
  | nil => exact g
  | cons r _ ih => exact .cons r ih
theorem Reps.at {vs : List Value} {us : List U} (h : Reps vs us) : ∀ (i : Nat) (v : Value), vs[i]? = some v → ∃ u, us[i]? = some u ∧ RepU v u := by
  induction h with
  | nil => intro i u e; simp at e
  | cons r _ ih =>
    intro i u e
    cases i with
    | zero => simp at e; subst e; exact ⟨_, by simp, r⟩
    | succ i => simpa using ih i u (by simpa using e)

theorem RepV.keep {h h' : Heap} (k : ∀ b o, h.get? b = some o → h'.get? b = some o) {v : Value} : ∀ {x : V}, RepV h v x → RepV h' v x
  | .u _, r => r
  | .l _, ⟨a, vs, n, e, ho, r⟩ => ⟨a, vs, n, e, k _ _ ho, r⟩
  | .z _, ⟨a, vs, n, e, ho, r⟩ => ⟨a, vs, n, e, k _ _ ho, r⟩

theorem isL {h : Heap} {a : Addr} {vs : List Value} {n : Nat} (e : h.get? a = some { cls := .type "list", data := .seq (List.toArray vs) n }) : h.IsList a vs.toArray := ⟨_, e, rfl, n, rfl⟩
theorem kpR (s : Shared) : Keeps s s := ⟨s.heap, s.toks, rfl, fun _ _ e => e⟩
theorem kpT {s s' s'' : Shared} (h : Keeps s s') (g : Keeps s' s'') : Keeps s s'' := by
  obtain ⟨h', tk, rfl, k⟩ := h
  obtain ⟨h'', tk', rfl, k'⟩ := g
  exact ⟨h'', tk', rfl, fun b o e => k' b o (k b o e)⟩
theorem kpK {s s' : Shared} (h : Keeps s s') : ∀ b o, s.heap.get? b = some o → s'.heap.get? b = some o := by
  obtain ⟨h', tk, rfl, k⟩ := h
  exact k
theorem kpOf {s : Shared} {h' : Heap} {tk : Nat} (k : ∀ b o, s.heap.get? b = some o → h'.get? b = some o) : Keeps s { s with heap := h', toks := tk } := ⟨h', tk, rfl, k⟩
theorem kpTok {s : Shared} {tk : Nat} : Keeps s { s with toks := tk } := ⟨s.heap, tk, rfl, fun _ _ e => e⟩
theorem kpPush {s : Shared} {o : Obj} {tk : Nat} : Keeps s { s with heap := s.heap.push o, toks := tk } := ⟨_, tk, rfl, fun _ _ e => Heap.get?_push_of_some _ e⟩

theorem RepU.fn {v : Value} : ∀ {x y : U}, RepU v x → RepU v y → x = y
  | .b _, .b _, a, b => by cases (show Value.bool _ = _ from (show v = _ from a).symm.trans b); rfl
  | .i _, .i _, ⟨_, a⟩, ⟨_, b⟩ => by cases a.symm.trans b; rfl
  | .s _, .s _, ⟨_, a⟩, ⟨_, b⟩ => by cases a.symm.trans b; rfl
  | .b _, .i _, a, ⟨_, b⟩ => by cases (show v = _ from a).symm.trans b
  | .b _, .s _, a, ⟨_, b⟩ => by cases (show v = _ from a).symm.trans b
  | .i _, .b _, ⟨_, a⟩, b => by cases a.symm.trans (show v = _ from b)
  | .i _, .s _, ⟨_, a⟩, ⟨_, b⟩ => by cases a.symm.trans b
  | .s _, .b _, ⟨_, a⟩, b => by cases a.symm.trans (show v = _ from b)
  | .s _, .i _, ⟨_, a⟩, ⟨_, b⟩ => by cases a.symm.trans b
/-- the variable's places -/
noncomputable def VarAt (env : Env) (h : Heap) (x : Str) (val : Value) : Prop :=
  (env.kindOf x = some .local ∧ ∃ m, h.Ns env.locals m ∧ m x = some val) ∨
  (env.kindOf x = some .cell ∧ ∃ c, env.cells.lookup x = some c ∧ h.IsCell c (some val))

theorem VarAt.keep {env : Env} {h h' : Heap} {x : Str} {val : Value} (k : ∀ b o, h.get? b = some o → h'.get? b = some o) (H : VarAt env h x val) : VarAt env h' x val := by
  rcases H with ⟨e, m, hn, hm⟩ | ⟨e, c, hc, o, ho, hd⟩
  · exact .inl ⟨e, m, hn.keeps k, hm⟩
  · exact .inr ⟨e, c, hc, o, k _ _ ho, hd⟩

noncomputable def look : List (Nat × V) → Nat → Option V
  | [], _ => none
  | (y, v) :: r, x => if y == x then some v else look r x

variable (nm : Nat → Str)
noncomputable def Acc (env : Env) (h : Heap) (ρ : List (Nat × V)) : Prop := ∀ x v, look ρ x = some v → ∃ val, RepV h val v ∧ okV v = true ∧ VarAt env h (nm x) val
theorem Acc.keep {env : Env} {h h' : Heap} {ρ : List (Nat × V)} (k : ∀ b o, h.get? b = some o → h'.get? b = some o) (H : Acc nm env h ρ) : Acc nm env h' ρ := fun x v e => by
  obtain ⟨val, r, o, a⟩ := H x v e
  exact ⟨val, r.keep k, o, a.keep k⟩

end Mine
end
section
open PySem PySem.W PyProof.Rows PySem.Calls
set_option Elab.async false
namespace Mine
section
variable {prog : Program} {w : World} {A : Around} {E : Value → Shared → Prop} {s : Shared}

/-- what a quiet step gives -/
noncomputable def Out (s : Shared) (fresh : Bool) (x : V) (v : Value) (s' : Shared) : Prop :=
  RepV s'.heap v x ∧ (fresh = true → ∀ a, v = .ref a → s.heap.get? a = none) ∧ Keeps s s' ∧ okV x = true

theorem Out.u {s s' : Shared} {fr : Bool} {x : U} {v : Value} (r : RepU v x) (k : Keeps s s') (ok : okV (.u x) = true) : Out s fr (.u x) v s' := by
  refine ⟨r, fun _ a e => ?_, k, ok⟩
  subst e
  cases x with
  | b x => cases (show Value.ref a = .bool x from r)
  | i n => obtain ⟨t, h⟩ := r; cases h
  | s t => obtain ⟨k, h⟩ := r; cases h

theorem getNone {h : Heap} {a : Addr} (ha : h.objs.size ≤ a) : h.get? a = none := by
  cases e : h.get? a with
  | none => rfl
  | some o => exact absurd (Heap.lt_size e) (Nat.not_lt.mpr ha)

theorem Out.push {s : Shared} {vs : List Value} {xs : List U} {tk : Nat} (r : Reps vs xs) (ok : okV (.l xs) = true) : Out s true (.l xs) (.ref s.heap.objs.size) { s with heap := s.heap.push { cls := .type "list", data := .seq vs.toArray }, toks := tk } := by
  refine ⟨⟨_, vs, 0, rfl, Heap.get?_push_size _ rfl, r⟩, fun _ a e => ?_, kpPush, ok⟩
  cases e
  exact getNone (Nat.le_refl _)

theorem Out.fr {s s' s'' : Shared} {fr : Bool} {x : V} {v : Value} (k : Keeps s s') (h : Out s' fr x v s'') : Out s fr x v s'' := by
  obtain ⟨h1, h2, h3, h4⟩ := h
  refine ⟨h1, fun f a e => ?_, kpT k h3, h4⟩
  cases q : s.heap.get? a with
  | none => rfl
  | some o => have z := h2 f a e; rw [kpK k _ _ q] at z; cases z

-- + on lists
theorem op_add_list {l b : Addr} {vs ws : List Value} {Q : Value → Shared → Prop} (hl : s.heap.IsList l vs.toArray) (hb : s.heap.IsList b ws.toArray) (hsz : vs.length + ws.length ≤ sizeLine)
    (h : Q (.ref s.heap.objs.size) { s with heap := s.heap.push { cls := .type "list", data := .seq (vs ++ ws).toArray } }) : wpAny (model prog w) A (binaryOp .Add (.ref l) (.ref b)) Q E s := by
  obtain ⟨⟨cls, dd, data, sl⟩, ho, hc, n, hd⟩ := id hl
  obtain ⟨⟨cls2, dd2, data2, sl2⟩, ho2, hc2, n2, hd2⟩ := id hb
  simp only at hc hd hc2 hd2
  subst hc hd hc2 hd2
  have e : vs.toArray ++ ws.toArray = (vs ++ ws).toArray := by simp
  refine concat_meets ⟨_, ho, rfl⟩ ⟨_, ho2, rfl⟩ noFill_list_add seq_list_add PySem.F.slot_list_add PySem.F.entry_list_add (PySem.F.args_list_add_2 _ _) (list_addW l b vs.toArray ws.toArray n n2 dd dd2 sl sl2 (by simpa using hsz)) ⟨ho, ho2, ?_⟩
  rw [e]
  exact h

theorem foldl_app {α : Type} (l : List (Array α)) (a : Array α) : l.foldl (fun x y => x ++ y) a = (a.toList ++ (l.map Array.toList).flatten).toArray := by
  induction l generalizing a with
  | nil => simp
  | cons b r ih => rw [List.foldl_cons, ih]; simp

theorem op_mul_list {l : Addr} {vs : List Value} {x : Int} {u : Tok} {k : Nat} {Q : Value → Shared → Prop} (hl : s.heap.get? l = some { cls := .type "list", data := .seq vs.toArray k }) (hlo : -(2 ^ 63 : Int) ≤ x) (hhi : x < 2 ^ 63) (hsz : vs.length * x.toNat ≤ 2 ^ 24)
    (h : Q (.ref s.heap.objs.size) { s with heap := s.heap.push { cls := .type "list", data := .seq ((List.replicate x.toNat vs).flatten).toArray } }) : wpAny (model prog w) A (binaryOp .Mult (.ref l) (.int x u)) Q E s := by
  have e : List.foldl (fun x1 x2 => x1 ++ x2) #[] (List.replicate (if vs.toArray.isEmpty = true then 0 else x.toNat) vs.toArray) = ((List.replicate x.toNat vs).flatten).toArray := by
    rw [foldl_app]
    congr 1
    cases vs with
    | nil => simp
    | cons a r => simp
  have hT : s.TypeIs (.ref l) "list" := ⟨_, hl, rfl⟩
  rw [← e] at h
  exact wpAny_binaryOp_repeat_ref (T := "list") (U := "int") (by decide) hT (fun s' => typeIs_int s' x u) noFill_list_mul F.fills_int_mul F.slot_int_rmul repeat_list F.slot_int_index.lookup
    (call_meets F.slot_int_rmul (typeIs_int s x u) F.entry_int_rmul (F.args_int_rmul_2 _ _) (int___rmul___int_list x u l vs.toArray k)
      ⟨hl, rfl, hT, call_meets F.slot_list_mul hT F.entry_list_mul (F.args_list_mul_2 _ _)
        (AutoListH.list___mul___list_int_3 l vs.toArray k x u (by simp [Builtin.List.listFitsIndex]; omega) (by simp only [List.size_toArray]; omega) (by simp [Builtin.List.listTooLong, sizeLine]; omega)) ⟨hl, h⟩⟩)
end
end Mine
end
section
open PySem PySem.W PyProof.Rows PySem.Calls
set_option Elab.async false
namespace Mine

structure AOk (A : Around) : Prop where
  hd : A.handled = none
  dp : A.depth ≤ 400
  un : A.units ≤ 600

/-- what stands below the call: the top's names, its end heap, the tables of code that a call may lengthen -/
structure Tp where
  mg : Str → Option Value
  mb : Str → Option Value
  H : Heap
  tb : List Addr
/-- what every heap of the call keeps of the top's -/
structure Bs (tp : Tp) (h : Heap) : Prop where
  g : h.Ns mainGlobals tp.mg
  b : h.Ns builtinsNs tp.mb
  lim : h.NoLimit
  nb : NoneBooked h
  base : ∀ b o, tp.H.get? b = some o → b ∉ tp.tb → h.get? b = some o
  there : ∀ b o, tp.H.get? b = some o → ∃ o', h.get? b = some o'
theorem Bs.keep {tp : Tp} {h h' : Heap} (B : Bs tp h) (k : ∀ b o, h.get? b = some o → h'.get? b = some o) : Bs tp h' :=
  ⟨B.g.keeps k, B.b.keeps k, B.lim.keeps k, let ⟨mc, h1, h2⟩ := B.nb; ⟨mc, h1.keeps k, h2⟩, fun b o e n => k b o (B.base b o e n), fun b o e => let ⟨o', ho'⟩ := B.there b o e; ⟨o', k b o' ho'⟩⟩

noncomputable abbrev Ev := List (Nat × V) → Option V

section
variable (prog : Program) (w : World) (nm : Nat → Str) (tp : Tp)

noncomputable def Snd (pe : Expr) (env : Env) (fr : Bool) (f : Ev) : Prop :=
  ∀ (A : Around) (s : Shared) (ρ : List (Nat × V)) (v : V), AOk A → Bs tp s.heap → Acc nm env s.heap ρ → f ρ = some v →
    wpAny (model prog w) A (eval pe env) (fun val s' => Out s fr v val s') (fun _ _ => False) s
end

section
variable {prog : Program} {w : World} {nm : Nat → Str} {tp : Tp} {env : Env}

noncomputable def eLit (u : U) : Ev := fun _ => gd (.u u)
noncomputable def eVar (x : Nat) : Ev := fun ρ => look ρ x

theorem snd_int {n : Int} {k : Nat} {pos : Pos} : Snd prog w nm tp (.Constant (.int n) k pos) env true (eLit (.i n)) := by
  intro A s ρ v hA hB hr hf
  obtain ⟨rfl, ok⟩ := gd_some hf
  exact wpAny_Constant_int (Out.u ⟨_, rfl⟩ kpTok ok)
theorem snd_bool {n : Bool} {k : Nat} {pos : Pos} : Snd prog w nm tp (.Constant (.bool n) k pos) env true (eLit (.b n)) := by
  intro A s ρ v hA hB hr hf
  obtain ⟨rfl, ok⟩ := gd_some hf
  exact wpAny_Constant_bool (Out.u rfl (kpR _) ok)
theorem snd_str {t : Str} {k : Nat} {pos : Pos} : Snd prog w nm tp (.Constant (.str t) k pos) env true (eLit (.s t)) := by
  intro A s ρ v hA hB hr hf
  obtain ⟨rfl, ok⟩ := gd_some hf
  exact wpAny_Constant_str (Out.u ⟨_, rfl⟩ kpTok ok)

theorem snd_var {x : Nat} {n : Str} {pos : Pos} (hx : nm x = n) (hk : env.scope.kind = .function) (hd : (n == ("__debug__" : Str)) = false) :
    Snd prog w nm tp (.Name n pos) env false (eVar x) := by
  subst hx
  intro A s ρ v hA hB hr hf
  obtain ⟨val, r, ok, H⟩ := hr x v hf
  refine wpAny_Name ?_ hd
  have z : Out s false v val s := ⟨r, (fun h => nomatch h), kpR _, ok⟩
  rcases H with ⟨e, m, hn, hm⟩ | ⟨e, c, hc, hcell⟩
  · exact wpAny_loadName_local hk e hn hm z
  · exact wpAny_loadName_cell hk e hc hcell z

theorem okV_of {ρ : List (Nat × V)} {h : Heap} (H : Acc nm env h ρ) {x : Nat} {v : V} (e : look ρ x = some v) : okV v = true := (H x v e).choose_spec.2.1

-- two arguments in a row
theorem snd2 {pa pb : Expr} {fa fb : Ev} {ra rb : Bool} (ha : Snd prog w nm tp pa env ra fa) (hb : Snd prog w nm tp pb env rb fb) {A : Around} {s : Shared} {ρ : List (Nat × V)} {x y : V} {Q : Value → Value → Shared → Prop} {E : Value → Shared → Prop}
    (hA : AOk A) (hB : Bs tp s.heap) (hr : Acc nm env s.heap ρ) (ex : fa ρ = some x) (ey : fb ρ = some y)
    (h : ∀ a b s₂, RepV s₂.heap a x → RepV s₂.heap b y → (ra = true → ∀ p, a = .ref p → s.heap.get? p = none) → (rb = true → ∀ p, b = .ref p → s.heap.get? p = none) → Keeps s s₂ → okV x = true → okV y = true → Q a b s₂) :
    wpAny (model prog w) A (eval pa env) (fun a s₁ => wpAny (model prog w) A (eval pb env) (fun b s₂ => Q a b s₂) E s₁) E s := by
  refine wpAny_mono (ha A s ρ x hA hB hr ex) (fun a s₁ h₁ => ?_) fun _ _ e => e.elim
  obtain ⟨r₁, f₁, k₁, o₁⟩ := h₁
  refine wpAny_mono (hb A s₁ ρ y hA (hB.keep (kpK k₁)) (hr.keep _ (kpK k₁)) ey) (fun b s₂ h₂ => ?_) fun _ _ e => e.elim
  obtain ⟨r₂, f₂, k₂, o₂⟩ := h₂
  refine h a b s₂ (r₁.keep (kpK k₂)) r₂ f₁ (fun t p e => ?_) (kpT k₁ k₂) o₁ o₂
  cases q : s.heap.get? p with
  | none => rfl
  | some o => have z := f₂ t p e; rw [kpK k₁ _ _ q] at z; cases z

inductive Op where
  | add | sub | mul | fdiv | fmod | pow
noncomputable def Op.py : Op → Operator
  | .add => .Add
  | .sub => .Sub
  | .mul => .Mult
  | .fdiv => .FloorDiv
  | .fmod => .Mod
  | .pow => .Pow
noncomputable def smallI (n : Int) : Bool := decide (-1048576 ≤ n) && decide (n ≤ 1048576)
noncomputable def binV : Op → V → V → Option V
  | .add, .u (.i a), .u (.i b) => gd (.u (.i (a + b)))
  | .add, .u (.s a), .u (.s b) => gd (.u (.s (a ++ b)))
  | .add, .l a, .l b => gd (.l (a ++ b))
  | .sub, .u (.i a), .u (.i b) => gd (.u (.i (a - b)))
  | .mul, .u (.i a), .u (.i b) => if smallI a && smallI b then gd (.u (.i (a * b))) else none
  | .mul, .u (.s a), .u (.i b) => if decide (-4000 ≤ b) && decide (b ≤ 4000) then gd (.u (.s (Txt.mul a b))) else none
  | .mul, .l xs, .u (.i n) => if decide (0 ≤ n) && decide (n ≤ 1000) then gd (.l (List.replicate n.toNat xs).flatten) else none
  | .fdiv, .u (.i a), .u (.i b) => if smallI b && b != 0 then gd (.u (.i (a.fdiv b))) else none
  | .fmod, .u (.i a), .u (.i b) => if b != 0 then gd (.u (.i (a.fmod b))) else none
  | .pow, .u (.i a), .u (.i b) => if smallI a && decide (0 ≤ b) && decide (b ≤ 64) then gd (.u (.i (a ^ b.toNat))) else none
  | _, _, _ => none
noncomputable def eBin (op : Op) (fa fb : Ev) : Ev := fun ρ => match fa ρ, fb ρ with
  | some x, some y => binV op x y
  | _, _ => none

theorem smallI_iff {n : Int} (h : smallI n = true) : -1048576 ≤ n ∧ n ≤ 1048576 := by
  simpa [smallI] using h
theorem bits_small {n : Int} (h : smallI n = true) : Builtin.Int.intBits n ≤ 64 := by
  obtain ⟨a, b⟩ := smallI_iff h
  exact intBits_le_64 (by omega) (by omega)
theorem mulOk_small {a : Str} {b : Int} (ha : a.cps.size ≤ 4000) (h1 : -4000 ≤ b) (h2 : b ≤ 4000) : MulOk a b := by
  have hl : a.length = a.cps.size := rfl
  refine ⟨by simp; omega, fun hb _ => ?_, fun hb _ => ?_⟩
  · have : (2 ^ 63 - 1 : Int) / 4000 ≤ (2 ^ 63 - 1) / b := by
      refine Int.le_ediv_of_mul_le (by omega) ?_
      have : (2 ^ 63 - 1 : Int) / 4000 * b ≤ (2 ^ 63 - 1 : Int) / 4000 * 4000 := Int.mul_le_mul_of_nonneg_left h2 (by decide)
      omega
    have e : (2 ^ 63 - 1 : Int) / 4000 = 2305843009213693 := by decide
    rw [hl]
    omega
  · have : a.length * b.toNat ≤ 4000 * 4000 := Nat.mul_le_mul (by rw [hl]; exact ha) (by omega)
    have e : (16000000 : Nat) ≤ sizeLine := by decide
    unfold Builtin.Str.tooLong
    exact decide_eq_false (by omega)

theorem str_ok {t : Str} (h : okV (.u (.s t)) = true) : t.length ≤ 4000 := by
  have : t.cps.size ≤ 4000 := by simpa [okV, okU] using h
  exact this
theorem list_ok {xs : List U} (h : okV (.l xs) = true) : xs.length ≤ 4000 := by
  simp only [okV, Bool.and_eq_true, decide_eq_true_eq] at h
  exact h.1
theorem line_big : (16000000 : Nat) ≤ sizeLine := by decide

theorem Reps.rep {vs : List Value} {us : List U} (h : Reps vs us) : ∀ n : Nat, Reps (List.replicate n vs).flatten (List.replicate n us).flatten
  | 0 => .nil
  | n + 1 => by
    rw [List.replicate_succ, List.replicate_succ, List.flatten_cons, List.flatten_cons]
    exact h.append (h.rep n)

theorem bin_ok {op : Op} {x y v : V} {a b : Value} {A : Around} {s : Shared} (ox : okV x = true) (oy : okV y = true) (r1 : RepV s.heap a x) (r2 : RepV s.heap b y) (hf : binV op x y = some v) :
    wpAny (model prog w) A (binaryOp op.py a b) (fun val s' => Out s true v val s') (fun _ _ => False) s := by
  unfold binV at hf
  split at hf
  · obtain ⟨rfl, ok⟩ := gd_some hf
    obtain ⟨t, rfl⟩ := r1; obtain ⟨u, rfl⟩ := r2
    exact add_int (Out.u ⟨_, rfl⟩ kpTok ok)
  · obtain ⟨rfl, ok⟩ := gd_some hf
    obtain ⟨t, rfl⟩ := r1; obtain ⟨u, rfl⟩ := r2
    have h1 := str_ok ox
    have h2 := str_ok oy
    have h3 := line_big
    exact add_str (fun t' tk => Out.u ⟨_, rfl⟩ kpTok ok) (by omega)
  · obtain ⟨rfl, ok⟩ := gd_some hf
    obtain ⟨p, vs, n1, rfl, hl, rx⟩ := r1
    obtain ⟨q, ws, n2, rfl, hm, ry⟩ := r2
    have h1 := list_ok ox
    have h2 := list_ok oy
    have h3 := line_big
    exact op_add_list (isL hl) (isL hm) (by rw [rx.length, ry.length]; omega) (Out.push (rx.append ry) ok)
  · obtain ⟨rfl, ok⟩ := gd_some hf
    obtain ⟨t, rfl⟩ := r1; obtain ⟨u, rfl⟩ := r2
    exact sub_int (Out.u ⟨_, rfl⟩ kpTok ok)
  · split at hf
    · rename_i hc
      rw [Bool.and_eq_true] at hc
      obtain ⟨rfl, ok⟩ := gd_some hf
      obtain ⟨t, rfl⟩ := r1; obtain ⟨u, rfl⟩ := r2
      refine mul_int (Out.u ⟨_, rfl⟩ kpTok ok) ?_
      have := bits_small hc.1
      unfold IntMulOk
      have e : decide (Builtin.Int.intBits _ > shortFactorBits) = false := decide_eq_false (Nat.not_lt.mpr this)
      rw [e]
      simp
    · cases hf
  · split at hf
    · rename_i hc
      simp only [Bool.and_eq_true, decide_eq_true_eq] at hc
      obtain ⟨rfl, ok⟩ := gd_some hf
      obtain ⟨t, rfl⟩ := r1; obtain ⟨u, rfl⟩ := r2
      exact SB.mul (mulOk_small (str_ok ox) hc.1 hc.2) fun t' tk => Out.u ⟨_, rfl⟩ kpTok ok
    · cases hf
  · split at hf
    · rename_i hc
      simp only [Bool.and_eq_true, decide_eq_true_eq] at hc
      obtain ⟨rfl, ok⟩ := gd_some hf
      obtain ⟨p, vs, n1, rfl, hl, rx⟩ := r1
      obtain ⟨u, rfl⟩ := r2
      have h1 := list_ok ox
      refine op_mul_list hl (by omega) (by omega) ?_ (Out.push (rx.rep _) ok)
      have key : ∀ m : Int, m ≤ 1000 → vs.length * m.toNat ≤ 4000 * 1000 := fun m hm => Nat.mul_le_mul (by rw [rx.length]; exact h1) (by omega)
      have := key _ hc.2
      omega
    · cases hf
  · split at hf
    · rename_i hc
      simp only [Bool.and_eq_true, bne_iff_ne, ne_eq] at hc
      obtain ⟨rfl, ok⟩ := gd_some hf
      obtain ⟨t, rfl⟩ := r1; obtain ⟨u, rfl⟩ := r2
      refine floordiv_int hc.2 (Out.u ⟨_, rfl⟩ kpTok ok) (.inl ?_)
      have := smallI_iff hc.1
      exact PyProof.noPylong_small (by omega)
    · cases hf
  · split at hf
    · rename_i hc
      simp only [bne_iff_ne, ne_eq] at hc
      obtain ⟨rfl, ok⟩ := gd_some hf
      obtain ⟨t, rfl⟩ := r1; obtain ⟨u, rfl⟩ := r2
      exact mod_int' hc (Out.u ⟨_, rfl⟩ kpTok ok)
    · cases hf
  · split at hf
    · rename_i hc
      simp only [Bool.and_eq_true, decide_eq_true_eq] at hc
      obtain ⟨rfl, ok⟩ := gd_some hf
      obtain ⟨t, rfl⟩ := r1; obtain ⟨u, rfl⟩ := r2
      refine pow_int hc.1.2 ?_ (Out.u ⟨_, rfl⟩ kpTok ok)
      have := bits_small hc.1.1
      refine Int.le_trans (Int.mul_le_mul (show (_ : Int) ≤ 64 by omega) hc.2 hc.1.2 (by decide)) (by decide)
    · cases hf
  · cases hf

theorem snd_bin {op : Op} {pa pb : Expr} {pos : Pos} {fa fb : Ev} {ra rb : Bool} (ha : Snd prog w nm tp pa env ra fa) (hb : Snd prog w nm tp pb env rb fb)
    (o : Operator) (ho : op.py = o) : Snd prog w nm tp (.BinOp pa o pb pos) env true (eBin op fa fb) := by
  subst ho
  intro A s ρ v hA hB hr hf
  unfold eBin at hf
  split at hf
  · rename_i x y ex ey
    exact wpAny_BinOp (snd2 ha hb hA hB hr ex ey fun a b s₂ r1 r2 f1 f2 k o1 o2 => wpAny_mono (bin_ok o1 o2 r1 r2 hf) (fun _ _ z => Out.fr k z) fun _ _ z => z)
  · cases hf
end
end Mine
end
section
open PySem PySem.W PyProof.Rows PySem.Calls
set_option Elab.async false
namespace Mine
section
variable {prog : Program} {w : World} {nm : Nat → Str} {tp : Tp} {env : Env}

theorem snd_neg {n : Int} {k : Nat} {p1 p2 : Pos} : Snd prog w nm tp (.UnaryOp .USub (.Constant (.int n) k p1) p2) env true (eLit (.i (-n))) := by
  intro A s ρ v hA hB hr hf
  obtain ⟨rfl, ok⟩ := gd_some hf
  exact wpAny_UnaryOp (wpAny_Constant_int (neg_int (Out.u ⟨_, rfl⟩ ⟨_, _, rfl, fun _ _ e => e⟩ ok)))

noncomputable def idxV : V → V → Option V
  | .u (.s t), .u (.i k) => if decide (-4000 ≤ k) && decide (k ≤ 4000) then (match (seqIndex? k t.length).bind (t.cps[·]?) with | some c => gd (.u (.s ⟨#[c]⟩)) | none => none) else none
  | .l xs, .u (.i k) => if decide (0 ≤ k) && decide (k ≤ 4000) then (match xs[k.toNat]? with | some u => gd (.u u) | none => none) else none
  | .z xs, .u (.i k) => if decide (0 ≤ k) && decide (k ≤ 4000) then (match xs[k.toNat]? with | some t => gd (.u (.s t)) | none => none) else none
  | _, _ => none
noncomputable def eIdx (fa fb : Ev) : Ev := fun ρ => match fa ρ, fb ρ with
  | some x, some y => idxV x y
  | _, _ => none

theorem RepK.get {k : Nat} {vs : List Value} {ts : List Str} (h : RepK k vs ts) : ∀ (i : Nat) (t : Str), ts[i]? = some t → vs[i]? = some (.str t (k + i : Nat)) := by
  induction h with
  | nil => intro i u e; simp at e
  | cons _ ih =>
    intro i u e
    cases i with
    | zero => simp at e; subst e; simp
    | succ i =>
      have e2 : ∀ k : Nat, k + 1 + i = k + (i + 1) := fun k => by omega
      rw [List.getElem?_cons_succ, ih i u (by simpa using e), e2]
theorem RepK.length {k : Nat} {vs : List Value} {ts : List Str} (h : RepK k vs ts) : vs.length = ts.length := by
  induction h with
  | nil => rfl
  | cons _ ih => rw [List.length_cons, List.length_cons, ih]
theorem RepZ.get {vs : List Value} {ts : List Str} (h : RepZ vs ts) (i : Nat) (t : Str) (e : ts[i]? = some t) : ∃ k : Tok, vs[i]? = some (.str t k) ∧ k ≠ 0 := by
  obtain ⟨k, hk, h⟩ := h
  exact ⟨(k + i : Nat), h.get i t e, by show k + i ≠ 0; omega⟩
theorem RepZ.length {vs : List Value} {ts : List Str} (h : RepZ vs ts) : vs.length = ts.length := let ⟨_, _, h⟩ := h; h.length

theorem idx_ok {x y v : V} {a b : Value} {A : Around} {s : Shared} {value slice : Expr} (r1 : RepV s.heap a x) (r2 : RepV s.heap b y) (hf : idxV x y = some v)
    (hs : ∀ o i, subscripted slice false o i = operate [o, i] (getItem o i)) (ht : ∀ o r, letTemporaryGo value o r = pure ()) :
    wpAny (model prog w) A (subscriptTail value slice a b) (fun val s' => Out s true v val s') (fun _ _ => False) s := by
  unfold idxV at hf
  split at hf
  · split at hf
    · rename_i hc
      simp only [Bool.and_eq_true, decide_eq_true_eq] at hc
      split at hf
      · rename_i c ec
        obtain ⟨rfl, ok⟩ := gd_some hf
        obtain ⟨t, rfl⟩ := r1; obtain ⟨u, rfl⟩ := r2
        refine subscriptTail_builtin (T := "str") (typeIs_str _ _ _) PySem.F.slot_str_getitem.lookup (P.getItem_str ?_ ec (Out.u ⟨_, rfl⟩ kpTok ok)) (hs _ _) (ht _)
        rw [Bool.or_eq_false_iff]
        exact ⟨decide_eq_false (by omega), decide_eq_false (by omega)⟩
      · cases hf
    · cases hf
  · split at hf
    · rename_i hc
      simp only [Bool.and_eq_true, decide_eq_true_eq] at hc
      split at hf
      · rename_i u eu
        obtain ⟨rfl, ok⟩ := gd_some hf
        obtain ⟨p, vs, n1, rfl, hl, rx⟩ := r1; obtain ⟨t, rfl⟩ := r2
        obtain ⟨val, ev, ru⟩ := rx.get _ _ eu
        exact subscriptTail_builtin (T := "list") ⟨_, hl, rfl⟩ PySem.F.slot_list_getitem.lookup (wpAny_getItem_list (isL hl) hc.1 (by omega) (by simpa using ev) (Out.u ru (kpR _) ok)) (hs _ _) (ht _)
      · cases hf
    · cases hf
  · split at hf
    · rename_i hc
      simp only [Bool.and_eq_true, decide_eq_true_eq] at hc
      split at hf
      · rename_i u eu
        obtain ⟨rfl, ok⟩ := gd_some hf
        obtain ⟨p, vs, n1, rfl, hl, rx⟩ := r1; obtain ⟨t, rfl⟩ := r2
        obtain ⟨k, ev, nk⟩ := rx.get _ _ eu
        exact subscriptTail_builtin (T := "list") ⟨_, hl, rfl⟩ PySem.F.slot_list_getitem.lookup (wpAny_getItem_list (isL hl) hc.1 (by omega) (by simpa using ev) (Out.u ⟨_, rfl⟩ (kpR _) ok)) (hs _ _) (ht _)
      · cases hf
    · cases hf
  · cases hf

theorem snd_idx {pa pb : Expr} {pos : Pos} {fa fb : Ev} {ra rb : Bool} (ha : Snd prog w nm tp pa env ra fa) (hb : Snd prog w nm tp pb env rb fb)
    (hs : ∀ o i, subscripted pb false o i = operate [o, i] (getItem o i)) (ht : ∀ o r, letTemporaryGo pa o r = pure ()) : Snd prog w nm tp (.Subscript pa pb pos) env true (eIdx fa fb) := by
  intro A s ρ v hA hB hr hf
  unfold eIdx at hf
  split at hf
  · rename_i x y ex ey
    exact Subscript_ (snd2 ha hb hA hB hr ex ey fun a b s₂ r1 r2 f1 f2 k o1 o2 => wpAny_mono (idx_ok r1 r2 hf hs ht) (fun _ _ z => Out.fr k z) fun _ _ z => z)
  · cases hf

-- slices of texts
theorem three {s s₂ : Shared} {o : Obj} {tk : Nat} (k : Keeps s s₂) : Keeps s { s₂ with heap := s₂.heap.push o, toks := tk } := kpT k kpPush

theorem made_slice {x : Str} {t : Tok} {l u : Option (Int × Tok)} {Q : Value → Shared → Prop} {s : Shared} (hx : x.length ≤ 4000)
    (h : ∀ t' k, Q (.str (Txt.slice x (l.map (·.1)) (u.map (·.1))) t') { s with toks := k }) : (sliceMade x t l u none).post Q s :=
  post_val_or_str ⟨Nat.le_trans (Txt.slice_le x _ _) (Nat.le_trans hx (by decide)), fun t' k => h t' k⟩

noncomputable def eFrom (fa fb : Ev) : Ev := fun ρ => match fa ρ, fb ρ with
  | some (.u (.s t)), some (.u (.i k)) => gd (.u (.s (Txt.slice t (some k) none)))
  | some (.l xs), some (.u (.i k)) => if decide (0 ≤ k) && decide (k.toNat ≤ xs.length) then gd (.l (xs.drop k.toNat)) else none
  | _, _ => none
noncomputable def eTo (fa fb : Ev) : Ev := fun ρ => match fa ρ, fb ρ with
  | some (.u (.s t)), some (.u (.i k)) => gd (.u (.s (Txt.slice t none (some k))))
  | some (.l xs), some (.u (.i k)) => if decide (0 ≤ k) && decide (k.toNat ≤ xs.length) then gd (.l (xs.take k.toNat)) else none
  | _, _ => none
noncomputable def revT (x : Str) : Str := ⟨((Builtin.Str.strSliceIndices none none (-1) x.length).filterMap (x.cps[·]?)).toArray⟩
noncomputable def eRev (fa : Ev) : Ev := fun ρ => match fa ρ with
  | some (.u (.s t)) => gd (.u (.s (revT t)))
  | _ => none

theorem Reps.drop {vs : List Value} {us : List U} (h : Reps vs us) : ∀ n : Nat, Reps (vs.drop n) (us.drop n) := by
  induction h with
  | nil => intro n; simpa using Reps.nil
  | cons r h ih =>
    intro n
    cases n with
    | zero => exact .cons r h
    | succ n => simpa using ih n
theorem Reps.take {vs : List Value} {us : List U} (h : Reps vs us) : ∀ n : Nat, Reps (vs.take n) (us.take n) := by
  induction h with
  | nil => intro n; simpa using Reps.nil
  | cons r h ih =>
    intro n
    cases n with
    | zero => simpa using Reps.nil
    | succ n => simpa using Reps.cons r (ih n)

theorem snd2p {pa pb : Expr} {fa fb : Ev} {ra rb : Bool} (ha : Snd prog w nm tp pa env ra fa) (hb : Snd prog w nm tp pb env rb fb) {A : Around} {s : Shared} {ρ : List (Nat × V)} {x y : V} {Q : Value → Value → Shared → Prop} {E : Value → Shared → Prop}
    (hA : AOk A) (hB : Bs tp s.heap) (hr : Acc nm env s.heap ρ) (ex : fa ρ = some x) (ey : fb ρ = some y)
    (h : ∀ a b s₂, RepV s₂.heap a x → RepV s₂.heap b y → Keeps s s₂ → okV x = true → okV y = true → Q a b s₂) :
    wpAny (model prog w) A (eval pa env) (fun a s₁ => wpAny (model prog w) A (evalPart (some pb) env) (fun b s₂ => Q a b s₂) E s₁) E s :=
  wpAny_mono (snd2 ha hb hA hB hr ex ey fun a b s₂ r1 r2 _ _ k o1 o2 => h a b s₂ r1 r2 k o1 o2) (fun _ _ z => wpAny_evalPart_some z) fun _ _ z => z

theorem snd_from {pa pb : Expr} {p pos : Pos} {fa fb : Ev} {ra rb : Bool} (ha : Snd prog w nm tp pa env ra fa) (hb : Snd prog w nm tp pb env rb fb)
    (ht : ∀ o r, letTemporaryGo pa o r = pure ()) : Snd prog w nm tp (.Subscript pa (.Slice (some pb) none none p) pos) env true (eFrom fa fb) := by
  intro A s ρ v hA hB hr hf
  unfold eFrom at hf
  split at hf
  · rename_i x k ex ey
    obtain ⟨rfl, ok⟩ := gd_some hf
    refine wpAny_Subscript_str_slice (snd2p ha hb hA hB hr ex ey fun a b s₂ r1 r2 kp o1 o2 => wpAny_evalPart_none ?_) ht
    obtain ⟨t, rfl⟩ := r1; obtain ⟨u, rfl⟩ := r2
    exact ⟨x, t, some (k, u), none, rfl, rfl, rfl, made_slice (str_ok o1) fun t' tk => Out.u ⟨_, rfl⟩ (three kp) ok⟩
  · rename_i xs k ex ey
    split at hf
    · rename_i hc
      simp only [Bool.and_eq_true, decide_eq_true_eq] at hc
      obtain ⟨rfl, ok⟩ := gd_some hf
      refine wpAny_Subscript_list_slice (snd2p ha hb hA hB hr ex ey fun a b s₂ r1 r2 kp o1 o2 => wpAny_evalPart_none ?_) ht
      obtain ⟨q, vs, n1, rfl, hl, rx⟩ := r1; obtain ⟨u, rfl⟩ := r2
      obtain ⟨n, rfl⟩ := Int.eq_ofNat_of_zero_le hc.1
      refine ⟨q, vs.toArray, some (n : Int), none, rfl, isL hl, ?_, .int _ _, .none, ?_⟩
      · rw [List.size_toArray, rx.length]; exact Nat.le_trans (list_ok o1) (by decide)
      · rw [slicePick_from _ _ (by rw [List.size_toArray, rx.length]; simpa using hc.2)]
        have e : s₂.heap.objs.size + 1 = (s₂.heap.push { cls := .type "slice", data := .fields #[.int (n : Int) u, .none, .none] }).objs.size := by rw [Heap.size_push]
        rw [e]
        exact Out.fr (three kp) (Out.push (s := { s₂ with heap := s₂.heap.push { cls := .type "slice", data := .fields #[.int (n : Int) u, .none, .none] } }) (by simpa using rx.drop n) ok)
    · cases hf
  · cases hf

theorem snd_to {pa pb : Expr} {p pos : Pos} {fa fb : Ev} {ra rb : Bool} (ha : Snd prog w nm tp pa env ra fa) (hb : Snd prog w nm tp pb env rb fb)
    (ht : ∀ o r, letTemporaryGo pa o r = pure ()) : Snd prog w nm tp (.Subscript pa (.Slice none (some pb) none p) pos) env true (eTo fa fb) := by
  intro A s ρ v hA hB hr hf
  unfold eTo at hf
  have sw : ∀ {x y : V} {Q : Value → Value → Shared → Prop} {E : Value → Shared → Prop}, fa ρ = some x → fb ρ = some y →
      (∀ a b s₂, RepV s₂.heap a x → RepV s₂.heap b y → Keeps s s₂ → okV x = true → okV y = true → Q a b s₂) →
      wpAny (model prog w) A (eval pa env) (fun a s₁ => wpAny (model prog w) A (evalPart none env) (fun _ s₁' => wpAny (model prog w) A (evalPart (some pb) env) (fun b s₂ => Q a b s₂) E s₁') E s₁) E s := fun ex ey h =>
    wpAny_mono (snd2p ha hb hA hB hr ex ey h) (fun _ _ z => wpAny_evalPart_none z) fun _ _ z => z
  split at hf
  · rename_i x k ex ey
    obtain ⟨rfl, ok⟩ := gd_some hf
    refine wpAny_Subscript_str_slice (wpAny_mono (snd2p ha hb hA hB hr ex ey (Q := fun a b s₂ => RepV s₂.heap a (.u (.s x)) ∧ RepV s₂.heap b (.u (.i k)) ∧ Keeps s s₂ ∧ okV (.u (.s x)) = true) fun a b s₂ r1 r2 kp o1 o2 => ⟨r1, r2, kp, o1⟩)
      (fun a s₁ z => wpAny_evalPart_none (wpAny_mono z (fun b s₂ q => ?_) fun _ _ z => z)) fun _ _ z => z) ht
    obtain ⟨r1, r2, kp, o1⟩ := q
    obtain ⟨t, rfl⟩ := r1; obtain ⟨u, rfl⟩ := r2
    exact ⟨x, t, none, some (k, u), rfl, rfl, rfl, made_slice (str_ok o1) fun t' tk => Out.u ⟨_, rfl⟩ (three kp) ok⟩
  · rename_i xs k ex ey
    split at hf
    · rename_i hc
      simp only [Bool.and_eq_true, decide_eq_true_eq] at hc
      obtain ⟨rfl, ok⟩ := gd_some hf
      refine wpAny_Subscript_list_slice (wpAny_mono (snd2p ha hb hA hB hr ex ey (Q := fun a b s₂ => RepV s₂.heap a (.l xs) ∧ RepV s₂.heap b (.u (.i k)) ∧ Keeps s s₂ ∧ okV (.l xs) = true) fun a b s₂ r1 r2 kp o1 o2 => ⟨r1, r2, kp, o1⟩)
        (fun a s₁ z => wpAny_evalPart_none (wpAny_mono z (fun b s₂ q => ?_) fun _ _ z => z)) fun _ _ z => z) ht
      obtain ⟨r1, r2, kp, o1⟩ := q
      obtain ⟨q, vs, n1, rfl, hl, rx⟩ := r1; obtain ⟨u, rfl⟩ := r2
      obtain ⟨n, rfl⟩ := Int.eq_ofNat_of_zero_le hc.1
      refine ⟨q, vs.toArray, none, some (n : Int), rfl, isL hl, ?_, .none, .int _ _, ?_⟩
      · rw [List.size_toArray, rx.length]; exact Nat.le_trans (list_ok o1) (by decide)
      · rw [slicePick_upto _ _ (by rw [List.size_toArray, rx.length]; simpa using hc.2)]
        have e : s₂.heap.objs.size + 1 = (s₂.heap.push { cls := .type "slice", data := .fields #[.none, .int (n : Int) u, .none] }).objs.size := by rw [Heap.size_push]
        rw [e]
        exact Out.fr (three kp) (Out.push (s := { s₂ with heap := s₂.heap.push { cls := .type "slice", data := .fields #[.none, .int (n : Int) u, .none] } }) (by simpa using rx.take n) ok)
    · cases hf
  · cases hf

theorem snd_rev {pa : Expr} {k : Nat} {p1 p2 p pos : Pos} {fa : Ev} {ra : Bool} (ha : Snd prog w nm tp pa env ra fa)
    (ht : ∀ o r, letTemporaryGo pa o r = pure ()) : Snd prog w nm tp (.Subscript pa (.Slice none none (some (.UnaryOp .USub (.Constant (.int 1) k p1) p2)) p) pos) env true (eRev fa) := by
  intro A s ρ v hA hB hr hf
  unfold eRev at hf
  split at hf
  · rename_i x ex
    obtain ⟨rfl, ok⟩ := gd_some hf
    refine wpAny_Subscript_Slice_step (T := "str") PySem.F.slot_str_getitem.lookup (wpAny_mono (ha A s ρ _ hA hB hr ex) (fun a s₁ h₁ => ?_) fun _ _ e => e.elim) ht
    obtain ⟨r₁, f₁, k₁, o₁⟩ := h₁
    obtain ⟨t, rfl⟩ := r₁
    refine wpAny_Slice (wpAny_evalPart_none (wpAny_evalPart_none (wpAny_evalPart_some (wpAny_UnaryOp (wpAny_Constant_int (neg_int ?_))))))
    refine ⟨typeIs_str _ _ _, ?_⟩
    refine wpAny_getItem_str_slice (l := none) (u := none) (st := some (-1, _)) ⟨_, Heap.get?_push_size _ rfl, rfl, rfl⟩ rfl ?_
    have hx := str_ok o₁
    have hle : (revT x).length ≤ sizeLine := Nat.le_trans (Nat.le_trans (show (revT x).cps.size ≤ _ by
      unfold revT
      simp only [List.size_toArray]
      exact Nat.le_trans (List.length_filterMap_le _ _) (sliceIndicesBy_le _ _ _ (by decide) _)) hx) (by decide)
    unfold sliceMade
    show Made.post (if _ then _ else _) _ _
    rw [if_neg (by simp)]
    exact ⟨hle, Out.u ⟨_, rfl⟩ (kpT (three (tk := s₁.toks + 1 + 1) k₁) kpTok) ok⟩
  · cases hf
end
end Mine
end
section
open PySem PySem.W PyProof.Rows PySem.Calls
set_option Elab.async false
namespace Mine
structure EnvG (env : Env) : Prop where
  k : env.scope.kind = .function
  g : env.globals = mainGlobals
  b : env.builtins = builtinsNs
section
variable {prog : Program} {w : World} {nm : Nat → Str} {tp : Tp} {env : Env}

theorem name_builtin {A : Around} {E : Value → Shared → Prop} {s : Shared} {n : Str} {v : Value} {pos : Pos} {Q : Value → Shared → Prop} (G : EnvG env) (B : Bs tp s.heap) (hk : env.kindOf n = some .globalImplicit)
    (h0 : tp.mg n = none) (h1 : tp.mb n = some v) (hd : (n == ("__debug__" : Str)) = false) (h : Q v s) : wpAny (model prog w) A (eval (.Name n pos) env) Q E s := by
  refine wpAny_Name ?_ hd
  rw [loadName_read G.k hk]
  exact loadGlobal_builtin (by rw [G.g]; exact B.g) h0 (by rw [G.b]; exact B.b) h1 h
theorem name_global {A : Around} {E : Value → Shared → Prop} {s : Shared} {n : Str} {v : Value} {pos : Pos} {Q : Value → Shared → Prop} (G : EnvG env) (B : Bs tp s.heap) (hk : env.kindOf n = some .globalImplicit)
    (h0 : tp.mg n = some v) (hd : (n == ("__debug__" : Str)) = false) (h : Q v s) : wpAny (model prog w) A (eval (.Name n pos) env) Q E s := by
  refine wpAny_Name ?_ hd
  rw [loadName_read G.k hk]
  exact loadGlobal_global (by rw [G.g]; exact B.g) h0 h

inductive Consts : List Expr → List U → Prop where
  | nil : Consts [] []
  | cons {t : Str} {k : Nat} {pos : Pos} {es : List Expr} {us : List U} : Consts es us → Consts (.Constant (.str t) k pos :: es) (.s t :: us)

noncomputable def eDisp (us : List U) : Ev := fun _ => gd (.l us)
theorem disp_items {pos : Pos} {A : Around} {E : Value → Shared → Prop} : ∀ {es : List Expr} {us : List U}, Consts es us → ∀ {s : Shared} {Q : List Value → Shared → Prop},
    (∀ vs tk, Reps vs us → Q vs { s with toks := tk }) → wpAny (model prog w) A (spliced (backTo pos (starEach es env))) Q E s
  | _, _, .nil, _, _, h => wpAny_items_nil (h [] _ .nil)
  | _, _, .cons c, s, Q, h => wpAny_items_cons (wpAny_Constant_str (disp_items c fun vs tk r => h _ tk (.cons ⟨_, rfl⟩ r)))
theorem snd_disp {es : List Expr} {us : List U} {pos : Pos} (c : Consts es us) : Snd prog w nm tp (.List es pos) env true (eDisp us) := by
  intro A s ρ v hA hB hr hf
  obtain ⟨rfl, ok⟩ := gd_some hf
  refine wpAny_List (disp_items c fun vs tk r => ⟨?_, ?_⟩)
  · rw [r.length]; exact Nat.le_trans (list_ok ok) (by decide)
  · exact Out.push (s := s) r ok

noncomputable def eLen (fa : Ev) : Ev := fun ρ => match fa ρ with
  | some (.u (.s t)) => gd (.u (.i t.length))
  | some (.l xs) => gd (.u (.i xs.length))
  | some (.z xs) => gd (.u (.i xs.length))
  | _ => none

theorem snd_len {pa : Expr} {np pos : Pos} {fa : Ev} {ra : Bool} (ha : Snd prog w nm tp pa env ra fa) (G : EnvG env) (hk : env.kindOf "len" = some .globalImplicit) (h0 : tp.mg "len" = none) (h1 : tp.mb "len" = some (.builtin "len"))
    (hs : starEach [pa] env = [(false, eval pa env)]) : Snd prog w nm tp (.Call (.Name "len" np) [pa] [] pos) env true (eLen fa) := by
  intro A s ρ v hA hB hr hf
  refine wpAny_Call_NameR (name_builtin G hB hk h0 h1 (by decide) ?_)
  rw [hs]
  refine PySem.callWith_builtin1 ?_
  show wpAny (model prog w) A (eval pa env) _ _ _
  unfold eLen at hf
  split at hf
  · rename_i t et
    obtain ⟨rfl, ok⟩ := gd_some hf
    refine wpAny_mono (ha A s ρ _ hA hB hr et) (fun a s₁ h₁ => ?_) fun _ _ e => e.elim
    obtain ⟨⟨k, rfl⟩, _, kp, o₁⟩ := h₁
    have := str_ok o₁
    exact P.len_str (by omega) (Out.u ⟨_, rfl⟩ (kpT kp kpTok) ok)
  · rename_i xs ex
    obtain ⟨rfl, ok⟩ := gd_some hf
    refine wpAny_mono (ha A s ρ _ hA hB hr ex) (fun a s₁ h₁ => ?_) fun _ _ e => e.elim
    obtain ⟨⟨p, vs, n1, rfl, hl, rx⟩, _, kp, o₁⟩ := h₁
    have := list_ok o₁
    have e : vs.toArray.size = xs.length := by rw [List.size_toArray, rx.length]
    refine len_list (isL hl) (by rw [e]; omega) ?_
    rw [e]
    exact Out.u ⟨_, rfl⟩ (kpT kp kpTok) ok
  · rename_i xs ex
    obtain ⟨rfl, ok⟩ := gd_some hf
    refine wpAny_mono (ha A s ρ _ hA hB hr ex) (fun a s₁ h₁ => ?_) fun _ _ e => e.elim
    obtain ⟨⟨p, vs, n1, rfl, hl, rx⟩, _, kp, o₁⟩ := h₁
    have : xs.length ≤ 4000 := by
      simp only [okV, Bool.and_eq_true, decide_eq_true_eq] at o₁
      exact o₁.1
    have e : vs.toArray.size = xs.length := by rw [List.size_toArray, rx.length]
    refine len_list (isL hl) (by rw [e]; omega) ?_
    rw [e]
    exact Out.u ⟨_, rfl⟩ (kpT kp kpTok) ok
  · cases hf
end
end Mine
end
section
open PySem PySem.W PyProof.Rows PySem.Calls
set_option Elab.async false
namespace Mine
section
variable {prog : Program} {w : World} {nm : Nat → Str} {tp : Tp} {env : Env}

/-- the call's place is plain -/
structure MethPlain (o : Expr) (name : Str) (apos pos : Pos) (env : Env) (args : List Expr) : Prop where
  base : attributeBase o name env (eval o env) = eval o env
  form : methodCallForm (args.length + 0) (backTo pos (starEach args env)) (backToKw pos (keywordEach [] env)) = true
  line : (apos.endLine == pos.line) = true

-- the texts of a list
noncomputable def strsOf : List U → Option (List Str)
  | [] => some []
  | .s t :: r => (strsOf r).map (t :: ·)
  | _ => none
theorem strsOf_are : ∀ {xs : List U} {ts : List Str}, strsOf xs = some ts → ∀ {vs : List Value}, Reps vs xs → StrsAre vs ts
  | [], _, e, _, r => by cases e; cases r; exact .nil
  | .s t :: xs, ts, e, _, .cons r rs => by
    unfold strsOf at e
    cases q : strsOf xs with
    | none => rw [q] at e; cases e
    | some us =>
      rw [q] at e; cases e
      obtain ⟨k, rfl⟩ := r
      exact .cons t k (strsOf_are q rs)
theorem StrsAre.pairs : ∀ {vs : List Value} {ts : List Str}, StrsAre vs ts → ∃ l : List (Str × Tok), vs = strValues l ∧ l.map (·.1) = ts
  | _, _, .nil => ⟨[], rfl, rfl⟩
  | _, _, .cons t k r => by
    obtain ⟨l, e1, e2⟩ := StrsAre.pairs r
    exact ⟨(t, k) :: l, by rw [e1]; rfl, by rw [← e2]; rfl⟩

noncomputable def eJoin (fa fb : Ev) : Ev := fun ρ => match fa ρ, fb ρ with
  | some (.u (.s sep)), some (.l xs) => match strsOf xs with
    | some ts => if JoinOk sep ts then gd (.u (.s (Txt.join sep ts))) else none
    | none => none
  | _, _ => none


theorem meth1 {T id : String} {name : Str} {o a : Expr} {apos pos : Pos} {fa fb : Ev} {ra rb : Bool} (ha : Snd prog w nm tp o env ra fa) (hb : Snd prog w nm tp a env rb fb)
    (P : MethPlain o name apos pos env [a]) (hs : starEach [a] env = (false, eval a env) :: starEach [] env) (pl : PlainAttrs T) (sl : Slot T name id) (ty : typeOf (Value.builtin id) = pure (Value.type "method_descriptor"))
    {A : Around} {s : Shared} {ρ : List (Nat × V)} {x y : V} {Q : Value → Shared → Prop} (hA : AOk A) (hB : Bs tp s.heap) (hr : Acc nm env s.heap ρ) (e1 : fa ρ = some x) (e2 : fb ρ = some y)
    (hT : ∀ (s' : Shared) v, RepV s'.heap v x → s'.TypeIs v T ∧ ∀ a, v = .ref a → ∃ ob, s'.heap.get? a = some ob ∧ ob.dict = none)
    (h : ∀ v u s₂, RepV s₂.heap v x → RepV s₂.heap u y → Keeps s s₂ → okV x = true → okV y = true → wpAny (model prog w) A (call (.builtin id) [v, u]) Q (fun _ _ => False) s₂) :
    wpAny (model prog w) A (eval (.Call (.Attribute o name apos) [a] [] pos) env) Q (fun _ _ => False) s := by
  refine wpAny_Call_method (T := T) P.base P.form P.line pl sl ty (wpAny_mono (ha A s ρ _ hA hB hr e1) (fun v s₁ h₁ => ?_) fun _ _ e => e.elim)
  obtain ⟨r1, _, k1, o1⟩ := h₁
  obtain ⟨t1, t2⟩ := hT s₁ v r1
  refine ⟨t1, t2, callWith_method1 ?_ hs rfl⟩
  refine wpAny_items_cons (wpAny_mono (hb A s₁ ρ _ hA (hB.keep (kpK k1)) (hr.keep _ (kpK k1)) e2) (fun b s₂ h₂ => wpAny_items_nil ?_) fun _ _ e => e.elim) hs
  obtain ⟨r2, _, k2, o2⟩ := h₂
  exact h v b s₂ (r1.keep (kpK k2)) r2 (kpT k1 k2) o1 o2

theorem str_T {t : Str} (s' : Shared) (v : Value) (r : RepV s'.heap v (.u (.s t))) : s'.TypeIs v "str" ∧ ∀ a, v = .ref a → ∃ ob, s'.heap.get? a = some ob ∧ ob.dict = none := by
  obtain ⟨k, rfl⟩ := r
  exact ⟨typeIs_str _ _ _, fun a e => nomatch e⟩
theorem list_T {xs : List U} (s' : Shared) (v : Value) (r : RepV s'.heap v (.l xs)) : s'.TypeIs v "list" ∧ ∀ a, v = .ref a → ∃ ob, s'.heap.get? a = some ob ∧ ob.dict = none := by
  obtain ⟨p, vs, n, rfl, hl, rx⟩ := r
  exact ⟨⟨_, hl, rfl⟩, fun a e => by cases e; exact ⟨_, hl, rfl⟩⟩

theorem snd_join {o a : Expr} {apos pos : Pos} {fa fb : Ev} {ra rb : Bool} (ha : Snd prog w nm tp o env ra fa) (hb : Snd prog w nm tp a env rb fb)
    (P : MethPlain o "join" apos pos env [a]) (hs : starEach [a] env = (false, eval a env) :: starEach [] env) : Snd prog w nm tp (.Call (.Attribute o "join" apos) [a] [] pos) env true (eJoin fa fb) := by
  intro A s ρ v hA hB hr hf
  unfold eJoin at hf
  split at hf
  · rename_i sep xs e1 e2
    split at hf
    · rename_i ts e3
      split at hf
      · rename_i hj
        obtain ⟨rfl, ok⟩ := gd_some hf
        refine meth1 ha hb P hs F.plainAttrs_str PySem.F.slot_str_join F.type_str_join hA hB hr e1 e2 str_T fun v u s₂ r1 r2 kp o1 o2 => ?_
        obtain ⟨t, rfl⟩ := r1
        obtain ⟨p, vs, n, rfl, hl, rx⟩ := r2
        obtain ⟨l, e4, e5⟩ := StrsAre.pairs (strsOf_are e3 rx)
        subst e4
        exact SC.join (isL hl) e5 hj fun t' tk => Out.u ⟨_, rfl⟩ (kpT kp kpTok) ok
      · cases hf
    · cases hf
  · cases hf

noncomputable def eCnt (fa fb : Ev) : Ev := fun ρ => match fa ρ, fb ρ with
  | some (.u (.s t)), some (.u (.s y)) => gd (.u (.i (Txt.count t y)))
  | _, _ => none
theorem snd_cnt {o a : Expr} {apos pos : Pos} {fa fb : Ev} {ra rb : Bool} (ha : Snd prog w nm tp o env ra fa) (hb : Snd prog w nm tp a env rb fb)
    (P : MethPlain o "count" apos pos env [a]) (hs : starEach [a] env = (false, eval a env) :: starEach [] env) : Snd prog w nm tp (.Call (.Attribute o "count" apos) [a] [] pos) env true (eCnt fa fb) := by
  intro A s ρ v hA hB hr hf
  unfold eCnt at hf
  split at hf
  · rename_i sep xs e1 e2
    obtain ⟨rfl, ok⟩ := gd_some hf
    refine meth1 ha hb P hs F.plainAttrs_str PySem.F.slot_str_count F.type_str_count hA hB hr e1 e2 str_T fun v u s₂ r1 r2 kp o1 o2 => ?_
    obtain ⟨t, rfl⟩ := r1
    obtain ⟨t', rfl⟩ := r2
    exact SC.count (Out.u ⟨_, rfl⟩ (kpT kp kpTok) ok)
  · cases hf

-- list.index, list.count of texts
noncomputable def eIndexL (fa fb : Ev) : Ev := fun ρ => match fa ρ, fb ρ with
  | some (.l xs), some (.u (.s y)) => match strsOf xs with
    | some ts => if decide (ts.idxOf y < ts.length) then gd (.u (.i (ts.idxOf y))) else none
    | none => none
  | _, _ => none
noncomputable def eCountL (fa fb : Ev) : Ev := fun ρ => match fa ρ, fb ρ with
  | some (.l xs), some (.u (.s y)) => match strsOf xs with
    | some ts => gd (.u (.i (Spec.countIn (PyData.str y) (ts.map PyData.str))))
    | none => none
  | _, _ => none
theorem snd_countL {o a : Expr} {apos pos : Pos} {fa fb : Ev} {ra rb : Bool} (ha : Snd prog w nm tp o env ra fa) (hb : Snd prog w nm tp a env rb fb)
    (P : MethPlain o "count" apos pos env [a]) (hs : starEach [a] env = (false, eval a env) :: starEach [] env) : Snd prog w nm tp (.Call (.Attribute o "count" apos) [a] [] pos) env true (eCountL fa fb) := by
  intro A s ρ v hA hB hr hf
  unfold eCountL at hf
  split at hf
  · rename_i xs y e1 e2
    split at hf
    · rename_i ts e3
      obtain ⟨rfl, ok⟩ := gd_some hf
      refine meth1 ha hb P hs F.plainAttrs_list PySem.F.slot_list_count F.type_list_count hA hB hr e1 e2 list_T fun v u s₂ r1 r2 kp o1 o2 => ?_
      obtain ⟨p, vs, n, rfl, hl, rx⟩ := r1
      obtain ⟨t', rfl⟩ := r2
      exact count_list_strs (isL hl) (strsOf_are e3 rx) (Out.u ⟨_, rfl⟩ (kpT kp kpTok) ok)
    · cases hf
  · cases hf
end
end Mine
end
section
open PySem PySem.W PyProof.Rows PySem.Calls
set_option Elab.async false
namespace Mine
section
variable {prog : Program} {w : World} {nm : Nat → Str} {tp : Tp} {env : Env}

theorem isStr_at {k : Str} : ∀ {vs : List Value} {ts : List Str}, StrsAre vs ts → ∀ (j : Nat) (hj : j < vs.length) (hj' : j < ts.length), isStrOf k vs[j] = (ts[j] == k)
  | _, _, .nil, j, hj, _ => absurd hj (Nat.not_lt_zero _)
  | _, _, .cons y t r, 0, _, _ => rfl
  | _, _, .cons y t r, j + 1, hj, hj' => by
    simpa using isStr_at r j (by simpa using hj) (by simpa using hj')

theorem are_length : ∀ {vs : List Value} {ts : List Str}, StrsAre vs ts → vs.length = ts.length
  | _, _, .nil => rfl
  | _, _, .cons _ _ r => by rw [List.length_cons, List.length_cons, are_length r]

theorem index_ok {l : Addr} {vs : List Value} {n : Nat} {ts : List Str} {k : Str} {t : Tok} {A : Around} {E : Value → Shared → Prop} {s : Shared} {Q : Value → Shared → Prop} (hl : s.heap.get? l = some { cls := .type "list", data := .seq vs.toArray n }) (hi : StrsAre vs ts)
    (hn : ts.length ≤ 4000) (hk : ts.idxOf k < ts.length) (h : Q (.int (ts.idxOf k : Nat) s.toks) { s with toks := s.toks + 1 }) :
    wpAny (model prog w) A (call (.builtin "list.index") [.ref l, .str k t]) Q E s := by
  have hlen := are_length hi
  refine call_meets PySem.F.slot_list_index ⟨_, hl, rfl⟩ PySem.F.entry_list_index (PySem.F.args_list_index_2 _ _)
    (MeetsSeq.list_index l vs.toArray n (.str k t) (isStrOf k) (fun y hy => eq_isStrOf k t hi y (by simpa using hy)) (ts.idxOf k) (by simpa [hlen] using hk) (by omega) ?_ ?_) ⟨hl, h⟩
  · show isStrOf k vs[ts.idxOf k] = true
    rw [isStr_at hi _ (by omega) hk]
    simpa using List.getElem_idxOf hk
  · intro j hjs hlt
    show isStrOf k vs[j] = false
    rw [isStr_at hi _ (by simpa using hjs) (by omega)]
    exact List.not_of_lt_findIdx (p := (· == k)) hlt

theorem snd_indexL {o a : Expr} {apos pos : Pos} {fa fb : Ev} {ra rb : Bool} (ha : Snd prog w nm tp o env ra fa) (hb : Snd prog w nm tp a env rb fb)
    (P : MethPlain o "index" apos pos env [a]) (hs : starEach [a] env = (false, eval a env) :: starEach [] env) : Snd prog w nm tp (.Call (.Attribute o "index" apos) [a] [] pos) env true (eIndexL fa fb) := by
  intro A s ρ v hA hB hr hf
  unfold eIndexL at hf
  split at hf
  · rename_i xs y e1 e2
    split at hf
    · rename_i ts e3
      split at hf
      · rename_i hc
        obtain ⟨rfl, ok⟩ := gd_some hf
        refine meth1 ha hb P hs F.plainAttrs_list PySem.F.slot_list_index F.type_list_index hA hB hr e1 e2 list_T fun v u s₂ r1 r2 kp o1 o2 => ?_
        obtain ⟨p, vs, n, rfl, hl, rx⟩ := r1
        obtain ⟨t', rfl⟩ := r2
        have hi := strsOf_are e3 rx
        have h4 := list_ok o1
        have h5 := are_length hi
        have h6 := rx.length
        exact index_ok hl hi (by omega) (of_decide_eq_true hc) (Out.u ⟨_, rfl⟩ (kpT kp kpTok) ok)
      · cases hf
    · cases hf
  · cases hf

-- split at a separator: the tokens told
theorem strsFrom_are : ∀ (ts : List Str) (k : Nat), StrsAre (strsFrom k ts) ts
  | [], _ => .nil
  | t :: ts, k => .cons t k (strsFrom_are ts (k + 1))
theorem strsFrom_k : ∀ (ts : List Str) (k : Nat), RepK k (strsFrom k ts) ts
  | [], _ => .nil
  | t :: ts, k => .cons (strsFrom_k ts (k + 1))
theorem strsFrom_z (ts : List Str) (k : Nat) (h : k ≠ 0) : RepZ (strsFrom k ts) ts := ⟨k, h, strsFrom_k ts k⟩

theorem split_ok {x y : Str} {t u : Tok} {A : Around} {E : Value → Shared → Prop} {s : Shared} {Q : Value → Shared → Prop} (hx : x.length ≤ 4000) (hy : (y.length == 0) = false)
    (hp : ∀ p ∈ Txt.split x y, p.length ≤ 4000) (hn : (Txt.split x y).length ≤ 4000)
    (h : ∀ vs tk, StrsAre vs (Txt.split x y) → (t ≠ 0 ∨ 2 ≤ (Txt.split x y).length → s.toks ≠ 0 → RepZ vs (Txt.split x y)) → Q (.ref s.heap.objs.size) { s with heap := s.heap.push { cls := .type "list", data := .seq vs.toArray }, toks := tk }) :
    wpAny (model prog w) A (call (.builtin "str.split") [.str x t, .str y u]) Q E s := by
  obtain ⟨raising, htree⟩ := split_sep_tree x y t u
  refine call_meets (S := fun A R s' => s' = s ∧ ∀ vs tk, StrsAre vs (Txt.split x y) → (t ≠ 0 ∨ 2 ≤ (Txt.split x y).length → s.toks ≠ 0 → RepZ vs (Txt.split x y)) → R (.ok (.ret (.ref s.heap.objs.size))) { s with heap := s.heap.push { cls := .type "list", data := .seq vs.toArray }, toks := tk })
    PySem.F.slot_str_split (typeIs_str _ _ _) PySem.F.entry_str_split (PySem.F.args_str_split_2 _ _) (Meets.of_wp fun prog w A R s' hh => ?_) ⟨rfl, fun vs tk a b => h vs tk a b⟩
  obtain ⟨rfl, hR⟩ := hh
  rw [htree]
  unfold Txt.split at hR hp hn
  split
  · rename_i hc
    rw [if_pos hc] at hR
    refine wpAny_bind (wpAny_rule (wpAny_bind (wpAny_newList (wpAny_pure ⟨_, rfl, hR [.str x t] _ (.cons _ _ .nil) fun h0 _ => h0.elim (fun h0 => ⟨_, h0, .cons .nil⟩) fun h0 => absurd h0 (by simp)⟩))))
  · rename_i hc
    rw [if_neg hc] at hR hp hn
    rw [hy]
    simp only [Bool.false_eq_true, if_false, Bool.true_and]
    split
    · rename_i hd
      rw [if_pos hd] at hR
      refine wpAny_bind (wpAny_rule (wpAny_bind (wpAny_newList (wpAny_pure ⟨_, rfl, hR [.str x t] _ (.cons _ _ .nil) fun h0 _ => h0.elim (fun h0 => ⟨_, h0, .cons .nil⟩) fun h0 => absurd h0 (by simp)⟩))))
    · rename_i hd
      rw [if_neg hd] at hR hp hn
      refine wpAny_bind (wpAny_mapM_mkStr _ _ _ (fun p hp' => Nat.le_trans (hp p hp') (by decide)) (wpAny_bind (wpAny_newList (wpAny_pure ⟨_, rfl, hR _ _ (strsFrom_are _ _) fun _ h1 => strsFrom_z _ _ h1⟩) ?_)))
      rw [are_length (strsFrom_are _ _)]
      exact Nat.le_trans hn (by decide)

noncomputable def eSplit (fa fb : Ev) : Ev := fun ρ => match fa ρ, fb ρ with
  | some (.u (.s x)), some (.u (.s y)) => if y.length == 0 then none else gd (.l ((Txt.split x y).map .s))
  | _, _ => none
theorem are_reps : ∀ {vs : List Value} {ts : List Str}, StrsAre vs ts → Reps vs (ts.map .s)
  | _, _, .nil => .nil
  | _, _, .cons _ _ r => .cons ⟨_, rfl⟩ (are_reps r)
theorem snd_split {o a : Expr} {apos pos : Pos} {fa fb : Ev} {ra rb : Bool} (ha : Snd prog w nm tp o env ra fa) (hb : Snd prog w nm tp a env rb fb)
    (P : MethPlain o "split" apos pos env [a]) (hs : starEach [a] env = (false, eval a env) :: starEach [] env) : Snd prog w nm tp (.Call (.Attribute o "split" apos) [a] [] pos) env true (eSplit fa fb) := by
  intro A s ρ v hA hB hr hf
  unfold eSplit at hf
  split at hf
  · rename_i x y e1 e2
    split at hf
    · cases hf
    · rename_i hy
      obtain ⟨rfl, ok⟩ := gd_some hf
      refine meth1 ha hb P hs F.plainAttrs_str PySem.F.slot_str_split F.type_str_split hA hB hr e1 e2 str_T fun v u s₂ r1 r2 kp o1 o2 => ?_
      obtain ⟨t, rfl⟩ := r1
      obtain ⟨t', rfl⟩ := r2
      have ok' := ok
      simp only [okV, Bool.and_eq_true, decide_eq_true_eq, List.length_map, List.all_map, List.all_eq_true] at ok'
      exact split_ok (str_ok o1) (by simpa using hy) (fun p hp => by
        have := ok'.2 p hp
        have z : p.cps.size ≤ 4000 := by simpa [okU] using this
        exact z) ok'.1 fun vs tk a _ => Out.fr kp (Out.push (are_reps a) ok)
  · cases hf
end
end Mine
end
section
open PySem PySem.W PyProof.Rows PySem.Calls
set_option Elab.async false
namespace Mine

-- sorted texts
noncomputable def leT (a b : Str) : Bool := !Spec.ltCps b.cps.toList a.cps.toList
noncomputable def insT (x : Str) : List Str → List Str
  | [] => [x]
  | y :: r => if leT x y then x :: y :: r else y :: insT x r
noncomputable def sortT : List Str → List Str
  | [] => []
  | x :: r => insT x (sortT r)
theorem insT_perm (x : Str) : ∀ l, (insT x l).Perm (x :: l)
  | [] => .refl _
  | y :: r => by
    unfold insT
    split
    · exact .refl _
    · exact ((insT_perm x r).cons y).trans (.swap x y r)
theorem sortT_perm : ∀ l, (sortT l).Perm l
  | [] => .refl _
  | x :: r => (insT_perm x (sortT r)).trans ((sortT_perm r).cons x)
theorem leT_iff (a b : Str) : leT a b = true ↔ a.cps.toList ≤ b.cps.toList := by
  unfold leT
  rw [ltCps_eq]
  simp only [Bool.not_eq_true', decide_eq_false_iff_not]
  exact List.not_lt
theorem leT_trans {a b c : Str} (h : leT a b = true) (g : leT b c = true) : leT a c = true := by
  rw [leT_iff] at *
  exact List.le_trans h g
theorem leT_total (a b : Str) : leT a b = true ∨ leT b a = true := by
  rw [leT_iff, leT_iff]
  exact List.le_total _ _
theorem leT_anti {a b : Str} (h : leT a b = true) (g : leT b a = true) : a = b := by
  rw [leT_iff] at *
  have := List.le_antisymm h g
  cases a; cases b
  simp only [Str.mk.injEq] at *
  exact Array.toList_inj.mp this
theorem insT_sorted (x : Str) : ∀ l : List Str, l.Pairwise (fun a b => leT a b = true) → (insT x l).Pairwise (fun a b => leT a b = true)
  | [], _ => by simp [insT]
  | y :: r, h => by
    unfold insT
    split
    · rename_i hx
      refine List.Pairwise.cons (fun z hz => ?_) h
      rcases List.mem_cons.mp hz with rfl | hz
      · exact hx
      · exact leT_trans hx (List.rel_of_pairwise_cons h hz)
    · rename_i hx
      have hy : leT y x = true := (leT_total x y).resolve_left hx
      refine List.Pairwise.cons (fun z hz => ?_) (insT_sorted x r (List.Pairwise.of_cons h))
      rcases List.mem_cons.mp ((insT_perm x r).mem_iff.mp hz) with rfl | hz
      · exact hy
      · exact List.rel_of_pairwise_cons h hz
theorem sortT_sorted : ∀ l : List Str, (sortT l).Pairwise (fun a b => leT a b = true)
  | [] => .nil
  | x :: r => insT_sorted x _ (sortT_sorted r)
theorem rising_pw : ∀ (x : Str) (l : List Str), risingS x l = true → (x :: l).Pairwise (fun a b => leT a b = true)
  | x, [], _ => by simp
  | x, y :: r, h => by
    unfold risingS at h
    rw [Bool.and_eq_true] at h
    have ih := rising_pw y r h.2
    have hxy : leT x y = true := h.1
    refine List.Pairwise.cons (fun z hz => ?_) ih
    rcases List.mem_cons.mp hz with rfl | hz
    · exact hxy
    · exact leT_trans hxy (List.rel_of_pairwise_cons ih hz)
theorem sorted_is {a b : List Str} (p : a.Perm b) (h : sortedS a = true) : a = sortT b := by
  have ha : a.Pairwise (fun a b => leT a b = true) := by
    cases a with
    | nil => exact .nil
    | cons x r => exact rising_pw x r h
  exact List.Perm.eq_of_pairwise (fun _ _ _ _ => leT_anti) ha (sortT_sorted b) (p.trans (sortT_perm b).symm)

section
variable {prog : Program} {w : World} {nm : Nat → Str} {tp : Tp} {env : Env}

noncomputable def eSorted (fa : Ev) : Ev := fun ρ => match fa ρ with
  | some (.l xs) => match strsOf xs with
    | some ts => if decide (ts.length < 60) then gd (.l ((sortT ts).map .s)) else none
    | none => none
  | _ => none

theorem mapSeq_list (f : Array Value → Array Value) (xs : Array Value) (n : Nat) : ∃ n', Obj.mapSeq f { cls := .type "list", data := .seq xs n } = { cls := .type "list", data := .seq (f xs) n' } := ⟨_, rfl⟩
theorem sortedAll_get (h : Heap) (vs : List Value) (out : Array Value) : (∃ n, (sortedAll h vs out).get? (h.objs.size + 1) = some { cls := .type "list", data := .seq out n }) ∧ (∀ b o, h.get? b = some o → (sortedAll h vs out).get? b = some o) := by
  unfold sortedAll sortedHeap
  have z1 : (h.push (seqObj "list" #[] 0)).objs.size = h.objs.size + 1 := Heap.size_push ..
  generalize hA : (h.push (seqObj "list" #[] 0)).update h.objs.size (Obj.mapSeq fun x => x ++ vs.toArray) = hp
  have z2 : hp.objs.size = h.objs.size + 1 := by rw [← hA, Heap.size_after_update, z1]
  have k2 : ∀ b o, h.get? b = some o → hp.get? b = some o := fun b o e => by
    rw [← hA, Heap.get?_update_ne _ _ _ _ (Nat.ne_of_lt (Heap.lt_size e))]
    exact Heap.get?_push_of_some _ e
  have g3 : (hp.push (seqObj "list" vs.toArray 0)).get? (h.objs.size + 1) = some (seqObj "list" vs.toArray 0) := by rw [← z2]; exact Heap.get?_push_size _ rfl
  obtain ⟨n1, e1⟩ := mapSeq_list (fun _ => #[]) vs.toArray 0
  have g4 := Heap.get?_update_self (h := hp.push (seqObj "list" vs.toArray 0)) (Obj.mapSeq fun _ => #[]) g3 (by rw [show seqObj "list" vs.toArray 0 = _ from rfl, e1]; rfl)
  rw [show Obj.mapSeq (fun _ => #[]) (seqObj "list" vs.toArray 0) = _ from e1] at g4
  obtain ⟨n2, e2⟩ := mapSeq_list (fun _ => out) #[] n1
  have g5 := Heap.get?_update_self (Obj.mapSeq fun _ => out) (Heap.get?_push_of_some (seqObj "list" #[] 0) (Heap.get?_push_of_some (seqObj "tuple" vs.toArray 0) g4)) (by rw [e2]; rfl)
  rw [e2] at g5
  refine ⟨⟨n2, g5⟩, fun b o e => ?_⟩
  have nb : b ≠ h.objs.size + 1 := Nat.ne_of_lt (Nat.lt_succ_of_lt (Heap.lt_size e))
  rw [Heap.get?_update_ne _ _ _ _ nb]
  refine Heap.get?_push_of_some _ (Heap.get?_push_of_some _ ?_)
  rw [Heap.get?_update_ne _ _ _ _ nb]
  exact Heap.get?_push_of_some _ (k2 b o e)

theorem snd_sorted {pa : Expr} {np pos : Pos} {fa : Ev} {ra : Bool} (ha : Snd prog w nm tp pa env ra fa) (G : EnvG env) (hk : env.kindOf "sorted" = some .globalImplicit) (h0 : tp.mg "sorted" = none) (h1 : tp.mb "sorted" = some (.builtin "sorted"))
    (hs : starEach [pa] env = [(false, eval pa env)]) : Snd prog w nm tp (.Call (.Name "sorted" np) [pa] [] pos) env true (eSorted fa) := by
  intro A s ρ v hA hB hr hf
  refine wpAny_Call_NameR (name_builtin G hB hk h0 h1 (by decide) ?_)
  rw [hs]
  refine PySem.callWith_builtin1 ?_
  show wpAny (model prog w) A (eval pa env) _ _ _
  unfold eSorted at hf
  split at hf
  · rename_i xs ex
    split at hf
    · rename_i ts e3
      split at hf
      · rename_i hc
        obtain ⟨rfl, ok⟩ := gd_some hf
        refine wpAny_mono (ha A s ρ _ hA hB hr ex) (fun a s₁ h₁ => ?_) fun _ _ e => e.elim
        obtain ⟨⟨p, vs, n1, rfl, hl, rx⟩, _, kp, o₁⟩ := h₁
        have hi := strsOf_are e3 rx
        refine sorted_strs (isL hl) hi (by rw [are_length hi]; have := of_decide_eq_true hc; omega) fun out ss' h2 h3 h4 => ?_
        obtain ⟨⟨n2, g1⟩, g2⟩ := sortedAll_get s₁.heap vs out
        have e : ss' = sortT ts := sorted_is h3 h4
        subst e
        refine Out.fr kp ⟨⟨_, out.toList, n2, rfl, by simpa using g1, are_reps h2⟩, fun _ a e => ?_, ⟨_, s₁.toks, rfl, g2⟩, ok⟩
        cases e
        exact getNone (Nat.le_succ _)
      · cases hf
    · cases hf
  · cases hf
end
end Mine
end
section
open PySem PySem.W PyProof.Rows PySem.Calls
set_option Elab.async false
namespace Mine

noncomputable def toU : Value → Option U
  | .bool b => some (.b b)
  | .int i _ => some (.i i)
  | .str t _ => some (.s t)
  | _ => none
theorem toU_of {v : Value} : ∀ {u : U}, RepU v u → toU v = some u
  | .b _, r => by rw [show v = _ from r]; rfl
  | .i _, ⟨_, r⟩ => by rw [r]; rfl
  | .s _, ⟨_, r⟩ => by rw [r]; rfl

noncomputable def capt (fv : List Nat) (ρ : List (Nat × V)) : List (Nat × V) := fv.filterMap fun y => (look ρ y).map fun v => (y, v)
theorem look_capt : ∀ (fv : List Nat) (ρ : List (Nat × V)) (y : Nat) (v : V), look (capt fv ρ) y = some v → y ∈ fv ∧ look ρ y = some v
  | [], _, _, _, h => by cases h
  | z :: fv, ρ, y, v, h => by
    unfold capt at h
    rw [List.filterMap_cons] at h
    cases e : look ρ z with
    | none =>
      rw [e] at h
      obtain ⟨a, b⟩ := look_capt fv ρ y v h
      exact ⟨.tail _ a, b⟩
    | some x =>
      rw [e] at h
      simp only [Option.map_some] at h
      unfold look at h
      by_cases q : z = y
      · subst q
        rw [if_pos (beq_self_eq_true z)] at h
        exact ⟨.head _, e.trans h⟩
      · rw [if_neg (by simpa using q)] at h
        obtain ⟨a, b⟩ := look_capt fv ρ y v h
        exact ⟨.tail _ a, b⟩

noncomputable abbrev Tv := List (Nat × V) → Option Bool

noncomputable def compGo (x : Nat) (ρ : List (Nat × V)) (fe : Ev) (fc : Tv) : List U → Option (List U)
  | [] => some []
  | u :: r => match fc ((x, .u u) :: ρ) with
    | some true => match fe ((x, .u u) :: ρ), compGo x ρ fe fc r with
      | some (.u y), some ys => some (y :: ys)
      | _, _ => none
    | some false => compGo x ρ fe fc r
    | none => none

noncomputable def itemsOf : V → Option (List U)
  | .l xs => some xs
  | .z ts => some (ts.map .s)
  | _ => none
noncomputable def eComp (x : Nat) (fv : List Nat) (fs fe : Ev) (fc : Tv) : Ev := fun ρ => match fs ρ with
  | some v => match itemsOf v with
    | some us => match compGo x (capt fv ρ) fe fc us with
      | some ys => gd (.l ys)
      | none => none
    | none => none
  | none => none
noncomputable def rangeU (n : Nat) : List U := (List.range n).map fun (i : Nat) => U.i (i : Int)
noncomputable def eCompR (x : Nat) (fv : List Nat) (fs fe : Ev) (fc : Tv) : Ev := fun ρ => match fs ρ with
  | some (.u (.i n)) => if decide (0 ≤ n) && decide (n ≤ 1000) then (match compGo x (capt fv ρ) fe fc (rangeU n.toNat) with
      | some ys => gd (.l ys)
      | none => none) else none
  | _ => none

/-- the test as a predicate on values -/
noncomputable def pOf (x : Nat) (ρ : List (Nat × V)) (fc : Tv) (v : Value) : Bool := match toU v with
  | some u => match fc ((x, .u u) :: ρ) with
    | some b => b
    | none => false
  | none => false
noncomputable def FOf (x : Nat) (ρ : List (Nat × V)) (fe : Ev) (v y : Value) : Prop := ∃ u r, RepU v u ∧ fe ((x, .u u) :: ρ) = some (.u r) ∧ RepU y r

theorem comp_out {x : Nat} {ρ : List (Nat × V)} {fe : Ev} {fc : Tv} : ∀ {vs : List Value} {us : List U}, Reps vs us → ∀ {rs : List U}, compGo x ρ fe fc us = some rs → ∀ {ys : List Value},
    Paired (FOf x ρ fe) (vs.filter (pOf x ρ fc)) ys → Reps ys rs
  | _, _, .nil, rs, e, ys, P => by
    cases e
    cases P
    exact .nil
  | v :: vs, u :: us, .cons r h, rs, e, ys, P => by
    unfold compGo at e
    have ep : pOf x ρ fc v = (match fc ((x, .u u) :: ρ) with | some b => b | none => false) := by unfold pOf; rw [toU_of r]
    split at e
    · rename_i hc
      rw [hc] at ep
      rw [List.filter_cons, if_pos ep] at P
      split at e
      · rename_i y zs e1 e2
        cases e
        cases P with
        | cons hF hP =>
          obtain ⟨u', r', h1, h2, h3⟩ := hF
          have : u' = u := RepU.fn h1 r
          subst this
          rw [e1] at h2
          cases h2
          exact .cons h3 (comp_out h e2 hP)
      · cases e
    · rename_i hc
      rw [hc] at ep
      rw [List.filter_cons, if_neg (by rw [ep]; exact Bool.false_ne_true)] at P
      exact comp_out h e P
    · cases e

theorem compGo_each {x : Nat} {ρ : List (Nat × V)} {fe : Ev} {fc : Tv} : ∀ {us : List U} {rs : List U}, compGo x ρ fe fc us = some rs → ∀ (i : Nat) (u : U), us[i]? = some u → ∃ b, fc ((x, .u u) :: ρ) = some b ∧ (b = true → ∃ r, fe ((x, .u u) :: ρ) = some (.u r))
  | [], rs, _, i, u, h => by simp at h
  | w :: us, rs, e, i, u, h => by
    unfold compGo at e
    split at e
    · rename_i hc
      split at e
      · rename_i y zs e1 e2
        cases i with
        | zero => simp at h; subst h; exact ⟨true, hc, fun _ => ⟨y, e1⟩⟩
        | succ i => exact compGo_each e2 i u (by simpa using h)
      · cases e
    · rename_i hc
      cases i with
      | zero => simp at h; subst h; exact ⟨false, hc, fun h => nomatch h⟩
      | succ i => exact compGo_each e i u (by simpa using h)
    · cases e

section
variable (prog : Program) (w : World) (nm : Nat → Str) (tp : Tp)
noncomputable def SndT (c : Expr) (env : Env) (f : Tv) : Prop :=
  ∀ (A : Around) (s : Shared) (ρ : List (Nat × V)) (b : Bool) (whole : Sem Value), AOk A → Bs tp s.heap → Acc nm env s.heap ρ → f ρ = some b →
    wpAny (model prog w) A (isTrue c env whole) (fun v s' => v = b ∧ Keeps s s') (fun _ _ => False) s
inductive SndI (env : Env) : List Expr → Tv → Prop where
  | nil : SndI env [] (fun _ => some true)
  | one {c : Expr} {f : Tv} : SndT prog w nm tp c env f → SndI env [c] f
end

section
variable {prog : Program} {w : World} {nm : Nat → Str} {tp : Tp} {env : Env}

structure CompOk (nm : Nat → Str) (env : Env) (scope : Scope) (cl : List (Str × Addr)) (x : Nat) (fv : List Nat) : Prop where
  clos : closureFor scope env = pure cl
  cell : ∀ y ∈ scope.names, y.2 ≠ .cell
  kind : scope.kind = .function
  names : ∀ y ∈ scope.names, y.2 = .local → scope.names.lookup y.1 = some .local
  var : scope.names.lookup (nm x) = some .local
  kx : ∀ C, (compEnvC scope cl C env).kindOf (nm x) = some .local
  kf : ∀ y ∈ fv, ∀ C, (compEnvC scope cl C env).kindOf (nm y) = some .cell ∧ env.kindOf (nm y) = some .cell ∧ cl.lookup (nm y) = env.cells.lookup (nm y)

theorem acc_in {scope : Scope} {cl : List (Str × Addr)} {x : Nat} {fv : List Nat} (H : CompOk nm env scope cl x fv) {h h' : Heap} {ρ : List (Nat × V)} (hr : Acc nm env h ρ) (k : ∀ b o, h.get? b = some o → h'.get? b = some o)
    {C : Addr} {m : Str → Option Value} {v : Value} {u : U} (hn : h'.Ns C m) (hm : m (nm x) = some v) (ru : RepU v u) (ok : okU u = true) : Acc nm (compEnvC scope cl C env) h' ((x, .u u) :: capt fv ρ) := by
  intro y val hy
  unfold look at hy
  by_cases q : x = y
  · subst q
    rw [if_pos (beq_self_eq_true x)] at hy
    cases hy
    exact ⟨v, ru, ok, .inl ⟨H.kx C, m, hn, hm⟩⟩
  · rw [if_neg (by simpa using q)] at hy
    obtain ⟨hf, hl⟩ := look_capt _ _ _ _ hy
    obtain ⟨k1, k2, k3⟩ := H.kf y hf C
    obtain ⟨w, rw_, okw, hv⟩ := hr y val hl
    refine ⟨w, rw_.keep k, okw, ?_⟩
    rcases hv with ⟨e, _⟩ | ⟨e, c, hc, hcell⟩
    · rw [k2] at e; cases e
    · exact .inr ⟨k1, c, by show cl.lookup (nm y) = _; rw [k3]; exact hc, let ⟨o, ho, hd⟩ := hcell; ⟨o, k _ _ ho, hd⟩⟩

theorem quiet {scope : Scope} {cl : List (Str × Addr)} {x : Nat} {fv : List Nat} (H : CompOk nm env scope cl x fv) {elt : Expr} {ifs : List Expr} {fe : Ev} {fc : Tv} {re : Bool}
    (he : ∀ C, Snd prog w nm tp elt (compEnvC scope cl C env) re fe) (hc : ∀ C, SndI prog w nm tp (compEnvC scope cl C env) ifs fc) {A : Around} {s₁ s₂ : Shared} {ρ : List (Nat × V)} {us rs : List U} {wr : List Addr} {P : Nat → Value → Prop}
    (hA : AOk A) (hB : Bs tp s₁.heap) (hr : Acc nm env s₁.heap ρ) (k : ∀ b o, s₁.heap.get? b = some o → s₂.heap.get? b = some o ∧ b ∉ wr) (hg : compGo x (capt fv ρ) fe fc us = some rs)
    (hP : ∀ (i : Nat) (v : Value), P i v → ∃ u : U, us[i]? = some u ∧ RepU v u) (hu : ∀ (i : Nat) (u : U), us[i]? = some u → okU u = true) : QuietOnC prog w A env scope cl (nm x) ifs elt wr P (pOf x (capt fv ρ) fc) (FOf x (capt fv ρ) fe) s₂ where
  tests := by
    intro C i v s₃ m₃ E' _ hPv hn hm hk _
    obtain ⟨u, hui, ru⟩ := hP i v hPv
    obtain ⟨b, hb, _⟩ := compGo_each hg i u hui
    have ep : pOf x (capt fv ρ) fc v = b := by unfold pOf; rw [toU_of ru]; simp only [hb]
    have k' : ∀ b o, s₁.heap.get? b = some o → s₃.heap.get? b = some o := fun b o e => hk b o (k b o e).2 (k b o e).1
    rw [ep]
    have := hc C
    cases this with
    | nil => cases hb; exact wpAny_tests_nil ⟨rfl, kpR _⟩
    | one ht => exact wpAny_tests_one (wpAny_mono (ht A s₃ _ b _ hA (hB.keep k') (acc_in H hr k' hn hm ru (hu i u hui)) hb) (fun _ _ z => z) fun _ _ z => z.elim)
  elt := by
    intro C i v s₃ m₃ E' _ hPv hpv hn hm hk _
    obtain ⟨u, hui, ru⟩ := hP i v hPv
    obtain ⟨b, hb, hb2⟩ := compGo_each hg i u hui
    have ep : pOf x (capt fv ρ) fc v = b := by unfold pOf; rw [toU_of ru]; simp only [hb]
    rw [ep] at hpv
    obtain ⟨r, hr'⟩ := hb2 hpv
    have k' : ∀ b o, s₁.heap.get? b = some o → s₃.heap.get? b = some o := fun b o e => hk b o (k b o e).2 (k b o e).1
    exact wpAny_mono (he C A s₃ _ _ hA (hB.keep k') (acc_in H hr k' hn hm ru (hu i u hui)) hr') (fun y s₄ z => ⟨⟨u, r, ru, hr', z.1⟩, z.2.2.1⟩) fun _ _ z => z.elim

theorem reps_of : ∀ {vs : List Value} {us : List U}, vs.length = us.length → (∀ (j : Nat) (v : Value), vs[j]? = some v → ∃ u, us[j]? = some u ∧ RepU v u) → Reps vs us
  | [], [], _, _ => .nil
  | v :: vs, u :: us, hl, h => by
    obtain ⟨u', e, r⟩ := h 0 v rfl
    simp at e
    subst e
    refine .cons r (reps_of (by simpa using hl) fun j w hw => ?_)
    obtain ⟨u', e, r'⟩ := h (j + 1) w (by simpa using hw)
    exact ⟨u', by simpa using e, r'⟩

theorem itemsOf_ok {v : V} {us : List U} (h : itemsOf v = some us) (ok : okV v = true) : us.length ≤ 4000 ∧ ∀ (i : Nat) (u : U), us[i]? = some u → okU u = true := by
  unfold itemsOf at h
  split at h
  · cases h
    simp only [okV, Bool.and_eq_true, decide_eq_true_eq, List.all_eq_true] at ok
    exact ⟨ok.1, fun i u e => ok.2 u (List.mem_of_getElem? e)⟩
  · cases h
    simp only [okV, Bool.and_eq_true, decide_eq_true_eq, List.all_eq_true] at ok
    refine ⟨by rw [List.length_map]; exact ok.1, fun i u e => ?_⟩
    obtain ⟨t, ht, rfl⟩ := List.mem_map.mp (List.mem_of_getElem? e)
    simpa [okU] using ok.2 t ht
  · cases h
theorem itemsOf_rep {v : V} {us : List U} {h : Heap} {val : Value} (e : itemsOf v = some us) (r : RepV h val v) : ∃ a vs n, val = .ref a ∧ h.get? a = some { cls := .type "list", data := .seq (List.toArray vs) n } ∧ Reps vs us := by
  unfold itemsOf at e
  split at e
  · cases e; exact r
  · cases e
    obtain ⟨a, vs, n, e1, e2, e3⟩ := r
    exact ⟨a, vs, n, e1, e2, e3.reps⟩
  · cases e

theorem snd_comp {scope : Scope} {cl : List (Str × Addr)} {x : Nat} {fv : List Nat} (H : CompOk nm env scope cl x fv) {elt src : Expr} {px pos : Pos} {ifs : List Expr} {fs fe : Ev} {fc : Tv} {re rs : Bool} {n : Str} (hn : nm x = n)
    (hs : Snd prog w nm tp src env rs fs) (he : ∀ C, Snd prog w nm tp elt (compEnvC scope cl C env) re fe) (hc : ∀ C, SndI prog w nm tp (compEnvC scope cl C env) ifs fc)
    (hfold : ∀ x, foldedSetIterable src env x = pure x) : Snd prog w nm tp (.ListComp elt [⟨.Name n px, src, ifs, 0⟩] scope pos) env true (eComp x fv fs fe fc) := by
  subst hn
  intro A s ρ v hA hB hr hf
  unfold eComp at hf
  split at hf
  · rename_i sv e1
    split at hf
    · rename_i us e2
      split at hf
      · rename_i ys e3
        obtain ⟨rfl, ok⟩ := gd_some hf
        refine wpAny_ListComp_free (pOf x (capt fv ρ) fc) (FOf x (capt fv ρ) fe) H.clos H.cell H.kind H.names H.var (wpAny_mono (hs A s ρ sv hA hB hr e1) (fun xv s₁ h₁ => ?_) fun _ _ e => e.elim) hfold
        obtain ⟨r1, _, k1, o1⟩ := h₁
        obtain ⟨ax, vs, n1, rfl, hl, rx⟩ := itemsOf_rep e2 r1
        obtain ⟨hlen, hok⟩ := itemsOf_ok e2 o1
        refine wpAny_pyIter_list (isL hl) ?_
        have hlt : ax < s₁.heap.objs.size := Heap.lt_size hl
        have hne : ax ≠ s₁.heap.objs.size := Nat.ne_of_lt hlt
        have hl2 := Heap.get?_push_of_some { cls := .type "list_iterator", data := .fields #[.ref ax, .int 0 0] } hl
        refine ⟨s₁.heap.objs.size, _, _, _, _, _, rfl, Walks.list hA.hd s₁.heap.objs.size ax hne vs.toArray, ?_, ⟨⟨_, Heap.get?_push_size _ rfl, rfl, rfl⟩, isL hl2⟩, ?_, ?_, ?_⟩
        · rw [List.size_toArray, rx.length]; exact Nat.le_trans hlen (by decide)
        · intro b hb
          show b < (s₁.heap.push _).objs.size
          rw [Heap.size_push]
          rcases List.mem_cons.mp hb with rfl | hb
          · exact Nat.lt_succ_self _
          · rcases List.mem_cons.mp hb with rfl | hb
            · exact Nat.lt_succ_of_lt hlt
            · cases hb
        · refine quiet H he hc hA (hB.keep (kpK k1)) (hr.keep _ (kpK k1)) (s₁ := s₁) (us := us) (fun b o e => ⟨Heap.get?_push_of_some _ e, fun hm => ?_⟩) e3 (fun i v hv => ?_) hok
          · rcases List.mem_cons.mp hm with rfl | hm
            · exact Nat.lt_irrefl _ (Heap.lt_size e)
            · cases hm
          · exact rx.at i v (by simpa using hv)
        · intro D h' tk zs ws hD hL hP hlen2 hws hpair hk
          obtain ⟨n2, hp⟩ := hP
          have hrw : Reps ws us := reps_of (by rw [hlen2, List.size_toArray, rx.length]) fun j v hv => rx.at j v (by simpa using hws j v hv)
          have kk : ∀ b o, s₁.heap.get? b = some o → h'.get? b = some o := fun b o e => hk b o (fun hm => by
            rcases List.mem_cons.mp hm with rfl | hm
            · exact Nat.lt_irrefl _ (Heap.lt_size e)
            · cases hm) (Heap.get?_push_of_some _ e)
          refine Out.fr k1 ⟨⟨D, zs.toList, n2, rfl, by simpa using hp, comp_out hrw e3 hpair⟩, fun _ a e => ?_, ⟨h', tk, rfl, kk⟩, ok⟩
          cases e
          cases q : s₁.heap.get? D with
          | none => rfl
          | some o => have z := Heap.get?_push_of_some { cls := .type "list_iterator", data := .fields #[.ref ax, .int 0 0] } q; rw [hD] at z; cases z
      · cases hf
    · cases hf
  · cases hf
end
end Mine
end
section
open PySem PySem.W PyProof.Rows PySem.Calls
set_option Elab.async false
set_option maxRecDepth 100000
namespace Mine
section
variable {prog : Program} {w : World} {nm : Nat → Str} {tp : Tp} {env : Env}

theorem small_range {n : Int} (h0 : 0 ≤ n) (h1 : n ≤ 1000) : Builtin.Range.rangeSize 0 n 1 = n ∧ Builtin.Range.small 0 n 1 = true := by
  have e : Builtin.Range.rangeSize 0 n 1 = n := by
    unfold Builtin.Range.rangeSize
    rw [if_pos (by decide)]
    split
    · rw [Int.ediv_one]; omega
    · omega
  refine ⟨e, ?_⟩
  unfold Builtin.Range.small
  rw [e]
  have f : ∀ m : Int, 0 ≤ m → m ≤ 2000 → Builtin.Range.rangeFitsLong m = true := fun m h2 h3 => by
    unfold Builtin.Range.rangeFitsLong
    simp only [Bool.and_eq_true, decide_eq_true_eq]
    omega
  rw [f 0 (by omega) (by omega), f n h0 (by omega), f 1 (by omega) (by omega)]
  simp only [Bool.true_and, Bool.or_eq_true, beq_iff_eq]
  right
  rw [if_pos (by decide)]
  exact f _ (by omega) (by omega)

theorem rangeU_at (n : Nat) (i : Nat) (u : U) (h : (rangeU n)[i]? = some u) : i < n ∧ u = .i i := by
  unfold rangeU at h
  rw [List.getElem?_map] at h
  obtain ⟨j, hj, rfl⟩ := Option.map_eq_some_iff.mp h
  obtain ⟨a, b⟩ := List.getElem?_eq_some_iff.mp hj
  rw [List.getElem_range] at b
  subst b
  exact ⟨by simpa using a, rfl⟩
theorem rangeU_len (n : Nat) : (rangeU n).length = n := by simp [rangeU]
theorem rangeU_get {n i : Nat} (h : i < n) : (rangeU n)[i]? = some (.i (i : Int)) := by simp [rangeU, h]

/-- range(n) as it is called -/
theorem range_call {pn : Expr} {np p2 : Pos} {fn : Ev} {rn : Bool} (hs : Snd prog w nm tp pn env rn fn) (G : EnvG env) (hk : env.kindOf "range" = some .globalImplicit) (h0 : tp.mg "range" = none) (h1 : tp.mb "range" = some (.type "range"))
    (hst : starEach [pn] env = [(false, eval pn env)]) {A : Around} {s : Shared} {ρ : List (Nat × V)} {n : Int} {Q : Value → Shared → Prop} {E : Value → Shared → Prop} (hA : AOk A) (hB : Bs tp s.heap) (hr : Acc nm env s.heap ρ) (e : fn ρ = some (.u (.i n)))
    (h : ∀ r s₁ t u v, IsRange s₁.heap r 0 n 1 t u v → Keeps s s₁ → Q (.ref r) s₁) : wpAny (model prog w) A (eval (.Call (.Name "range" np) [pn] [] p2) env) Q E s := by
  refine wpAny_Call_NameR (name_builtin G hB hk h0 h1 (by decide) ?_)
  rw [hst]
  refine PySem.callWith_type1 ?_
  show wpAny (model prog w) A (eval pn env) _ _ _
  refine wpAny_mono (hs A s ρ _ hA hB hr e) (fun a s₁ h₁ => ?_) fun _ _ e => e.elim
  obtain ⟨⟨t, rfl⟩, _, kp, _⟩ := h₁
  exact call_range_1 (h _ _ _ _ _ (IsRange.new ..) (kpT kp kpPush))

theorem snd_compR {scope : Scope} {cl : List (Str × Addr)} {x : Nat} {fv : List Nat} (H : CompOk nm env scope cl x fv) {elt pn : Expr} {np p2 px pos : Pos} {ifs : List Expr} {fs fe : Ev} {fc : Tv} {re rs : Bool} {n : Str} (hn : nm x = n)
    (hs : Snd prog w nm tp pn env rs fs) (he : ∀ C, Snd prog w nm tp elt (compEnvC scope cl C env) re fe) (hc : ∀ C, SndI prog w nm tp (compEnvC scope cl C env) ifs fc)
    (G : EnvG env) (hk : env.kindOf "range" = some .globalImplicit) (h0 : tp.mg "range" = none) (h1 : tp.mb "range" = some (.type "range")) (hst : starEach [pn] env = [(false, eval pn env)]) :
    Snd prog w nm tp (.ListComp elt [⟨.Name n px, .Call (.Name "range" np) [pn] [] p2, ifs, 0⟩] scope pos) env true (eCompR x fv fs fe fc) := by
  subst hn
  intro A s ρ v hA hB hr hf
  unfold eCompR at hf
  split at hf
  · rename_i k e1
    split at hf
    · rename_i hcc
      simp only [Bool.and_eq_true, decide_eq_true_eq] at hcc
      split at hf
      · rename_i ys e3
        obtain ⟨rfl, ok⟩ := gd_some hf
        refine wpAny_ListComp_free (pOf x (capt fv ρ) fc) (FOf x (capt fv ρ) fe) H.clos H.cell H.kind H.names H.var (range_call hs G hk h0 h1 hst hA hB hr e1 fun r s₁ t u v hR k1 => ?_) (fun _ => rfl)
        obtain ⟨es, esm⟩ := small_range hcc.1 hcc.2
        refine wpAny_pyIter_range hR esm ?_
        obtain ⟨m, rfl⟩ := Int.eq_ofNat_of_zero_le hcc.1
        rw [Int.toNat_natCast] at e3
        rw [es]
        refine ⟨s₁.heap.objs.size, _, _, m, _, _, rfl, (Walks.range hA.hd s₁.heap.objs.size 0 1 m).bound, ?_, ?_, ?_, ?_, ?_⟩
        · exact Nat.le_trans (show m ≤ 16000000 by omega) line_big
        · show Heap.get? _ _ = _
          have : ((0 : Int) + ((0 : Nat) : Int) * 1) = 0 := by decide
          rw [this]
          have : ((m : Int) - ((0 : Nat) : Int)) = m := by omega
          rw [this]
          exact Heap.get?_push_size _ rfl
        · intro b hb
          show b < (s₁.heap.push _).objs.size
          rw [Heap.size_push]
          rcases List.mem_cons.mp hb with rfl | hb
          · exact Nat.lt_succ_self _
          · cases hb
        · refine quiet H he hc hA (hB.keep (kpK k1)) (hr.keep _ (kpK k1)) (s₁ := s₁) (us := rangeU m) (fun b o e => ⟨Heap.get?_push_of_some _ e, fun hm => ?_⟩) e3 (fun i v hv => ?_) (fun i u hu => ?_)
          · rcases List.mem_cons.mp hm with rfl | hm
            · exact Nat.lt_irrefl _ (Heap.lt_size e)
            · cases hm
          · obtain ⟨hi, t', e⟩ := hv
            exact ⟨_, rangeU_get hi, t', by rw [e, Int.zero_add, Int.mul_one]⟩
          · obtain ⟨_, rfl⟩ := rangeU_at _ _ _ hu; rfl
        · intro D h' tk zs ws hD hL hP hlen2 hws hpair hk
          obtain ⟨n2, hp⟩ := hP
          have hrw : Reps ws (rangeU m) := reps_of (by rw [hlen2, rangeU_len]) fun j v hv => by
            obtain ⟨hj, t, e⟩ := hws j v hv
            exact ⟨_, rangeU_get hj, t, by rw [e, Int.zero_add, Int.mul_one]⟩
          have kk : ∀ b o, s₁.heap.get? b = some o → h'.get? b = some o := fun b o e => hk b o (fun hm => by
            rcases List.mem_cons.mp hm with rfl | hm
            · exact Nat.lt_irrefl _ (Heap.lt_size e)
            · cases hm) (Heap.get?_push_of_some _ e)
          refine Out.fr k1 ⟨⟨D, zs.toList, n2, rfl, by simpa using hp, comp_out hrw e3 hpair⟩, fun _ a e => ?_, ⟨h', tk, rfl, kk⟩, ok⟩
          cases e
          cases q : s₁.heap.get? D with
          | none => rfl
          | some o => have z := Heap.get?_push_of_some { cls := .type "range_iterator", data := .fields #[rawInt 0, rawInt m, rawInt 1] } q; rw [hD] at z; cases z
      · cases hf
    · cases hf
  · cases hf
end
end Mine
end
section
open PySem PySem.W PyProof.Rows PySem.Calls
set_option Elab.async false
set_option maxRecDepth 100000
namespace Mine

theorem s_canLay : ∀ ns : List Str, ns.all PyData.strOk = true → PyData.canLayAll0 (ns.map PyData.str) = true
  | [], _ => rfl
  | x :: r, h => by
    rw [List.all_cons, Bool.and_eq_true] at h
    simp [PyData.canLayAll0, PyData.canLay0, s_canLay r h.2, h.1]
theorem s_depth : ∀ ns : List Str, PyData.depthAll (ns.map PyData.str) = 0
  | [] => rfl
  | _ :: r => by simp [PyData.depthAll, PyData.depth, s_depth r]
theorem s_shaped (ns : List Str) (h : ns.all PyData.strOk = true) : SeqAt.shaped (.list (ns.map PyData.str)) = true := by
  simp [SeqAt.shaped, PyData.canLay0, PyData.depth, s_canLay ns h, s_depth]
theorem s_sameAll : ∀ ns ms : List Str, PySem.Spec.sameAll (ns.map PyData.str) (ms.map PyData.str) = decide (ns = ms)
  | [], [] => by simp [PySem.Spec.sameAll]
  | [], _ :: _ => by simp [PySem.Spec.sameAll]
  | _ :: _, [] => by simp [PySem.Spec.sameAll]
  | a :: r, b :: t => by
    simp only [List.map_cons, PySem.Spec.sameAll, PySem.Spec.same, s_sameAll r t]
    by_cases h : a = b <;> by_cases h' : r = t <;> simp [h, h']
theorem s_same (ns ms : List Str) : PySem.Spec.same (.list (ns.map PyData.str)) (.list (ms.map PyData.str)) = decide (ns = ms) := by
  simp only [PySem.Spec.same]; exact s_sameAll ns ms
theorem s_carried : ∀ {vs : List Value} {ns : List Str}, StrsAre vs ns → CarriedAll vs (ns.map PyData.str)
  | _, _, .nil => .nil
  | _, _, .cons _ t r => .cons (.str _ t) (s_carried r)

section
variable {prog : Program} {w : World} {nm : Nat → Str} {tp : Tp} {env : Env}

theorem ne_strs {A : Around} {E : Value → Shared → Prop} {s : Shared} {a b : Addr} {xs ys : List Value} {ns ms : List Str} {Q : Value → Shared → Prop} (ha : s.heap.IsList a xs.toArray) (hb : s.heap.IsList b ys.toArray) (hi : StrsAre xs ns) (hj : StrsAre ys ms)
    (hu : A.units + 64 < cLine) (o1 : ns.all PyData.strOk = true) (o2 : ms.all PyData.strOk = true) (h : Q (.bool (!decide (ns = ms))) s) : wpAny (model prog w) A (compareOp .NotEq (.ref a) (.ref b)) Q E s :=
  ne_dataH_same (reads_newData ha (s_carried hi)) (reads_newData hb (s_carried hj)) (s_shaped _ o1) (s_shaped _ o2) hu (SeqAt.noMix_of_shape (.list .str) rfl _ _ (list_map_has fun _ => rfl) (list_map_has fun _ => rfl)) (by rw [s_same]; exact h)

inductive Cm where
  | eq | ne | lt
noncomputable def Cm.py : Cm → CmpOp
  | .eq => .Eq
  | .ne => .NotEq
  | .lt => .Lt
noncomputable def cmpV : Cm → V → V → Option Bool
  | .eq, .u (.i a), .u (.i b) => some (a == b)
  | .eq, .u (.s a), .u (.s b) => some (a == b)
  | .ne, .u (.i a), .u (.i b) => some (a != b)
  | .ne, .u (.s a), .u (.s b) => some (a != b)
  | .ne, .l xs, .l ys => match strsOf xs, strsOf ys with
    | some a, some b => if a.all PyData.strOk && b.all PyData.strOk then some (!decide (a = b)) else none
    | _, _ => none
  | .lt, .u (.i a), .u (.i b) => some (decide (a < b))
  | _, _, _ => none
theorem cmp_ok {c : Cm} {x y : V} {r : Bool} {a b : Value} {A : Around} {E : Value → Shared → Prop} {s : Shared} {Q : Value → Shared → Prop} (hA : AOk A) (r1 : RepV s.heap a x) (r2 : RepV s.heap b y) (hf : cmpV c x y = some r) (h : Q (.bool r) s) :
    wpAny (model prog w) A (compareOp c.py a b) Q E s := by
  unfold cmpV at hf
  split at hf
  · cases hf; obtain ⟨t, rfl⟩ := r1; obtain ⟨u, rfl⟩ := r2; exact eq_int h
  · cases hf; obtain ⟨t, rfl⟩ := r1; obtain ⟨u, rfl⟩ := r2; exact eq_str h
  · cases hf; obtain ⟨t, rfl⟩ := r1; obtain ⟨u, rfl⟩ := r2; exact ne_int h
  · cases hf; obtain ⟨t, rfl⟩ := r1; obtain ⟨u, rfl⟩ := r2; exact ne_str h
  · split at hf
    · rename_i e1 e2
      split at hf
      · rename_i hc
        rw [Bool.and_eq_true] at hc
        cases hf
        obtain ⟨p, vs, n1, rfl, hl, rx⟩ := r1
        obtain ⟨q, ws, n2, rfl, hm, ry⟩ := r2
        have u1 := hA.un
        have u2 : cLine = 9900 := by decide
        exact ne_strs (isL hl) (isL hm) (strsOf_are e1 rx) (strsOf_are e2 ry) (by omega) hc.1 hc.2 h
      · cases hf
    · cases hf
  · cases hf; obtain ⟨t, rfl⟩ := r1; obtain ⟨u, rfl⟩ := r2; exact lt_int h
  · cases hf

noncomputable def tCmp (c : Cm) (fa fb : Ev) : Tv := fun ρ => match fa ρ, fb ρ with
  | some x, some y => cmpV c x y
  | _, _ => none
noncomputable def eCmp (c : Cm) (fa fb : Ev) : Ev := fun ρ => match fa ρ, fb ρ with
  | some x, some y => (cmpV c x y).map fun b => .u (.b b)
  | _, _ => none

theorem sndT_cmp {c : Cm} {pa pb : Expr} {pos : Pos} {fa fb : Ev} {ra rb : Bool} (ha : Snd prog w nm tp pa env ra fa) (hb : Snd prog w nm tp pb env rb fb) (o : CmpOp) (ho : c.py = o) (hm : behindInMarks o pb = false) :
    SndT prog w nm tp (.Compare pa [o] [pb] pos) env (tCmp c fa fb) := by
  subst ho
  intro A s ρ b whole hA hB hr hf
  unfold tCmp at hf
  split at hf
  · rename_i x y ex ey
    exact wpAny_isTrue_Compare1 (snd2 ha hb hA hB hr ex ey fun a b s₂ r1 r2 f1 f2 k o1 o2 => cmp_ok hA r1 r2 hf (wpAny_truthy_bool ⟨rfl, k⟩)) hm
  · cases hf
theorem snd_cmp {c : Cm} {pa pb : Expr} {pos : Pos} {fa fb : Ev} {ra rb : Bool} (ha : Snd prog w nm tp pa env ra fa) (hb : Snd prog w nm tp pb env rb fb) (o : CmpOp) (ho : c.py = o) (hm : behindInMarks o pb = false) :
    Snd prog w nm tp (.Compare pa [o] [pb] pos) env true (eCmp c fa fb) := by
  subst ho
  intro A s ρ v hA hB hr hf
  unfold eCmp at hf
  split at hf
  · rename_i x y ex ey
    cases q : cmpV c x y with
    | none => rw [q] at hf; cases hf
    | some r =>
      rw [q] at hf
      cases hf
      exact wpAny_Compare1 (snd2 ha hb hA hB hr ex ey fun a b s₂ r1 r2 f1 f2 k o1 o2 => cmp_ok hA r1 r2 q (Out.u rfl k rfl)) hm
  · cases hf

/-- x is not True and x is not False, of a bool -/
noncomputable def tNotB (x : Nat) : Tv := fun ρ => match look ρ x with
  | some (.u (.b _)) => some false
  | _ => none
theorem isNot_bool {n : Str} {p1 p2 : Pos} {k : Nat} {c : Bool} {A : Around} {E : Value → Shared → Prop} {s : Shared} {b : Bool} {Q : Bool → Shared → Prop} {whole : Sem Value}
    (hv : ∀ {Q : Value → Shared → Prop}, Q (.bool b) s → wpAny (model prog w) A (eval (.Name n p1) env) Q E s) (h : Q (!(b == c)) s) :
    wpAny (model prog w) A (isTrue (.Compare (.Name n p1) [.IsNot] [.Constant (.bool c) k p2] p1) env whole) Q E s := by
  refine wpAny_isTrue_Compare1 (hv (wpAny_Constant_bool (wpAny_isNot_plain ?_ (wpAny_truthy_bool ?_)))) rfl
  · cases b <;> cases c <;> rfl
  · have : (!((Value.bool b) == (Value.bool c))) = !(b == c) := by cases b <;> cases c <;> rfl
    rw [this]; exact h
end
end Mine
end
section
open PySem PySem.W PyProof.Rows PySem.Calls
set_option Elab.async false
set_option maxRecDepth 100000
namespace Mine

noncomputable def rem : List (Nat × V) → Nat → List (Nat × V)
  | [], _ => []
  | p :: r, x => if p.1 == x then rem r x else p :: rem r x
noncomputable def upd (ρ : List (Nat × V)) (x : Nat) (v : V) : List (Nat × V) := (x, v) :: rem ρ x
theorem look_cons (z : Nat) (v : V) (r : List (Nat × V)) (y : Nat) : look ((z, v) :: r) y = if (z == y) = true then some v else look r y := rfl
theorem look_rem : ∀ (ρ : List (Nat × V)) (x y : Nat), y ≠ x → look (rem ρ x) y = look ρ y
  | [], _, _, _ => rfl
  | (z, v) :: r, x, y, h => by
    unfold rem
    by_cases q : z = x
    · subst q
      rw [if_pos (by simp), look_rem r z y h, look_cons, if_neg (by simpa using fun e : z = y => h e.symm)]
    · rw [if_neg (by simpa using q), look_cons, look_cons, look_rem r x y h]
theorem look_upd (ρ : List (Nat × V)) (x y : Nat) (v : V) : look (upd ρ x v) y = if y = x then some v else look ρ y := by
  unfold upd
  rw [look_cons]
  by_cases q : y = x
  · subst q; rw [if_pos (by simp), if_pos rfl]
  · rw [if_neg (by simpa using fun e : x = y => q e.symm), if_neg q, look_rem ρ x y q]

structure Ls (nm : Nat → Str) (tp : Tp) (env : Env) : Prop where
  k : env.scope.kind = .function
  loc : tp.H.objs.size ≤ env.locals
  cel : ∀ x c, env.cells.lookup x = some c → tp.H.objs.size ≤ c
  nc : (env.scope.kind == .class || (env.scope.kind == .module && env.locals != env.globals)) = false
  inj : ∀ x y c, env.cells.lookup x = some c → env.cells.lookup y = some c → x = y
  nmi : ∀ x y, nm x = nm y → x = y

structure Lw (nm : Nat → Str) (tp : Tp) (env : Env) (h : Heap) (ρ : List (Nat × V)) : Prop where
  bs : Bs tp h
  acc : Acc nm env h ρ
  loc : ∃ m, h.Ns env.locals m
  cel : ∀ x c, env.kindOf x = some .cell → env.cells.lookup x = some c → ∃ v, h.IsCell c v
  sep : ∀ x y, x ≠ y → (look ρ x).isSome = true → (look ρ y).isSome = true → ∀ a b, VarAt env h (nm x) (.ref a) → VarAt env h (nm y) (.ref b) → a ≠ b
  new : ∀ x a, (look ρ x).isSome = true → VarAt env h (nm x) (.ref a) → tp.H.get? a = none

theorem Ns.fn {h : Heap} {a : Addr} {m m' : Str → Option Value} (h1 : h.Ns a m) (h2 : h.Ns a m') : m = m' := by
  obtain ⟨o, es, ep, e1, e2, _, e3⟩ := h1
  obtain ⟨o', es', ep', f1, f2, _, f3⟩ := h2
  rw [e1] at f1
  cases f1
  rw [e2] at f2
  cases f2
  funext x
  rw [← e3, ← f3]
theorem VarAt.fn {env : Env} {h : Heap} {x : Str} {v w : Value} (a : VarAt env h x v) (b : VarAt env h x w) : v = w := by
  rcases a with ⟨e, m, hn, hm⟩ | ⟨e, c, hc, o, ho, hd⟩ <;> rcases b with ⟨e', m', hn', hm'⟩ | ⟨e', c', hc', o', ho', hd'⟩
  · have := Ns.fn hn hn'; subst this; rw [hm] at hm'; exact Option.some.inj hm'
  · rw [e] at e'; cases e'
  · rw [e] at e'; cases e'
  · rw [hc] at hc'; cases hc'; rw [ho] at ho'; cases ho'; rw [hd] at hd'; cases hd'; rfl

/-- the objects that a store into the frame's own places leaves -/
noncomputable def Sb (c : Addr) (h h' : Heap) : Prop := ∀ b o, b ≠ c → h.get? b = some o → h'.get? b = some o

theorem rep_sb {c : Addr} {h h' : Heap} {v : Value} (k : Sb c h h') (hc : ∀ o, h.get? c = some o → ∀ n vs, o.data ≠ .seq vs n) : ∀ {x : V}, RepV h v x → RepV h' v x
  | .u _, r => r
  | .l _, ⟨a, vs, n, e, ho, r⟩ => ⟨a, vs, n, e, k _ _ (fun q => hc _ (q ▸ ho) n _ rfl) ho, r⟩
  | .z _, ⟨a, vs, n, e, ho, r⟩ => ⟨a, vs, n, e, k _ _ (fun q => hc _ (q ▸ ho) n _ rfl) ho, r⟩

structure TpOk (tp : Tp) : Prop where
  g : tp.H.Ns mainGlobals tp.mg
  b : tp.H.Ns builtinsNs tp.mb
  lim : tp.H.NoLimit
  nb : NoneBooked tp.H
  t1 : mainGlobals ∉ tp.tb
  t2 : builtinsNs ∉ tp.tb
  t3 : cStatics ∉ tp.tb
theorem TpOk.bs {tp : Tp} (K : TpOk tp) {h : Heap} (base : ∀ b o, tp.H.get? b = some o → b ∉ tp.tb → h.get? b = some o) (there : ∀ b o, tp.H.get? b = some o → ∃ o', h.get? b = some o') : Bs tp h := by
  have at_ : ∀ {a : Addr} {m : Str → Option Value}, a ∉ tp.tb → tp.H.Ns a m → h.Ns a m := fun ha ⟨o, es, ep, e1, r⟩ => ⟨o, es, ep, base _ _ e1 ha, r⟩
  obtain ⟨mc, h1, h2⟩ := K.lim
  obtain ⟨mc', h1', h2'⟩ := K.nb
  exact ⟨at_ K.t1 K.g, at_ K.t2 K.b, ⟨mc, at_ K.t3 h1, h2⟩, ⟨mc', at_ K.t3 h1', h2'⟩, base, there⟩

section
variable {prog : Program} {w : World} {nm : Nat → Str} {tp : Tp} {env : Env}

/-- a name is stored -/
theorem store_var (K : TpOk tp) (S : Ls nm tp env) {A : Around} {E : Value → Shared → Prop} {s : Shared} {ρ : List (Nat × V)} {x : Nat} {val : Value} {v : V} {Q : Unit → Shared → Prop} (W : Lw nm tp env s.heap ρ)
    (hk : env.kindOf (nm x) = some .local ∨ env.kindOf (nm x) = some .cell ∧ ∃ c, env.cells.lookup (nm x) = some c) (r : RepV s.heap val v) (ok : okV v = true)
    (fr : ∀ a, val = .ref a → ∀ y, y ≠ x → (look ρ y).isSome = true → ¬ VarAt env s.heap (nm y) (.ref a)) (fr2 : ∀ a, val = .ref a → tp.H.get? a = none)
    (h : ∀ h' tk c, Lw nm tp env h' (upd ρ x v) → tp.H.get? c = none → (c = env.locals ∨ ∃ x, env.cells.lookup x = some c) → Heap.SameBut c s.heap h' → (∀ o, s.heap.get? c = some o → ∀ vs, o.data ≠ .fields vs) → (∀ y u, y ≠ x → (VarAt env s.heap (nm y) u ↔ VarAt env h' (nm y) u)) → Q () { s with heap := h', toks := tk }) : wpAny (model prog w) A (storeName env (nm x) val) Q E s := by
  have base : ∀ {c : Addr} {h' : Heap}, tp.H.get? c = none → Heap.SameBut c s.heap h' → Bs tp h' := fun {c h'} hc hs =>
    have ne : ∀ b o, tp.H.get? b = some o → b ≠ c := fun b o e q => by rw [q, hc] at e; cases e
    K.bs (fun b o e n => (hs.2 b (ne b o e)).trans (W.bs.base b o e n)) fun b o e => let ⟨o', ho'⟩ := W.bs.there b o e; ⟨o', (hs.2 b (ne b o e)).trans ho'⟩
  -- what is left but the place
  have key : ∀ {c : Addr} {h' : Heap}, tp.H.get? c = none → Heap.SameBut c s.heap h' → (∀ o, s.heap.get? c = some o → ∀ n vs, o.data ≠ .seq vs n) →
      VarAt env h' (nm x) val → (∀ y u, y ≠ x → (VarAt env s.heap (nm y) u ↔ VarAt env h' (nm y) u)) → (∃ m, h'.Ns env.locals m) → (∀ x c, env.kindOf x = some .cell → env.cells.lookup x = some c → ∃ v, h'.IsCell c v) → Lw nm tp env h' (upd ρ x v) := by
    intro c h' hc hs hseq hv hy hl hcl
    have sb : Sb c s.heap h' := fun b o n e => (hs.2 b n).trans e
    refine ⟨base hc hs, fun y u e => ?_, hl, hcl, fun y z hyz e1 e2 a b v1 v2 => ?_, fun y a e v => ?_⟩
    · rw [look_upd] at e
      by_cases q : y = x
      · subst q
        rw [if_pos rfl] at e
        cases e
        exact ⟨val, rep_sb sb hseq r, ok, hv⟩
      · rw [if_neg q] at e
        obtain ⟨u', r', ok', hv'⟩ := W.acc y u e
        exact ⟨u', rep_sb sb hseq r', ok', (hy y u' q).mp hv'⟩
    · rw [look_upd] at e1 e2
      by_cases q : y = x
      · subst q
        rw [if_neg (Ne.symm hyz)] at e2
        have e3 := VarAt.fn hv v1
        intro hab
        subst hab
        exact fr a e3 z (Ne.symm hyz) e2 ((hy z _ (Ne.symm hyz)).mpr v2)
      · rw [if_neg q] at e1
        by_cases q2 : z = x
        · subst q2
          have e3 := VarAt.fn hv v2
          intro hab
          subst hab
          exact fr a e3 y q e1 ((hy y _ q).mpr v1)
        · rw [if_neg q2] at e2
          exact W.sep y z hyz e1 e2 a b ((hy y _ q).mpr v1) ((hy z _ q2).mpr v2)
    · rw [look_upd] at e
      by_cases q : y = x
      · subst q
        exact fr2 a (VarAt.fn hv v)
      · rw [if_neg q] at e
        exact W.new y a e ((hy y _ q).mpr v)
  obtain ⟨m, hm⟩ := W.loc
  have nl : ∀ o, s.heap.get? env.locals = some o → ∀ n vs, o.data ≠ .seq vs n := fun o e n vs q => by
    obtain ⟨o', es, ep, e1, e2, _⟩ := hm
    rw [e1] at e; cases e; rw [e2] at q; cases q
  have nlf : ∀ o, s.heap.get? env.locals = some o → ∀ vs, o.data ≠ .fields vs := fun o e vs q => by
    obtain ⟨o', es, ep, e1, e2, _⟩ := hm
    rw [e1] at e; cases e; rw [e2] at q; cases q
  rcases hk with hk | ⟨hk, c, hc⟩
  · have hiff : ∀ {h' : Heap}, Heap.SameBut env.locals s.heap h' → (h'.Ns env.locals fun z => if z = nm x then some val else m z) → ∀ y u, y ≠ x → (VarAt env s.heap (nm y) u ↔ VarAt env h' (nm y) u) := by
      intro h' hs hn y u q
      have nq : nm y ≠ nm x := fun e => q (S.nmi _ _ e)
      constructor
      · rintro (⟨e, m', hn', hm'⟩ | ⟨e, c', hc', hcell⟩)
        · have := Ns.fn hm hn'; subst this
          exact .inl ⟨e, _, hn, by simp [nq, hm']⟩
        · obtain ⟨o, ho, hd⟩ := hcell
          refine .inr ⟨e, c', hc', o, (hs.2 c' fun q' => ?_).trans ho, hd⟩
          obtain ⟨o', es, ep, e1, e2, _⟩ := hm
          rw [q', e1] at ho; cases ho; rw [e2] at hd; cases hd
      · rintro (⟨e, m', hn', hm'⟩ | ⟨e, c', hc', hcell⟩)
        · have := Ns.fn hn hn'; subst this
          exact .inl ⟨e, _, hm, by simpa [nq] using hm'⟩
        · obtain ⟨o, ho, hd⟩ := hcell
          by_cases q' : c' = env.locals
          · obtain ⟨o', es, ep, e1, e2, _⟩ := hn
            rw [q', e1] at ho; cases ho; rw [e2] at hd; cases hd
          · rw [hs.2 c' q'] at ho
            exact .inr ⟨e, c', hc', o, ho, hd⟩
    refine wpAny_storeName_local hk hm (fun h' hn hs => h h' _ env.locals (key (getNone S.loc) hs nl (.inl ⟨hk, _, hn, by simp⟩) (hiff hs hn) ⟨_, hn⟩ fun z c' kz hz => ?_) (getNone S.loc) (.inl rfl) hs nlf (hiff hs hn)) S.nc
    · obtain ⟨v0, o, ho, hd⟩ := W.cel z c' kz hz
      refine ⟨v0, o, (hs.2 c' fun q' => ?_).trans ho, hd⟩
      obtain ⟨o', es, ep, e1, e2, _⟩ := hm
      rw [q', e1] at ho; cases ho; rw [e2] at hd; cases hd
  · obtain ⟨v0, hcell0⟩ := W.cel _ c hk hc
    have ncs : ∀ o, s.heap.get? c = some o → ∀ n vs, o.data ≠ .seq vs n := fun o e n vs q => by
      obtain ⟨o', e1, e2⟩ := hcell0
      rw [e1] at e; cases e; rw [e2] at q; cases q
    have cl : c ≠ env.locals := fun q => by
      obtain ⟨o', e1, e2⟩ := hcell0
      obtain ⟨o'', es, ep, f1, f2, _⟩ := hm
      rw [q, f1] at e1; cases e1; rw [f2] at e2; cases e2
    have ncf : ∀ o, s.heap.get? c = some o → ∀ vs, o.data ≠ .fields vs := fun o e vs q => by
      obtain ⟨o', e1, e2⟩ := hcell0
      rw [e1] at e; cases e; rw [e2] at q; cases q
    have hiff : ∀ {h' : Heap}, Heap.SameBut c s.heap h' → ∀ y u, y ≠ x → (VarAt env s.heap (nm y) u ↔ VarAt env h' (nm y) u) := by
      intro h' hs y u q
      have nq : nm y ≠ nm x := fun e => q (S.nmi _ _ e)
      have nc' : ∀ c', env.cells.lookup (nm y) = some c' → c' ≠ c := fun c' e q' => nq (S.inj _ _ _ (q' ▸ e) hc)
      constructor
      · rintro (⟨e, m', hn', hm'⟩ | ⟨e, c', hc', o, ho, hd⟩)
        · exact .inl ⟨e, m', hn'.at' fun o e => (hs.2 _ (Ne.symm cl)).trans e, hm'⟩
        · exact .inr ⟨e, c', hc', o, (hs.2 c' (nc' c' hc')).trans ho, hd⟩
      · rintro (⟨e, m', hn', hm'⟩ | ⟨e, c', hc', o, ho, hd⟩)
        · exact .inl ⟨e, m', hn'.at' fun o e => (hs.2 _ (Ne.symm cl)).symm.trans e, hm'⟩
        · exact .inr ⟨e, c', hc', o, (hs.2 c' (nc' c' hc')).symm.trans ho, hd⟩
    refine wpAny_storeName_cell S.k hk hc hcell0 fun h' hn hs => h h' _ c (key (getNone (S.cel _ c hc)) hs ncs (.inr ⟨hk, c, hc, hn⟩) (hiff hs) ⟨m, hm.at' fun o e => (hs.2 _ (Ne.symm cl)).trans e⟩ fun z c' kz hz => ?_) (getNone (S.cel _ c hc)) (.inr ⟨_, hc⟩) hs ncf (hiff hs)
    · by_cases q' : c' = c
      · subst q'; exact ⟨_, hn⟩
      · obtain ⟨v1, o, ho, hd⟩ := W.cel z c' kz hz
        exact ⟨v1, o, (hs.2 c' q').trans ho, hd⟩
end
end Mine
end
section
open PySem PySem.W PyProof.Rows PySem.Calls
set_option Elab.async false
set_option maxRecDepth 100000
namespace Mine

structure XOk (tp : Tp) (X : Shared → Prop) : Prop where
  keep : ∀ s s', Keeps s s' → X s → X s'
  same : ∀ (s : Shared) c h' tk, tp.H.get? c = none → Sb c s.heap h' → X s → X { s with heap := h', toks := tk }
theorem Sb.of {c : Addr} {h h' : Heap} (hs : Heap.SameBut c h h') : Sb c h h' := fun b _ n e => (hs.2 b n).trans e

noncomputable abbrev Sv := List (Nat × V) → Option (List (Nat × V) × Option V)

/-- the iterators of the loops round about stay -/
noncomputable def Fz (s s' : Shared) : Prop := ∀ b vs, s.heap.get? b = some { cls := .type "range_iterator", data := .fields vs } → s'.heap.get? b = some { cls := .type "range_iterator", data := .fields vs }
noncomputable def Kv (nm : Nat → Str) (env : Env) (as : List Nat) (s s' : Shared) : Prop := ∀ y, y ∉ as → ∀ val, VarAt env s.heap (nm y) val → VarAt env s'.heap (nm y) val

structure Pst (nm : Nat → Str) (tp : Tp) (env : Env) (X : Shared → Prop) (as : List Nat) (s : Shared) (ρ' : List (Nat × V)) (r : Option V) (fl : Flow) (s' : Shared) : Prop where
  x : X s'
  fz : Fz s s'
  kv : Kv nm env as s s'
  out : match r with
    | none => fl = .next ∧ Lw nm tp env s'.heap ρ'
    | some v => ∃ val, fl = .ret val ∧ RepV s'.heap val v

theorem Fz.refl (s : Shared) : Fz s s := fun _ _ e => e
theorem Fz.trans {s s' s'' : Shared} (a : Fz s s') (b : Fz s' s'') : Fz s s'' := fun x vs e => b x vs (a x vs e)
theorem Fz.keep {s s' : Shared} (k : Keeps s s') : Fz s s' := fun x _ e => kpK k x _ e
theorem Kv.refl {nm : Nat → Str} {env : Env} {as : List Nat} (s : Shared) : Kv nm env as s s := fun _ _ _ h => h
theorem Kv.trans {nm : Nat → Str} {env : Env} {as bs : List Nat} {s s' s'' : Shared} (a : Kv nm env as s s') (b : Kv nm env bs s' s'') : Kv nm env (as ++ bs) s s'' :=
  fun y hy v h => b y (fun q => hy (List.mem_append_right _ q)) v (a y (fun q => hy (List.mem_append_left _ q)) v h)
theorem Kv.keep {nm : Nat → Str} {env : Env} {as : List Nat} {s s' : Shared} (k : Keeps s s') : Kv nm env as s s' := fun _ _ _ h => h.keep (kpK k)
theorem Kv.mono {nm : Nat → Str} {env : Env} {as bs : List Nat} {s s' : Shared} (a : Kv nm env as s s') (h : ∀ x ∈ as, x ∈ bs) : Kv nm env bs s s' := fun y hy => a y fun q => hy (h y q)

theorem Lw.keep {nm : Nat → Str} {tp : Tp} {env : Env} {h h' : Heap} {ρ : List (Nat × V)} (W : Lw nm tp env h ρ) (k : ∀ b o, h.get? b = some o → h'.get? b = some o) : Lw nm tp env h' ρ := by
  have back : ∀ x a, (look ρ x).isSome = true → VarAt env h' (nm x) (.ref a) → VarAt env h (nm x) (.ref a) := fun x a e v => by
    obtain ⟨u, hu⟩ := Option.isSome_iff_exists.mp e
    obtain ⟨val, _, _, hv⟩ := W.acc x u hu
    have := VarAt.fn (hv.keep k) v
    rw [← this]; exact hv
  exact ⟨W.bs.keep k, W.acc.keep _ k, let ⟨m, hm⟩ := W.loc; ⟨m, hm.keeps k⟩, fun x c h1 h2 => let ⟨v, o, ho, hd⟩ := W.cel x c h1 h2; ⟨v, o, k _ _ ho, hd⟩,
    fun x y n e1 e2 a b v1 v2 => W.sep x y n e1 e2 a b (back x a e1 v1) (back y b e2 v2), fun x a e v => W.new x a e (back x a e v)⟩

/-- an object of none of the frame's kinds changes -/
theorem Lw.sb {nm : Nat → Str} {tp : Tp} {env : Env} {h h' : Heap} {ρ : List (Nat × V)} (K : TpOk tp) (W : Lw nm tp env h ρ) {c : Addr} {o : Obj} {vs : Array Value} (ho : h.get? c = some o) (hd : o.data = .fields vs) (hc : tp.H.get? c = none)
    (k : Sb c h h') : Lw nm tp env h' ρ := by
  have ns : ∀ {m : Str → Option Value} {a : Addr}, h.Ns a m → h'.Ns a m := fun hn => hn.at' fun o' e => k _ _ (fun q => by
    obtain ⟨o2, es, ep, e1, e2, _⟩ := hn
    rw [q, ho] at e1; cases e1; rw [hd] at e2; cases e2) e
  have ce : ∀ {a : Addr} {v : Option Value}, h.IsCell a v → h'.IsCell a v := fun ⟨o', e1, e2⟩ => ⟨o', k _ _ (fun q => by rw [q, ho] at e1; cases e1; rw [hd] at e2; cases e2) e1, e2⟩
  have va : ∀ {x v}, VarAt env h x v → VarAt env h' x v := fun hv => by
    rcases hv with ⟨e, m, hn, hm⟩ | ⟨e, c', hc', hcell⟩
    · exact .inl ⟨e, m, ns hn, hm⟩
    · exact .inr ⟨e, c', hc', ce hcell⟩
  have back : ∀ x a, (look ρ x).isSome = true → VarAt env h' (nm x) (.ref a) → VarAt env h (nm x) (.ref a) := fun x a e v => by
    obtain ⟨u, hu⟩ := Option.isSome_iff_exists.mp e
    obtain ⟨val, _, _, hv⟩ := W.acc x u hu
    have := VarAt.fn (va hv) v
    rw [← this]; exact hv
  have ne : ∀ b o, tp.H.get? b = some o → b ≠ c := fun b o e q => by rw [q, hc] at e; cases e
  refine ⟨K.bs (fun b o' e n => k _ _ (ne b o' e) (W.bs.base b o' e n)) (fun b o' e => let ⟨o2, h2⟩ := W.bs.there b o' e; ⟨o2, k _ _ (ne b o' e) h2⟩), fun x v e => ?_, let ⟨m, hm⟩ := W.loc; ⟨m, ns hm⟩, fun x c h1 h2 => let ⟨v, hv⟩ := W.cel x c h1 h2; ⟨v, ce hv⟩,
    fun x y n e1 e2 a b v1 v2 => W.sep x y n e1 e2 a b (back x a e1 v1) (back y b e2 v2), fun x a e v => W.new x a e (back x a e v)⟩
  obtain ⟨val, r, ok, hv⟩ := W.acc x v e
  exact ⟨val, rep_sb k (fun o' e n vs' q => by rw [ho] at e; cases e; rw [hd] at q; cases q) r, ok, va hv⟩

theorem Lw.weaken {nm : Nat → Str} {tp : Tp} {env : Env} {h : Heap} {ρ σ : List (Nat × V)} (W : Lw nm tp env h ρ) (k : ∀ x v, look σ x = some v → look ρ x = some v) : Lw nm tp env h σ := by
  have s : ∀ x, (look σ x).isSome = true → (look ρ x).isSome = true := fun x e => by
    obtain ⟨u, hu⟩ := Option.isSome_iff_exists.mp e
    rw [k x u hu]; rfl
  exact ⟨W.bs, fun x v e => W.acc x v (k x v e), W.loc, W.cel, fun x y n e1 e2 => W.sep x y n (s x e1) (s y e2), fun x a e => W.new x a (s x e)⟩

section
variable (prog : Program) (w : World) (nm : Nat → Str) (tp : Tp) (X : Shared → Prop)
noncomputable def SndS (stmts : List Stmt) (env : Env) (as : List Nat) (g : Sv) : Prop :=
  ∀ (A : Around) (s : Shared) (ρ ρ' : List (Nat × V)) (r : Option V), AOk A → Lw nm tp env s.heap ρ → X s → 1 ≤ s.toks → g ρ = some (ρ', r) →
    wpAny (model prog w) A (execs stmts env) (fun fl s' => Pst nm tp env X as s ρ' r fl s') (fun _ _ => False) s
noncomputable def Snd1 (st : Stmt) (env : Env) (as : List Nat) (g : Sv) : Prop :=
  ∀ (A : Around) (s : Shared) (ρ ρ' : List (Nat × V)) (r : Option V), AOk A → Lw nm tp env s.heap ρ → X s → 1 ≤ s.toks → g ρ = some (ρ', r) →
    wpAny (model prog w) A (exec st env) (fun fl s' => Pst nm tp env X as s ρ' r fl s') (fun _ _ => False) s
end

section
variable {prog : Program} {w : World} {nm : Nat → Str} {tp : Tp} {X : Shared → Prop} {env : Env}

noncomputable def sNil : Sv := fun ρ => some (ρ, none)
noncomputable def sSeq (g1 g2 : Sv) : Sv := fun ρ => match g1 ρ with
  | some (ρ1, none) => g2 ρ1
  | some (ρ1, some v) => some (ρ1, some v)
  | none => none
theorem sndS_nil : SndS prog w nm tp X [] env [] sNil := by
  intro A s ρ ρ' r hA hW hX htk hg
  cases hg
  exact wpAny_execs_nil ⟨hX, .refl s, .refl s, rfl, hW⟩
theorem sndS_cons {st : Stmt} {rest : List Stmt} {as bs : List Nat} {g1 g2 : Sv} (h1 : Snd1 prog w nm tp X st env as g1) (h2 : SndS prog w nm tp X rest env bs g2) : SndS prog w nm tp X (st :: rest) env (as ++ bs) (sSeq g1 g2) := by
  intro A s ρ ρ' r hA hW hX htk hg
  unfold sSeq at hg
  split at hg
  · rename_i ρ1 e1
    refine wpAny_execs_cons (wpAny_mono (wpAny_toks_of htk (h1 A s ρ ρ1 none hA hW hX htk e1)) (fun fl s₁ p => ?_) fun _ _ e => e.2.elim)
    obtain ⟨htk1, p⟩ := p
    obtain ⟨rfl, hW1⟩ := p.out
    refine wpAny_mono (h2 A s₁ ρ1 ρ' r hA hW1 p.x htk1 hg) (fun fl s₂ q => ?_) fun _ _ e => e.elim
    exact ⟨q.x, p.fz.trans q.fz, p.kv.trans q.kv, q.out⟩
  · rename_i ρ1 v e1
    cases hg
    refine wpAny_execs_cons (wpAny_mono (h1 A s ρ _ (some v) hA hW hX htk e1) (fun fl s₁ p => ?_) fun _ _ e => e.elim)
    obtain ⟨val, rfl, hr⟩ := p.out
    exact ⟨p.x, p.fz, p.kv.mono fun x hx => List.mem_append_left _ hx, val, rfl, hr⟩
  · cases hg

noncomputable def sAsg (x : Nat) (f : Ev) : Sv := fun ρ => match f ρ with
  | some v => some (upd ρ x v, none)
  | none => none

/-- where the name may be stored -/
noncomputable def Plc (env : Env) (n : Str) : Prop := env.kindOf n = some .local ∨ env.kindOf n = some .cell ∧ ∃ c, env.cells.lookup n = some c

theorem fresh_ok {h h' : Heap} {ρ : List (Nat × V)} (W : Lw nm tp env h ρ) (k : ∀ b o, h.get? b = some o → h'.get? b = some o) {a : Addr} (ha : h.get? a = none) (y : Nat) (e : (look ρ y).isSome = true) : ¬ VarAt env h' (nm y) (.ref a) := fun hv => by
  obtain ⟨u, hu⟩ := Option.isSome_iff_exists.mp e
  obtain ⟨val, r, _, hv'⟩ := W.acc y u hu
  have := VarAt.fn (hv'.keep k) hv
  subst this
  cases u with
  | u x => cases x with
    | b b => cases (show Value.ref a = .bool b from r)
    | i n => obtain ⟨t, q⟩ := r; cases q
    | s t => obtain ⟨t, q⟩ := r; cases q
  | l xs => obtain ⟨p, vs, n, e, hl, _⟩ := r; cases e; rw [ha] at hl; cases hl
  | z xs => obtain ⟨p, vs, n, e, hl, _⟩ := r; cases e; rw [ha] at hl; cases hl

theorem fresh_new {h : Heap} {ρ : List (Nat × V)} (W : Lw nm tp env h ρ) {a : Addr} (ha : h.get? a = none) : tp.H.get? a = none := by
  cases q : tp.H.get? a with
  | none => rfl
  | some o => obtain ⟨o', e⟩ := W.bs.there a o q; rw [ha] at e; cases e

theorem snd1_asg (K : TpOk tp) (S : Ls nm tp env) (hX : XOk tp X) {x : Nat} {n : Str} {pe : Expr} {p1 pos : Pos} {f : Ev} (hn : nm x = n) (h : Snd prog w nm tp pe env true f) (hp : Plc env n)
    (hsw : swapsWith pe (some (Expr.Name n p1)) pos.line env = pure false) : Snd1 prog w nm tp X (.Assign [.Name n p1] pe pos) env [x] (sAsg x f) := by
  subst hn
  intro A s ρ ρ' r hA hW hx htk hg
  unfold sAsg at hg
  split at hg
  · rename_i v e1
    cases hg
    refine wpAny_Assign_Name (wpAny_mono (h A s ρ v hA hW.bs hW.acc e1) (fun val s₁ o => ?_) fun _ _ e => e.elim) hsw
    obtain ⟨r1, f1, k1, o1⟩ := o
    refine store_var K S (hW.keep (kpK k1)) hp r1 o1 (fun a ea y _ ey => fresh_ok hW (kpK k1) (f1 rfl a ea) y ey) (fun a ea => fresh_new hW (f1 rfl a ea)) fun h' tk c W' hc _ hs hnf hiff => ?_
    refine ⟨hX.same _ c h' tk hc (Sb.of hs) (hX.keep _ _ k1 hx), fun b vs e => ?_, fun y hy val hv => ?_, rfl, W'⟩
    · exact (hs.2 b fun q => hnf _ (q ▸ kpK k1 b _ e) vs rfl).trans (kpK k1 b _ e)
    · exact (hiff y val (by simpa using hy)).mp (hv.keep (kpK k1))
  · cases hg

noncomputable def sIf (c : Tv) (g1 g2 : Sv) : Sv := fun ρ => match c ρ with
  | some true => g1 ρ
  | some false => g2 ρ
  | none => none
theorem snd1_if (hX : XOk tp X) {c : Expr} {b1 b2 : List Stmt} {pos : Pos} {fc : Tv} {as bs : List Nat} {g1 g2 : Sv} (hc : SndT prog w nm tp c env fc) (h1 : SndS prog w nm tp X b1 env as g1) (h2 : SndS prog w nm tp X b2 env bs g2) :
    Snd1 prog w nm tp X (.If c b1 b2 pos) env (as ++ bs) (sIf fc g1 g2) := by
  intro A s ρ ρ' r hA hW hx htk hg
  unfold sIf at hg
  split at hg
  · rename_i e1
    refine wpAny_If (wpAny_mono (wpAny_toks_of htk (hc A s ρ _ _ hA hW.bs hW.acc e1)) (fun b s₁ o => ?_) fun _ _ e => e.2.elim)
    obtain ⟨htk1, rfl, k⟩ := o
    rw [if_pos rfl]
    refine wpAny_mono (h1 A s₁ ρ ρ' r hA (hW.keep (kpK k)) (hX.keep _ _ k hx) htk1 hg) (fun fl s₂ q => ?_) fun _ _ e => e.elim
    exact ⟨q.x, (Fz.keep k).trans q.fz, ((Kv.keep (as := []) k).trans q.kv).mono fun x hx => by simpa using .inl hx, q.out⟩
  · rename_i e1
    refine wpAny_If (wpAny_mono (wpAny_toks_of htk (hc A s ρ _ _ hA hW.bs hW.acc e1)) (fun b s₁ o => ?_) fun _ _ e => e.2.elim)
    obtain ⟨htk1, rfl, k⟩ := o
    rw [if_neg Bool.false_ne_true]
    refine wpAny_mono (h2 A s₁ ρ ρ' r hA (hW.keep (kpK k)) (hX.keep _ _ k hx) htk1 hg) (fun fl s₂ q => ?_) fun _ _ e => e.elim
    exact ⟨q.x, (Fz.keep k).trans q.fz, ((Kv.keep (as := []) k).trans q.kv).mono fun x hx => by simpa using .inr hx, q.out⟩
  · cases hg

noncomputable def sRet (f : Ev) : Sv := fun ρ => match f ρ with
  | some v => some (ρ, some v)
  | none => none
theorem snd1_ret (hX : XOk tp X) {pe : Expr} {pos : Pos} {f : Ev} {fr : Bool} (h : Snd prog w nm tp pe env fr f) : Snd1 prog w nm tp X (.Return (some pe) pos) env [] (sRet f) := by
  intro A s ρ ρ' r hA hW hx htk hg
  unfold sRet at hg
  split at hg
  · rename_i v e1
    cases hg
    refine wpAny_Return_some (wpAny_mono (h A s ρ v hA hW.bs hW.acc e1) (fun val s₁ o => ?_) fun _ _ e => e.elim)
    exact ⟨hX.keep _ _ o.2.2.1 hx, Fz.keep o.2.2.1, Kv.keep o.2.2.1, val, rfl, o.1⟩
  · cases hg
end
end Mine
end
section
open PySem PySem.W PyProof.Rows PySem.Calls
set_option Elab.async false
set_option maxRecDepth 100000
namespace Mine
section
variable {prog : Program} {w : World} {nm : Nat → Str} {tp : Tp} {X : Shared → Prop} {env : Env}

/-- where a loop's own step may write -/
noncomputable def Cz (env : Env) (h : Heap) (c : Addr) : Prop := (c = env.locals ∨ ∃ x, env.cells.lookup x = some c) ∨ ∃ vs, h.get? c = some { cls := .type "range_iterator", data := .fields vs }

theorem for_rule0 (K : TpOk tp) (S : Ls nm tp env) {x : Nat} {nx : Str} {pn : Expr} {np p1 p2 pos : Pos} {body : List Stmt} {fn : Ev} {rn : Bool} {as : List Nat} (hn : nm x = nx) (hp : Plc env nx)
    (hs : Snd prog w nm tp pn env rn fn) (G : EnvG env) (hk : env.kindOf "range" = some .globalImplicit) (h0 : tp.mg "range" = none) (h1 : tp.mb "range" = some (.type "range")) (hst : starEach [pn] env = [(false, eval pn env)])
    {A : Around} (hA : AOk A) {s : Shared} {ρ : List (Nat × V)} {n : Nat} (hn1 : n ≤ 1000) (e : fn ρ = some (.u (.i n))) (hW : Lw nm tp env s.heap ρ) (htk : 1 ≤ s.toks)
    (J : Nat → List (Nat × V) → Shared → Prop) (jk : ∀ i ρ s s', Keeps s s' → J i ρ s → J i ρ s') (js : ∀ i ρ (s : Shared) c h' tk, tp.H.get? c = none → Cz env s.heap c → Sb c s.heap h' → (∃ σ, Lw nm tp env s.heap σ) → (∃ σ, Lw nm tp env h' σ) → J i ρ s → J i ρ { s with heap := h', toks := tk }) (hJ : J 0 ρ s)
    (step : ∀ i s₁ ρ, i < n → J i ρ s₁ → Lw nm tp env s₁.heap (upd ρ x (.u (.i (i : Int)))) → 1 ≤ s₁.toks → Kv nm env (x :: as) s s₁ →
      wpAny (model prog w) A (execs body env) (fun fl s' => ∃ ρ', J (i + 1) ρ' s' ∧ Pst nm tp env (fun _ => True) as s₁ ρ' none fl s') (fun _ _ => False) s₁) :
    wpAny (model prog w) A (exec (.For (.Name nx p1) (.Call (.Name "range" np) [pn] [] p2) body [] pos) env) (fun fl s' => ∃ ρ', J n ρ' s' ∧ Pst nm tp env (fun _ => True) (x :: as) s ρ' none fl s') (fun _ _ => False) s := by
  subst hn
  refine wpAny_For (wpAny_with_toks (n := 1) htk (range_call hs G hk h0 h1 hst hA hW.bs hW.acc e fun r s₁ t u v hR k1 htk1 => ?_)) (fun _ => rfl)
  obtain ⟨es, esm⟩ := small_range (n := (n : Int)) (by omega) (by omega)
  refine wpAny_pyIter_range hR esm ?_
  rw [es]
  have hI0 : ∀ b o, s₁.heap.get? b = some o → b ≠ s₁.heap.objs.size := fun b o e => Nat.ne_of_lt (Heap.lt_size e)
  have hsz : tp.H.get? s₁.heap.objs.size = none := by
    refine getNone ?_
    obtain ⟨m, o, es, ep, e1, _⟩ := hW.loc
    exact Nat.le_of_lt (Nat.lt_of_le_of_lt S.loc (Heap.lt_size (kpK k1 _ _ e1)))
  refine codeAny_forLoop (fun m s' => ∃ i ρ', m = n - i ∧ i ≤ n ∧ J i ρ' s' ∧ Lw nm tp env s'.heap ρ' ∧ 1 ≤ s'.toks ∧ IsRangeIter s'.heap s₁.heap.objs.size (i : Int) ((n : Int) - (i : Int)) 1 ∧ Fz s s' ∧ Kv nm env (x :: as) s s') (fun m s' hI => ?_) n ?_
  · obtain ⟨i, ρ', rfl, hi, hJi, hWi, htki, hit, hfz, hkv⟩ := hI
    have R := Walks.range (prog := prog) (w := w) hA.hd s₁.heap.objs.size 0 1 n
    have hit' : IsRangeIter s'.heap s₁.heap.objs.size (0 + (i : Int) * 1) ((n : Int) - (i : Int)) 1 := by rw [Int.zero_add, Int.mul_one]; exact hit
    have one : ∀ {h' : Heap} {tk : Nat}, (∀ b o, b ∉ [s₁.heap.objs.size] → s'.heap.get? b = some o → h'.get? b = some o) → Lw nm tp env h' ρ' ∧ Fz s { s' with heap := h', toks := tk } ∧ Kv nm env (x :: as) s { s' with heap := h', toks := tk } := by
      intro h' tk hk
      have sb : Sb s₁.heap.objs.size s'.heap h' := fun b o n e => hk b o (by simpa using n) e
      refine ⟨hWi.sb K hit rfl hsz sb, fun b vs e => sb b _ (hI0 b _ (kpK k1 b _ e)) (hfz b vs e), fun y hy val hv => ?_⟩
      rcases hkv y hy val hv with ⟨e, m, hn, hm⟩ | ⟨e, c, hc, o, ho, hd⟩
      · refine .inl ⟨e, m, hn.at' fun o e => sb _ _ (fun q => ?_) e, hm⟩
        obtain ⟨o2, es, ep, f1, f2, _⟩ := hn
        rw [q] at f1
        rw [show s'.heap.get? s₁.heap.objs.size = _ from hit] at f1
        cases f1; cases f2
      · refine .inr ⟨e, c, hc, o, sb _ _ (fun q => ?_) ho, hd⟩
        rw [q, show s'.heap.get? s₁.heap.objs.size = _ from hit] at ho
        cases ho; cases hd
    have xone : ∀ {h' : Heap} {tk : Nat}, (∀ b o, b ∉ [s₁.heap.objs.size] → s'.heap.get? b = some o → h'.get? b = some o) → Lw nm tp env h' ρ' → J i ρ' { s' with heap := h', toks := tk } := by
      intro h' tk hk ho
      exact js i ρ' s' _ h' tk hsz (.inr ⟨_, hit⟩) (fun b o n e => hk b o (by simpa using n) e) ⟨_, hWi⟩ ⟨_, ho⟩ hJi
    by_cases hlt : i < n
    · refine wpAny_mono (wpAny_toks_of htki (R.item i s' (fun r s₂ => match r with
          | none => False
          | some v => ∃ h' tk, s₂ = { s' with heap := h', toks := tk } ∧ (∃ t, v = .int (0 + (i : Int) * 1) t) ∧ IsRangeIter h' s₁.heap.objs.size (0 + ((i + 1 : Nat) : Int) * 1) ((n : Int) - ((i + 1 : Nat) : Int)) 1 ∧ (∀ b o, b ∉ [s₁.heap.objs.size] → s'.heap.get? b = some o → h'.get? b = some o))
          (fun _ _ => False) hlt hit' fun v h' tk hP hS hk => ⟨h', tk, rfl, hP, hS, hk⟩)) (fun r s₂ h => ?_) fun _ _ e => e.2.elim
      obtain ⟨htk2, h⟩ := h
      cases r with
      | none => exact h.elim
      | some v =>
        obtain ⟨h', tk, rfl, ⟨t, rfl⟩, hS, hk⟩ := h
        obtain ⟨W2, F2, V2⟩ := one (tk := tk) hk
        have X2 := xone (tk := tk) hk W2
        rw [Int.zero_add, Int.mul_one]
        rw [Int.zero_add, Int.mul_one] at hS
        refine wpAny_assign_Name (wpAny_with_toks (n := 1) htk2 (store_var K S (A := A) (s := { s' with heap := h', toks := tk }) (v := .u (.i (i : Int))) W2 hp ⟨_, rfl⟩ rfl (fun a ea => nomatch ea) (fun a ea => nomatch ea) fun h'' tk' c W3 hc hcz hsb hnf hiff htk3 => ?_))
        refine wpAny_mono (wpAny_toks_of (n := 1) htk3 (step i { s' with heap := h'', toks := tk' } ρ' hlt (js i ρ' { s' with heap := h', toks := tk } c h'' tk' hc (.inl hcz) (Sb.of hsb) ⟨_, W2⟩ ⟨_, W3⟩ X2) W3 htk3 fun y hy val hv => (hiff y val (fun q => hy (q ▸ .head _))).mp (V2 y hy val hv))) (fun fl s₃ q => ?_) fun _ _ e => e.2.elim
        obtain ⟨htk4, ρ₃, hJ3, P3⟩ := q
        obtain ⟨rfl, W4⟩ := P3.out
        have hit3 : IsRangeIter h'' s₁.heap.objs.size ((i + 1 : Nat) : Int) ((n : Int) - ((i + 1 : Nat) : Int)) 1 := (hsb.2 _ fun q => hnf _ (q ▸ hS) _ rfl).trans hS
        refine ⟨n - (i + 1), by omega, i + 1, ρ₃, rfl, hlt, hJ3, W4, htk4, P3.fz _ _ hit3, ?_, ?_⟩
        · exact F2.trans (Fz.trans (s' := { s' with heap := h'', toks := tk' }) (fun b vs e => (hsb.2 b fun q => hnf _ (q ▸ e) _ rfl).trans e) P3.fz)
        · intro y hy val hv
          have := V2 y hy val hv
          exact P3.kv y (fun q => hy (.tail _ q)) val ((hiff y val (fun q => hy (q ▸ .head _))).mp this)
    · have hin : i = n := by omega
      subst hin
      refine wpAny_mono (R.done s' (fun r s₂ => r = none ∧ ∃ h' tk, s₂ = { s' with heap := h', toks := tk } ∧ (∀ b o, b ∉ [s₁.heap.objs.size] → s'.heap.get? b = some o → h'.get? b = some o)) (fun _ _ => False) hit' fun h' tk hk => ⟨rfl, h', tk, rfl, hk⟩) (fun r s₂ h => ?_) fun _ _ e => e.elim
      obtain ⟨rfl, h', tk, rfl, hk⟩ := h
      obtain ⟨W2, F2, V2⟩ := one (tk := tk) hk
      exact wpAny_execs_nil ⟨ρ', xone hk W2, trivial, F2, V2, rfl, W2⟩
  · refine ⟨0, ρ, by omega, Nat.zero_le _, jk _ _ _ _ (kpT k1 kpPush) hJ, (hW.keep (kpK k1)).keep fun b o e => Heap.get?_push_of_some _ e, htk1, ?_, (Fz.keep k1).trans (Fz.keep kpPush), (Kv.keep (as := []) (kpT k1 kpPush)).mono fun _ h => nomatch h⟩
    show Heap.get? _ _ = _
    have : ((n : Int) - ((0 : Nat) : Int)) = n := by omega
    rw [this]
    exact Heap.get?_push_size _ rfl

theorem for_rule (K : TpOk tp) (S : Ls nm tp env) (hX : XOk tp X) {x : Nat} {nx : Str} {pn : Expr} {np p1 p2 pos : Pos} {body : List Stmt} {fn : Ev} {rn : Bool} {as : List Nat} (hn : nm x = nx) (hp : Plc env nx)
    (hs : Snd prog w nm tp pn env rn fn) (G : EnvG env) (hk : env.kindOf "range" = some .globalImplicit) (h0 : tp.mg "range" = none) (h1 : tp.mb "range" = some (.type "range")) (hst : starEach [pn] env = [(false, eval pn env)])
    {A : Around} (hA : AOk A) {s : Shared} {ρ : List (Nat × V)} {n : Nat} (hn1 : n ≤ 1000) (e : fn ρ = some (.u (.i n))) (hW : Lw nm tp env s.heap ρ) (hx : X s) (htk : 1 ≤ s.toks)
    (J : Nat → List (Nat × V) → Prop) (hJ : J 0 ρ)
    (step : ∀ i s ρ, i < n → J i ρ → Lw nm tp env s.heap (upd ρ x (.u (.i (i : Int)))) → X s → 1 ≤ s.toks →
      wpAny (model prog w) A (execs body env) (fun fl s' => ∃ ρ', J (i + 1) ρ' ∧ Pst nm tp env X as s ρ' none fl s') (fun _ _ => False) s) :
    wpAny (model prog w) A (exec (.For (.Name nx p1) (.Call (.Name "range" np) [pn] [] p2) body [] pos) env) (fun fl s' => ∃ ρ', J n ρ' ∧ Pst nm tp env X (x :: as) s ρ' none fl s') (fun _ _ => False) s := by
  refine wpAny_mono (for_rule0 (as := as) K S hn hp hs G hk h0 h1 hst hA hn1 e hW htk (fun i ρ s => J i ρ ∧ X s) (fun i ρ s s' k h => ⟨h.1, hX.keep _ _ k h.2⟩) (fun i ρ s c h' tk hc _ sb _ _ h => ⟨h.1, hX.same s c h' tk hc sb h.2⟩) ⟨hJ, hx⟩ fun i s ρ hi hj hw ht _ => ?_) (fun fl s' q => ?_) fun _ _ e => e
  · exact wpAny_mono (step i s ρ hi hj.1 hw hj.2 ht) (fun fl s' q => let ⟨ρ', j, p⟩ := q; ⟨ρ', ⟨j, p.x⟩, trivial, p.fz, p.kv, p.out⟩) fun _ _ e => e
  · obtain ⟨ρ', j, p⟩ := q
    exact ⟨ρ', j.1, j.2, p.fz, p.kv, p.out⟩

noncomputable def goFor (x : Nat) (gb : Sv) : Nat → List (Nat × V) → Option (List (Nat × V))
  | 0, ρ => some ρ
  | i + 1, ρ => match goFor x gb i ρ with
    | some ρ1 => match gb (upd ρ1 x (.u (.i (i : Int)))) with
      | some (ρ2, none) => some ρ2
      | _ => none
    | none => none
noncomputable def sFor (x : Nat) (fn : Ev) (gb : Sv) : Sv := fun ρ => match fn ρ with
  | some (.u (.i n)) => if decide (0 ≤ n) && decide (n ≤ 1000) then (match goFor x gb n.toNat ρ with
      | some ρ' => some (ρ', none)
      | none => none) else none
  | _ => none
theorem goFor_pre {x : Nat} {gb : Sv} {ρ : List (Nat × V)} : ∀ {n i : Nat}, i ≤ n → (goFor x gb n ρ).isSome = true → (goFor x gb i ρ).isSome = true
  | 0, i, h, e => by
    have : i = 0 := by omega
    subst this; exact e
  | n + 1, i, h, e => by
    by_cases q : i = n + 1
    · subst q; exact e
    · refine goFor_pre (n := n) (by omega) ?_
      unfold goFor at e
      cases p : goFor x gb n ρ with
      | none => rw [p] at e; cases e
      | some _ => rfl

theorem snd1_for (K : TpOk tp) (S : Ls nm tp env) (hX : XOk tp X) {x : Nat} {nx : Str} {pn : Expr} {np p1 p2 pos : Pos} {body : List Stmt} {fn : Ev} {rn : Bool} {as : List Nat} {gb : Sv} (hn : nm x = nx) (hp : Plc env nx)
    (hs : Snd prog w nm tp pn env rn fn) (G : EnvG env) (hk : env.kindOf "range" = some .globalImplicit) (h0 : tp.mg "range" = none) (h1 : tp.mb "range" = some (.type "range")) (hst : starEach [pn] env = [(false, eval pn env)])
    (hb : SndS prog w nm tp X body env as gb) : Snd1 prog w nm tp X (.For (.Name nx p1) (.Call (.Name "range" np) [pn] [] p2) body [] pos) env (x :: as) (sFor x fn gb) := by
  intro A s ρ ρ' r hA hW hx htk hg
  unfold sFor at hg
  split at hg
  · rename_i n e
    split at hg
    · rename_i hc
      simp only [Bool.and_eq_true, decide_eq_true_eq] at hc
      split at hg
      · rename_i ρ2 e2
        cases hg
        obtain ⟨m, rfl⟩ := Int.eq_ofNat_of_zero_le hc.1
        rw [Int.toNat_natCast] at e2
        refine wpAny_mono (for_rule (as := as) K S hX hn hp hs G hk h0 h1 hst hA (by omega) e hW hx htk (fun i σ => goFor x gb i ρ = some σ) rfl fun i s σ hi hJ hW' hX' htk' => ?_) (fun fl s' h => ?_) fun _ _ e => e
        · have hs1 : (goFor x gb (i + 1) ρ).isSome = true := goFor_pre (n := m) (by omega) (by rw [e2]; rfl)
          obtain ⟨τ, hτ⟩ := Option.isSome_iff_exists.mp hs1
          have hτ' := hτ
          unfold goFor at hτ
          rw [hJ] at hτ
          simp only at hτ
          split at hτ
          · rename_i ρ3 e3
            cases hτ
            exact wpAny_mono (hb A s _ τ none hA hW' hX' htk' e3) (fun fl s' P => ⟨τ, hτ', P⟩) fun _ _ e => e
          · cases hτ
        · obtain ⟨σ, hJ, P⟩ := h
          rw [e2] at hJ
          cases hJ
          exact P
      · cases hg
    · cases hg
  · cases hg
end
end Mine
end
section
open PySem PySem.W PyProof.Rows PySem.Calls
set_option Elab.async false
set_option maxRecDepth 100000
namespace Mine
section
variable {prog : Program} {w : World} {nm : Nat → Str} {tp : Tp} {X : Shared → Prop} {env : Env}

/-- a list of the frame's own changes -/
theorem Lw.mut (K : TpOk tp) {h h' : Heap} {ρ : List (Nat × V)} (W : Lw nm tp env h ρ) {x : Nat} {a : Addr} {vs : Array Value} {n : Nat} {v : V} (hx : (look ρ x).isSome = true) (hv : VarAt env h (nm x) (.ref a)) (ho : h.get? a = some { cls := .type "list", data := .seq vs n })
    (hs : Heap.SameBut a h h') (r : RepV h' (.ref a) v) (ok : okV v = true) : Lw nm tp env h' (upd ρ x v) ∧ (∀ y u, VarAt env h y u ↔ VarAt env h' y u) := by
  have na : tp.H.get? a = none := W.new x a hx hv
  obtain ⟨m, hm⟩ := W.loc
  have nl : env.locals ≠ a := fun q => by
    obtain ⟨o', es, ep, e1, e2, _⟩ := hm
    rw [q, ho] at e1; cases e1; cases e2
  have ncell : ∀ {c v}, h.IsCell c v → c ≠ a := fun ⟨o', e1, e2⟩ q => by rw [q, ho] at e1; cases e1; cases e2
  have hm' : h'.Ns env.locals m := hm.at' fun o e => (hs.2 _ nl).trans e
  have iff : ∀ y u, VarAt env h y u ↔ VarAt env h' y u := by
    intro y u
    constructor
    · rintro (⟨e, m', hn, e2⟩ | ⟨e, c, hc, o, ho', hd⟩)
      · exact .inl ⟨e, m', hn.at' fun o e => (hs.2 _ nl).trans e, e2⟩
      · exact .inr ⟨e, c, hc, o, (hs.2 _ (ncell ⟨o, ho', hd⟩)).trans ho', hd⟩
    · rintro (⟨e, m', hn, e2⟩ | ⟨e, c, hc, o, ho', hd⟩)
      · have := Ns.fn hm' hn; subst this
        exact .inl ⟨e, _, hm, e2⟩
      · obtain ⟨v0, hc0⟩ := W.cel _ c e hc
        exact .inr ⟨e, c, hc, o, (hs.2 _ (ncell hc0)).symm.trans ho', hd⟩
  have ne : ∀ b o, tp.H.get? b = some o → b ≠ a := fun b o e q => by rw [q, na] at e; cases e
  refine ⟨⟨K.bs (fun b o e n' => (hs.2 b (ne b o e)).trans (W.bs.base b o e n')) (fun b o e => let ⟨o', e'⟩ := W.bs.there b o e; ⟨o', (hs.2 b (ne b o e)).trans e'⟩), fun y u e => ?_, ⟨m, hm'⟩,
    fun y c h1 h2 => let ⟨v0, o, e1, e2⟩ := W.cel y c h1 h2; ⟨v0, o, (hs.2 _ (ncell ⟨o, e1, e2⟩)).trans e1, e2⟩, fun y z hyz e1 e2 p q v1 v2 => ?_, fun y p e v1 => ?_⟩, iff⟩
  · rw [look_upd] at e
    by_cases q : y = x
    · subst q
      rw [if_pos rfl] at e
      cases e
      exact ⟨_, r, ok, (iff _ _).mp hv⟩
    · rw [if_neg q] at e
      obtain ⟨val, ru, ou, hu⟩ := W.acc y u e
      refine ⟨val, ?_, ou, (iff _ _).mp hu⟩
      have far : ∀ p, val = .ref p → p ≠ a := fun p ep => W.sep y x q (by rw [e]; rfl) hx p a (ep ▸ hu) hv
      cases u with
      | u u' => exact ru
      | l xs => obtain ⟨p, ws, k, e1, e2, e3⟩ := ru; exact ⟨p, ws, k, e1, (hs.2 p (far p e1)).trans e2, e3⟩
      | z xs => obtain ⟨p, ws, k, e1, e2, e3⟩ := ru; exact ⟨p, ws, k, e1, (hs.2 p (far p e1)).trans e2, e3⟩
  · have up : ∀ y, (look (upd ρ x v) y).isSome = true → (look ρ y).isSome = true := fun y e => by
      rw [look_upd] at e
      by_cases q : y = x
      · rw [q]; exact hx
      · rw [if_neg q] at e; exact e
    exact W.sep y z hyz (up y e1) (up z e2) p q ((iff _ _).mpr v1) ((iff _ _).mpr v2)
  · have up : (look ρ y).isSome = true := by
      rw [look_upd] at e
      by_cases q : y = x
      · rw [q]; exact hx
      · rw [if_neg q] at e; exact e
    exact W.new y p up ((iff _ _).mpr v1)

theorem seq_fz {a : Addr} {vs : Array Value} {n : Nat} {h h' : Heap} {tk tk' : Nat} {s : Shared} (ho : h.get? a = some { cls := .type "list", data := .seq vs n }) (hs : Heap.SameBut a h h') : Fz { s with heap := h, toks := tk } { s with heap := h', toks := tk' } := fun b ws e =>
  (hs.2 b fun q => by rw [q] at e; rw [show Heap.get? h a = _ from ho] at e; exact absurd (congrArg Obj.cls (Option.some.inj e)) (by simp)).trans e

set_option maxRecDepth 512 in
theorem setItem_exact {A : Around} {E : Value → Shared → Prop} {s : Shared} {l : Addr} {vs : List Value} {n : Nat} {k : Int} {t : Tok} {v : Value} {Q : Unit → Shared → Prop} (ho : s.heap.get? l = some { cls := .type "list", data := .seq vs.toArray n })
    (h0 : 0 ≤ k) (hfit : k < 2 ^ 63) (hn : k < vs.toArray.size) (hQ : ∀ h' n', h'.get? l = some { cls := .type "list", data := .seq (vs.set k.toNat v).toArray n' } → Heap.SameBut l s.heap h' → Q () { s with heap := h' }) :
    wpAny (model prog w) A (setItem (.ref l) (.int k t) v) Q E s := by
  have hT : s.TypeIs (.ref l) "list" := ⟨_, ho, rfl⟩
  unfold setItem
  try with_reducible refine wpAny_holding ?_
  first | refine wpAny_bind (wpAny_pure ?_) | skip
  refine wpAny_bind (wpAny_sequenceKey hT (by decide) ?_)
  refine wpAny_bind (wpAny_callSpecial?_slot (name := Str.ofString "__setitem__") hT slot_list_setitem
    (wpAny_call_entry slot_list_setitem hT entry_list_setitem ?_ (args_list_setitem _ _ _)))
  show wpAny _ _ (Builtin.List.listSubscript? (.int k t) >>= _) _ _ s
  refine wpAny_bind (wpAny_listSubscript_int (fitsIndex_of h0 hfit) ?_)
  clear hfit
  obtain ⟨j, rfl⟩ := Int.eq_ofNat_of_zero_le h0
  have hj : j < vs.toArray.size := by omega
  have hx' : vs.toArray[j]? = some vs.toArray[j] := Array.getElem?_eq_getElem hj
  show wpAny _ _ ((seqItemAt l j >>= fun r => pure (r.map (j, ·))) >>= _) _ _ s
  refine wpAny_bind (wpAny_bind (wpAny_seqItemAt ho rfl (wpAny_pure ?_)))
  rw [hx']
  show wpAny _ _ (setSeqItemAt l j v >>= _) _ _ s
  obtain ⟨n', e'⟩ := mapSeq_list (·.setIfInBounds j v) vs.toArray n
  have hfin : (s.heap.update l (Obj.mapSeq (·.setIfInBounds j v))).get? l = some { cls := .type "list", data := .seq (vs.set j v).toArray n' } := by
    rw [Heap.get?_update_self _ ho (by rw [e']; rfl), e']
    simp
  refine wpAny_bind (wpAny_setSeqItemAt ho rfl ?_)
  first
    | exact wpAny_bind (wpAny_pure (wpAny_pure ⟨.none, rfl, wpAny_pure (hQ _ _ hfin (Heap.SameBut.update ..))⟩))
    | exact wpAny_pure ⟨.none, rfl, wpAny_pure (hQ _ _ hfin (Heap.SameBut.update ..))⟩

theorem Reps.set {vs : List Value} {us : List U} (h : Reps vs us) : ∀ (k : Nat) {v : Value} {u : U}, RepU v u → Reps (vs.set k v) (us.set k u) := by
  induction h with
  | nil => intro k v u r; exact .nil
  | cons r h ih =>
    intro k v u r'
    cases k with
    | zero => exact .cons r' h
    | succ k => exact .cons r (ih k r')

noncomputable def sApp (x : Nat) (fe : Ev) : Sv := fun ρ => match look ρ x, fe ρ with
  | some (.l xs), some (.u y) => if okV (.l (xs ++ [y])) then some (upd ρ x (.l (xs ++ [y])), none) else none
  | _, _ => none

theorem kv_iff {as : List Nat} {h h' : Heap} {tk tk' : Nat} {s : Shared} (i : ∀ y u, VarAt env h y u ↔ VarAt env h' y u) : Kv nm env as { s with heap := h, toks := tk } { s with heap := h', toks := tk' } := fun _ _ _ hv => (i _ _).mp hv

theorem snd1_app (K : TpOk tp) (S : Ls nm tp env) (hX : XOk tp X) {x : Nat} {n : Str} {elt : Expr} {p1 apos pos p : Pos} {fe : Ev} {re : Bool} (hn : nm x = n) (hd : (n == ("__debug__" : Str)) = false) (he : Snd prog w nm tp elt env re fe)
    (hbase : attributeBase (.Name n p1) "append" env (eval (.Name n p1) env) = eval (.Name n p1) env) (hline : (apos.endLine == pos.line) = true) (hs : backTo pos (starEach [elt] env) = [(false, eval elt env)])
    (hfew : ((backTo pos (starEach [elt] env)).all (fun x => !x.1) && (backToKw pos (keywordEach [] env)).all (fun x => x.1.isSome)
      && decide (([elt] : List Expr).length + ([] : List Keyword).length + (if ([] : List Keyword).isEmpty then 0 else 1) < 30)) = true)
    (hi : interactive env = false) (hsw : swapsWith (.Call (.Attribute (.Name n p1) "append" apos) [elt] [] pos) none p.line env = pure false) :
    Snd1 prog w nm tp X (.Expr (.Call (.Attribute (.Name n p1) "append" apos) [elt] [] pos) p) env [x] (sApp x fe) := by
  subst hn
  intro A s ρ ρ' r hA hW hx htk hg
  unfold sApp at hg
  split at hg
  · rename_i xs y e1 e2
    split at hg
    · rename_i ok
      cases hg
      obtain ⟨val, r1, _, hv⟩ := hW.acc x _ e1
      obtain ⟨a, vs, k, rfl, ho, rx⟩ := r1
      refine wpAny_Expr_any (wpAny_Call_append hbase hfew hline hs ?_) hi hsw
      have hnm : ∀ {Q : Value → Shared → Prop}, Q (.ref a) s → wpAny (model prog w) A (eval (.Name (nm x) p1) env) Q (fun _ _ => False) s := fun q => by
        refine wpAny_Name ?_ hd
        rcases hv with ⟨e, m, hn, hm⟩ | ⟨e, c, hc, hcell⟩
        · exact wpAny_loadName_local S.k e hn hm q
        · exact wpAny_loadName_cell S.k e hc hcell q
      refine hnm ⟨a, vs.toArray, rfl, ⟨_, k, ho, rfl, rfl, rfl⟩, wpAny_mono (he A s ρ _ hA hW.bs hW.acc e2) (fun yv s₁ o => ?_) fun _ _ e => e.elim⟩
      obtain ⟨ry, _, k1, _⟩ := o
      have ho1 := kpK k1 _ _ ho
      refine wpAny_list_append_plain ⟨k, ho1⟩ (fun h' hp hsb => ?_) ?_
      · obtain ⟨n', hp⟩ := hp
        have W1 := hW.keep (kpK k1)
        obtain ⟨W2, iff⟩ := W1.mut K (x := x) (by rw [e1]; rfl) (hv.keep (kpK k1)) ho1 hsb (v := .l (xs ++ [y])) ⟨a, vs ++ [yv], n', rfl, by simpa using hp, rx.append (.cons ry .nil)⟩ ok
        exact ⟨hX.same _ a h' _ (hW.new x a (by rw [e1]; rfl) hv) (Sb.of hsb) (hX.keep _ _ k1 hx), (Fz.keep k1).trans (seq_fz ho1 hsb), (Kv.keep (as := []) k1).trans (kv_iff iff), rfl, W2⟩
      · have := list_ok (okV_of (hW.acc) e1)
        rw [List.size_toArray, rx.length]
        exact Nat.le_trans this (by decide)
    · cases hg
  · cases hg
end
end Mine
end
section
open PySem PySem.W PyProof.Rows PySem.Calls
set_option Elab.async false
set_option maxRecDepth 100000
namespace Mine
-- hasattr(a text, '__getitem__')
theorem ty_str_getitem : typeOf (.builtin "str.__getitem__") = pure (.type "wrapper_descriptor") := by kernel_rfl
theorem slot_wd_get : Slot "wrapper_descriptor" "__get__" "wrapper_descriptor.__get__" :=
  .of (owner := "wrapper_descriptor") (n := "__get__") (by rw [typeLookup_type, builtinLookup_eq_fast]; kernel_rfl) (by decide +kernel) (by decide +kernel) (by decide +kernel)
    (by first | exact .inl (by decide +kernel) | exact .inr (by decide +kernel)) (by rw [isSubtype_type]; kernel_rfl)
theorem lk_wd_set : typeLookup (.type "wrapper_descriptor") "__set__" = pure none := by rw [typeLookup_type, builtinLookup_eq_fast]; kernel_rfl
theorem lk_wd_delete : typeLookup (.type "wrapper_descriptor") "__delete__" = pure none := by rw [typeLookup_type, builtinLookup_eq_fast]; kernel_rfl
theorem entry_wd_get : entryFor table "wrapper_descriptor.__get__" = some Builtin.«wrapper_descriptor.__get__» := entryFor_of_tree (by kernel_rfl)
theorem args_wd_get (a b c : Value) : argsOk "wrapper_descriptor.__get__" ⟨[a, b, c], []⟩ := by unfold argsOk; kernel_rfl
theorem sub_str_owner : isSubtype (.type "str") (.type (".".intercalate ("str.__getitem__".cutAt '.').dropLast)) = pure true := by
  have : (".".intercalate ("str.__getitem__".cutAt '.').dropLast) = "str" := by decide +kernel
  rw [this, isSubtype_type]; kernel_rfl
section
variable {prog : Program} {w : World} {A : Around} {E : Value → Shared → Prop} {h : Heap} {g : Array GenState} {d : Drawn} {t : Nat} {os : OsState} {x : Str} {u : Tok}
theorem wd_get {R : Result → Shared → Prop} (hq : ∀ s' v, Keeps ⟨h, g, d, t, os⟩ s' → R (.ok (.ret (.ref v))) s') :
    codeAny (model prog w) A (.call (.builtin "wrapper_descriptor.__get__") ⟨[.builtin "str.__getitem__", .str x u, .type "str"], []⟩) R ⟨h, g, d, t, os⟩ := by
  have hT : (⟨h, g, d, t, os⟩ : Shared).TypeIs (.str x u) "str" := rfl
  have hT5 : (⟨h, g, d, t, os⟩ : Shared).TypeIs (.builtin "str.__getitem__") "wrapper_descriptor" := ty_str_getitem
  have f8 := sub_str_owner
  refine codeAny_call_builtin slot_wd_get.plain entry_wd_get (slot_wd_get.check _ _ _ _ _ _ _ _ hT5 (args_wd_get _ _ _) ?_)
  repeat (any_goals (first | assumption | wp_step))
  exact hq _ _ kpPush
theorem hs_entry {tk : Tok} {Q : Fin → Shared → Prop} (hq : ∀ s' v, Keeps ⟨h, g, d, t, os⟩ s' → Q (.done (.ret (.ref v))) s') :
    wpAny (model prog w) A (Builtin.«object.__getattribute__» ⟨[.str x u, .str "__getitem__" tk], []⟩) Q E ⟨h, g, d, t, os⟩ := by
  have hT : (⟨h, g, d, t, os⟩ : Shared).TypeIs (.str x u) "str" := rfl
  have f5 := ty_str_getitem
  have f6 := PySem.F.slot_str_getitem.lookup
  have f7 := slot_wd_get.lookup
  have f8 := lk_wd_set
  have f9 := lk_wd_delete
  unfold Builtin.«object.__getattribute__»
  repeat (any_goals (first | assumption | wp_step))
  refine wd_get fun s' v k => ?_
  exact wpAny_pure (hq _ _ k)
theorem hs_call {tk : Tok} {R : Result → Shared → Prop} (hq : ∀ s' v, Keeps ⟨h, g, d, t, os⟩ s' → R (.ok (.ret (.ref v))) s') :
    codeAny (model prog w) A (.call (.builtin "object.__getattribute__") ⟨[.str x u, .str "__getitem__" tk], []⟩) R ⟨h, g, d, t, os⟩ :=
  codeAny_call_builtin PySem.F.slot_str_getattribute.plain PySem.F.entry_object_getattribute (PySem.F.slot_str_getattribute.check _ _ _ _ _ _ _ _ (show (⟨h, g, d, t, os⟩ : Shared).TypeIs (.str x u) "str" from rfl) (PySem.F.args_object_getattribute_2 _ _) (hs_entry hq))
theorem hs_by {tk : Tok} {Q : Value → Shared → Prop} (hq : ∀ s' v, Keeps ⟨h, g, d, t, os⟩ s' → Q (.ref v) s') : wpAny (model prog w) A (getAttrBy (.str x u) (.str "__getitem__" tk) false) Q E ⟨h, g, d, t, os⟩ := by
  have hT : (⟨h, g, d, t, os⟩ : Shared).TypeIs (.str x u) "str" := rfl
  have f2 := PySem.F.slot_str_getattribute.lookup
  have f3 := PySem.F.slot_str_getattribute.bind (.str x u)
  repeat (any_goals (first | assumption | wp_step))
  refine hs_call fun s' v k => ?_
  exact wpAny_pure (hq _ _ k)
set_option maxHeartbeats 400000 in
theorem hs_attr {tk : Tok} {Q : Fin → Shared → Prop} (hq : ∀ s', Keeps ⟨h, g, d, t, os⟩ s' → Q (.done (.ret (.bool true))) s') : wpAny (model prog w) A (Builtin.«hasattr» ⟨[.str x u, .str "__getitem__" tk], []⟩) Q E ⟨h, g, d, t, os⟩ := by
  have hT : (⟨h, g, d, t, os⟩ : Shared).TypeIs (.str x u) "str" := rfl
  have f6 := PySem.F.slot_str_getitem.lookup
  have f2 := PySem.F.slot_str_getattribute.lookup
  have n2 : ¬ (((withoutEnding? "str.__getitem__" "#data").isSome && (some (Value.builtin "object.__getattribute__")) == some (Value.builtin "object.__getattribute__")) = true) := by
    have : (withoutEnding? "str.__getitem__" "#data").isSome = false := by decide +kernel
    rw [this]; intro h; cases h
  have e1 : someArgs "hasattr" 2 2 ⟨[.str x u, .str "__getitem__" tk], []⟩ = pure [.str x u, .str "__getitem__" tk] := rfl
  unfold Builtin.«hasattr»
  rw [e1]
  refine wpAny_bind (wpAny_pure ?_)
  wp_step
  refine wpAny_pure (a := ()) ?_
  have n1 : ¬ ((Value.str x u == Value.builtin "__main__.__loader__#opaque") = true) := by intro h; cases h
  dsimp only
  rw [if_neg n1]
  refine wpAny_bind (wpAny_pure (a := Value.type "str") ?_)
  dsimp only
  refine wpAny_bind (wpAny_pure (a := some (Str.ofString "__getitem__")) ?_)
  dsimp only
  rw [f6]
  refine wpAny_bind (wpAny_pure ?_)
  dsimp only
  rw [f2]
  refine wpAny_bind (wpAny_pure ?_)
  rw [if_neg n2]
  refine wpAny_bind (wpAny_pure (a := 0) ?_)
  rw [if_neg (by decide)]
  refine wpAny_bind ?_
  unfold getAttrBy?
  refine wpAny_bind (wpAny_attempt (hs_by fun s' v k => wpAny_pure ?_))
  rw [if_neg (by simp)]
  exact wpAny_pure (hq _ k)
end
section
variable {prog : Program} {w : World} {A : Around} {E : Value → Shared → Prop} {s : Shared} {x : Str} {u tk : Tok}
theorem kind_hasattr : builtinKind "hasattr" = none := by decide +kernel
theorem plain_hasattr : plainId "hasattr" = true := by decide +kernel
theorem entry_hasattr : entryFor table "hasattr" = some Builtin.«hasattr» := entryFor_of_tree (by kernel_rfl)
theorem args_hasattr (a b : Value) : argsOk "hasattr" ⟨[a, b], []⟩ := by unfold argsOk; kernel_rfl
theorem call_hasattr {Q : Value → Shared → Prop} (hq : ∀ s', Keeps s s' → Q (.bool true) s') : wpAny (model prog w) A (call (.builtin "hasattr") [.str x u, .str "__getitem__" tk]) Q E s := by
  obtain ⟨h, g, d, t, os⟩ := s
  refine Calls.call_function_entry kind_hasattr plain_hasattr entry_hasattr (args_hasattr _ _) ?_
  exact hs_attr fun s' k => ⟨_, rfl, hq s' k⟩
end
end Mine
end
section
open PySem PySem.W PyProof.Rows PySem.Calls
set_option Elab.async false
set_option maxRecDepth 100000
namespace Mine

/-- a def of the top's own -/
noncomputable def FnAt (tp : Tp) (n : Str) (params : Arguments) (body : List Stmt) (scope : Scope) : Prop :=
  ∃ a o pm cd doc, tp.mg n = some (.ref a) ∧ tp.H.get? a = some o ∧ a ∉ tp.tb ∧ o.data = .func (docDef n params body scope pm cd doc) ∧ ∀ h, Bs tp h → h.CodeRec cd n

section
variable {prog : Program} {w : World} {tp : Tp}

/-- a def is called: its body is walked behind its frame -/
theorem call_fn {A : Around} {s : Shared} {a : Addr} {o : Obj} {n : Str} {params : Arguments} {body : List Stmt} {scope : Scope} {pm cd doc : Value} {vals : List Value} {binds : List (Str × Value)} {Q : Value → Shared → Prop} (hA : AOk A) (B : Bs tp s.heap)
    (ho : tp.H.get? a = some o) (ht : a ∉ tp.tb) (hd : o.data = .func (docDef n params body scope pm cd doc)) (hcd : ∀ h, Bs tp h → h.CodeRec cd n) (hbind : bindArgs (docDef n params body scope pm cd doc) ⟨vals, []⟩ = pure binds)
    (hcell : ∀ x ∈ scope.names, x.2 ≠ .cell) (hloc : ∀ x ∈ binds, scope.names.lookup x.1 = some .local) (hco : scope.isCoroutine = false) (hgen : scope.isGenerator = false) (hk : scope.kind = .function)
    (h : ∀ h₀, h₀.Ns s.heap.objs.size (fun x => binds.reverse.lookup x) → (∀ b o, s.heap.get? b = some o → h₀.get? b = some o) →
      wpAny (model prog w) (A.deeper (callEnv (docDef n params body scope pm cd doc) s.heap.objs.size a)) (execs body (callEnv (docDef n params body scope pm cd doc) s.heap.objs.size a)) (fun f s' => Q (match f with | .ret v => v | _ => .none) s') (fun _ _ => False) { s with heap := h₀, toks := s.toks + binds.length }) :
    wpAny (model prog w) A (call (.ref a) vals) Q (fun _ _ => False) s := by
  have hdp := hA.dp
  have hr : recursionLimit = 1000 := rfl
  refine wpAny_call (codeAny_call_def (by omega) (B.base _ _ ho ht) hd B.lim (hcd _ B) rfl (BindsTo.of_eq hbind) hcell hloc (fun h₀ hn hk' => ?_) hco hgen hk)
  exact wpAny_mono (h h₀ hn hk') (fun f s' q => q) fun _ _ e => e.elim

/-- what a def of one and of two arguments gives -/
noncomputable def FS1 (prog : Program) (w : World) (tp : Tp) (n : Str) (f : V → Option V) : Prop :=
  ∃ a o fd, tp.mg n = some (.ref a) ∧ tp.H.get? a = some o ∧ a ∉ tp.tb ∧ o.data = .func fd ∧ ∀ (A : Around) (s : Shared) (va : Value) (x v : V), AOk A → Bs tp s.heap → RepV s.heap va x → okV x = true → f x = some v →
    wpAny (model prog w) A (call (.ref a) [va]) (fun val s' => Out s true v val s') (fun _ _ => False) s
noncomputable def FS2 (prog : Program) (w : World) (tp : Tp) (n : Str) (f : V → V → Option V) : Prop :=
  ∃ a o fd, tp.mg n = some (.ref a) ∧ tp.H.get? a = some o ∧ a ∉ tp.tb ∧ o.data = .func fd ∧ ∀ (A : Around) (s : Shared) (va vb : Value) (x y v : V), AOk A → Bs tp s.heap → RepV s.heap va x → RepV s.heap vb y → okV x = true → okV y = true → f x y = some v →
    wpAny (model prog w) A (call (.ref a) [va, vb]) (fun val s' => Out s true v val s') (fun _ _ => False) s

variable {nm : Nat → Str} {env : Env}
noncomputable def eCall1 (f : V → Option V) (fa : Ev) : Ev := fun ρ => match fa ρ with
  | some x => f x
  | none => none
noncomputable def eCall2 (f : V → V → Option V) (fa fb : Ev) : Ev := fun ρ => match fa ρ, fb ρ with
  | some x, some y => f x y
  | _, _ => none

theorem snd_call1 {n : Str} {f : V → Option V} (F : FS1 prog w tp n f) {pa : Expr} {np pos : Pos} {fa : Ev} {ra : Bool} (ha : Snd prog w nm tp pa env ra fa) (G : EnvG env) (hk : env.kindOf n = some .globalImplicit) (hd : (n == ("__debug__" : Str)) = false)
    (hs : starEach [pa] env = (false, eval pa env) :: starEach [] env) : Snd prog w nm tp (.Call (.Name n np) [pa] [] pos) env true (eCall1 f fa) := by
  intro A s ρ v hA hB hr hf
  obtain ⟨a, o, fd, h1, h2, h3, h4, h5⟩ := F
  unfold eCall1 at hf
  split at hf
  · rename_i x ex
    refine wpAny_Call_NameR (name_global G hB hk h1 hd (PyProof.Rows.callWith_def h4 ?_ hs))
    refine wpAny_items_cons (wpAny_mono (ha A s ρ x hA hB hr ex) (fun va s₁ o₁ => wpAny_items_nil ?_) fun _ _ e => e.elim) hs
    obtain ⟨r1, _, k1, ok1⟩ := o₁
    have B1 := hB.keep (kpK k1)
    exact ⟨B1.base _ _ h2 h3, wpAny_mono (h5 A s₁ va x v hA B1 r1 ok1 hf) (fun val s₂ q => Out.fr k1 q) fun _ _ e => e⟩
  · cases hf

theorem snd_call2 {n : Str} {f : V → V → Option V} (F : FS2 prog w tp n f) {pa pb : Expr} {np pos : Pos} {fa fb : Ev} {ra rb : Bool} (ha : Snd prog w nm tp pa env ra fa) (hb : Snd prog w nm tp pb env rb fb) (G : EnvG env) (hk : env.kindOf n = some .globalImplicit) (hd : (n == ("__debug__" : Str)) = false)
    (hs : starEach [pa, pb] env = (false, eval pa env) :: starEach [pb] env) (hs2 : starEach [pb] env = (false, eval pb env) :: starEach [] env) : Snd prog w nm tp (.Call (.Name n np) [pa, pb] [] pos) env true (eCall2 f fa fb) := by
  intro A s ρ v hA hB hr hf
  obtain ⟨a, o, fd, h1, h2, h3, h4, h5⟩ := F
  unfold eCall2 at hf
  split at hf
  · rename_i x y ex ey
    refine wpAny_Call_NameR (name_global G hB hk h1 hd (PyProof.Rows.callWith_def h4 ?_ hs))
    refine wpAny_items_cons (wpAny_mono (ha A s ρ x hA hB hr ex) (fun va s₁ o₁ => wpAny_items_cons (wpAny_mono (hb A s₁ ρ y hA (hB.keep (kpK o₁.2.2.1)) (hr.keep _ (kpK o₁.2.2.1)) ey) (fun vb s₂ o₂ => wpAny_items_nil ?_) fun _ _ e => e.elim) hs2) fun _ _ e => e.elim) hs
    obtain ⟨r1, _, k1, ok1⟩ := o₁
    obtain ⟨r2, _, k2, ok2⟩ := o₂
    have B2 := (hB.keep (kpK k1)).keep (kpK k2)
    exact ⟨B2.base _ _ h2 h3, wpAny_mono (h5 A s₂ va vb x y v hA B2 (r1.keep (kpK k2)) r2 ok1 ok2 hf) (fun val s₃ q => Out.fr (kpT k1 k2) q) fun _ _ e => e⟩
  · cases hf

-- the defs' own parameters
noncomputable def ps1 (a : Str) (p : Pos) : Arguments := { posonlyargs := [], args := [{ arg := a, annotation := none, pos := p }], vararg := none, kwonlyargs := [], kw_defaults := [], kwarg := none, defaults := [] }
noncomputable def ps2 (a b : Str) (p q : Pos) : Arguments := { posonlyargs := [], args := [{ arg := a, annotation := none, pos := p }, { arg := b, annotation := none, pos := q }], vararg := none, kwonlyargs := [], kw_defaults := [], kwarg := none, defaults := [] }
noncomputable def ps3 (a b c : Str) (p q r : Pos) : Arguments := { posonlyargs := [], args := [{ arg := a, annotation := none, pos := p }, { arg := b, annotation := none, pos := q }, { arg := c, annotation := none, pos := r }], vararg := none, kwonlyargs := [], kw_defaults := [], kwarg := none, defaults := [] }
noncomputable def scL (ns : List Str) : Scope := { kind := .function, names := ns.map fun n => (n, .local), isGenerator := false, isCoroutine := false, more := [] }

noncomputable def ltV : V → V → Option V
  | .u (.s a), .u (.s b) => some (.u (.b (decide (a.cps.toList < b.cps.toList))))
  | _, _ => none
noncomputable def gtV : V → V → Option V
  | .u (.s a), .u (.s b) => some (.u (.b (decide (b.cps.toList < a.cps.toList))))
  | _, _ => none

theorem fs_lt {q1 q2 p1 p2 p3 p4 : Pos} (F : FnAt tp "lt" (ps2 "a" "b" q1 q2) [.Return (some (.Compare (.Name "a" p1) [.Lt] [.Name "b" p2] p3)) p4] (scL ["a", "b"])) : FS2 prog w tp "lt" ltV := by
  obtain ⟨a, o, pm, cd, doc, h1, h2, h3, h4, h5⟩ := F
  refine ⟨a, o, _, h1, h2, h3, h4, fun A s va vb x y v hA hB rx ry _ _ hf => ?_⟩
  unfold ltV at hf
  split at hf
  · cases hf
    obtain ⟨t, rfl⟩ := rx; obtain ⟨u, rfl⟩ := ry
    refine call_fn hA hB h2 h3 h4 h5 (binds := [("a", .str _ t), ("b", .str _ u)]) rfl (by decide) (List.forall_mem_cons.mpr ⟨rfl, List.forall_mem_cons.mpr ⟨rfl, fun _ h => nomatch h⟩⟩) rfl rfl rfl fun h₀ hn hk => ?_
    refine wpAny_execs_cons (wpAny_Return_some (wpAny_Compare1 (ldc rfl rfl hn (by rfl) (ldc rfl rfl hn (by rfl) (lt_str ?_) (by decide)) (by decide)) rfl))
    exact Out.u rfl ⟨_, _, rfl, hk⟩ rfl
  · cases hf
theorem fs_gt {q1 q2 p1 p2 p3 p4 : Pos} (F : FnAt tp "gt" (ps2 "a" "b" q1 q2) [.Return (some (.Compare (.Name "a" p1) [.Gt] [.Name "b" p2] p3)) p4] (scL ["a", "b"])) : FS2 prog w tp "gt" gtV := by
  obtain ⟨a, o, pm, cd, doc, h1, h2, h3, h4, h5⟩ := F
  refine ⟨a, o, _, h1, h2, h3, h4, fun A s va vb x y v hA hB rx ry _ _ hf => ?_⟩
  unfold gtV at hf
  split at hf
  · cases hf
    obtain ⟨t, rfl⟩ := rx; obtain ⟨u, rfl⟩ := ry
    refine call_fn hA hB h2 h3 h4 h5 (binds := [("a", .str _ t), ("b", .str _ u)]) rfl (by decide) (List.forall_mem_cons.mpr ⟨rfl, List.forall_mem_cons.mpr ⟨rfl, fun _ h => nomatch h⟩⟩) rfl rfl rfl fun h₀ hn hk => ?_
    refine wpAny_execs_cons (wpAny_Return_some (wpAny_Compare1 (ldc rfl rfl hn (by rfl) (ldc rfl rfl hn (by rfl) (P.gt_str ?_) (by decide)) (by decide)) rfl))
    exact Out.u rfl ⟨_, _, rfl, hk⟩ rfl
  · cases hf
end
end Mine
end
section
open PySem PySem.W PyProof.Rows PySem.Calls
set_option Elab.async false
set_option maxRecDepth 100000
namespace Mine
section
variable {prog : Program} {w : World} {tp : Tp}

theorem loc1 {a : Str} {x : Value} {L : List (Str × NameKind)} (h : L.lookup a = some .local) : ∀ y ∈ [(a, x)], L.lookup y.1 = some .local := List.forall_mem_cons.mpr ⟨h, fun _ h => nomatch h⟩
theorem loc2 {a b : Str} {x y : Value} {L : List (Str × NameKind)} (h : L.lookup a = some .local) (g : L.lookup b = some .local) : ∀ z ∈ [(a, x), (b, y)], L.lookup z.1 = some .local := List.forall_mem_cons.mpr ⟨h, loc1 g⟩
theorem loc3 {a b c : Str} {x y z : Value} {L : List (Str × NameKind)} (h : L.lookup a = some .local) (g : L.lookup b = some .local) (k : L.lookup c = some .local) : ∀ u ∈ [(a, x), (b, y), (c, z)], L.lookup u.1 = some .local := List.forall_mem_cons.mpr ⟨h, loc2 g k⟩

theorem fs_getitem {q1 q2 p1 p2 p3 p4 : Pos} (F : FnAt tp "getitem" (ps2 "a" "b" q1 q2) [.Return (some (.Subscript (.Name "a" p1) (.Name "b" p2) p3)) p4] (scL ["a", "b"])) : FS2 prog w tp "getitem" idxV := by
  obtain ⟨a, o, pm, cd, doc, h1, h2, h3, h4, h5⟩ := F
  refine ⟨a, o, _, h1, h2, h3, h4, fun A s va vb x y v hA hB rx ry _ _ hf => ?_⟩
  refine call_fn hA hB h2 h3 h4 h5 (binds := [("a", va), ("b", vb)]) rfl (by decide) (loc2 rfl rfl) rfl rfl rfl fun h₀ hn hk => ?_
  refine wpAny_execs_cons (wpAny_Return_some (Subscript_ (ldc rfl rfl hn (by rfl) (ldc rfl rfl hn (by rfl) ?_ (by decide)) (by decide))))
  refine wpAny_mono (idx_ok (s := { s with heap := h₀, toks := s.toks + 2 }) (rx.keep hk) (ry.keep hk) hf (fun _ _ => rfl) (fun _ _ => rfl)) (fun val s' q => Out.fr ⟨_, _, rfl, hk⟩ q) fun _ _ e => e

noncomputable def scN (ns : List (Str × NameKind)) : Scope := { kind := .function, names := ns, isGenerator := false, isCoroutine := false, more := [] }
noncomputable def catV : V → V → Option V
  | .u (.s a), .u (.s b) => gd (.u (.s (a ++ b)))
  | _, _ => none
theorem fs_concat (K0 : tp.mg "hasattr" = none) (K1 : tp.mb "hasattr" = some (.builtin "hasattr")) {q1 q2 p1 p2 p3 p4 p5 p6 p7 p8 p9 p10 : Pos} {k : Nat} {dead : List Stmt}
    (F : FnAt tp "concat" (ps2 "a" "b" q1 q2) [.If (.UnaryOp .Not (.Call (.Name "hasattr" p1) [.Name "a" p2, .Constant (.str "__getitem__") k p3] [] p4) p5) dead [] p6, .Return (some (.BinOp (.Name "a" p7) .Add (.Name "b" p8) p9)) p10]
      (scN [("a", .local), ("b", .local), ("msg", .local), ("hasattr", .globalImplicit), ("type", .globalImplicit), ("TypeError", .globalImplicit)])) : FS2 prog w tp "concat" catV := by
  obtain ⟨a, o, pm, cd, doc, h1, h2, h3, h4, h5⟩ := F
  refine ⟨a, o, _, h1, h2, h3, h4, fun A s va vb x y v hA hB rx ry ox oy hf => ?_⟩
  unfold catV at hf
  split at hf
  · obtain ⟨rfl, ok⟩ := gd_some hf
    obtain ⟨t, rfl⟩ := rx; obtain ⟨u, rfl⟩ := ry
    refine call_fn hA hB h2 h3 h4 h5 (binds := [("a", .str _ t), ("b", .str _ u)]) rfl (by decide) (loc2 rfl rfl) rfl rfl rfl fun h₀ hn hk => ?_
    refine wpAny_execs_cons (wpAny_If (wpAny_isTrue_Not ?_))
    refine wpAny_isTrue_value ?_ rfl
    refine wpAny_Call_NameR ?_
    refine name_builtin (tp := tp) ⟨rfl, rfl, rfl⟩ (hB.keep hk) rfl K0 K1 (by decide) ?_
    refine PyProof.Rows.callWith_builtin1 ?_
    refine wpAny_items_cons (ldc rfl rfl hn (by rfl) (wpAny_items_cons (wpAny_Constant_str (wpAny_items_nil (call_hasattr fun s' k => wpAny_truthy_bool ?_)))) (by decide))
    rw [if_neg (by decide)]
    refine wpAny_execs_nil (wpAny_execs_cons (wpAny_Return_some (wpAny_BinOp (ldc rfl rfl (hn.keeps (kpK k)) (by rfl) (ldc rfl rfl (hn.keeps (kpK k)) (by rfl) (add_str (fun t' tk => ?_) ?_) (by decide)) (by decide)))))
    · exact Out.u ⟨_, rfl⟩ (kpT (kpT (s' := { s with heap := h₀, toks := s.toks + 2 }) ⟨_, _, rfl, hk⟩ (kpT kpTok k)) kpTok) ok
    · have a1 := str_ok ox
      have a2 := str_ok oy
      have a3 := line_big
      omega
  · cases hf
end
end Mine
end
section
open PySem PySem.W PyProof.Rows PySem.Calls
set_option Elab.async false
set_option maxRecDepth 100000
namespace Mine
section
variable {prog : Program} {w : World} {tp : Tp} {env : Env}

/-- the call's place is plain, any number of arguments -/
structure MethAt (o : Expr) (name : Str) (apos pos : Pos) (env : Env) (args : List Expr) : Prop where
  base : attributeBase o name env (eval o env) = eval o env
  few : ((backTo pos (starEach args env)).all (fun x => !x.1) && (backToKw pos (keywordEach [] env)).all (fun x => x.1.isSome)
      && decide (args.length + ([] : List Keyword).length + (if ([] : List Keyword).isEmpty then 0 else 1) < 30)) = true
  line : (apos.endLine == pos.line) = true

/-- .replace of two written texts -/
theorem rep_lit {A : Around} {s : Shared} {o : Expr} {apos pos c1 c2 : Pos} {k1 k2 : Nat} {y z : Str} {Q : Value → Shared → Prop} (P : MethAt o "replace" apos pos env [.Constant (.str y) k1 c1, .Constant (.str z) k2 c2]) (hz : z.length ≤ 4)
    (h : wpAny (model prog w) A (eval o env) (fun v s₁ => ∃ x t, v = .str x t ∧ x.length ≤ 4000 ∧ 1 ≤ s₁.toks ∧ NoneBooked s₁.heap ∧ ∀ t' k, 1 ≤ k → Q (.str (Txt.replace x y z) t') { s₁ with toks := k }) (fun _ _ => False) s) :
    wpAny (model prog w) A (eval (.Call (.Attribute o "replace" apos) [.Constant (.str y) k1 c1, .Constant (.str z) k2 c2] [] pos) env) Q (fun _ _ => False) s := by
  refine wpAny_Call_method (T := "str") P.base P.few P.line F.plainAttrs_str PySem.F.slot_str_replace F.type_str_replace (wpAny_mono h (fun v s₁ h₁ => ?_) fun _ _ e => e)
  obtain ⟨x, t, rfl, hx, h1, hb, hq⟩ := h₁
  refine ⟨typeIs_str _ _ _, (fun a e => nomatch e), callWith_method1 ?_⟩
  refine wpAny_items_cons (wpAny_Constant_str (wpAny_items_cons (wpAny_Constant_str (wpAny_items_nil ?_))))
  refine wpAny_with_toks (n := 1) (by show 1 ≤ s₁.toks + 1 + 1; omega) (SC.replaceW2 4000 4 (by decide) (by show s₁.toks ≠ 0; omega) (by show s₁.toks + 1 ≠ 0; omega) (by show s₁.toks ≠ s₁.toks + 1; omega) hx hz (fun t' k hk => hq t' k hk) hb)

noncomputable def turned (x : Str) : Str := Txt.replace (Txt.replace (Txt.replace x "." "o") "x" ".") "o" "x"
noncomputable def turnV : V → Option V
  | .u (.s a) => if decide ((Txt.replace a "." "o").cps.size ≤ 4000) && decide ((Txt.replace (Txt.replace a "." "o") "x" ".").cps.size ≤ 4000) then gd (.u (.s (turned a))) else none
  | _ => none
theorem fs_turned {q1 n1 a1 a2 a3 b1 b2 b3 b4 b5 b6 c1 c2 c3 p4 : Pos} {k1 k2 k3 k4 k5 k6 : Nat} (l1 : (a1.endLine == c1.line) = true) (l2 : (a2.endLine == c2.line) = true) (l3 : (a3.endLine == c3.line) = true)
    (F : FnAt tp "_law_turned" (ps1 "word" q1) [.Return (some (.Call (.Attribute (.Call (.Attribute (.Call (.Attribute (.Name "word" n1) "replace" a1) [.Constant (.str ".") k1 b1, .Constant (.str "o") k2 b2] [] c1) "replace" a2)
      [.Constant (.str "x") k3 b3, .Constant (.str ".") k4 b4] [] c2) "replace" a3) [.Constant (.str "o") k5 b5, .Constant (.str "x") k6 b6] [] c3)) p4] (scL ["word"])) : FS1 prog w tp "_law_turned" turnV := by
  obtain ⟨a, o, pm, cd, doc, h1, h2, h3, h4, h5⟩ := F
  refine ⟨a, o, _, h1, h2, h3, h4, fun A s va x v hA hB rx ox hf => ?_⟩
  unfold turnV at hf
  split at hf
  · split at hf
    · rename_i hc
      simp only [Bool.and_eq_true, decide_eq_true_eq] at hc
      obtain ⟨rfl, ok⟩ := gd_some hf
      obtain ⟨t, rfl⟩ := rx
      refine call_fn hA hB h2 h3 h4 h5 (binds := [("word", .str _ t)]) rfl (by decide) (loc1 rfl) rfl rfl rfl fun h₀ hn hk => ?_
      have B0 := hB.keep hk
      refine wpAny_execs_cons (wpAny_Return_some ?_)
      refine rep_lit ⟨rfl, rfl, l3⟩ (by decide) (rep_lit ⟨rfl, rfl, l2⟩ (by decide) (rep_lit ⟨rfl, rfl, l1⟩ (by decide) (ldc rfl rfl hn (by rfl) ?_ (by decide))))
      refine ⟨_, t, rfl, str_ok ox, by show 1 ≤ s.toks + 1; omega, B0.nb, fun t1 k1 e1 => ?_⟩
      refine ⟨_, _, rfl, hc.1, e1, B0.nb, fun t2 k2 e2 => ?_⟩
      refine ⟨_, _, rfl, hc.2, e2, B0.nb, fun t3 k3 e3 => ?_⟩
      exact Out.u ⟨_, rfl⟩ ⟨_, _, rfl, hk⟩ ok
    · cases hf
  · cases hf

variable {nm : Nat → Str} {X : Shared → Prop}
noncomputable def sSetItem (x : Nat) (fi fv : Ev) : Sv := fun ρ => match look ρ x, fi ρ, fv ρ with
  | some (.l xs), some (.u (.i k)), some (.u y) => if decide (0 ≤ k) && decide (k.toNat < xs.length) && okV (.l (xs.set k.toNat y)) then some (upd ρ x (.l (xs.set k.toNat y)), none) else none
  | _, _, _ => none

theorem snd1_setitem (K : TpOk tp) (S : Ls nm tp env) (hX : XOk tp X) {q1 q2 q3 p1 p2 p3 p4 p5 : Pos}
    (F : FnAt tp "setitem" (ps3 "a" "b" "c" q1 q2 q3) [.Assign [.Subscript (.Name "a" p1) (.Name "b" p2) p3] (.Name "c" p4) p5] (scL ["a", "b", "c"]))
    {x : Nat} {n : Str} {ei ev : Expr} {np xp pos p : Pos} {fi fv : Ev} {ri rv : Bool} (hn : nm x = n) (hd : (n == ("__debug__" : Str)) = false) (hi : Snd prog w nm tp ei env ri fi) (hv : Snd prog w nm tp ev env rv fv)
    (G : EnvG env) (hk : env.kindOf "setitem" = some .globalImplicit)
    (hs1 : starEach [.Name n xp, ei, ev] env = (false, eval (.Name n xp) env) :: starEach [ei, ev] env) (hs2 : starEach [ei, ev] env = (false, eval ei env) :: starEach [ev] env) (hs3 : starEach [ev] env = (false, eval ev env) :: starEach [] env)
    (hint : interactive env = false) (hsw : swapsWith (.Call (.Name "setitem" np) [.Name n xp, ei, ev] [] pos) none p.line env = pure false) :
    Snd1 prog w nm tp X (.Expr (.Call (.Name "setitem" np) [.Name n xp, ei, ev] [] pos) p) env [x] (sSetItem x fi fv) := by
  subst hn
  obtain ⟨a, o, pm, cd, doc, h1, h2, h3, h4, h5⟩ := F
  intro A s ρ ρ' r hA hW hx htk hg
  unfold sSetItem at hg
  split at hg
  · rename_i xs k y e1 e2 e3
    split at hg
    · rename_i hc
      cases hg
      simp only [Bool.and_eq_true, decide_eq_true_eq] at hc
      obtain ⟨⟨k0, kl⟩, ok⟩ := hc
      obtain ⟨val, r1, ok1, hvx⟩ := hW.acc x _ e1
      obtain ⟨l, vs, n1, rfl, ho, rx⟩ := r1
      have hnm : ∀ {Q : Value → Shared → Prop}, Q (.ref l) s → wpAny (model prog w) A (eval (.Name (nm x) xp) env) Q (fun _ _ => False) s := fun q => by
        refine wpAny_Name ?_ hd
        rcases hvx with ⟨e, m, hn, hm⟩ | ⟨e, c, hc, hcell⟩
        · exact wpAny_loadName_local S.k e hn hm q
        · exact wpAny_loadName_cell S.k e hc hcell q
      refine wpAny_Expr_any (wpAny_Call_NameR (name_global G hW.bs hk h1 (by decide) (PyProof.Rows.callWith_def h4 ?_ hs1))) hint hsw
      refine wpAny_items_cons (hnm (wpAny_items_cons (wpAny_mono (hi A s ρ _ hA hW.bs hW.acc e2) (fun vi s₁ o₁ => wpAny_items_cons (wpAny_mono (hv A s₁ ρ _ hA (hW.bs.keep (kpK o₁.2.2.1)) (hW.acc.keep _ (kpK o₁.2.2.1)) e3) (fun vv s₂ o₂ => wpAny_items_nil ?_) fun _ _ e => e.elim) hs3) fun _ _ e => e.elim) hs2)) hs1
      obtain ⟨ri', _, kk1, oki⟩ := o₁
      obtain ⟨ry, _, kk2, oky⟩ := o₂
      obtain ⟨tki, rfl⟩ := ri'
      have kk := kpT kk1 kk2
      have W2 := hW.keep (kpK kk)
      refine ⟨W2.bs.base _ _ h2 h3, ?_⟩
      refine call_fn hA W2.bs h2 h3 h4 h5 (binds := [("a", .ref l), ("b", .int k tki), ("c", vv)]) rfl (by decide) (loc3 rfl rfl rfl) rfl rfl rfl fun h₀ hn hk' => ?_
      have W3 := W2.keep hk'
      have ho3 := hk' _ _ (kpK kk _ _ ho)
      have ly : s₂.heap.get? s₂.heap.objs.size = none := getNone (Nat.le_refl _)
      refine wpAny_execs_cons (wpAny_Assign_Subscript (ldc rfl rfl hn (by rfl) (ldc rfl rfl hn (by rfl) (ldc rfl rfl hn (by rfl) ?_ (by decide)) (by decide)) (by decide)))
      have lx := list_ok ok1
      have lv := rx.length
      refine setItem_exact (s := { s₂ with heap := h₀, toks := s₂.toks + 3 }) ho3 k0 (by omega) (by simp only [List.size_toArray]; omega) fun h' n' hg' hsb => wpAny_execs_nil ?_
      have ryu : RepU vv y := ry
      obtain ⟨W4, iff⟩ := W3.mut K (x := x) (by rw [e1]; rfl) ((hvx.keep (kpK kk)).keep hk') ho3 hsb (v := .l (xs.set k.toNat y)) ⟨l, vs.set k.toNat vv, n', rfl, hg', rx.set _ ryu⟩ ok
      have kp3 : Keeps s { s₂ with heap := h₀, toks := s₂.toks + 3 } := kpT kk ⟨_, _, rfl, hk'⟩
      exact ⟨hX.same { s₂ with heap := h₀, toks := s₂.toks + 3 } l h' _ (hW.new x l (by rw [e1]; rfl) hvx) (Sb.of hsb) (hX.keep _ _ kp3 hx), (Fz.keep kp3).trans (seq_fz (s := s₂) ho3 hsb), (Kv.keep (as := []) kp3).trans (kv_iff (s := s₂) iff), rfl, W4⟩
    · cases hg
  · cases hg
end
end Mine
end
section
open PySem PySem.W PyProof.Rows PySem.Calls
set_option Elab.async false
set_option maxRecDepth 100000
namespace Mine
section
variable {prog : Program} {w : World} {tp : Tp} {env : Env}

noncomputable def OkItem (v b : Value) (r : Bool) : Prop :=
  (∃ x y, v = .bool x ∧ b = .bool y ∧ r = (x == y)) ∨ ∃ x y k l, v = .str x k ∧ b = .str y l ∧ k ≠ 0 ∧ l ≠ 0 ∧ (k = l → x = y) ∧ r = (x == y)

theorem is_or_eq {A : Around} {E : Value → Shared → Prop} {s : Shared} {v b : Value} {r : Bool} (h : OkItem v b r) (hb : NoneBooked s.heap) {e1 e2 e3 e4 : Expr} {p1 p2 p3 : Pos} {whole : Sem Value} {Q : Bool → Shared → Prop}
    (h1 : ∀ {Q : Value → Shared → Prop} {E : Value → Shared → Prop}, Q v s → wpAny (model prog w) A (eval e1 env) Q E s) (h2 : ∀ {Q : Value → Shared → Prop} {E : Value → Shared → Prop}, Q b s → wpAny (model prog w) A (eval e2 env) Q E s)
    (h3 : ∀ {Q : Value → Shared → Prop} {E : Value → Shared → Prop}, Q v s → wpAny (model prog w) A (eval e3 env) Q E s) (h4 : ∀ {Q : Value → Shared → Prop} {E : Value → Shared → Prop}, Q b s → wpAny (model prog w) A (eval e4 env) Q E s)
    (m1 : behindInMarks .Is e2 = false) (m2 : behindInMarks .Eq e4 = false) (hQ : Q r s) : wpAny (model prog w) A (isTrue (.BoolOp .Or [.Compare e1 [.Is] [e2] p1, .Compare e3 [.Eq] [e4] p2] p3) env whole) Q E s := by
  refine isTrue_or (wpAny_isTrue_Compare1 (h1 (h2 ?_)) m1)
  have last : wpAny (model prog w) A (compareOp .Eq v b) (fun r' s' => r' = .bool r ∧ s' = s) E s := by
    rcases h with ⟨x, y, rfl, rfl, rfl⟩ | ⟨x, y, k, l, rfl, rfl, _, _, _, rfl⟩
    · exact EqBoolInt.of_rc (SeqAt.RcAt.bool_bool x y) ⟨rfl, rfl⟩
    · exact eq_str ⟨rfl, rfl⟩
  have rest : wpAny (model prog w) A (isTrue (.BoolOp .Or [.Compare e3 [.Eq] [e4] p2] p3) env whole) Q E s := by
    refine isTrue_or (wpAny_isTrue_Compare1 (h3 (h4 (wpAny_mono last (fun r' s' q => ?_) fun _ _ e => e))) m2)
    obtain ⟨rfl, rfl⟩ := q
    refine wpAny_truthy_bool ?_
    cases r
    · exact isTrue_or_nil hQ
    · exact hQ
  have fin : ∀ c : Bool, (c = true → r = true) → wpAny (model prog w) A (truthy (.bool c)) (fun c s' => if c then Q true s' else wpAny (model prog w) A (isTrue (.BoolOp .Or [.Compare e3 [.Eq] [e4] p2] p3) env whole) Q E s') E s := by
    intro c hc
    refine wpAny_truthy_bool ?_
    cases c
    · exact rest
    · rw [hc rfl] at hQ; exact hQ
  rcases h with ⟨x, y, rfl, rfl, rfl⟩ | ⟨x, y, k, l, rfl, rfl, hk, hl, hkl, rfl⟩
  · refine wpAny_is_plain (by cases x <;> cases y <;> rfl) (fin _ ?_)
    intro hc
    have := eq_of_beq hc
    cases this
    simp
  · show wpAny _ _ (isSame (.str x k) (.str y l) >>= fun c => pure (Value.bool c)) _ _ _
    have h0 : (k == 0 || l == 0) = false := by simp [hk, hl]
    by_cases hxy : x = y
    · exact wpAny_bind (wpAny_isSame_str h0 hb fun c => wpAny_pure (fin c fun _ => by simpa using hxy))
    · have hkn : (k == l) = false := by simpa using fun e => hxy (hkl e)
      rw [isSame_str_other x y k l h0 hkn (by simpa using hxy)]
      exact wpAny_bind (wpAny_pure (wpAny_pure (fin false fun h => nomatch h)))

inductive Items (b : Value) : List Value → List Bool → Prop where
  | nil : Items b [] []
  | cons {v : Value} {r : Bool} {vs : List Value} {rs : List Bool} : OkItem v b r → Items b vs rs → Items b (v :: vs) (r :: rs)
theorem Items.length {b : Value} {vs : List Value} {rs : List Bool} (h : Items b vs rs) : vs.length = rs.length := by
  induction h with
  | nil => rfl
  | cons _ _ ih => rw [List.length_cons, List.length_cons, ih]
theorem Items.at {b : Value} {vs : List Value} {rs : List Bool} (h : Items b vs rs) : ∀ (i : Nat) (v : Value), vs[i]? = some v → ∃ r, rs[i]? = some r ∧ OkItem v b r := by
  induction h with
  | nil => intro i u e; simp at e
  | cons r _ ih =>
    intro i u e
    cases i with
    | zero => simp at e; subst e; exact ⟨_, by simp, r⟩
    | succ i => simpa using ih i u (by simpa using e)
theorem take_succ_countP (rs : List Bool) (i : Nat) (r : Bool) (h : rs[i]? = some r) : (rs.take (i + 1)).countP id = (rs.take i).countP id + if r then 1 else 0 := by
  rw [List.take_add_one, h, List.countP_append]
  cases r <;> simp

theorem count_core {q1 q2 p1 p2 p3 p4 p5 p6 p7 p8 p9 p10 p11 p12 p13 p14 p15 p16 p17 p1' p2' : Pos} {k1 k2 : Nat}
    (F : FnAt tp "countOf" (ps2 "a" "b" q1 q2) [.Assign [.Name "count" p1] (.Constant (.int 0) k1 p2) p3,
      .For (.Name "i" p4) (.Name "a" p5) [.If (.BoolOp .Or [.Compare (.Name "i" p6) [.Is] [.Name "b" p7] p8, .Compare (.Name "i" p9) [.Eq] [.Name "b" p10] p11] p12) [.AugAssign (.Name "count" p13) .Add (.Constant (.int 1) k2 p14) p15] [] p16] [] p17,
      .Return (some (.Name "count" p1')) p2'] (scL ["a", "b", "count", "i"])) :
    ∃ a o fd, tp.mg "countOf" = some (.ref a) ∧ tp.H.get? a = some o ∧ a ∉ tp.tb ∧ o.data = .func fd ∧ ∀ (A : Around) (s : Shared) (l : Addr) (b : Value) (vs : List Value) (n : Nat) (rs : List Bool), AOk A → Bs tp s.heap →
      s.heap.get? l = some { cls := .type "list", data := .seq vs.toArray n } → Items b vs rs → (∀ c, b = .ref c → ∃ o, s.heap.get? c = some o) → vs.length ≤ 4000 →
      wpAny (model prog w) A (call (.ref a) [.ref l, b]) (fun val s' => (∃ t, val = .int (rs.countP id : Nat) t) ∧ Keeps s s') (fun _ _ => False) s := by
  obtain ⟨a, o, pm, cd, doc, h1, h2, h3, h4, h5⟩ := F
  refine ⟨a, o, _, h1, h2, h3, h4, fun A s l b vs n rs hA hB hl hi _ hlen => ?_⟩
  refine call_fn hA hB h2 h3 h4 h5 (binds := [("a", .ref l), ("b", b)]) rfl (by decide) (loc2 rfl rfl) rfl rfl rfl fun h₀ hn hk => ?_
  have hll : l < s.heap.objs.size := Heap.lt_size hl
  -- count = 0
  refine wpAny_execs_cons (wpAny_Assign_Name (wpAny_Constant_int (wpAny_storeName_local rfl hn (fun h1 hn1 hs1 => ?_) rfl)) rfl)
  -- for i in a
  have F1 : Fr s.heap s.heap.objs.size h1 (fun y => if y = Str.ofString "count" then some (.int 0 (s.toks + 2)) else ([(Str.ofString "a", Value.ref l), (Str.ofString "b", b)].reverse.lookup y)) :=
    ⟨hn1, fun b' o' e => (hs1.2 b' (Nat.ne_of_lt (Heap.lt_size e))).trans (hk b' o' e), Nat.le_refl _⟩
  refine wpAny_execs_cons (wpAny_For (ldc rfl rfl hn1 (by rfl) ?_ (by decide)) (fun _ => rfl))
  have hl1 : h1.IsList l vs.toArray := isL (F1.keep _ _ hl)
  refine wpAny_pyIter_list hl1 ?_
  have hne : l ≠ h1.objs.size := Nat.ne_of_lt (Heap.lt_size (F1.keep _ _ hl))
  have hLI : s.heap.objs.size < h1.objs.size := by obtain ⟨o', es, ep, e1, _⟩ := hn1; exact Heap.lt_size e1
  have hn2 : ∀ o : Obj, Fr s.heap s.heap.objs.size (h1.push o) _ := fun o => F1.push o
  refine codeAny_forLoop_fr (h₀ := s.heap) (news := []) (Walks.list (A := A.deeper _) hA.hd h1.objs.size l hne vs.toArray) rfl rfl ?_ ?_ (fun p hp => nomatch hp)
    ⟨⟨_, Heap.get?_push_size _ rfl, rfl, rfl⟩, hl1.at fun o e => Heap.get?_push_of_some _ e⟩ (hn2 _) (fun p hp => nomatch hp) (fun i m => m "a" = some (.ref l) ∧ m "b" = some b ∧ ∃ t, m "count" = some (.int ((rs.take i).countP id : Nat) t)) ⟨rfl, rfl, _, rfl⟩ ?_ ?_
  · intro hm
    rcases List.mem_cons.mp hm with hm | hm
    · exact absurd hm (Nat.ne_of_lt hLI)
    · rcases List.mem_cons.mp hm with hm | hm
      · exact absurd hm.symm (Nat.ne_of_lt hll)
      · cases hm
  · intro b' hb'
    rcases List.mem_cons.mp hb' with rfl | hb'
    · exact getNone (Nat.le_of_lt hLI)
    · cases hb'
  · intro i v m₁ s₁ own hi' hv hJ F2 N2
    obtain ⟨ja, jb, t, jc⟩ := hJ
    obtain ⟨r, hr, ok⟩ := hi.at i v (by simpa using hv)
    have cc := take_succ_countP rs i r hr
    have B2 : Bs tp s₁.heap := hB.keep F2.keep
    refine wpAny_execs_cons (wpAny_If (is_or_eq ok B2.nb (fun q => ldc rfl rfl F2.ns (by rfl) q (by decide)) (fun q => ldc rfl rfl F2.ns ((if_neg (by decide)).trans jb) q (by decide)) (fun q => ldc rfl rfl F2.ns (by rfl) q (by decide)) (fun q => ldc rfl rfl F2.ns ((if_neg (by decide)).trans jb) q (by decide)) rfl rfl ?_))
    cases r
    · rw [if_neg (by decide)]
      refine wpAny_execs_nil (wpAny_execs_nil ?_)
      refine LoopStep.intro (tk := s₁.toks) F2 N2 ⟨(if_neg (by decide)).trans ja, (if_neg (by decide)).trans jb, t, ?_⟩
      rw [cc]
      exact (if_neg (by decide)).trans jc
    · rw [if_pos rfl]
      refine wpAny_execs_cons (wpAny_AugAssign_Name (wpAny_loadName_local rfl rfl F2.ns ((if_neg (by decide)).trans jc) (wpAny_Constant_int (AutoIntOps.iadd_0 (wpAny_storeName_local rfl F2.ns (fun h3 hn3 hs3 => wpAny_execs_nil (wpAny_execs_nil ?_)) rfl)))))
      refine LoopStep.intro (F2.set hn3 hs3) (N2.set hs3) ⟨(if_neg (by decide)).trans ((if_neg (by decide)).trans ja), (if_neg (by decide)).trans ((if_neg (by decide)).trans jb), s₁.toks + 1, ?_⟩
      rw [cc]
      exact if_pos rfl
  · intro h' tk m' F3 N3 hJ
    obtain ⟨_, _, t, jc⟩ := hJ
    refine wpAny_execs_cons (wpAny_Return_some (ldc rfl rfl F3.ns jc ?_ (by decide)))
    have e : rs.take vs.toArray.size = rs := List.take_of_length_le (by rw [List.size_toArray, hi.length]; exact Nat.le_refl _)
    rw [e]
    exact ⟨⟨t, rfl⟩, ⟨h', tk, rfl, F3.keep⟩⟩
end
end Mine
end
section
open PySem PySem.W PyProof.Rows PySem.Calls
set_option Elab.async false
set_option maxRecDepth 100000
namespace Mine
section
variable {prog : Program} {w : World} {tp : Tp} {env : Env} {nm : Nat → Str}

noncomputable def boolsOf : List U → Option (List Bool)
  | [] => some []
  | .b t :: r => (boolsOf r).map (t :: ·)
  | _ => none
theorem boolsOf_items {c : Bool} : ∀ {xs : List U} {ts : List Bool}, boolsOf xs = some ts → ∀ {vs : List Value}, Reps vs xs → Items (.bool c) vs (ts.map (· == c))
  | [], _, e, _, r => by cases e; cases r; exact .nil
  | .b t :: xs, ts, e, _, .cons r rs => by
    unfold boolsOf at e
    cases q : boolsOf xs with
    | none => rw [q] at e; cases e
    | some us =>
      rw [q] at e; cases e
      rw [show _ = Value.bool t from r]
      exact .cons (.inl ⟨t, c, rfl, rfl, rfl⟩) (boolsOf_items q rs)
noncomputable def cntV : V → V → Option V
  | .l xs, .u (.b c) => match boolsOf xs with
    | some ts => gd (.u (.i ((ts.map (· == c)).countP id : Nat)))
    | none => none
  | _, _ => none

/-- what the walk of countOf gives, said once -/
noncomputable def CountIs (prog : Program) (w : World) (tp : Tp) : Prop :=
  ∃ a o fd, tp.mg "countOf" = some (.ref a) ∧ tp.H.get? a = some o ∧ a ∉ tp.tb ∧ o.data = .func fd ∧ ∀ (A : Around) (s : Shared) (l : Addr) (b : Value) (vs : List Value) (n : Nat) (rs : List Bool), AOk A → Bs tp s.heap →
      s.heap.get? l = some { cls := .type "list", data := .seq vs.toArray n } → Items b vs rs → (∀ c, b = .ref c → ∃ o, s.heap.get? c = some o) → vs.length ≤ 4000 →
      wpAny (model prog w) A (call (.ref a) [.ref l, b]) (fun val s' => (∃ t, val = .int (rs.countP id : Nat) t) ∧ Keeps s s') (fun _ _ => False) s

theorem fs_count (F : CountIs prog w tp) : FS2 prog w tp "countOf" cntV := by
  obtain ⟨a, o, fd, h1, h2, h3, h4, h5⟩ := F
  refine ⟨a, o, fd, h1, h2, h3, h4, fun A s va vb x y v hA hB rx ry ox _ hf => ?_⟩
  unfold cntV at hf
  split at hf
  · split at hf
    · rename_i ts e
      obtain ⟨rfl, ok⟩ := gd_some hf
      obtain ⟨l, vs, n, rfl, hl, rx⟩ := rx
      rw [show vb = _ from ry]
      have := list_ok ox
      refine wpAny_mono (h5 A s l _ vs n _ hA hB hl (boolsOf_items e rx) (fun c e => nomatch e) (by rw [rx.length]; exact this)) (fun val s' q => ?_) fun _ _ e => e
      obtain ⟨⟨t, rfl⟩, k⟩ := q
      exact Out.u ⟨_, rfl⟩ k ok
    · cases hf
  · cases hf

theorem items_z {y : Str} {j : Nat} {k0 : Nat} (hk0 : k0 ≠ 0) : ∀ {vs : List Value} {ts : List Str} {i : Nat}, RepK (k0 + i) vs ts → (∀ d x, ts[d]? = some x → i + d = j → x = y) → Items (.str y (k0 + j : Nat)) vs (ts.map (· == y))
  | _, _, _, .nil, _ => .nil
  | _, x :: ts, i, .cons r, h => .cons (.inr ⟨x, y, (k0 + i : Nat), (k0 + j : Nat), rfl, rfl, by show k0 + i ≠ 0; omega, by show k0 + j ≠ 0; omega, fun e => h 0 x rfl (by have : k0 + i = k0 + j := e; omega), rfl⟩)
      (items_z hk0 (i := i + 1) (by rw [← Nat.add_assoc]; exact r) fun d x' e e2 => h (d + 1) x' (by simpa using e) (by omega))

noncomputable def eCountZ (x : Nat) (fi : Ev) : Ev := fun ρ => match look ρ x, fi ρ with
  | some (.z ts), some (.u (.i k)) => if decide (0 ≤ k) then (match ts[k.toNat]? with
      | some y => gd (.u (.i ((ts.map (· == y)).countP id : Nat)))
      | none => none) else none
  | _, _ => none

theorem snd_countz (F : CountIs prog w tp) {x : Nat} {n : Str} {ei : Expr} {np p1 p2 p3 pos : Pos} {fi : Ev} {ri : Bool} (hn : nm x = n) (hd : (n == ("__debug__" : Str)) = false) (hi : Snd prog w nm tp ei env ri fi) (G : EnvG env) (hk : env.kindOf "countOf" = some .globalImplicit)
    (hs1 : starEach [.Name n p1, .Subscript (.Name n p2) ei p3] env = (false, eval (.Name n p1) env) :: starEach [.Subscript (.Name n p2) ei p3] env) (hs2 : starEach [.Subscript (.Name n p2) ei p3] env = (false, eval (.Subscript (.Name n p2) ei p3) env) :: starEach [] env)
    (hsub : ∀ o i, subscripted ei false o i = operate [o, i] (getItem o i)) (ht : ∀ o r, letTemporaryGo (.Name n p2) o r = pure ()) :
    Snd prog w nm tp (.Call (.Name "countOf" np) [.Name n p1, .Subscript (.Name n p2) ei p3] [] pos) env true (eCountZ x fi) := by
  subst hn
  obtain ⟨a, o, fd, h1, h2, h3, h4, h5⟩ := F
  intro A s ρ v hA hB hr hf
  unfold eCountZ at hf
  split at hf
  · rename_i ts k e1 e2
    split at hf
    · rename_i hk0
      have hk0 := of_decide_eq_true hk0
      split at hf
      · rename_i y ey
        obtain ⟨rfl, ok⟩ := gd_some hf
        obtain ⟨val, r1, ok1, hvx⟩ := hr x _ e1
        obtain ⟨l, vs, n1, rfl, hl, hz⟩ := r1
        have hnm : ∀ {s' : Shared} {p : Pos} {Q : Value → Shared → Prop}, (∀ b o, s.heap.get? b = some o → s'.heap.get? b = some o) → Q (.ref l) s' → wpAny (model prog w) A (eval (.Name (nm x) p) env) Q (fun _ _ => False) s' := fun kk q => by
          refine wpAny_Name ?_ hd
          rcases hvx.keep kk with ⟨e, m, hn, hm⟩ | ⟨e, c, hc, hcell⟩
          · exact wpAny_loadName_local G.k e hn hm q
          · exact wpAny_loadName_cell G.k e hc hcell q
        have lk : ts.length ≤ 4000 := by
          simp only [okV, Bool.and_eq_true, decide_eq_true_eq] at ok1
          exact ok1.1
        have kl : k.toNat < ts.length := (List.getElem?_eq_some_iff.mp ey).1
        refine wpAny_Call_NameR (name_global G hB hk h1 (by decide) (PyProof.Rows.callWith_def h4 ?_ hs1))
        refine wpAny_items_cons (hnm (fun _ _ e => e) (wpAny_items_cons (Subscript_ (hnm (fun _ _ e => e) (wpAny_mono (hi A s ρ _ hA hB hr e2) (fun vi s₁ o₁ => ?_) fun _ _ e => e.elim))) hs2)) hs1
        obtain ⟨ri', _, kk1, oki⟩ := o₁
        obtain ⟨tki, rfl⟩ := ri'
        obtain ⟨k0, hk0', hK⟩ := id hz
        have hl1 := kpK kk1 _ _ hl
        have ev := hK.get _ _ ey
        refine subscriptTail_builtin (T := "list") ⟨_, hl1, rfl⟩ PySem.F.slot_list_getitem.lookup (wpAny_getItem_list (isL hl1) hk0 (by omega) (by simpa using ev) (wpAny_items_nil ?_)) (hsub _ _) (ht _)
        have B1 := hB.keep (kpK kk1)
        refine ⟨B1.base _ _ h2 h3, ?_⟩
        have hI : Items (.str y (k0 + k.toNat : Nat)) vs (ts.map (· == y)) := items_z (j := k.toNat) hk0' (i := 0) hK fun d x e e3 => by
          have : d = k.toNat := by omega
          subst this
          rw [ey] at e; exact (Option.some.inj e).symm
        refine wpAny_mono (h5 A s₁ l _ vs n1 _ hA B1 hl1 hI (fun c e => nomatch e) (by rw [hz.length]; exact lk)) (fun val s' q => ?_) fun _ _ e => e
        obtain ⟨⟨t, rfl⟩, kq⟩ := q
        exact Out.u ⟨_, rfl⟩ (kpT kk1 kq) ok
      · cases hf
    · cases hf
  · cases hf
end
end Mine
end
section
open PySem PySem.W PyProof.Rows PySem.Calls
open PySem.Builtin.Re
set_option Elab.async false
set_option maxRecDepth 100000
namespace Mine
-- facts of re.Pattern.sub
theorem plain_pat : PlainAttrs "re.Pattern" :=
  ⟨⟨"object.__getattribute__", by rw [typeLookup_type, builtinLookup_eq_fast]; kernel_rfl, by decide +kernel⟩, by rw [typeLookup_type, builtinLookup_eq_fast]; kernel_rfl⟩
theorem slot_pat_sub : Slot "re.Pattern" "sub" "re.Pattern.sub" :=
  .of (owner := "re.Pattern") (n := "sub") (by rw [typeLookup_type, builtinLookup_eq_fast]; kernel_rfl) (by decide +kernel) (by decide +kernel) (by decide +kernel)
    (by first | exact .inl (by decide +kernel) | exact .inr (by decide +kernel)) (by rw [isSubtype_type]; kernel_rfl)
theorem type_pat_sub : typeOf (.builtin "re.Pattern.sub") = pure (.type "method_descriptor") := by show builtinType _ = _; rw [builtinType_eq_fast]; kernel_rfl
theorem entry_pat_sub : entryFor table "re.Pattern.sub" = some Builtin.«re.Pattern.sub» := entryFor_of_tree (by kernel_rfl)
theorem entry_pat_sub_loop : entryFor table "re.Pattern.sub.loop" = some Builtin.«re.Pattern.sub.loop» := entryFor_of_tree (by kernel_rfl)
theorem args_pat_sub (a b c : Value) : argsOk "re.Pattern.sub" ⟨[a, b, c], []⟩ := by unfold argsOk; kernel_rfl
theorem lk_str_call : typeLookup (.type "str") "__call__" = pure none := by rw [typeLookup_type, builtinLookup_eq_fast]; kernel_rfl

noncomputable def drive : Nat → Sre.M → Option Sre.M
  | 0, _ => none
  | n + 1, m => if (m.runFor 4).outcome.isSome then some (m.runFor 4) else drive n (m.runFor 4)
noncomputable def subP (code text : Array Nat) (repl : Str) : (fuel start : Nat) → Bool → Option (List Str)
  | 0, _, _ => none
  | n + 1, start, must => match drive 2000 (Sre.forSearch code text 0 start text.size must) with
    | none => none
    | some m => match m.outcome with
      | some .matched => match subP code text repl n m.handed (m.handed == m.start) with
        | some r => some ((if start < m.start then [⟨text.extract start m.start⟩] else []) ++ repl :: r)
        | none => none
      | some .failed => some (if start < text.size then [⟨text.extract start text.size⟩] else [])
      | _ => none

section
variable {prog : Program} {w : World} {A : Around} {E : Value → Shared → Prop} {s : Shared}
theorem reDrive_ok {Q : Sre.M → Shared → Prop} : ∀ {f n : Nat} {m m' : Sre.M}, drive f m = some m' → f ≤ n → Q m' s → wpAny (model prog w) A (reDrive n m) Q E s
  | 0, _, _, _, h, _, _ => by cases h
  | f + 1, n, m, m', h, hn, hq => by
    obtain ⟨n, rfl⟩ : ∃ k, n = k + 1 := ⟨n - 1, by omega⟩
    unfold drive at h
    show wpAny _ _ (if (m.runFor 4).outcome.isSome then pure (m.runFor 4) else do rule "sre.turn"; reDrive n (m.runFor 4)) _ _ _
    split at h
    · rename_i hc
      rw [if_pos hc]
      cases h
      exact wpAny_pure hq
    · rename_i hc
      rw [if_neg hc]
      exact wpAny_bind (wpAny_rule (reDrive_ok h (by omega) hq))

theorem reRun_ok {Q : Option Sre.M → Shared → Prop} {m m' : Sre.M} (h : drive 2000 m = some m') (hm : m'.outcome = some .matched → Q (some m') s) (hf : m'.outcome = some .failed → Q none s) (hs : m'.outcome = some .matched ∨ m'.outcome = some .failed) :
    wpAny (model prog w) A (reRunToEnd m) Q E s := by
  unfold reRunToEnd
  refine wpAny_bind (reDrive_ok h (by decide) ?_)
  refine wpAny_bind (wpAny_forIn_list _ (fun _ _ s' => s' = s) _ (fun x rest b s' e => ?_) (fun b s' e => ?_) _ _ rfl)
  · subst e
    split
    · exact wpAny_bind (wpAny_rule (wpAny_pure rfl))
    · exact wpAny_pure rfl
  · subst e
    rcases hs with e | e
    · rw [e]; exact wpAny_pure (hm e)
    · rw [e]; exact wpAny_pure (hf e)
end
end Mine
end
section
open PySem PySem.W PyProof.Rows PySem.Calls
open PySem.Builtin.Re
set_option Elab.async false
set_option maxRecDepth 100000
namespace Mine

noncomputable def PatIs (h : Heap) (P : Addr) (code : Array Nat) : Prop :=
  ∃ o vs C oC xs n, h.get? P = some o ∧ o.cls = .type "re.Pattern" ∧ o.dict = none ∧ o.data = .fields vs ∧ reRawNat (vs.getD 2 .none) = 0 ∧ vs.getD 5 .none = .ref C ∧ reRawNat (vs.getD 6 .none) = 0 ∧ h.get? C = some oC ∧ oC.data = .seq xs n ∧ (xs.map reRawOf).map (·.toNat) = code

section
variable {prog : Program} {w : World} {A : Around} {E : Value → Shared → Prop} {s : Shared}

theorem whole_ok {P : Addr} {code : Array Nat} {x : Str} {t : Tok} {Q : ReTarget → Shared → Prop} (H : PatIs s.heap P code) (hq : Q ⟨.ref P, .str x t, code, x.cps, 0, 0, 0, x.cps.size⟩ s) : wpAny (model prog w) A (reWholeTarget (.ref P) (.str x t)) Q E s := by
  obtain ⟨o, vs, C, oC, xs, n, h1, _, _, h2, h3, h4, h5, h6, h7, h8⟩ := H
  unfold reWholeTarget
  refine wpAny_bind (wpAny_fieldsOf h1 h2 ?_)
  refine wpAny_bind (wpAny_pure (a := (x.cps, 0)) ?_)
  dsimp only
  rw [h5, h4, h3]
  rw [if_neg (by decide)]
  refine wpAny_bind (wpAny_pure (a := ()) ?_)
  unfold reRawItems
  refine wpAny_bind (wpAny_bind (wpAny_seqItems h6 h7 (wpAny_pure ?_)))
  refine wpAny_pure ?_
  rw [show ((some xs).getD #[] : Array Value) = xs from rfl, h8]
  exact hq

theorem PatIs.keep {h h' : Heap} {P : Addr} {code : Array Nat} (H : PatIs h P code) (k : ∀ b o, h.get? b = some o → h'.get? b = some o) : PatIs h' P code := by
  obtain ⟨o, vs, C, oC, xs, n, h1, h1', h1'', h2, h3, h4, h5, h6, h7, h8⟩ := H
  exact ⟨o, vs, C, oC, xs, n, k _ _ h1, h1', h1'', h2, h3, h4, h5, k _ _ h6, h7, h8⟩

theorem are_append : ∀ {vs ws : List Value} {ts us : List Str}, StrsAre vs ts → StrsAre ws us → StrsAre (vs ++ ws) (ts ++ us)
  | _, _, _, _, .nil, h => h
  | _, _, _, _, .cons y t r, h => .cons y t (are_append r h)

/-- one push of a text on the pieces -/
theorem push_piece {h₀ : Heap} {L : Addr} {ps : List Value} {n : Nat} {y : Str} {u : Tok} {Q : Unit → Shared → Prop} (hL : s.heap.get? L = some { cls := .type "list", data := .seq ps.toArray n }) (hn : h₀.get? L = none) (K : ∀ b o, h₀.get? b = some o → s.heap.get? b = some o) (hp : ps.length ≤ 4000)
    (hq : ∀ h' n', h'.get? L = some { cls := .type "list", data := .seq (ps ++ [Value.str y u]).toArray n' } → (∀ b o, h₀.get? b = some o → h'.get? b = some o) → Q () { s with heap := h' }) :
    wpAny (model prog w) A (updateSeq L (·.push (.str y u))) Q E s := by
  have hb := line_big
  refine wpAny_updateSeq hL rfl (hq _ (n + 1) ?_ fun b o e => ?_) (by simp only [List.size_toArray]; omega) (by simp only [Array.size_push, List.size_toArray]; omega)
  · rw [Heap.get?_update_self _ hL (by rw [Obj.mapSeq_push_plain]; rfl), Obj.mapSeq_push_plain]
    simp
  · rw [Heap.get?_update_ne _ _ _ _ (fun q => by rw [q, hn] at e; cases e)]
    exact K b o e

theorem piece_if {β : Type} {rest : Sem β} {h₀ : Heap} {L : Addr} {ps : List Value} {ts : List Str} {n : Nat} {text : Array Nat} {a b : Nat} {c : Prop} [Decidable c] {Q : β → Shared → Prop} (ht : text.size ≤ 4000) (hL : s.heap.get? L = some { cls := .type "list", data := .seq ps.toArray n }) (hi : StrsAre ps ts) (hn : h₀.get? L = none) (K : ∀ b o, h₀.get? b = some o → s.heap.get? b = some o) (hp : ps.length ≤ 4000)
    (hq : ∀ h' tk ps' n', h'.get? L = some { cls := .type "list", data := .seq (List.toArray ps') n' } → StrsAre ps' (ts ++ if c then [⟨text.extract a b⟩] else []) → ps'.length ≤ ps.length + 1 → (∀ b o, h₀.get? b = some o → h'.get? b = some o) → wpAny (model prog w) A rest Q E { s with heap := h', toks := tk }) :
    wpAny (model prog w) A (if c then (reSlice text 0 a b >>= fun v => updateSeq L (·.push v) >>= fun _ => rest) else rest) Q E s := by
  split
  · rename_i hc
    show wpAny _ _ (mkStr ⟨text.extract a b⟩ >>= fun v => updateSeq L (·.push v) >>= fun _ => rest) _ _ _
    have hb := line_big
    refine wpAny_bind (wpAny_mkStr ?_ (Nat.le_trans (show (text.extract a b).size ≤ _ from by rw [Array.size_extract]; omega) (Nat.le_trans ht (by omega))))
    refine wpAny_bind (push_piece (s := { s with toks := s.toks + 1 }) hL hn K hp fun h' n' e1 e2 => hq h' _ _ n' e1 ?_ (by simp) e2)
    rw [if_pos hc]
    exact are_append hi (.cons _ _ .nil)
  · rename_i hc
    exact hq s.heap s.toks ps n hL (by rw [if_neg hc, List.append_nil]; exact hi) (Nat.le_succ _) K

theorem loop_ok {h₀ : Heap} {P L : Addr} {code : Array Nat} {x y : Str} {t u : Tok} {R : Result → Shared → Prop} (H : PatIs h₀ P code) (hx : x.cps.size ≤ 4000) (hn : h₀.get? L = none) :
    ∀ {fuel start : Nat} {must : Bool} {s : Shared} {ps : List Value} {ds ts : List Str} {n k : Nat}, subP code x.cps y fuel start must = some ts → (∀ b o, h₀.get? b = some o → s.heap.get? b = some o) → s.heap.get? L = some { cls := .type "list", data := .seq ps.toArray n } → StrsAre ps ds → ps.length + 2 * fuel ≤ 3000 → JoinOk (⟨#[]⟩ : Str) (ds ++ ts) = true →
      (∀ h' tk t', (∀ b o, h₀.get? b = some o → h'.get? b = some o) → R (.ok (.ret (.str (Txt.join ⟨#[]⟩ (ds ++ ts)) t'))) { s with heap := h', toks := tk }) →
      codeAny (model prog w) A (.builtin "re.Pattern.sub.loop" ⟨[.ref P, .str x t, .str y u, rawInt 0, rawInt 0, rawInt k, rawInt start, rawInt start, .bool must, .ref L, .bool false], []⟩) R s
  | 0, _, _, _, _, _, _, _, _, e, _, _, _, _, _, _ => by cases e
  | fuel + 1, start, must, s, ps, ds, ts, n, k, e, K, hL, hi, hp, hj, hR => by
    refine codeAny_builtin entry_pat_sub_loop ?_
    unfold Builtin.«re.Pattern.sub.loop»
    refine wpAny_bind (whole_ok (H.keep K) ?_)
    dsimp only
    unfold subP at e
    split at e
    · cases e
    · rename_i m em
      have e0 : (if (0 != 0 && decide ((k : Int) ≥ 0)) = true then (pure none : Sem (Option Sre.M)) else reNextFound { pattern := .ref P, string := .str x t, code := code, text := x.cps, kind := 0, groups := 0, pos := 0, lim := x.cps.size } (start : Int).toNat must) = reRunToEnd (Sre.forSearch code x.cps 0 start x.cps.size must) := rfl
      rw [if_pos (by decide)]
      refine wpAny_bind (wpAny_pure (a := ()) ?_)
      refine wpAny_bind ?_
      refine reRun_ok em ?_ ?_ ?_
      · intro ho
        rw [ho] at e
        dsimp only at e ⊢
        split at e
        · rename_i r er
          cases e
          refine piece_if hx hL hi hn K (by omega) fun h' tk ps' n' e1 e2 e3 e4 => ?_
          rw [if_pos (by decide)]
          refine wpAny_bind (wpAny_pure ?_)
          rw [if_pos (by rfl)]
          refine wpAny_bind (push_piece (s := { s with heap := h', toks := tk }) e1 hn e4 (by omega) fun h2 n2 f1 f2 => ?_)
          refine wpAny_pure ⟨Code.quiet_builtin _ (by decide +kernel), ?_⟩
          have key := loop_ok H hx hn (k := k + 1) (u := u) (t := t) (P := P) (s := { s with heap := h2, toks := tk }) (ps := ps' ++ [Value.str y u]) (ds := (ds ++ if start < m.start then [⟨x.cps.extract start m.start⟩] else []) ++ [y]) (R := R) er f2 f1 (are_append e2 (.cons y u .nil))
            (by simp only [List.length_append, List.length_cons, List.length_nil]; omega) (by simpa [List.append_assoc] using hj) (fun h3 tk3 t3 K3 => by
              have := hR h3 tk3 t3 K3
              simpa [List.append_assoc] using this)
          exact key
        · cases e
      · intro ho
        rw [ho] at e
        dsimp only at e ⊢
        cases e
        refine piece_if hx hL hi hn K (by omega) fun h' tk ps' n' e1 e2 e3 e4 => ?_
        have ex : (⟨x.cps.extract 0 0⟩ : Str) = ⟨#[]⟩ := by simp
        show wpAny _ _ (mkStr ⟨x.cps.extract 0 0⟩ >>= _) _ _ _
        rw [ex]
        refine wpAny_bind (wpAny_mkStr ?_ (Nat.zero_le _))
        refine wpAny_bind (wpAny_seqItems e1 rfl ?_)
        cases ps' with
        | nil =>
          rw [if_pos (by rfl)]
          refine wpAny_bind (wpAny_pure ?_)
          rw [if_neg (by decide)]
          refine wpAny_pure ?_
          have e5 : (ds ++ if start < x.cps.size then [(⟨x.cps.extract start x.cps.size⟩ : Str)] else []) = [] := by
            have nil_of : ∀ {l : List Str}, StrsAre [] l → l = [] := fun h => by cases h; rfl
            exact nil_of e2
          have := hR h' (tk + 1) tk e4
          rw [e5] at this
          exact this
        | cons p ps' =>
          rw [if_neg (by simp)]
          obtain ⟨l, l1, l2⟩ := StrsAre.pairs e2
          rw [l1] at e1
          refine wpAny_bind (SC.join (isL e1) l2 hj fun t' k' => ?_)
          rw [if_neg (by decide)]
          exact wpAny_pure (hR h' k' t' e4)
      · split at e
        · left; assumption
        · right; assumption
        · cases e
end
end Mine
end
section
open PySem PySem.W PyProof.Rows PySem.Calls
open PySem.Builtin.Re
set_option Elab.async false
set_option maxRecDepth 100000
namespace Mine
section
variable {prog : Program} {w : World} {A : Around} {E : Value → Shared → Prop} {s : Shared}

theorem named3 (y z : Value) : reNamed "re.Pattern.sub" "sub" ["repl", "string", "count"] 2 [y, z] [] = pure [some y, some z, none] := by rfl

theorem sub_ok {P : Addr} {code : Array Nat} {x y : Str} {t u : Tok} {ts : List Str} {Q : Value → Shared → Prop} (H : PatIs s.heap P code) (hx : x.cps.size ≤ 4000) (hy : y.cps.contains 92 = false) (e : subP code x.cps y 100 0 false = some ts) (hj : JoinOk (⟨#[]⟩ : Str) ts = true)
    (hq : ∀ s' t', Keeps s s' → Q (.str (Txt.join ⟨#[]⟩ ts) t') s') : wpAny (model prog w) A (call (.builtin "re.Pattern.sub") [.ref P, .str y u, .str x t]) Q E s := by
  have hT : s.TypeIs (.ref P) "re.Pattern" := by
    obtain ⟨o, vs, C, oC, xs, n, h1, h1', _⟩ := H
    exact ⟨o, h1, h1'⟩
  refine wpAny_call (codeAny_call_builtin slot_pat_sub.plain entry_pat_sub (slot_pat_sub.check _ _ _ _ _ _ _ _ hT (args_pat_sub _ _ _) ?_))
  unfold Builtin.«re.Pattern.sub» reSubstitute
  dsimp only
  rw [named3]
  refine wpAny_bind (wpAny_pure ?_)
  dsimp only
  refine wpAny_bind (wpAny_pure (a := (0 : Int)) ?_)
  refine wpAny_bind (wpAny_bind (wpAny_pure (a := Value.type "str") ?_))
  rw [lk_str_call]
  refine wpAny_pure ?_
  rw [if_neg (by simp)]
  refine wpAny_bind (wpAny_pure (a := some y) ?_)
  dsimp only
  rw [hy]
  refine wpAny_bind (wpAny_pure ?_)
  rw [if_neg (by simp), if_pos (by decide)]
  refine wpAny_bind (wpAny_pure ?_)
  dsimp only
  refine wpAny_bind (wpAny_holding (whole_ok H ?_))
  rw [if_neg (by decide)]
  refine wpAny_bind (wpAny_newList ?_ (Nat.zero_le _))
  refine wpAny_pure ⟨Code.quiet_builtin _ (by decide +kernel), ?_⟩
  refine loop_ok (h₀ := s.heap) (s := { s with heap := s.heap.push { cls := .type "list", data := .seq #[] } }) (ps := []) (ds := []) H hx (getNone (Nat.le_refl _)) e (fun b o e => Heap.get?_push_of_some _ e) (Heap.get?_push_size _ rfl) .nil (by decide) hj fun h' tk t' K => ?_
  exact hq _ t' ⟨h', tk, rfl, K⟩

noncomputable def quoteR (code1 code2 : Array Nat) (x : Str) : Option Str := match subP code2 x.cps (Str.ofString "\r\n") 100 0 false with
  | none => none
  | some ts => if JoinOk (⟨#[]⟩ : Str) ts && decide ((Txt.join ⟨#[]⟩ ts).cps.size ≤ 4000) then (match subP code1 (Txt.join ⟨#[]⟩ ts).cps (Str.ofString "..") 100 0 false with
      | none => none
      | some us => if JoinOk (⟨#[]⟩ : Str) us then some (Txt.join ⟨#[]⟩ us) else none) else none
noncomputable def quoteV (code1 code2 : Array Nat) : V → Option V
  | .u (.s x) => match quoteR code1 code2 x with
    | some y => gd (.u (.s y))
    | none => none
  | _ => none

variable {tp : Tp}
noncomputable def PatAt (tp : Tp) (n : Str) (code : Array Nat) : Prop := ∃ P, tp.mg n = some (.ref P) ∧ ∀ h, Bs tp h → PatIs h P code

theorem pat_T {h : Heap} {P : Addr} {code : Array Nat} (H : PatIs h P code) {s : Shared} (e : s.heap = h) : s.TypeIs (.ref P) "re.Pattern" ∧ ∀ a, Value.ref P = .ref a → ∃ ob, s.heap.get? a = some ob ∧ ob.dict = none := by
  subst e
  obtain ⟨o, vs, C, oC, xs, n, h1, h1', h1'', _⟩ := H
  exact ⟨⟨o, h1, h1'⟩, fun a e => by cases e; exact ⟨o, h1, h1''⟩⟩

theorem fs_quote {code1 code2 : Array Nat} (P1 : PatAt tp "_twin_re_1" code1) (P2 : PatAt tp "_twin_re_2" code2) {tc : Tok} (hcr : tp.mg "CRLF" = some (.str "\r\n" tc)) {q1 n1 n2 n3 n4 a1 a2 b1 c1 c2 p4 : Pos} {k1 : Nat} (l1 : (a1.endLine == c1.line) = true) (l2 : (a2.endLine == c2.line) = true)
    (F : FnAt tp "quotedata" (ps1 "data" q1) [.Return (some (.Call (.Attribute (.Name "_twin_re_1" n1) "sub" a1) [.Constant (.str "..") k1 b1, .Call (.Attribute (.Name "_twin_re_2" n2) "sub" a2) [.Name "CRLF" n3, .Name "data" n4] [] c2] [] c1)) p4]
      (scN [("data", .local), ("_twin_re_1", .globalImplicit), ("_twin_re_2", .globalImplicit), ("CRLF", .globalImplicit)])) : FS1 prog w tp "quotedata" (quoteV code1 code2) := by
  obtain ⟨a, o, pm, cd, doc, h1, h2, h3, h4, h5⟩ := F
  obtain ⟨A1, m1, i1⟩ := P1
  obtain ⟨A2, m2, i2⟩ := P2
  refine ⟨a, o, _, h1, h2, h3, h4, fun A s va x v hA hB rx ox hf => ?_⟩
  unfold quoteV at hf
  split at hf
  · rename_i x0
    split at hf
    · rename_i y ey
      obtain ⟨rfl, ok⟩ := gd_some hf
      unfold quoteR at ey
      split at ey
      · cases ey
      · rename_i ts e1
        split at ey
        · rename_i hc
          rw [Bool.and_eq_true, decide_eq_true_eq] at hc
          split at ey
          · cases ey
          · rename_i us e2
            split at ey
            · rename_i hj2
              cases ey
              obtain ⟨t, rfl⟩ := rx
              refine call_fn hA hB h2 h3 h4 h5 (binds := [("data", .str _ t)]) rfl (by decide) (loc1 rfl) rfl rfl rfl fun h₀ hn hk => ?_
              have B0 := hB.keep hk
              refine wpAny_execs_cons (wpAny_Return_some ?_)
              refine wpAny_Call_method (T := "re.Pattern") rfl rfl l1 plain_pat slot_pat_sub type_pat_sub (name_global (tp := tp) ⟨rfl, rfl, rfl⟩ B0 rfl m1 (by decide) ?_)
              have T1 := pat_T (i1 _ B0) (s := { s with heap := h₀, toks := s.toks + 1 }) rfl
              refine ⟨T1.1, T1.2, callWith_method1 ?_⟩
              refine wpAny_items_cons (wpAny_Constant_str (wpAny_items_cons ?_))
              refine wpAny_Call_method (T := "re.Pattern") rfl rfl l2 plain_pat slot_pat_sub type_pat_sub (name_global (tp := tp) ⟨rfl, rfl, rfl⟩ B0 rfl m2 (by decide) ?_)
              have T2 := pat_T (i2 _ B0) (s := { s with heap := h₀, toks := s.toks + 1 + 1 }) rfl
              refine ⟨T2.1, T2.2, callWith_method1 ?_⟩
              refine wpAny_items_cons (name_global (tp := tp) ⟨rfl, rfl, rfl⟩ B0 rfl hcr (by decide) (wpAny_items_cons (ldc rfl rfl hn (by rfl) (wpAny_items_nil ?_) (by decide))))
              refine sub_ok (i2 _ B0) (str_ok ox) (by decide +kernel) e1 hc.1 fun s1 t1 kk1 => wpAny_items_nil ?_
              refine sub_ok (i1 _ (B0.keep (kpK kk1))) hc.2 (by decide +kernel) e2 hj2 fun s2 t2 kk2 => ?_
              exact Out.u ⟨_, rfl⟩ (kpT (kpT (s' := { s with heap := h₀, toks := s.toks + 1 + 1 }) ⟨_, _, rfl, hk⟩ kk1) kk2) ok
            · cases ey
        · cases ey
    · cases hf
  · cases hf
end
end Mine
end
section
open PySem PySem.W PyProof.Rows PySem.Calls
open PySem.Builtin.ObjectAttr PySem.Builtin
set_option Elab.async false
set_option maxRecDepth 100000
namespace Mine

noncomputable def NsB (h : Heap) (a : Addr) (m : Str → Option Value) (b : Nat) : Prop :=
  ∃ o es ep, h.get? a = some o ∧ o.data = .dict es ep ∧ StrKeys es ∧ (∀ name, nsFind es name = m name) ∧ es.size ≤ b
theorem NsB.ns {h : Heap} {a : Addr} {m : Str → Option Value} {b : Nat} (N : NsB h a m b) : h.Ns a m := let ⟨o, es, ep, e1, e2, e3, e4, _⟩ := N; ⟨o, es, ep, e1, e2, e3, e4⟩
theorem NsB.keeps {h h' : Heap} {a : Addr} {m : Str → Option Value} {b : Nat} (N : NsB h a m b) (k : ∀ b o, h.get? b = some o → h'.get? b = some o) : NsB h' a m b := let ⟨o, es, ep, e1, r⟩ := N; ⟨o, es, ep, k _ _ e1, r⟩
theorem nsSetB {M : Model} {A : Around} {E : Value → Shared → Prop} {s : Shared} {a : Addr} {m : Str → Option Value} {b : Nat} {name : Str} {v : Value} {Q : Unit → Shared → Prop} (hn : NsB s.heap a m b)
    (h : ∀ h', NsB h' a (fun x => if x = name then some v else m x) (if (m name).isSome then b else b + 1) → Heap.SameBut a s.heap h' → Q () { s with heap := h', toks := s.toks + 1 }) : wpAny M A (nsSet a name v) Q E s := by
  obtain ⟨o, es, ep, ho, hd, hk, hm, hb⟩ := hn
  have hany : es.any (·.refKey) = false := by
    rw [Array.any_eq_false']; intro e he; obtain ⟨n, t, h⟩ := hk e he; simp [DictEntry.refKey, h]
  unfold nsSet
  refine wpAny_bind (wpAny_bind (wpAny_askSetting (wpAny_pure (wpAny_bind (wpAny_mkText (wpAny_bind (wpAny_loadPart ho ?_)))))))
  rw [hd]
  dsimp only
  rw [aRefKeyMayBeTheName_eq]
  unfold aRefKeyMayBeTheNameByArray
  rw [hany, Bool.and_false]
  refine wpAny_updatePart ho (h _ ?_ (Heap.SameBut.update ..))
  obtain ⟨c, d, dt, sl⟩ := o
  subst hd
  cases hi : es.findIdx? (·.key.isStr name) with
  | some i =>
    refine ⟨_, _, ep, Heap.get?_update_self _ ho (by simp only [Obj.putName_eq, Obj.putNameByArray, hi]; rfl), by simp only [Obj.putName_eq, Obj.putNameByArray, hi]; rfl, hk.modify _ _, fun x => ?_, by simp only [Array.size_modify]; split <;> omega⟩
    show _ = if x = name then some v else m x
    rw [← hm]; exact findBy_modify (fun n v => v.isStr n) Value.isStr_inj es name x v i hi
  | none =>
    refine ⟨_, _, ep + 1, Heap.get?_update_self _ ho (by simp only [Obj.putName_eq, Obj.putNameByArray, hi]; rfl), by simp only [Obj.putName_eq, Obj.putNameByArray, hi]; rfl, hk.push _ _ _ _, fun x => ?_, by
      have hmn : m name = none := by
        rw [← hm, nsFind, findBy_of_findIdx?]
        rw [show es.findIdx? (fun e => e.key.isStr name) = none from hi]
      rw [hmn]
      simp only [Array.size_push, Option.isSome_none, Bool.false_eq_true, if_false]
      omega⟩
    show _ = if x = name then some v else m x
    rw [← hm]
    exact findBy_push (fun n v => v.isStr n) es name x _ _ v (fun y => by
      show (name == y) = decide (y = name)
      by_cases h : y = name
      · subst h; simp
      · have : ¬ name = y := fun e => h e.symm
        simp [h, this]) hi

/-- attributes are read the plain way: by object's own __getattribute__, or list's -/
noncomputable def PG (K : Frag) (C : Addr) : Prop := findIn K (.ref C) "__getattr__" = some none ∧ (findIn K (.ref C) "__getattribute__" = some (some (.builtin "object.__getattribute__")) ∨
  (findIn K (.ref C) "__getattribute__" = some (some (.builtin "list.__getattribute__")) ∧ mroIn K C (.type "list") = some true))
theorem PG.can {K : Frag} {C : Addr} (h : PG K C) : ∃ id, findIn K (.ref C) "__getattribute__" = some (some (.builtin id)) ∧ (Manifest.canonical id != "object.__getattribute__") = false := by
  rcases h.2 with e | e
  · exact ⟨_, e, by decide +kernel⟩
  · exact ⟨_, e.1, by decide +kernel⟩

/-- an object of a class of the text's own, with its dict -/
structure Ins (h : Heap) (x C dx : Addr) (d : Data) (sl : Array (Option Value)) (m : Str → Option Value) (b : Nat) : Prop where
  at_ : h.get? x = some ⟨.ref C, some dx, d, sl⟩
  no : notCls ⟨.ref C, some dx, d, sl⟩ = true
  ns : NsB h dx m b
theorem lookIn_ns {h : Heap} {dx : Addr} {m : Str → Option Value} (N : h.Ns dx m) : ∃ od, h.get? dx = some od ∧ ∀ name, lookIn name od = some (m name) := by
  obtain ⟨o, es, ep, e1, e2, e3, e4⟩ := N
  refine ⟨o, e1, fun name => ?_⟩
  unfold lookIn
  rw [e2]
  dsimp only
  rw [← e4 name]
  unfold nsFind findBy
  rw [← Array.find?_toList]
  cases q : es.toList.find? fun e => e.key.isStr name with
  | some e => rfl
  | none =>
    dsimp only
    rw [if_neg]
    · rfl
    · intro h
      obtain ⟨e, he, hr⟩ := List.any_eq_true.mp h
      obtain ⟨n, t, hk⟩ := e3 e (by simpa using he)
      unfold DictEntry.refKey at hr
      rw [hk] at hr
      cases hr
theorem Ins.inst {h : Heap} {x C dx : Addr} {d : Data} {sl : Array (Option Value)} {m : Str → Option Value} {b : Nat} (I : Ins h x C dx d sl m b) : ∃ od, InstAt h x ⟨.ref C, some dx, d, sl⟩ C (some od) ∧ ∀ name, lookIn name od = some (m name) := by
  obtain ⟨od, e1, e2⟩ := lookIn_ns I.ns.ns
  exact ⟨od, ⟨I.at_, rfl, I.no, e1⟩, e2⟩
theorem Ins.keep {h h' : Heap} {x C dx : Addr} {d : Data} {sl : Array (Option Value)} {m : Str → Option Value} {b : Nat} (I : Ins h x C dx d sl m b) (k : ∀ b o, h.get? b = some o → h'.get? b = some o) : Ins h' x C dx d sl m b := ⟨k _ _ I.at_, I.no, I.ns.keeps k⟩

section
variable {prog : Program} {w : World} {A : Around} {E : Value → Shared → Prop} {s : Shared} {K : Frag} {x C dx : Addr} {d : Data} {sl : Array (Option Value)} {m : Str → Option Value} {b : Nat} {name : Str}

/-- an attribute is stored -/
theorem ins_set {v : Value} {Q : Unit → Shared → Prop} {cd : ClassData} (X : K.In s.heap) (I : Ins s.heap x C dx d sl m b) (hc : clsIn K C = some cd) (hhd : cd.hasDict = true) (hne : cd.mro.isEmpty = false) (hob : cd.mro.contains (.type "object") = true)
    (hs : findIn K (.ref C) "__setattr__" = some (some (.builtin "object.__setattr__"))) (hp : refuseLoop (.ref x) "__setattr__" cd.mro = pure ()) (ha : findIn K (.ref C) name = some none)
    (hb : b ≤ 100) (h : ∀ h', NsB h' dx (fun y => if y = name then some v else m y) (if (m name).isSome then b else b + 1) → Heap.SameBut dx s.heap h' → Q () { s with heap := h', toks := s.toks + 2 }) : wpAny (model prog w) A (setAttr (.ref x) name v) Q E s := by
  obtain ⟨hp0, g0, d0, t0, os0⟩ := s
  obtain ⟨od, I', hl⟩ := I.inst
  refine set_plain X I' hs ?_
  have SF := PySem.F.store_object
  have sub : Looks (model prog w) hp0 (isInstance (.ref x) (.type "object")) true := I'.type.andThen (looks_mroIn X (by unfold mroIn; rw [hc, Option.bind_some, if_neg (by rw [hne]; decide), hob]))
  refine codeAny_call_builtin SF.slot.plain SF.entry (@check_slot (model prog w) _ _ ⟨hp0, g0, d0, t0 + 1, os0⟩ "object.__setattr__" "object" "__setattr__" (.ref x) [.str name t0, v] [] _ SF.kind SF.split sub (SF.args (.ref x) (.str name t0) v) ?_)
  have hm : Looks (model prog w) hp0 (mroOf (.ref C)) cd.mro := (looks_clsIn X hc).andThen .now
  have L3 : Looks (model prog w) hp0 (storeTaker? none) none := .now
  rw [osa_eq, refuse_eq]
  refine wpAny_bind (wpAny_bind (I'.type.at (wpAny_bind (hm.at ?_))))
  rw [hp]
  refine wpAny_pure (wpAny_bind (I'.type.at (wpAny_bind ((looks_findIn X ha).at (wpAny_bind (L3.at ?_))))))
  refine wpAny_bind (wpAny_pure (wpAny_bind (wpAny_bind (wpAny_loadPart I.at_ (wpAny_bind ((looks_clsIn X hc).at ?_))))))
  rw [hhd]
  refine wpAny_pure (a := some dx) (wpAny_bind (wpAny_pure (wpAny_bind ?_)))
  refine nsSetB I.ns fun h' n sb => ?_
  obtain ⟨o, es, ep, e1, e2, e3, e4, e5⟩ := id n
  have hl := line_big
  have e6 : es.size ≤ b + 1 := Nat.le_trans e5 (by split <;> omega)
  refine wpAny_bind (wpAny_lookBehind e1 (by rw [e2]; exact pastItsLine_dict (by omega)) ?_)
  exact wpAny_pure (h h' n sb)
end
end Mine
end
section
open PySem PySem.W PyProof.Rows PySem.Calls
open PySem.Builtin.ObjectAttr PySem.Builtin
set_option Elab.async false
set_option maxRecDepth 100000
namespace Mine
section
variable {prog : Program} {w : World} {A : Around} {E : Value → Shared → Prop} {s : Shared} {env : Env} {K : Frag}

theorem Call_G {o : Expr} {name : Str} {apos pos : Pos} {args : List Expr} {Q : Value → Shared → Prop} (P : MethAt o name apos pos env args)
    (h : wpAny (model prog w) A (eval o env) (fun ov s₁ => ∀ pl, wpAny (model prog w) A (getMethod ov name pl) (fun fx s₂ => wpAny (model prog w) A (callWith pos fx.1 fx.2 (backTo pos (starEach args env)) []) Q E s₂) E s₁) E s) :
    wpAny (model prog w) A (eval (.Call (.Attribute o name apos) args [] pos) env) Q E s := by
  rw [arm_eval_Call, P.base]
  refine wpAny_bind (wpAny_mono h (fun ov s₁ h₁ => ?_) fun _ _ e => e)
  refine wpAny_bind (wpAny_standAt ?_)
  have hform : methodCallForm (args.length + ([] : List Keyword).length) (backTo pos (starEach args env)) (backToKw pos (keywordEach [] env)) = true := P.few
  have hpos : methodCallPos true o env apos pos = pure pos := by unfold methodCallPos; simp [P.line]
  unfold methodCall
  rw [hform]
  refine wpAny_bind (wpAny_holding (wpAny_mono (h₁ _) (fun fx s₂ h₂ => ?_) fun _ _ e => e))
  exact wpAny_bind (wpAny_of_eq hpos h₂)

theorem check_bi {id owner n : String} {self : Value} {rest : List Value} {Q : Unit → Shared → Prop} (hk : builtinKind id = some .method ∨ builtinKind id = some .slot) (hs : splitId id = some (owner, n)) (hi : Looks (model prog w) s.heap (isInstance self (.type owner)) true) (ha : argsOk id ⟨self :: rest, []⟩) (q : Q () s) :
    wpAny (model prog w) A (checkBuiltinCall id ⟨self :: rest, []⟩) Q E s := by
  rcases hk with hk | hk
  · simp only [checkBuiltinCall, hk, hs]
    refine wpAny_bind (hi.here ?_)
    simp only [Bool.not_true, Bool.false_eq_true, if_false]
    cases hsig : Manifest.signature? id with
    | none => exact wpAny_pure q
    | some sig =>
      simp only [argsOk, hsig] at ha
      have h2 : Bind.checkArgs id sig ⟨self :: rest, []⟩ = pure () := ha
      show wpAny _ A (Bind.checkArgs id sig ⟨self :: rest, []⟩) Q E s
      rw [h2]; exact wpAny_pure q
  · exact check_slot hk hs hi ha q

theorem call_bi {id owner n : String} {B : Builtin} {self : Value} {rest : List Value} {Q : Value → Shared → Prop} (hk : builtinKind id = some .method ∨ builtinKind id = some .slot) (hs : splitId id = some (owner, n)) (hp : plainId id = true) (he : entryFor table id = some B)
    (hi : Looks (model prog w) s.heap (isInstance self (.type owner)) true) (ha : argsOk id ⟨self :: rest, []⟩)
    (h : wpAny (model prog w) A.in1 (B ⟨self :: rest, []⟩) (fun fin s' => ∃ v, fin = .done (.ret v) ∧ Q v s') E s) : wpAny (model prog w) A (call (.builtin id) (self :: rest)) Q E s := by
  refine wpAny_call (codeAny_call_builtin hp he (check_bi hk hs hi ha ?_))
  refine wpAny_mono h (fun fin s' z => ?_) fun _ _ e => e
  obtain ⟨v, rfl, q⟩ := z
  exact q

/-- the object is one of the base's -/
theorem ins_isInst {x C dx : Addr} {d : Data} {sl : Array (Option Value)} {m : Str → Option Value} {b : Nat} (X : K.In s.heap) (I : Ins s.heap x C dx d sl m b) {T : Value} {r : Bool} (hm : mroIn K C T = some r) : Looks (model prog w) s.heap (isInstance (.ref x) T) r := by
  obtain ⟨od, I', hl⟩ := I.inst
  exact I'.type.andThen (looks_mroIn X hm)


/-- an attribute is asked of an object of list's -/
theorem ga_list {x C : Addr} {ox : Obj} {od : Option Obj} {name : Str} {expr : Bool} {Q : Value → Shared → Prop} (X : K.In s.heap) (I : InstAt s.heap x ox C od) (hga : findIn K (.ref C) "__getattribute__" = some (some (.builtin "list.__getattribute__"))) (hk : findIn K (.ref C) "__getattr__" = some none) (hm : mroIn K C (.type "list") = some true)
    (h : wpAny (model prog w) A.in1 (Builtin.«object.__getattribute__» ⟨[.ref x, .str name s.toks], []⟩) (fun fin s' => ∃ v, fin = .done (.ret v) ∧ wpAny (model prog w) A (handedOut v) Q E s') (fun _ _ => False) { s with toks := s.toks + 1 }) : wpAny (model prog w) A (getAttr (.ref x) name expr) Q E s := by
  obtain ⟨hh, g, d, t, os⟩ := s
  have L0 := I.type (M := model prog w)
  have L1 := looks_findIn (M := model prog w) X hga
  have L2 := looks_findIn (M := model prog w) X hk
  have L3 : Looks (model prog w) hh (isInstance (.ref x) (.type "list")) true := L0.andThen (looks_mroIn X hm)
  unfold getAttr getAttrBy
  refine wpAny_bind (wpAny_mkText (wpAny_holding (wpAny_bind (L0.at (wpAny_bind (L1.at ?_))))))
  show wpAny _ _ (getAttrByItsOwn (.ref x) (.str name t) (.ref C) (.builtin "list.__getattribute__") true expr) _ _ _
  unfold getAttrByItsOwn hookBefore callGetattribute boundAndCalled
  refine wpAny_bind (L2.at ?_)
  have eo : (expr && onTheHeap (.builtin "list.__getattribute__")) = false := by cases expr <;> rfl
  rw [eo, if_neg (by decide)]
  refine wpAny_bind (wpAny_attempt (wpAny_holding (wpAny_bind (wpAny_of_eq (PySem.F.slot_list_getattribute.bind _) ?_))))
  refine wpAny_mono (Q := fun v s' => wpAny (model prog w) A (handedOut v) Q E s') (E := fun _ _ => False)
    (call_bi (s := ⟨hh, g, d, t + 1, os⟩) (.inr (by decide +kernel)) (by decide +kernel : splitId "list.__getattribute__" = some ("list", "__getattribute__")) PySem.F.slot_list_getattribute.plain PySem.F.entry_list_ga L3 (PySem.F.args_list_getattribute_2 _ _) (wpAny_mono h (fun fin s' z => z) fun _ _ e => e)) (fun v s' hv => ?_) fun _ _ z => z.elim
  exact hv
theorem ga_val {x C : Addr} {ox : Obj} {od : Option Obj} {name : Str} {expr : Bool} {v : Value} {Q : Value → Shared → Prop} (X : K.In s.heap) (I : InstAt s.heap x ox C od) (hp : PG K C) (hf : findObj K C od name = some (.value v)) (hh : handedIn v = true) (h : Q v { s with toks := s.toks + 1 }) : wpAny (model prog w) A (getAttr (.ref x) name expr) Q E s := by
  rcases hp.2 with e | ⟨e, hm⟩
  · exact get_value X I e hf hh h
  · refine ga_list X I e hp.1 hm ?_
    obtain ⟨hp', g, d, t, os⟩ := s
    have L0 := I.type (M := model prog w)
    have L1 := looks_find (M := model prog w) X I hf
    refine wpAny_bind (wpAny_pure (wpAny_bind (wpAny_pure (wpAny_bind (L0.at (wpAny_bind (L1.at ?_)))))))
    refine wpAny_pure ⟨v, rfl, ?_⟩
    rw [handedOut_of hh]; exact wpAny_pure h
theorem ga_bnd {x C : Addr} {ox : Obj} {od : Option Obj} {name : Str} {expr : Bool} {g a : Value} {Q : Value → Shared → Prop} (X : K.In s.heap) (I : InstAt s.heap x ox C od) (hp : PG K C) (hf : findObj K C od name = some (.bind g a))
    (h : wpAny (model prog w) A.in1 (call g [a, .ref x, .ref C]) (fun v s' => wpAny (model prog w) A (handedOut v) Q E s') (fun _ _ => False) { s with toks := s.toks + 1 }) : wpAny (model prog w) A (getAttr (.ref x) name expr) Q E s := by
  rcases hp.2 with e | ⟨e, hm⟩
  · exact get_bind X I e hf hp.1 (wpAny_mono h (fun _ _ z => z) fun _ _ z => z.elim)
  · refine ga_list X I e hp.1 hm ?_
    obtain ⟨hp', gg, d, t, os⟩ := s
    have L0 := I.type (M := model prog w)
    have L1 := looks_find (M := model prog w) X I hf
    refine wpAny_bind (wpAny_pure (wpAny_bind (wpAny_pure (wpAny_bind (L0.at (wpAny_bind (L1.at ?_)))))))
    show wpAny _ _ (holding [a] (call g [a, .ref x, .ref C]) >>= ret) _ _ _
    exact wpAny_bind (wpAny_holding (wpAny_mono h (fun v s' z => wpAny_pure ⟨v, rfl, z⟩) fun _ _ z => z))

section
variable {x C dx : Addr} {d : Data} {sl : Array (Option Value)} {m : Str → Option Value} {b : Nat} {name : Str}
/-- an attribute of the object's own -/
theorem ins_get {v : Value} {expr : Bool} {Q : Value → Shared → Prop} (X : K.In s.heap) (I : Ins s.heap x C dx d sl m b) (hg : PG K C) (hh : hasDictIn K C = true) (ha : findIn K (.ref C) name = some none) (hm : m name = some v) (hv : handedIn v = true)
    (h : Q v { s with toks := s.toks + 1 }) : wpAny (model prog w) A (getAttr (.ref x) name expr) Q E s := by
  obtain ⟨od, I', hl⟩ := I.inst
  exact ga_val X I' hg (findObj_own hh ha rfl (by rw [hl, hm])) hv h

/-- a method of the class: a def -/
theorem ins_meth {pl : Sem Bool} {Q : Value × List Value → Shared → Prop} {f : Addr} (X : K.In s.heap) (I : Ins s.heap x C dx d sl m b) (hg : PG K C) (hf : findIn K (.ref C) name = some (some (.ref f))) (ht : typeIn K (.ref f) = some (.type "function")) (hm : m name = none)
    (h : Q (.ref f, [.ref x]) s) : wpAny (model prog w) A (getMethod (.ref x) name pl) Q E s := by
  obtain ⟨od, I', hl⟩ := I.inst
  obtain ⟨ga, hga, hcan⟩ := hg.can
  unfold getMethod specialOf
  refine wpAny_bind (wpAny_bind (I'.type.here ((looks_findIn X hga).here ?_)))
  dsimp only
  rw [hcan, if_neg (by decide)]
  refine wpAny_bind (wpAny_bind (I'.type.here ((looks_findIn X hg.1).here ?_)))
  refine wpAny_bind (wpAny_bind (I'.type.here ((looks_findIn X hf).here (wpAny_bind ((looks_typeIn X ht).here ?_)))))
  rw [if_neg (by decide +kernel)]
  refine wpAny_bind (wpAny_loadPart I'.at_ ?_)
  refine wpAny_bind (wpAny_nsGet I.ns.ns ?_)
  rw [hm]
  exact wpAny_bind (wpAny_rule (wpAny_pure h))

/-- a method of a built-in base -/
theorem ins_methb {pl : Sem Bool} {Q : Value × List Value → Shared → Prop} {id : String} (X : K.In s.heap) (I : Ins s.heap x C dx d sl m b) (hg : PG K C) (hf : findIn K (.ref C) name = some (some (.builtin id))) (ht : typeOf (.builtin id) = pure (.type "method_descriptor")) (hm : m name = none)
    (h : Q (.builtin id, [.ref x]) s) : wpAny (model prog w) A (getMethod (.ref x) name pl) Q E s := by
  obtain ⟨od, I', hl⟩ := I.inst
  obtain ⟨ga, hga, hcan⟩ := hg.can
  have hk := hg.1
  unfold getMethod specialOf
  refine wpAny_bind (wpAny_bind (I'.type.here ((looks_findIn X hga).here ?_)))
  dsimp only
  rw [hcan, if_neg (by decide)]
  refine wpAny_bind (wpAny_bind (I'.type.here ((looks_findIn X hk).here ?_)))
  refine wpAny_bind (wpAny_bind (I'.type.here ((looks_findIn X hf).here (wpAny_bind (wpAny_of_eq ht ?_)))))
  rw [if_neg (by decide +kernel)]
  refine wpAny_bind (wpAny_loadPart I'.at_ ?_)
  have hd := I'.dict
  refine wpAny_bind (wpAny_nsGet I.ns.ns ?_)
  rw [hm]
  exact wpAny_bind (wpAny_rule (wpAny_pure h))

end

/-- what a step may change: the objects named, no more -/
noncomputable def Ch (L : List Addr) (s s' : Shared) : Prop := ∃ h' tk, s' = { s with heap := h', toks := tk } ∧ (∀ b o, b ∉ L → s.heap.get? b = some o → h'.get? b = some o) ∧ ∀ b o, s.heap.get? b = some o → ∃ o', h'.get? b = some o'
theorem Ch.of {L : List Addr} {s s' : Shared} (k : Keeps s s') : Ch L s s' := by
  obtain ⟨h', tk, rfl, k⟩ := k
  exact ⟨h', tk, rfl, fun b o _ e => k b o e, fun b o e => ⟨o, k b o e⟩⟩
theorem Ch.trans {L : List Addr} {s s' s'' : Shared} (a : Ch L s s') (b : Ch L s' s'') : Ch L s s'' := by
  obtain ⟨h', tk, rfl, k1, k2⟩ := a
  obtain ⟨h'', tk', rfl, k3, k4⟩ := b
  exact ⟨h'', tk', rfl, fun b o n e => k3 b o n (k1 b o n e), fun b o e => let ⟨o', e'⟩ := k2 b o e; k4 b o' e'⟩
theorem Ch.mono {L L' : List Addr} {s s' : Shared} (a : Ch L s s') (h : ∀ x ∈ L, x ∈ L') : Ch L' s s' := by
  obtain ⟨h', tk, rfl, k1, k2⟩ := a
  exact ⟨h', tk, rfl, fun b o n e => k1 b o (fun q => n (h b q)) e, k2⟩
theorem Ch.get {L : List Addr} {s s' : Shared} (a : Ch L s s') {b : Addr} {o : Obj} (n : b ∉ L) (e : s.heap.get? b = some o) : s'.heap.get? b = some o := by
  obtain ⟨h', tk, rfl, k1, k2⟩ := a
  exact k1 b o n e
theorem Ch.there {L : List Addr} {s s' : Shared} (a : Ch L s s') {b : Addr} {o : Obj} (e : s.heap.get? b = some o) : ∃ o', s'.heap.get? b = some o' := by
  obtain ⟨h', tk, rfl, k1, k2⟩ := a
  exact k2 b o e
theorem Ch.but {L : List Addr} {s : Shared} {a : Addr} {h' : Heap} {tk : Nat} (ha : a ∈ L) {o' : Obj} (e : h'.get? a = some o') (sb : Heap.SameBut a s.heap h') : Ch L s { s with heap := h', toks := tk } :=
  ⟨h', tk, rfl, fun b o n e => (sb.2 b fun q => n (q ▸ ha)).trans e, fun b o e' => by
    by_cases q : b = a
    · subst q; exact ⟨o', e⟩
    · exact ⟨o, (sb.2 b q).trans e'⟩⟩
end
end Mine
end
section
open PySem PySem.W PyProof.Rows PySem.Calls
open PySem.Builtin.ObjectAttr PySem.Builtin
set_option Elab.async false
set_option maxRecDepth 100000
namespace Mine

noncomputable def mdef (n q : Str) (params : Arguments) (body : List Stmt) (scope : Scope) (cl : List (Str × Addr)) (dV : Value) (pm : Value × Value) (cd doc : Value) : FuncData := { docDef n params body scope pm.1 cd doc with qualname := q, closure := cl, defaults := dV, closureTuple := pm.2 }
noncomputable def FnK (K : Frag) (tp : Tp) (f : Addr) (n q : Str) (params : Arguments) (body : List Stmt) (scope : Scope) (cl : List (Str × Addr)) (dV cd : Value) : Prop :=
  typeIn K (.ref f) = some (.type "function") ∧ ∃ o pm doc, K.lookup f = some o ∧ o.data = .func (mdef n q params body scope cl dV pm cd doc) ∧ ∀ h, Bs tp h → h.CodeRec cd q

theorem FnK.keep {K : Frag} {tp : Tp} {f : Addr} {n q : Str} {params : Arguments} {body : List Stmt} {scope : Scope} {cl : List (Str × Addr)} {dV cd : Value} (F : FnK K tp f n q params body scope cl dV cd) : keepIn K (.ref f) = true := by
  obtain ⟨_, ⟨oc, od, dt, sl⟩, pm, doc, h1, h2, _⟩ := F
  dsimp only at h2
  subst h2
  unfold keepIn
  dsimp only
  rw [h1]

section
variable {prog : Program} {w : World} {A : Around} {s : Shared} {K : Frag} {tp : Tp}

noncomputable def Rf (Q : Value → Shared → Prop) (r : Result) (s' : Shared) : Prop := match r with | .ok (.ret v) => Q v s' | .ok _ => False | .error _ => False
theorem call_mC {f : Addr} {n q : Str} {params : Arguments} {body : List Stmt} {scope : Scope} {cl : List (Str × Addr)} {dV cd : Value} {vals : List Value} {binds : List (Str × Value)} {Q : Value → Shared → Prop} (F : FnK K tp f n q params body scope cl dV cd) (dp : A.depth ≤ 900) (B : Bs tp s.heap) (X : K.In s.heap)
    (hbind : ∀ pm doc, BindsTo s (mdef n q params body scope cl dV pm cd doc) ⟨vals, []⟩ binds) (hcell : ∀ x ∈ scope.names, x.2 ≠ .cell) (hloc : ∀ x ∈ binds, scope.names.lookup x.1 = some .local) (hco : scope.isCoroutine = false) (hgen : scope.isGenerator = false) (hk : scope.kind = .function)
    (h : ∀ pm doc h₀, (∃ o, s.heap.get? f = some o ∧ o.data = .func (mdef n q params body scope cl dV pm cd doc)) → h₀.Ns s.heap.objs.size (fun x => binds.reverse.lookup x) → (∀ b o, s.heap.get? b = some o → h₀.get? b = some o) →
      wpAny (model prog w) (A.deeper (callEnv (mdef n q params body scope cl dV pm cd doc) s.heap.objs.size f)) (execs body (callEnv (mdef n q params body scope cl dV pm cd doc) s.heap.objs.size f)) (fun fl s' => Q (match fl with | .ret v => v | _ => .none) s') (fun _ _ => False) { s with heap := h₀, toks := s.toks + binds.length }) :
    codeAny (model prog w) A (.call (.ref f) ⟨vals, []⟩) (Rf Q) s := by
  obtain ⟨_, o, pm, doc, h1, h2, h3⟩ := F
  have hr : recursionLimit = 1000 := rfl
  refine (codeAny_call_def (by omega) (X _ _ h1) h2 B.lim (h3 _ B) rfl (hbind pm doc) hcell hloc (fun h₀ hn hk' => ?_) hco hgen hk)
  exact wpAny_mono (h pm doc h₀ ⟨o, X _ _ h1, h2⟩ hn hk') (fun _ _ q => q) fun _ _ e => e.elim

theorem call_m {f : Addr} {n q : Str} {params : Arguments} {body : List Stmt} {scope : Scope} {cl : List (Str × Addr)} {dV cd : Value} {vals : List Value} {binds : List (Str × Value)} {Q : Value → Shared → Prop} (F : FnK K tp f n q params body scope cl dV cd) (dp : A.depth ≤ 900) (B : Bs tp s.heap) (X : K.In s.heap)
    (hbind : ∀ pm doc, BindsTo s (mdef n q params body scope cl dV pm cd doc) ⟨vals, []⟩ binds) (hcell : ∀ x ∈ scope.names, x.2 ≠ .cell) (hloc : ∀ x ∈ binds, scope.names.lookup x.1 = some .local) (hco : scope.isCoroutine = false) (hgen : scope.isGenerator = false) (hk : scope.kind = .function)
    (h : ∀ pm doc h₀, (∃ o, s.heap.get? f = some o ∧ o.data = .func (mdef n q params body scope cl dV pm cd doc)) → h₀.Ns s.heap.objs.size (fun x => binds.reverse.lookup x) → (∀ b o, s.heap.get? b = some o → h₀.get? b = some o) →
      wpAny (model prog w) (A.deeper (callEnv (mdef n q params body scope cl dV pm cd doc) s.heap.objs.size f)) (execs body (callEnv (mdef n q params body scope cl dV pm cd doc) s.heap.objs.size f)) (fun fl s' => Q (match fl with | .ret v => v | _ => .none) s') (fun _ _ => False) { s with heap := h₀, toks := s.toks + binds.length }) :
    wpAny (model prog w) A (call (.ref f) vals) Q (fun _ _ => False) s :=
  wpAny_call (codeAny_mono (call_mC F dp B X hbind hcell hloc hco hgen hk h) fun r s' q => by
    rcases r with e | (v | _ | _ | _) <;> exact q)

/-- the parts: tuples of a blank and a text -/
inductive PartsR (L : List Addr) (h : Heap) : List Value → List Str → Prop where
  | nil : PartsR L h [] []
  | cons {a : Addr} {n : Nat} {t u : Tok} {c : Str} {vs : List Value} {cs : List Str} : a ∉ L → h.get? a = some { cls := .type "tuple", data := .seq #[.str " " t, .str c u] n } → PartsR L h vs cs → PartsR L h (.ref a :: vs) (c :: cs)
theorem PartsR.keep {L : List Addr} {h h' : Heap} {vs : List Value} {cs : List Str} (P : PartsR L h vs cs) (k : ∀ b o, b ∉ L → h.get? b = some o → h'.get? b = some o) : PartsR L h' vs cs := by
  induction P with
  | nil => exact .nil
  | cons a b _ ih => exact .cons a (k _ _ a b) ih
theorem PartsR.append {L : List Addr} {h : Heap} {vs ws : List Value} {cs ds : List Str} (P : PartsR L h vs cs) (R : PartsR L h ws ds) : PartsR L h (vs ++ ws) (cs ++ ds) := by
  induction P with
  | nil => exact R
  | cons a b _ ih => exact .cons a b ih
theorem PartsR.length {L : List Addr} {h : Heap} {vs : List Value} {cs : List Str} (P : PartsR L h vs cs) : vs.length = cs.length := by
  induction P with
  | nil => rfl
  | cons a b _ ih => rw [List.length_cons, List.length_cons, ih]

theorem mapSeq_any (f : Array Value → Array Value) (c : Value) (d : Option Addr) (xs : Array Value) (n : Nat) (sl : Array (Option Value)) : ∃ n', Obj.mapSeq f ⟨c, d, .seq xs n, sl⟩ = ⟨c, d, .seq (f xs) n', sl⟩ := ⟨_, rfl⟩
theorem PartsR.at {L : List Addr} {h : Heap} {vs : List Value} {cs : List Str} (P : PartsR L h vs cs) : ∀ (j : Nat) (v : Value), vs[j]? = some v → ∃ a n t u c, v = .ref a ∧ cs[j]? = some c ∧ a ∉ L ∧ h.get? a = some { cls := .type "tuple", data := .seq #[.str " " t, .str c u] n } := by
  induction P with
  | nil => intro j v e; simp at e
  | cons na ho _ ih =>
    intro j v e
    cases j with
    | zero => simp at e; subst e; exact ⟨_, _, _, _, _, rfl, by simp, na, ho⟩
    | succ j => simpa using ih j v (by simpa using e)
noncomputable def mAcc (i : Int) (t : Tok) : Str → Option Value := fun y => if y = "_initial_size" then some (.int i t) else none
/-- the line under way -/
structure AccS (CA : Addr) (L : List Addr) (h : Heap) (ac da : Addr) (cs : List Str) (i : Int) : Prop where
  ex : ∃ sl ps n t b, Ins h ac CA da (.seq (List.toArray ps) n) sl (mAcc i t) b ∧ b ≤ 60 ∧ PartsR L h ps cs
  la : ac ∈ L
  ld : da ∈ L
  ne : ac ≠ da
theorem AccS.keep {CA : Addr} {L : List Addr} {h h' : Heap} {ac da : Addr} {cs : List Str} {i : Int} (S : AccS CA L h ac da cs i) (k : ∀ b o, h.get? b = some o → h'.get? b = some o) : AccS CA L h' ac da cs i := by
  obtain ⟨⟨sl, ps, n, t, b, I, hb, P⟩, la, ld, ne⟩ := S
  exact ⟨⟨sl, ps, n, t, b, I.keep k, hb, P.keep fun b o _ e => k b o e⟩, la, ld, ne⟩
/-- what the walk needs of the class -/
structure KA (K : Frag) (tp : Tp) (CA : Addr) : Prop where
  inK : ∀ h, Bs tp h → K.In h
  pg : PG K CA
  hd : hasDictIn K CA = true
  islist : mroIn K CA (.type "list") = some true
  append : findIn K (.ref CA) "append" = some (some (.builtin "list.append"))
  iter : findIn K (.ref CA) "__iter__" = some (some (.builtin "list.__iter__"))
  noInit : findIn K (.ref CA) "_initial_size" = some none
  bm : ∃ bm o, tp.mg "__builtins__" = some (.ref bm) ∧ bm ≠ builtinsNs ∧ K.lookup bm = some o ∧ o.cls = .type "module" ∧ o.dict = some builtinsNs ∧ o.data = .plain

noncomputable def psL (ns : List (Str × Pos)) : Arguments := { posonlyargs := [], args := ns.map fun p => { arg := p.1, annotation := none, pos := p.2 }, vararg := none, kwonlyargs := [], kw_defaults := [], kwarg := none, defaults := [] }

theorem kind_append : builtinKind "list.append" = some .method := by decide +kernel
theorem split_append : splitId "list.append" = some ("list", "append") := by decide +kernel

theorem push_okC {CA ac da f : Addr} {L : List Addr} {cs : List Str} {i : Int} {c : Str} {t u : Tok} {p1 p2 p3 a1 b1 b2 b3 c1 d1 e1 : Pos} {k : Nat} {cd : Value} (KF : KA K tp CA) (lt : (a1.endLine == c1.line) = true)
    (Fn : FnK K tp f "push" "_Accumulator.push" (psL [("self", p1), ("fws", p2), ("string", p3)]) [.Expr (.Call (.Attribute (.Name "self" b1) "append" a1) [.Tuple [.Name "fws" b2, .Name "string" b3] k d1] [] c1) e1] (scL ["self", "fws", "string"]) [] .none cd)
    (hA : A.handled = none) (dp : A.depth ≤ 900) (B : Bs tp s.heap) (S : AccS CA L s.heap ac da cs i) (hL : ∀ b ∈ L, ∃ o, s.heap.get? b = some o) (hcs : cs.length ≤ 1000) {Q : Value → Shared → Prop}
    (hq : ∀ s1 h', Keeps s s1 → Heap.SameBut ac s1.heap h' → AccS CA L h' ac da (cs ++ [c]) i → Q .none { s1 with heap := h' }) : codeAny (model prog w) A (.call (.ref f) ⟨[.ref ac, .str " " t, .str c u], []⟩) (Rf Q) s := by
  have X := KF.inK _ B
  refine call_mC Fn dp B X (binds := [("self", .ref ac), ("fws", .str " " t), ("string", .str c u)]) (fun _ _ => BindsTo.of_eq rfl) (by decide) (loc3 rfl rfl rfl) rfl rfl rfl fun pm doc h₀ _ hn hk => ?_
  obtain ⟨⟨sl, ps, n, ti, b, I, hb, P⟩, la, ld, ne⟩ := S
  have I1 := I.keep hk
  refine wpAny_execs_cons (wpAny_Expr_any (Call_G ⟨rfl, rfl, lt⟩ (ldc rfl rfl hn (by rfl) ?_ (by decide))) rfl rfl)
  intro pl
  refine ins_methb (KF.inK _ (B.keep hk)) I1 KF.pg KF.append PySem.F.type_list_append (by rfl) ?_
  refine callWith_method1 ?_
  refine wpAny_items_cons (wpAny_Tuple ?_)
  refine wpAny_items_cons (ldc rfl rfl hn (by rfl) (wpAny_items_cons (ldc rfl rfl hn (by rfl) (wpAny_items_nil ?_) (by decide))) (by decide))
  refine ⟨by show 2 ≤ sizeLine; have := line_big; omega, wpAny_items_nil ?_⟩
  have I2 := I1.keep (h' := h₀.push { cls := .type "tuple", data := .seq #[.str " " t, .str c u] }) fun b o e => Heap.get?_push_of_some _ e
  have X2 := KF.inK _ ((B.keep hk).keep (h' := h₀.push { cls := .type "tuple", data := .seq #[.str " " t, .str c u] }) fun b o e => Heap.get?_push_of_some _ e)
  refine call_bi (s := { s with heap := h₀.push { cls := .type "tuple", data := .seq #[.str " " t, .str c u] }, toks := s.toks + 3 }) (.inl kind_append) split_append PySem.F.slot_list_append.plain PySem.F.entry_list_append (ins_isInst X2 I2 KF.islist) (PySem.F.args_list_append_2 _ _) ?_
  show wpAny _ _ (updateSeq ac (·.push (.ref h₀.objs.size)) >>= fun _ => ret .none) _ _ _
  have hlen := P.length
  have hbig := line_big
  refine wpAny_bind (wpAny_updateSeq I2.at_ rfl ?_ (by simp only [List.size_toArray]; omega) (by simp only [Array.size_push, List.size_toArray]; omega))
  refine wpAny_pure ⟨.none, rfl, wpAny_execs_nil ?_⟩
  have hkk : Keeps s { s with heap := h₀.push { cls := .type "tuple", data := .seq #[.str " " t, .str c u] }, toks := s.toks + 3 } := ⟨_, _, rfl, fun b o e => Heap.get?_push_of_some _ (hk b o e)⟩
  have e1 := Heap.get?_update_self (h := h₀.push { cls := .type "tuple", data := .seq #[.str " " t, .str c u] }) (Obj.mapSeq (·.push (.ref h₀.objs.size))) I2.at_ (by rfl)
  obtain ⟨n2, e2⟩ := mapSeq_any (·.push (.ref h₀.objs.size)) (.ref CA) (some da) ps.toArray n sl
  rw [e2, show ps.toArray.push (Value.ref h₀.objs.size) = (ps ++ [Value.ref h₀.objs.size]).toArray by simp] at e1
  have hC : Ch L s { s with heap := (h₀.push { cls := .type "tuple", data := .seq #[.str " " t, .str c u] }).update ac (Obj.mapSeq (·.push (.ref h₀.objs.size))), toks := s.toks + 3 } :=
    (Ch.of hkk).trans (Ch.but (s := { s with heap := h₀.push { cls := .type "tuple", data := .seq #[.str " " t, .str c u] }, toks := s.toks + 3 }) la e1 (Heap.SameBut.update ..))
  have nt : h₀.objs.size ∉ L := fun q => by
    obtain ⟨o, e⟩ := hL _ q
    exact absurd (Heap.lt_size (hk _ _ e)) (Nat.lt_irrefl _)
  refine hq _ _ hkk (Heap.SameBut.update ..) ⟨⟨sl, ps ++ [.ref h₀.objs.size], n2, ti, b, ⟨e1, rfl, ?_⟩, hb, ?_⟩, la, ld, ne⟩
  · obtain ⟨o, es, ep, f1, f2⟩ := I2.ns
    exact ⟨o, es, ep, (Heap.get?_update_ne _ _ _ _ (Ne.symm ne)).trans f1, f2⟩
  · refine (P.keep fun b o n e => ?_).append (.cons nt ((Heap.get?_update_ne _ _ _ _ ?_).trans (Heap.get?_push_size _ rfl)) .nil)
    · exact hC.get n e
    · intro q
      exact nt (q ▸ la)
end
end Mine
end
section
open PySem PySem.W PyProof.Rows PySem.Calls
open PySem.Builtin.ObjectAttr PySem.Builtin
set_option Elab.async false
set_option maxRecDepth 100000
namespace Mine

/-- the items of any sequence's object -/
noncomputable def SeqA (h : Heap) (l : Addr) (items : Array Value) : Prop := ∃ o n, h.get? l = some o ∧ o.data = .seq items n
theorem SeqA.at' {h h' : Heap} {l : Addr} {items : Array Value} (x : SeqA h l items) (k : ∀ o, h.get? l = some o → h'.get? l = some o) : SeqA h' l items := let ⟨o, n, e, d⟩ := x; ⟨o, n, k o e, d⟩

section
variable {prog : Program} {w : World} {A : Around} {E : Value → Shared → Prop} {s : Shared}
set_option maxRecDepth 1000 in
theorem next_item {it l : Addr} {i : Nat} {items : Array Value} {x : Value} {Q : Option Value → Shared → Prop} (hit : s.heap.IsListIter it l i) (hl : SeqA s.heap l items) (hx : items[i]? = some x)
    (hQ : ∀ h', h'.IsListIter it l (i + 1) → Heap.SameBut it s.heap h' → Q (some x) { s with heap := h' }) : wpAny (model prog w) A (pyNext (.ref it)) Q E s := by
  obtain ⟨o, ho, hc, hd⟩ := id hit
  obtain ⟨ol, nl, hol, hdl⟩ := hl
  unfold pyNext
  refine wpAny_bind (wpAny_attempt (wpAny_callSpecial?_slot (name := Str.ofString "__next__") hit.typeIs slot_listiter_next
    (wpAny_call_entry slot_listiter_next hit.typeIs entry_listiter_next ?_ (args_listiter_next _))))
  show wpAny _ _ (field (.ref it) 0 >>= _) _ _ s
  refine wpAny_bind (wpAny_field ho hd (x := .ref l) rfl ?_)
  show wpAny _ _ (if (Value.ref l == Value.none) = true then _ else _) _ _ s
  rw [if_neg (show ¬ ((Value.ref l == Value.none) = true) from Bool.false_ne_true)]
  show wpAny _ _ (field (.ref it) 1 >>= _) _ _ s
  refine wpAny_bind (wpAny_field ho hd (x := .int i 0) rfl ?_)
  show wpAny _ _ (seqItems? (.ref l) >>= _) _ _ s
  refine wpAny_bind (wpAny_seqItems hol hdl ?_)
  simp only [Int.toNat_natCast, hx]
  refine wpAny_bind (wpAny_setField ho hd (by simp) (wpAny_pure ⟨x, rfl, wpAny_pure (hQ _ ?_ (Heap.SameBut.update ..))⟩))
  exact ⟨_, Heap.get?_update_self _ ho (Obj.isFreed_of_fields (Obj.data_mapFields hd _)), (Obj.cls_mapFields ..).trans hc, by
    rw [Obj.data_mapFields hd]; simp [rawInt]⟩

set_option maxRecDepth 1000 in
theorem next_end {it l : Addr} {i : Nat} {items : Array Value} {Q : Option Value → Shared → Prop} (hh : A.handled = none) (hit : s.heap.IsListIter it l i) (hl : SeqA s.heap l items) (hx : items[i]? = none)
    (hQ : ∀ h', Heap.ExtBut it s.heap h' → Q none { s with heap := h' }) : wpAny (model prog w) A (pyNext (.ref it)) Q E s := by
  obtain ⟨o, ho, hc, hd⟩ := id hit
  obtain ⟨ol, nl, hol, hdl⟩ := hl
  unfold pyNext
  refine wpAny_bind (wpAny_attempt (wpAny_callSpecial?_slot (name := Str.ofString "__next__") hit.typeIs slot_listiter_next
    (wpAny_call_entry slot_listiter_next hit.typeIs entry_listiter_next ?_ (args_listiter_next _))))
  show wpAny _ _ (field (.ref it) 0 >>= _) _ _ s
  refine wpAny_bind (wpAny_field ho hd (x := .ref l) rfl ?_)
  show wpAny _ _ (if (Value.ref l == Value.none) = true then _ else _) _ _ s
  rw [if_neg (show ¬ ((Value.ref l == Value.none) = true) from Bool.false_ne_true)]
  show wpAny _ _ (field (.ref it) 1 >>= _) _ _ s
  refine wpAny_bind (wpAny_field ho hd (x := .int i 0) rfl ?_)
  show wpAny _ _ (seqItems? (.ref l) >>= _) _ _ s
  refine wpAny_bind (wpAny_seqItems hol hdl ?_)
  simp only [Int.toNat_natCast, hx]
  refine wpAny_bind (wpAny_rule (wpAny_bind (wpAny_setField ho hd (by simp) ?_)))
  show wpAny _ _ (newExc (.type "StopIteration") [] >>= _) _ _ _
  refine wpAny_bind ?_
  simp only [newExc, newTuple]
  refine wpAny_bind (wpAny_newObj_type ?_ (by size_fits))
  refine wpAny_bind (m := firstArgMember _ _) (wpAny_of_eq (a := Value.none) (by first | rfl | (simp only [firstArgMember]; rfl)) ?_)
  refine wpAny_newObj_type ?_ (by size_fits)
  simp only [raiseNew]
  refine wpAny_bind (wpAny_handled ?_)
  rw [show A.in1.handled = none from hh]
  refine wpAny_bind (wpAny_pure (wpAny_throw ?_))
  refine wpAny_bind (wpAny_isInstance (T := "StopIteration") (b := true) ⟨_, Heap.get?_push_size _ rfl, rfl⟩ isSubtype_stop ?_)
  exact wpAny_pure (hQ _ (((Heap.SameBut.update ..).extBut.push _).push _))
end

theorem walks_tuples {prog : Program} {w : World} {A : Around} (hh : A.handled = none) (I ax : Addr) (hne : ax ≠ I) (items : Array Value) (Ts : Nat → Addr) (vals : Nat → Array Value)
    (hit : ∀ j, j < items.size → items[j]? = some (.ref (Ts j))) (hTI : ∀ j, j < items.size → Ts j ≠ I) :
    WalksU prog w A I (I :: ax :: (List.range items.size).map Ts) [I] items.size (fun j v => v = vals j)
      (fun j h => h.IsListIter I ax j ∧ SeqA h ax items ∧ ∀ k, k < items.size → h.IsTuple (Ts k) (vals k))
      (fun j T h => (j < items.size ∧ T = Ts j) ∧ h.IsListIter I ax (j + 1) ∧ SeqA h ax items ∧ ∀ k, k < items.size → h.IsTuple (Ts k) (vals k)) where
  sub := fun b hb => by simp at hb; simp [hb]
  frame := fun _ _ _ st hk => ⟨st.1.at fun o e => hk I (by simp) o e, st.2.1.at' fun o e => hk ax (by simp) o e,
    fun k hk' => (st.2.2 k hk').at fun o e => hk (Ts k) (List.mem_cons_of_mem _ (List.mem_cons_of_mem _ (List.mem_map.mpr ⟨k, List.mem_range.mpr hk', rfl⟩))) o e⟩
  item := fun i s Q E hi st hQ => by
    refine next_item st.1 st.2.1 (x := .ref (Ts i)) (hit i hi) fun h' hit' hs' => ?_
    have tup : ∀ k, k < items.size → h'.IsTuple (Ts k) (vals k) := fun k hk' => (st.2.2 k hk').extBut hs'.extBut (hTI k hk')
    exact hQ (Ts i) (vals i) h' s.toks rfl (tup i hi) ⟨⟨hi, rfl⟩, hit', st.2.1.at' fun o e => (hs'.2 _ hne).trans e, tup⟩ fun b o hb e => hs'.extBut b o (fun h => hb (by simp [h])) e
  go := fun _ _ _ _ _ s Q _ hm hQ => wpAny_letOwnedTupleGo_listiter hm.2.1 (hQ s.heap hm.2 fun _ _ _ e => e)
  apart := fun j T _ hm hmem => by
    rcases List.mem_cons.mp hmem with e | e
    · exact hTI j hm.1.1 (hm.1.2 ▸ e)
    · cases e
  done := fun s Q E st hQ => next_end hh st.1 st.2.1 (by simp) fun h' he' => hQ h' s.toks fun b o hb e => he' b o (fun h => hb (by simp [h])) e
  self := fun _ _ _ _ st hQ => wpAny_pyIter_listiter st.1 hQ

/-- what a step of the page's may change -/
structure Cg (H : Heap) (L : List Addr) (s s' : Shared) : Prop where
  get : ∀ b o, b ∉ L → s.heap.get? b = some o → s'.heap.get? b = some o
  there : ∀ b o, s.heap.get? b = some o → ∃ o', s'.heap.get? b = some o'
  os : s'.os = s.os
  gens : AllBare s.gens → AllBare s'.gens
  old : OldK H s.heap → OldK H s'.heap
theorem Cg.refl {H : Heap} {L : List Addr} (s : Shared) : Cg H L s s := ⟨fun _ _ _ e => e, fun _ o e => ⟨o, e⟩, rfl, id, id⟩
theorem Cg.trans {H : Heap} {L : List Addr} {s s' s'' : Shared} (a : Cg H L s s') (b : Cg H L s' s'') : Cg H L s s'' :=
  ⟨fun x o n e => b.get x o n (a.get x o n e), fun x o e => let ⟨o', e'⟩ := a.there x o e; b.there x o' e', b.os.trans a.os, fun g => b.gens (a.gens g), fun k => b.old (a.old k)⟩
theorem Cg.keeps {H : Heap} {L : List Addr} {s s' : Shared} (k : Keeps s s') : Cg H L s s' := by
  obtain ⟨h', tk, rfl, k⟩ := k
  exact ⟨fun b o _ e => k b o e, fun b o e => ⟨o, k b o e⟩, rfl, id, fun O => O.step_keeps k⟩
theorem old_but {H h h' : Heap} {c : Addr} (O : OldK H h) (hc : H.get? c = none) (k : Sb c h h') : OldK H h' := by
  have ne : ∀ b o, H.get? b = some o → b ≠ c := fun b o e q => by rw [q, hc] at e; cases e
  refine ⟨fun b o e => ?_, fun b o e => let ⟨o', ho'⟩ := O.there b o e; ⟨o', k b o' (ne b o e) ho'⟩⟩
  rcases O.old b o e with x | ⟨t, hc', vs, more, hv, x⟩ | ⟨rfl, hc', ⟨o', es, n, ho', r⟩, z⟩
  · exact .inl (k b _ (ne b o e) x)
  · exact .inr (.inl ⟨t, hc', vs, more, hv, k b _ (ne b o e) x⟩)
  · exact .inr (.inr ⟨rfl, hc', ⟨o', es, n, k _ _ (ne _ o e) ho', r⟩, fun key => by rw [OldK.staticOf_congr ((k _ _ (ne _ o e) ho').trans ho'.symm) key]; exact z key⟩)
theorem Cg.but {H : Heap} {L : List Addr} {s : Shared} {a : Addr} {h' : Heap} {tk : Nat} (ha : a ∈ L) (hH : H.get? a = none) {o' : Obj} (e : h'.get? a = some o') (sb : Heap.SameBut a s.heap h') : Cg H L s { s with heap := h', toks := tk } :=
  ⟨fun b o n e => (sb.2 b fun q => n (q ▸ ha)).trans e, fun b o e' => by
    by_cases q : b = a
    · subst q; exact ⟨o', e⟩
    · exact ⟨o, (sb.2 b q).trans e'⟩, rfl, id, fun O => old_but O hH (Sb.of sb)⟩
theorem Cg.moved {H : Heap} {L wr : List Addr} {g : Nat} {s s' : Shared} (m : Moved wr (GenOnlyQ g) s s') (hw : ∀ b ∈ wr, s.heap.get? b = none ∨ (b ∈ L ∧ H.get? b = none)) (ht : ∀ b o, s.heap.get? b = some o → ∃ o', s'.heap.get? b = some o') : Cg H L s s' := by
  have k1 : ∀ b o, b ∉ L → s.heap.get? b = some o → s'.heap.get? b = some o := fun b o n e => m.heap b o (fun hm => by
    rcases hw b hm with h | h
    · rw [h] at e; cases e
    · exact n h.1) e
  refine ⟨k1, ht, m.os, fun g => m.gens.bare g, fun O => ?_⟩
  have kH : ∀ b o o₀, H.get? b = some o₀ → s.heap.get? b = some o → s'.heap.get? b = some o := fun b o o₀ e0 e => m.heap b o (fun hm => by
    rcases hw b hm with h | h
    · rw [h] at e; cases e
    · rw [h.2] at e0; cases e0) e
  refine ⟨fun b o e => ?_, fun b o e => let ⟨o', ho'⟩ := O.there b o e; ⟨o', kH b o' o e ho'⟩⟩
  rcases O.old b o e with x | ⟨t, hc', vs, more, hv, x⟩ | ⟨rfl, hc', ⟨o', es, n, ho', r⟩, z⟩
  · exact .inl (kH b _ o e x)
  · exact .inr (.inl ⟨t, hc', vs, more, hv, kH b _ o e x⟩)
  · exact .inr (.inr ⟨rfl, hc', ⟨o', es, n, kH _ _ o e ho', r⟩, fun key => by rw [OldK.staticOf_congr ((kH _ _ o e ho').trans ho'.symm) key]; exact z key⟩)
end Mine
end
section
open PySem PySem.W PyProof.Rows PySem.Calls
open PySem.Builtin.ObjectAttr PySem.Builtin
set_option Elab.async false
set_option maxRecDepth 100000
namespace Mine
section
variable {prog : Program} {w : World} {A : Around} {E : Value → Shared → Prop} {s : Shared} {env : Env} {K : Frag} {x C dx : Addr} {d : Data} {sl : Array (Option Value)} {m : Str → Option Value} {b : Nat} {name : Str}

theorem special_bi {id : String} {args : List Value} {Q : Option Value → Shared → Prop} (X : K.In s.heap) (I : Ins s.heap x C dx d sl m b) (hs : findIn K (.ref C) name = some (some (.builtin id))) (hb : ∀ self, bindSpecial (.builtin id) self = pure (.builtin id, [self]))
    (h : wpAny (model prog w) A (call (.builtin id) (.ref x :: args)) (fun v => Q (some v)) E s) : wpAny (model prog w) A (callSpecial? (.ref x) name args) Q E s := by
  obtain ⟨od, I', hl⟩ := I.inst
  refine wpAny_bind (wpAny_bind (I'.type.here ((looks_findIn X hs).here (wpAny_holding ?_))))
  rw [hb]
  exact wpAny_bind (wpAny_pure (wpAny_bind (wpAny_mono h (fun _ _ z => wpAny_pure z) fun _ _ z => z)))

theorem special_f {f : Addr} {args : List Value} {Q : Option Value → Shared → Prop} (X : K.In s.heap) (I : Ins s.heap x C dx d sl m b) (hs : findIn K (.ref C) name = some (some (.ref f))) (hf : typeIn K (.ref f) = some (.type "function"))
    (h : wpAny (model prog w) A (call (.ref f) (.ref x :: args)) (fun v => Q (some v)) E s) : wpAny (model prog w) A (callSpecial? (.ref x) name args) Q E s := by
  obtain ⟨od, I', hl⟩ := I.inst
  exact special_fn X I' hs hf h

/-- iter(object of a list's subclass) -/
theorem iter_acc {items : Array Value} {n : Nat} {Q : Value → Shared → Prop} (X : K.In s.heap) (I : Ins s.heap x C dx (.seq items n) sl m b) (hs : findIn K (.ref C) "__iter__" = some (some (.builtin "list.__iter__"))) (hm : mroIn K C (.type "list") = some true)
    (hQ : Q (.ref s.heap.objs.size) { s with heap := s.heap.push { cls := .type "list_iterator", data := .fields #[.ref x, .int 0 0] } }) : wpAny (model prog w) A (pyIter (.ref x)) Q E s := by
  obtain ⟨od, I', hl⟩ := I.inst
  have fcall : ∀ {A : Around} {E : Value → Shared → Prop} {R : Value → Shared → Prop}, R (.ref s.heap.objs.size) { s with heap := s.heap.push { cls := .type "list_iterator", data := .fields #[.ref x, .int 0 0] } } → wpAny (model prog w) A (call (.builtin "list.__iter__") [.ref x]) R E s := fun hR => by
    refine call_bi (.inr (by decide +kernel)) (by decide +kernel : splitId "list.__iter__" = some ("list", "__iter__")) PySem.F.slot_list_iter.plain PySem.F.entry_list_iter (ins_isInst X I hm) (PySem.F.args_list_iter_1 _) ?_
    show wpAny _ _ (do ret (← newFields "list_iterator" [.ref x, rawInt 0])) _ _ s
    exact wpAny_bind (wpAny_newObj_type (wpAny_pure ⟨_, rfl, hR⟩))
  unfold pyIter
  refine wpAny_bind (wpAny_bind (I'.type.here ((looks_findIn X hs).here ?_)))
  show wpAny _ A (callSpecialIfBoundUnlessNone? (.ref x) "__iter__" _ >>= _) Q E s
  simp only [callSpecialIfBoundUnlessNone?, bindSpecialIfBound?]
  refine wpAny_bind (wpAny_holding (wpAny_bind (wpAny_bind (wpAny_bind (I'.type.here ((looks_findIn X hs).here ?_))))))
  simp only [PySem.F.slot_list_iter.bind]
  refine wpAny_bind (wpAny_askSetting (wpAny_ite ?_))
  have fin : ∀ (refuse : Sem Value), wpAny (model prog w) A (if (Value.builtin "list.__iter__" == Value.none) = true then (refuse >>= fun v => pure (some v)) else (call (.builtin "list.__iter__") [.ref x] >>= fun v => pure (some v)))
      (fun a s' => wpAny (model prog w) A (match a with
        | some it => do
          match ← specialOf it "__next__" with
          | none => rule "iter.non-iterator"; raiseError "TypeError" s!"iter() returned non-iterator of type '{← typeNameOf it}'"
          | some _ => pure it
        | none => do
          match ← bindSpecialIfBound? (.ref x) "__getitem__" with
          | none => rule "iter.not-iterable"; raiseError "TypeError" s!"'{← typeNameOf (.ref x)}' object is not iterable"
          | some _ => rule "iter.getitem-fallback"; newFields "iterator" [.ref x, ← mkInt 0]) Q E s') E s := by
    intro refuse
    simp only [builtin_beq_none, Bool.false_eq_true, if_false]
    refine wpAny_bind (fcall (wpAny_pure ?_))
    exact wpAny_bind (wpAny_specialOf (T := "list_iterator") ⟨_, Heap.get?_push_size _ rfl, rfl⟩ slot_listiter_next.lookup (wpAny_pure hQ))
  split
  · exact wpAny_bind (wpAny_pure (wpAny_pure (fin _)))
  · exact wpAny_tryCatch (wpAny_bind (wpAny_pure (wpAny_pure (fin _))))

noncomputable def KCode (h : Heap) (c P : Addr) : Prop := ∃ ps, h.IsCode c P ps ∧ h.TableAt c P ps
theorem gcode_ok {H : Heap} {L : List Addr} {c P c0 : Addr} {ps0 : Array Value} {pos : Pos} {q : Str} {scope : Scope} {Q : Value → Shared → Prop} (hc : env.code = .ref c) (Kc : KCode s.heap c P) (T0 : H.TableAt c0 P ps0) (hP : P ≠ cStatics) (hPL : P ∈ L)
    (h : ∀ code h' tk, KCode h' c P → Cg H L s { s with heap := h', toks := tk } → Heap.ExtBut P s.heap h' → Q code { s with heap := h', toks := tk }) : wpAny (model prog w) A (genexprCode env pos q scope) Q E s := by
  obtain ⟨ps, hok, htab⟩ := Kc
  cases hf : codeAmong pos ps.toList with
  | some c' => exact wpAny_genexprCode_hit hc hok hf (h c' s.heap s.toks ⟨ps, hok, htab⟩ (Cg.refl s) (Heap.ExtBut.refl _ _))
  | none =>
    refine wpAny_genexprCodeX hc hok htab hf fun c' h' tk hx _ _ hok' _ htab' _ => h _ h' tk ⟨_, hok', htab'⟩ ⟨fun b o n e => hx b o (fun q => n (q ▸ hPL)) e, fun b o e => ?_, rfl, id, fun O => O.step_table T0 htab htab' hx hP⟩ hx
    by_cases q : b = P
    · subst q; exact ⟨_, htab'.2⟩
    · exact ⟨o, hx b o q e⟩
end
end Mine
end
section
open PySem PySem.W PyProof.Rows PySem.Calls
open PySem.Builtin.ObjectAttr PySem.Builtin
set_option Elab.async false
set_option maxRecDepth 100000
namespace Mine

theorem passing_all (n : Nat) : passing (fun _ => true) n 0 = List.range n := by
  unfold passing
  rw [List.drop_zero]
  exact List.filter_eq_self.mpr fun _ _ => rfl

theorem Cg.thenMoved {H : Heap} {L wr : List Addr} {g : Nat} {s s₅ s' : Shared} (a : Cg H L s s₅) (m : Moved wr (GenOnlyQ g) s₅ s') (hw : ∀ b ∈ wr, s.heap.get? b = none ∧ H.get? b = none) : Cg H L s s' := by
  have n1 : ∀ b o, s.heap.get? b = some o → b ∉ wr := fun b o e hm => by rw [(hw b hm).1] at e; cases e
  have n2 : ∀ b o, H.get? b = some o → b ∉ wr := fun b o e hm => by rw [(hw b hm).2] at e; cases e
  refine ⟨fun b o n e => m.heap b o (n1 b o e) (a.get b o n e), fun b o e => let ⟨o', e'⟩ := a.there b o e; ⟨o', m.heap b o' (n1 b o e) e'⟩, m.os.trans a.os, fun g => m.gens.bare (a.gens g), fun O' => ?_⟩
  have O := a.old O'
  refine ⟨fun b o e => ?_, fun b o e => let ⟨o', ho'⟩ := O.there b o e; ⟨o', m.heap b o' (n2 b o e) ho'⟩⟩
  rcases O.old b o e with x | ⟨t, hc', vs, more, hv, x⟩ | ⟨rfl, hc', ⟨o', es, n, ho', r⟩, z⟩
  · exact .inl (m.heap b _ (n2 b o e) x)
  · exact .inr (.inl ⟨t, hc', vs, more, hv, m.heap b _ (n2 b o e) x⟩)
  · exact .inr (.inr ⟨rfl, hc', ⟨o', es, n, m.heap _ _ (n2 _ o e) ho', r⟩, fun key => by rw [OldK.staticOf_congr ((m.heap _ _ (n2 _ o e) ho').trans ho'.symm) key]; exact z key⟩)

theorem walksS_imp {prog : Program} {w : World} {A : Around} {I : Addr} {fp wr : List Addr} {G : Array GenState → Array GenState → Prop} {n n' : Nat} {P P' : Nat → Value → Prop} {St : Nat → Shared → Prop} (W : WalksS prog w A I fp wr G n P St) (e : n = n') (h : ∀ j v, j < n → P j v → P' j v) : WalksS prog w A I fp wr G n' P' St := by
  subst e
  exact ⟨W.sub, W.grefl, W.gtrans, W.frame, fun i s Q E hi st hQ => W.item i s Q E hi st fun v s' hP => hQ v s' (h i v hi hP), W.done, W.self⟩

section
variable {prog : Program} {w : World} {A : Around} {s : Shared} {K : Frag} {tp : Tp}

noncomputable def scG (n : Str) : Scope := { kind := .function, names := [(".0", .local), ("fws", .local), ("part", .local), (n, .globalImplicit)], isGenerator := true, isCoroutine := false, more := [] }

/-- (elt for fws, part in self): the generator over the parts -/
theorem gen_parts {CA ac da c P c0 : Addr} {L : List Addr} {cs : List Str} {i : Int} {ps0 : Array Value} {elt : Expr} {env : Env} {pa pb pt psf pos : Pos} {kt : Nat} {gn : Str} {F : Str → Value → Prop} {Q : Value → Shared → Prop} (KF : KA K tp CA)
    (hA : A.handled = none) (dp : A.depth ≤ 900) (B : Bs tp s.heap) (S : AccS CA L s.heap ac da cs i) (hg : env.globals = mainGlobals) (hc : env.code = .ref c) (Kc : KCode s.heap c P) (T0 : tp.H.TableAt c0 P ps0) (hP : P ≠ cStatics) (hPL : P ∈ L) (hPt : P ∈ tp.tb) (hPa : P ≠ ac) (hTp : TpOk tp)
    (hclos : closureFor (scG gn) env = pure []) (hself : ∀ {Q : Value → Shared → Prop}, Q (.ref ac) s → wpAny (model prog w) A (eval (.Name "self" psf) env) Q (fun _ _ => False) s) (hsz : tp.H.objs.size ≤ s.heap.objs.size)
    (helt : ∀ (A' : Around) (E' : Value → Shared → Prop) (s' : Shared) (C : Addr) (code : Value) m t u c', A'.handled = none → Bs tp s'.heap → s'.heap.Ns C m → m "fws" = some (.str " " t) → m "part" = some (.str c' u) → c' ∈ cs →
      wpAny (model prog w) A' (eval elt (genEnv (scG gn) [] C code builtinsNs env)) (fun y s'' => F c' y ∧ Keeps s' s'') E' s')
    (hfold : ∀ x, genFold (.Name "self" psf) env x = pure x)
    (hQ : ∀ (a : Addr) (s₅ : Shared) (g : Nat) (fp wr : List Addr) (St : Nat → Shared → Prop), WalksS prog w A.in4 a fp wr (GenOnlyQ g) cs.length (fun j y => ∃ c', cs[j]? = some c' ∧ F c' y) St → St 0 s₅ → (∀ i s, St i s → s.TypeIs (.ref a) "generator") → (∀ b ∈ fp, b < s₅.heap.objs.size) → (∀ b, b < s.heap.objs.size → b ∈ fp) → a ∈ fp →
      (∀ b ∈ wr, s.heap.get? b = none ∧ tp.H.get? b = none) → Cg tp.H L s s₅ → KCode s₅.heap c P → AccS CA L s₅.heap ac da cs i → Bs tp s₅.heap → (∀ b o, b ≠ P → s.heap.get? b = some o → s₅.heap.get? b = some o) → Q (.ref a) s₅) :
    wpAny (model prog w) A (eval (.GeneratorExp elt [⟨.Tuple [.Name "fws" pa, .Name "part" pb] kt pt, .Name "self" psf, [], 0⟩] (scG gn) pos) env) Q (fun _ _ => False) s := by
  obtain ⟨⟨sl, ps, n, ti, b, I, hb, PR⟩, la, ld, ne⟩ := id S
  have X := KF.inK _ B
  have hr : recursionLimit = 1000 := rfl
  refine wpAny_GeneratorExp_walksQT hA rfl hclos (fun y hy => by
    simp only [scG, List.mem_cons, List.not_mem_nil, or_false] at hy
    rcases hy with rfl | rfl | rfl | rfl <;> simp) rfl rfl rfl (by decide) rfl (by omega) (hself (iter_acc X I KF.iter KF.islist ?_)) hfold
  have B2 := B.keep (h' := s.heap.push { cls := .type "list_iterator", data := .fields #[.ref ac, .int 0 0] }) fun b o e => Heap.get?_push_of_some _ e
  refine ⟨B2.lim, ?_⟩
  have hI : (s.heap.push { cls := .type "list_iterator", data := .fields #[.ref ac, .int 0 0] }).get? s.heap.objs.size = some { cls := .type "list_iterator", data := .fields #[.ref ac, .int 0 0] } := Heap.get?_push_size _ rfl
  have Kc2 : KCode (s.heap.push { cls := .type "list_iterator", data := .fields #[.ref ac, .int 0 0] }) c P := by
    obtain ⟨ps', h1, h2⟩ := Kc
    obtain ⟨⟨o, vs, e, r⟩, h3⟩ := h2
    exact ⟨ps', h1.push _, ⟨o, vs, Heap.get?_push_of_some _ e, r⟩, Heap.get?_push_of_some _ h3⟩
  refine gcode_ok (H := tp.H) (L := L) hc Kc2 T0 hP hPL fun code h4 tk4 Kc4 C4 E4 => ?_
  generalize hh2 : s.heap.push { cls := .type "list_iterator", data := .fields #[.ref ac, .int 0 0] } = h2 at *
  have kk2 : ∀ b o, s.heap.get? b = some o → h2.get? b = some o := fun b o e => by rw [← hh2]; exact Heap.get?_push_of_some _ e
  obtain ⟨psc, hcode, htab⟩ := Kc
  have Plt : P < s.heap.objs.size := Heap.lt_size htab.2
  have kk4 : ∀ b o, b ≠ P → s.heap.get? b = some o → h4.get? b = some o := fun b o n e => E4 b o n (kk2 b o e)
  have B4 : Bs tp h4 := hTp.bs (fun b o e n => kk4 b o (fun q => n (q ▸ hPt)) (B.base b o e n)) fun b o e => by
    obtain ⟨o', e'⟩ := B.there b o e
    exact C4.there b o' (kk2 b o' e')
  have hI4 : h4.get? s.heap.objs.size = some { cls := .type "list_iterator", data := .fields #[.ref ac, .int 0 0] } := E4 _ _ (fun q => Nat.ne_of_lt Plt q.symm) hI
  obtain ⟨bm, obm, b1, b2, b3, b4, b5, b6⟩ := KF.bm
  refine wpAny_builtinsFor (m := tp.mg) (by rw [hg]; exact B4.g) b1 b2 (KF.inK _ B4 _ _ b3) b4 b5 b6 ?_
  let Ts : Nat → Addr := fun j => match ps[j]? with | some (.ref a) => a | _ => 0
  let vals : Nat → Array Value := fun j => match s.heap.get? (Ts j) with | some ⟨_, _, .seq xs _, _⟩ => xs | _ => #[]
  have at_ : ∀ j, j < ps.length → ∃ n t u c', ps[j]? = some (.ref (Ts j)) ∧ cs[j]? = some c' ∧ Ts j ∉ L ∧ s.heap.get? (Ts j) = some { cls := .type "tuple", data := .seq #[.str " " t, .str c' u] n } ∧ vals j = #[.str " " t, .str c' u] := by
    intro j hj
    obtain ⟨a, n, t, u, c', e1, e2, e3, e4⟩ := PR.at j _ (List.getElem?_eq_getElem hj)
    have e0 : ps[j]? = some (.ref a) := by rw [List.getElem?_eq_getElem hj, e1]
    have eT : Ts j = a := by show (match ps[j]? with | some (.ref a) => a | _ => 0) = a; rw [e0]
    have eV : vals j = #[.str " " t, .str c' u] := by show (match s.heap.get? (Ts j) with | some ⟨_, _, .seq xs _, _⟩ => xs | _ => #[]) = _; rw [eT, e4]
    exact ⟨n, t, u, c', by rw [eT]; exact e0, e2, by rw [eT]; exact e3, by rw [eT]; exact e4, eV⟩
  have sz : ps.toArray.size = ps.length := List.size_toArray ..
  have TsI : ∀ j, j < ps.toArray.size → Ts j ≠ s.heap.objs.size := fun j hj => by
    obtain ⟨n, t, u, c', _, _, _, e, _⟩ := at_ j (by omega)
    exact Nat.ne_of_lt (Heap.lt_size e)
  have hac : ac ≠ s.heap.objs.size := Nat.ne_of_lt (Heap.lt_size I.at_)
  have hcst : cStatics < s.heap.objs.size := by obtain ⟨_, hn, _⟩ := B.lim; exact hn.lt
  have hHI : tp.H.get? s.heap.objs.size = none := getNone hsz
  have hst4 : h4.IsListIter s.heap.objs.size ac 0 ∧ SeqA h4 ac ps.toArray ∧ ∀ k, k < ps.toArray.size → h4.IsTuple (Ts k) (vals k) := by
    refine ⟨⟨_, hI4, rfl, rfl⟩, ⟨_, n, kk4 _ _ (Ne.symm hPa) I.at_, rfl⟩, fun k hk => ?_⟩
    obtain ⟨n', t, u, c', _, _, e3, e4, e5⟩ := at_ k (by omega)
    rw [e5]
    exact ⟨_, kk4 _ _ (fun q => e3 (q ▸ hPL)) e4, rfl, n', rfl⟩
  refine ⟨s.heap.objs.size, _, _, _, _, _, _, fun _ => true, fun j y => ∃ c', cs[j]? = some c' ∧ F c' y, rfl, fun A' hA' => (walks_tuples (A := A') hA' s.heap.objs.size ac hac ps.toArray Ts vals (fun j hj => by
      obtain ⟨n', t, u, c', e, _⟩ := at_ j (by omega)
      simpa using e) TsI).bound, ?_, hst4, ?_, B4.lim, ?_, ?_, ?_⟩
  · intro j v hv
    obtain ⟨n', t, u, c', _, _, _, _, e5⟩ := at_ j (by omega)
    exact ⟨_, _, hv.2.trans e5⟩
  · intro b hb
    rcases List.mem_cons.mp hb with rfl | hb
    · exact Heap.lt_size hI4
    · rcases List.mem_cons.mp hb with rfl | hb
      · exact Heap.lt_size (kk4 _ _ (Ne.symm hPa) I.at_)
      · obtain ⟨k, hk, rfl⟩ := List.mem_map.mp hb
        obtain ⟨n', t, u, c', _, _, e3, e4, e5⟩ := at_ k (by rw [List.mem_range] at hk; omega)
        exact Heap.lt_size (kk4 _ _ (fun q => e3 (q ▸ hPL)) e4)
  · intro hm
    rcases List.mem_cons.mp hm with hm | hm
    · exact absurd hm (Nat.ne_of_lt hcst)
    · cases hm
  · intro href hrk
    refine ⟨fun A' E' i va vb s₂ m₂ _ _ _ _ _ _ => wpAny_tests_nil ⟨rfl, kpR _⟩, fun A' E' i va vb s₂ m₂ hA' hPt _ hn ha hb' hkeep => ?_⟩
    obtain ⟨hi, hv⟩ := hPt
    obtain ⟨n', t, u, c', _, e2, _, _, e5⟩ := at_ i (by omega)
    rw [e5] at hv
    have hv1 : va = .str " " t ∧ vb = .str c' u := by simpa using hv
    obtain ⟨rfl, rfl⟩ := hv1
    have up : ∀ b o o0, tp.H.get? b = some o0 → h4.get? b = some o → s₂.heap.get? b = some o := fun b o o0 e0 e => hkeep b (List.mem_range.mpr (Heap.lt_size e)) (fun hm => by
      rcases List.mem_cons.mp hm with rfl | hm
      · rw [hHI] at e0; cases e0
      · cases hm) o (hrk b o e)
    have Bs2 : Bs tp s₂.heap := hTp.bs (fun b o e n => up b o o e (B4.base b o e n)) fun b o e => let ⟨o', e'⟩ := B4.there b o e; ⟨o', up b o' o e e'⟩
    refine wpAny_mono (helt A' E' s₂ _ _ m₂ t u c' hA' Bs2 hn ha hb' (List.mem_of_getElem? e2)) (fun y s'' q => ?_) fun _ _ e => e
    exact ⟨⟨c', e2, q.1⟩, q.2⟩
  · intro a h₅ tk gs hgs hlt hsz5 hk5 W G0
    have hlen : (passing (fun _ => true) ps.toArray.size 0).length = cs.length := by rw [passing_all, List.length_range, sz, PR.length]
    refine hQ a _ _ _ _ _ (walksS_imp W hlen fun j v hj hP => ?_) G0 (fun i s' h => by exact h.1.typeIs) ?_ ?_ (List.mem_cons_self ..) ?_ ?_ ?_ ?_ ?_ ?_
    · obtain ⟨i', e1, e2⟩ := hP
      rw [passing_all] at e1
      obtain ⟨_, e3⟩ := List.getElem?_eq_some_iff.mp e1
      rw [List.getElem_range] at e3
      subst e3
      exact e2
    · intro b hb
      have hs5 : h₅.objs.size = a + 1 := hsz5
      have hlt' : h4.objs.size < a := hlt
      have goal : b ≤ a := by
        rcases List.mem_cons.mp hb with e | hb
        · exact Nat.le_of_eq e
        · rcases List.mem_cons.mp hb with e | hb
          · have e' : b = h4.objs.size := e
            rw [e']; exact Nat.le_of_lt hlt'
          · exact Nat.le_of_lt (Nat.lt_trans (List.mem_range.mp hb) hlt')
      exact Nat.lt_of_lt_of_eq (Nat.lt_succ_of_le goal) hs5.symm
    · intro b hb
      refine List.mem_cons_of_mem _ (List.mem_cons_of_mem _ (List.mem_range.mpr ?_))
      have : s.heap.objs.size < h4.objs.size := Heap.lt_size hI4
      exact Nat.lt_trans hb this
    · intro b hb
      have l4 : s.heap.objs.size < h4.objs.size := Heap.lt_size hI4
      rcases List.mem_cons.mp hb with rfl | hb
      · exact ⟨getNone (by show s.heap.objs.size ≤ h4.objs.size; omega), getNone (by show tp.H.objs.size ≤ h4.objs.size; omega)⟩
      · rcases List.mem_cons.mp hb with rfl | hb
        · exact ⟨getNone (Nat.le_refl _), hHI⟩
        · cases hb
    · have C2 : Cg tp.H L s { s with heap := h2 } := Cg.keeps ⟨h2, s.toks, rfl, kk2⟩
      have C24 : Cg tp.H L s { s with heap := h4, toks := tk4 } := C2.trans C4
      exact ⟨fun b o n e => hk5 b o (C24.get b o n e), fun b o e => let ⟨o', e'⟩ := C24.there b o e; ⟨o', hk5 b o' e'⟩, rfl, fun g => AllBare.push g hgs, fun O => (C24.old O).step_keeps hk5⟩
    · obtain ⟨ps', p1, ⟨o, vs, e, r⟩, p3⟩ := Kc4
      exact ⟨ps', p1.keeps hk5, ⟨o, vs, hk5 _ _ e, r⟩, hk5 _ _ p3⟩
    · refine ⟨⟨sl, ps, n, ti, b, ⟨hk5 _ _ (kk4 _ _ (Ne.symm hPa) I.at_), I.no, ?_⟩, hb, PR.keep fun b' o nb e => hk5 b' o (kk4 b' o (fun q => nb (q ▸ hPL)) e)⟩, la, ld, ne⟩
      obtain ⟨o, es, ep, e1, r⟩ := I.ns
      refine ⟨o, es, ep, hk5 _ _ (kk4 _ _ (fun q => ?_) e1), r⟩
      obtain ⟨o', e'⟩ := C4.there da o (kk2 da o e1)
      have : { cls := .none, data := .fields psc } = o := Option.some.inj (htab.2.symm.trans (q ▸ e1))
      obtain ⟨r1, _⟩ := r
      rw [← this] at r1
      cases r1
    · exact B4.keep hk5
    · exact fun b' o n e => hk5 b' o (kk4 b' o n e)
end
end Mine
end
section
open PySem PySem.W PyProof.Rows PySem.Calls
open PySem.Builtin.ObjectAttr PySem.Builtin
set_option Elab.async false
set_option maxRecDepth 100000
namespace Mine
theorem args_sum2 (a b : Value) : argsOk "sum" ⟨[a, b], []⟩ := by unfold argsOk; kernel_rfl
section
variable {prog : Program} {w : World} {A : Around} {s : Shared} {K : Frag} {tp : Tp}

theorem call_sum0 {E : Value → Shared → Prop} {x : Value} {t0 : Tok} {Q : Value → Shared → Prop}
    (h : wpAny (model prog w) A.in1 (pyIter x) (fun it s₂ => ∃ I fp wr G n P St val, it = .ref I ∧ WalksS prog w A.in1 I fp wr G n P St ∧ St 0 s₂ ∧ (∀ b ∈ fp, b < s₂.heap.objs.size) ∧
      (∀ i v, P i v → ∃ t, v = .int (val i) t) ∧ ∀ s' t', Moved wr G s₂ s' → Q (.int (preSum val n) t') s') E s) :
    wpAny (model prog w) A (call (.builtin "sum") [x, .int 0 t0]) Q E s := by
  refine call_function_tree PySem.F.kind_sum PySem.F.plain_sum PySem.F.entry_sum (args_sum2 _ _) ?_
  unfold Builtin.«sum»
  simp only [List.length_cons, List.length_nil]
  rw [if_neg (by decide)]
  refine wpAny_bind (wpAny_of_eq (show Builtin.Builtins.bindParams "sum" ["start"] 0 ⟨[.int 0 t0], []⟩ = pure [some (.int 0 t0)] from rfl) ?_)
  refine wpAny_bind (wpAny_mono h (fun it s₂ h₂ => ?_) fun _ _ e => e)
  obtain ⟨I, fp, wr, G, n, P, St, val, rfl, W, hst, hfp, hval, hQ⟩ := h₂
  dsimp only
  rw [if_pos (by decide)]
  refine wpAny_bind (wpAny_bind (wpAny_rule (wpAny_pure (wpAny_bind (wpAny_mkInt (wpAny_bind (wpAny_pure ?_)))))))
  simp only [List.forIn_cons, List.forIn_nil]
  refine wpAny_bind (wpAny_pure ?_)
  refine wpAny_bind (wpAny_bind (wpAny_bind (wpAny_isInstance (T := "int") (b := false) (typeIs_int _ _ _) PySem.sub_int_str ?_)))
  simp only [Bool.false_eq_true, if_false]
  refine wpAny_pure (wpAny_bind (wpAny_bind (wpAny_isInstance (T := "int") (b := false) (typeIs_int _ _ _) sub_int_bytes ?_)))
  simp only [Bool.false_eq_true, if_false]
  refine wpAny_pure (wpAny_bind (wpAny_bind (wpAny_isInstance (T := "int") (b := false) (typeIs_int _ _ _) sub_int_bytearray ?_)))
  simp only [Bool.false_eq_true, if_false]
  refine wpAny_pure (wpAny_pure ?_)
  refine wpAny_bind (wpAny_newObj_type ?_)
  have hSf : s₂.heap.objs.size ∉ fp := fun hm => Nat.lt_irrefl _ (hfp _ hm)
  refine wpAny_pure ⟨plainId_quiet PySem.F.plain_sum_loop _, codeAny_sum_loopAnyS W val hval s₂.heap.objs.size hSf n 0 _ s₂.toks 0 0 (.inl rfl) rfl (Nat.zero_le _)
    (W.frame 0 s₂ _ _ hst (by first | exact Nat.le_refl _ | exact Nat.le_succ _ | omega) fun b _ o e => Heap.get?_push_of_some _ e) (Heap.get?_push_size _ rfl) fun s' t' hm => ?_⟩
  exact hQ s' t' (hm.drop_new (by first | exact Nat.le_refl _ | exact Nat.le_succ _ | omega))

theorem name_loc {E : Value → Shared → Prop} {env' : Env} {x : Str} {v : Value} {pos : Pos} {m : Str → Option Value} {R : Value → Shared → Prop} (hf : env'.scope.kind = .function) (hk : env'.kindOf x = some .local) (hd : (x == ("__debug__" : Str)) = false) (hn : s.heap.Ns env'.locals m) (hm : m x = some v) (q : R v s) :
    wpAny (model prog w) A (eval (.Name x pos) env') R E s := wpAny_Name (wpAny_loadName_local hf hk hn hm q) hd
theorem preSum_two (n : Nat) : preSum (fun _ => 2) n = 2 * n := by
  induction n with
  | zero => rfl
  | succ n ih => unfold preSum; rw [ih]; omega

/-- what stands round about the line under way -/
structure PgC (tp : Tp) (L : List Addr) (c P c' P' : Addr) : Prop where
  ok : TpOk tp
  tab : ∃ c0 ps0, tp.H.TableAt c0 P ps0
  tab' : ∃ c0 ps0, tp.H.TableAt c0 P' ps0
  ns : P ≠ cStatics
  ns' : P' ≠ cStatics
  inL : P ∈ L
  inL' : P' ∈ L
  inT : P ∈ tp.tb
  inT' : P' ∈ tp.tb
  ne : P ≠ P'
  len : tp.mg "len" = none ∧ tp.mb "len" = some (.builtin "len")
  sum : tp.mg "sum" = none ∧ tp.mb "sum" = some (.builtin "sum")
  str : tp.mg "str" = none ∧ tp.mb "str" = some (.type "str")
  range : tp.mg "range" = none ∧ tp.mb "range" = some (.type "range")
  emp : ∃ t, tp.mg "EMPTYSTRING" = some (.str "" t)
  acc : ∀ {x : Addr}, x ∈ L → x ≠ P → x ≠ P' → tp.H.get? x = none

/-- the state of the line under way -/
structure St (K : Frag) (tp : Tp) (CA : Addr) (L : List Addr) (c P c' P' ac da : Addr) (s : Shared) (cs : List Str) (i : Int) : Prop where
  bs : Bs tp s.heap
  acc : AccS CA L s.heap ac da cs i
  kc : KCode s.heap c P
  kc' : KCode s.heap c' P'
  sz : ∃ x, tp.H.objs.size ≤ x ∧ ∃ o, s.heap.get? x = some o
  nP : P ≠ ac
  nP' : P' ≠ ac

theorem KCode.via {h h' : Heap} {c P : Addr} (Kc : KCode h c P) (k : ∀ o, h.get? c = some o → h'.get? c = some o) (k' : ∀ o, h.get? P = some o → h'.get? P = some o) : KCode h' c P := by
  obtain ⟨ps, ⟨o, vs, file, tf, flags, tg, inF, text, tt, op, h1, h2, h3, h4, h5, h6, h7, h8, h9⟩, ⟨o2, vs2, e, r⟩, h10⟩ := Kc
  exact ⟨ps, ⟨o, vs, file, tf, flags, tg, inF, text, tt, op, k _ h1, h2, h3, h4, h5, h6, h7, k' _ h8, h9⟩, ⟨o2, vs2, k _ e, r⟩, k' _ h10⟩
theorem KCode.at {h : Heap} {c P : Addr} (Kc : KCode h c P) : (∃ o, h.get? c = some o ∧ o.cls = .type "code") ∧ ∃ vs, h.get? P = some { cls := .none, data := .fields vs } := by
  obtain ⟨ps, _, ⟨o2, vs2, e, r, _⟩, h10⟩ := Kc
  exact ⟨⟨o2, e, r⟩, ps, h10⟩

theorem len_ok {CA ac da f c P c' P' : Addr} {L : List Addr} {cs : List Str} {p1 b1 b2 b3 b4 b5 b6 b7 b8 b9 b10 b11 b12 b13 e1 e2 e3 e4 : Pos} {k : Nat} (KF : KA K tp CA) (G : PgC tp L c P c' P')
    (Fn : FnK K tp f "__len__" "_Accumulator.__len__" (psL [("self", p1)]) [.Return (some (.Call (.Name "sum" b1) [.GeneratorExp (.BinOp (.Call (.Name "len" b2) [.Name "fws" b3] [] b4) .Add (.Call (.Name "len" b5) [.Name "part" b6] [] b7) b8)
      [⟨.Tuple [.Name "fws" b9, .Name "part" b10] k b11, .Name "self" b12, [], 0⟩] (scG "len") b13, .Attribute (.Name "self" e1) "_initial_size" e2] [] e3)) e4] (scN [("self", .local), ("sum", .globalImplicit)]) [] .none (.ref c))
    (hA : A.handled = none) (dp : A.depth ≤ 800) (S : St K tp CA L c P c' P' ac da s cs 0) (hcs : cs.length ≤ 1000) (h1 : ∀ x ∈ cs, x.length = 1) {Q : Value → Shared → Prop}
    (hq : ∀ s' t, Cg tp.H L s s' → St K tp CA L c P c' P' ac da s' cs 0 → Q (.int (2 * cs.length : Nat) t) s') : wpAny (model prog w) A (call (.ref f) [.ref ac]) Q (fun _ _ => False) s := by
  obtain ⟨B, SA, Kc, Kc', hsz, nP, nP'⟩ := S
  have hsz1 : tp.H.objs.size ≤ s.heap.objs.size := let ⟨x, h1, o, h2⟩ := hsz; Nat.le_of_lt (Nat.lt_of_le_of_lt h1 (Heap.lt_size h2))
  have X := KF.inK _ B
  refine call_m Fn (by omega) B X (binds := [("self", .ref ac)]) (fun _ _ => BindsTo.of_eq rfl) (by decide) (loc1 rfl) rfl rfl rfl fun pm doc h₀ _ hn hk => ?_
  have B0 := B.keep hk
  obtain ⟨c0, ps0, T0⟩ := G.tab
  have kc : ∀ {c P : Addr}, KCode s.heap c P → KCode h₀ c P := fun ⟨ps, h1, ⟨o, vs, e, r⟩, h3⟩ => ⟨ps, h1.keeps hk, ⟨o, vs, hk _ _ e, r⟩, hk _ _ h3⟩
  have lsz : s.heap.objs.size ≤ h₀.objs.size := by obtain ⟨o, es, ep, e1, _⟩ := hn; exact Nat.le_of_lt (Heap.lt_size e1)
  refine wpAny_execs_cons (wpAny_Return_some (wpAny_Call_NameR (name_builtin (tp := tp) ⟨rfl, rfl, rfl⟩ B0 rfl G.sum.1 G.sum.2 (by decide) (PyProof.Rows.callWith_builtin1 ?_))))
  refine wpAny_items_cons ?_
  refine gen_parts (s := { s with heap := h₀, toks := s.toks + 1 }) (F := fun _ y => ∃ t, y = .int 2 t) KF hA (by show A.depth + 1 ≤ 900; omega) B0 (SA.keep hk) rfl rfl (kc Kc) T0 G.ns G.inL G.inT nP G.ok rfl (fun q => ldc rfl rfl hn (by rfl) q (by decide)) (Nat.le_trans hsz1 lsz) ?_ (fun _ => rfl) ?_
  · intro A' E' s' C code m t u c' hA' Bs' hn' m1 m2 hc'
    have hlen := h1 c' hc'
    refine wpAny_BinOp (wpAny_Call_NameR (name_builtin (tp := tp) ⟨rfl, rfl, rfl⟩ Bs' rfl G.len.1 G.len.2 (by decide) (PySem.callWith_builtin1 ?_)))
    refine name_loc rfl rfl (by decide) hn' m1 (PySem.P.len_str (by decide) ?_)
    refine wpAny_Call_NameR (name_builtin (tp := tp) ⟨rfl, rfl, rfl⟩ Bs' rfl G.len.1 G.len.2 (by decide) (PySem.callWith_builtin1 ?_))
    refine name_loc rfl rfl (by decide) hn' m2 (PySem.P.len_str (by rw [hlen]; decide) ?_)
    rw [hlen]
    refine add_int ⟨⟨_, rfl⟩, ?_⟩
    exact ⟨s'.heap, _, rfl, fun _ _ e => e⟩
  · intro a s₅ g fp wr Stg W hst hty hfp hbig hafp hwr C5 Kc5 SA5 B5 hP5
    have Plt : P < s.heap.objs.size := by obtain ⟨ps, _, _, h3⟩ := Kc; exact Heap.lt_size h3
    have hn5 : s₅.heap.Ns s.heap.objs.size _ := hn.at' fun o e => hP5 _ o (fun q => Nat.ne_of_lt Plt q.symm) e
    obtain ⟨sl, ps, n, ti, b, I5, hb, PR⟩ := SA5.ex
    refine wpAny_items_cons (Attribute_name (ldc rfl rfl hn5 (by rfl) ?_ (by decide)))
    refine ins_get (KF.inK _ B5) I5 KF.pg KF.hd KF.noInit (by rfl) (by rfl) (wpAny_items_nil ?_)
    refine call_sum0 (W.in4_1.self 0 _ _ _ (W.frame 0 s₅ s₅.heap (s₅.toks + 1) hst (Nat.le_succ _) fun _ _ _ e => e) ?_)
    refine ⟨a, fp, wr, _, _, _, Stg, fun _ => 2, rfl, W.in4_1, W.frame 0 s₅ s₅.heap (s₅.toks + 1) hst (Nat.le_succ _) fun _ _ _ e => e, hfp, fun i v h => let ⟨_, _, t, e⟩ := h; ⟨t, e⟩, fun s' t' hm => ?_⟩
    have C1 : Cg tp.H L s { s with heap := h₀, toks := s.toks + 1 } := Cg.keeps ⟨_, _, rfl, hk⟩
    have C6 : Cg tp.H L { s with heap := h₀, toks := s.toks + 1 } s' := C5.thenMoved (s₅ := s₅) ⟨hm.heap, hm.gens, hm.drawn, hm.os, Nat.le_trans (Nat.le_succ _) hm.toks⟩ hwr
    have C : Cg tp.H L s s' := C1.trans C6
    have up : ∀ b o, b ∉ wr → s₅.heap.get? b = some o → s'.heap.get? b = some o := hm.heap
    have old5 : ∀ b o, h₀.get? b = some o → b ∉ wr := fun b o e hmw => by rw [show h₀.get? b = none from (hwr b hmw).1] at e; cases e
    rw [preSum_two]
    refine hq s' t' C ⟨?_, ?_, ?_, ?_, ?_, nP, nP'⟩
    · exact G.ok.bs (fun b o e n => up b o (fun hmw => by rw [(hwr b hmw).2] at e; cases e) (B5.base b o e n)) fun b o e => let ⟨o', e'⟩ := B5.there b o e; ⟨o', up b o' (fun hmw => by rw [(hwr b hmw).2] at e; cases e) e'⟩
    · have keepL : ∀ b, b ∈ L → ∀ o, s₅.heap.get? b = some o → (∃ o', h₀.get? b = some o') → s'.heap.get? b = some o := fun b _ o e h => let ⟨o', e'⟩ := h; up b o (old5 b o' e') e
      obtain ⟨sl0, ps0', n0, t0, b0, I0, _, PR0⟩ := (SA.keep hk).ex
      obtain ⟨oda, _, _, eda, _⟩ := I0.ns
      have hac5 := up ac _ (old5 ac _ I0.at_) I5.at_
      refine ⟨⟨sl, ps, n, ti, b, ⟨hac5, I5.no, ?_⟩, hb, ?_⟩, SA.la, SA.ld, SA.ne⟩
      · obtain ⟨o, es, ep, e1', r⟩ := I5.ns
        exact ⟨o, es, ep, up da _ (old5 da _ eda) e1', r⟩
      · have : ps = ps0' := by
          have e1' := hP5 ac _ (Ne.symm nP) I0.at_
          have := Option.some.inj (e1'.symm.trans I5.at_)
          injection this with _ _ h3 _
          injection h3 with h4 _
          simpa using h4.symm
        subst this
        exact PR0.keep fun b' o nb e => C6.get b' o nb e
    · obtain ⟨⟨oc, e1', _⟩, vs, e2'⟩ := (kc Kc).at
      exact Kc5.via (fun o e => up _ _ (old5 _ _ e1') e) fun o e => up _ _ (old5 _ _ e2') e
    · obtain ⟨⟨oc, e1', ec⟩, vs, e2'⟩ := (kc Kc').at
      obtain ⟨_, vs0, e0⟩ := (kc Kc).at
      have ncP : c' ≠ P := fun q => by
        rw [q, e0] at e1'
        cases e1'
        cases ec
      exact (kc Kc').via (fun o e => up _ _ (old5 _ _ e) (hP5 _ _ ncP e)) fun o e => up _ _ (old5 _ _ e) (hP5 _ _ (Ne.symm G.ne) e)
    · obtain ⟨x, x1, o, x2⟩ := hsz
      exact ⟨x, x1, C.there x o x2⟩
end
end Mine
end
section
open PySem PySem.W PyProof.Rows PySem.Calls
open PySem.Builtin.ObjectAttr PySem.Builtin
set_option Elab.async false
set_option maxRecDepth 100000
namespace Mine
section
variable {prog : Program} {w : World} {A : Around} {s : Shared} {K : Frag} {tp : Tp}

theorem join_tup {E : Value → Shared → Prop} {x : Str} {t : Tok} {D : Addr} {n : Nat} {l : List (Str × Tok)} {Q : Value → Shared → Prop} (ho : s.heap.get? D = some { cls := .type "tuple", data := .seq (strValues l).toArray n }) (hok : JoinOk x (l.map (·.1)) = true)
    (hq : ∀ t' k, Q (.str (Txt.join x (l.map (·.1))) t') { s with toks := k }) : wpAny (model prog w) A (call (.builtin "str.join") [.str x t, .ref D]) Q E s := by
  unfold JoinOk at hok
  rw [Bool.not_eq_true'] at hok
  exact call_meets PySem.F.slot_str_join (typeIs_str _ _ _) PySem.F.entry_str_join (PySem.F.args_str_join_2 _ _) (meets_str_join_tuple x t D l hok) ⟨⟨_, n, ho, rfl, rfl⟩, post_join l ⟨joinFit_length hok, hq⟩⟩

noncomputable def partT (c : Str) : Str := Txt.join "" [" ", c]
noncomputable def lineT (cs : List Str) : Str := Txt.join "" (cs.map partT)

theorem PgC.swap {L : List Addr} {c P c' P' : Addr} (G : PgC tp L c P c' P') : PgC tp L c' P' c P :=
  ⟨G.ok, G.tab', G.tab, G.ns', G.ns, G.inL', G.inL, G.inT', G.inT, G.ne.symm, G.len, G.sum, G.str, G.range, G.emp, fun h n n' => G.acc h n' n⟩
theorem St.swap {CA : Addr} {L : List Addr} {c P c' P' ac da : Addr} {cs : List Str} {i : Int} (S : St K tp CA L c P c' P' ac da s cs i) : St K tp CA L c' P' c P ac da s cs i := ⟨S.bs, S.acc, S.kc', S.kc, S.sz, S.nP', S.nP⟩

/-- behind a walk through the generator -/
theorem st_after {CA ac da c P c' P' : Addr} {L wr : List Addr} {cs : List Str} {h₀ : Heap} {tk g : Nat} {s₅ s' : Shared} (G : PgC tp L c P c' P') (S : St K tp CA L c P c' P' ac da s cs 0) (hk : ∀ b o, s.heap.get? b = some o → h₀.get? b = some o)
    (C5 : Cg tp.H L { s with heap := h₀, toks := tk } s₅) (Kc5 : KCode s₅.heap c P) (SA5 : AccS CA L s₅.heap ac da cs 0) (B5 : Bs tp s₅.heap) (hP5 : ∀ b o, b ≠ P → h₀.get? b = some o → s₅.heap.get? b = some o)
    (hwr : ∀ b ∈ wr, h₀.get? b = none ∧ tp.H.get? b = none) (hm : Moved wr (GenOnlyQ g) s₅ s') : Cg tp.H L s s' ∧ St K tp CA L c P c' P' ac da s' cs 0 := by
  obtain ⟨B, SA, Kc, Kc', hsz, nP, nP'⟩ := S
  have kc : ∀ {c P : Addr}, KCode s.heap c P → KCode h₀ c P := fun ⟨ps, h1, ⟨o, vs, e, r⟩, h3⟩ => ⟨ps, h1.keeps hk, ⟨o, vs, hk _ _ e, r⟩, hk _ _ h3⟩
  obtain ⟨sl, ps, n, ti, b, I5, hb, PR⟩ := SA5.ex
  have C1 : Cg tp.H L s { s with heap := h₀, toks := tk } := Cg.keeps ⟨_, _, rfl, hk⟩
  have C6 : Cg tp.H L { s with heap := h₀, toks := tk } s' := C5.thenMoved (s₅ := s₅) hm hwr
  have C : Cg tp.H L s s' := C1.trans C6
  have up : ∀ b o, b ∉ wr → s₅.heap.get? b = some o → s'.heap.get? b = some o := hm.heap
  have old5 : ∀ b o, h₀.get? b = some o → b ∉ wr := fun b o e hmw => by rw [show h₀.get? b = none from (hwr b hmw).1] at e; cases e
  refine ⟨C, ?_, ?_, ?_, ?_, ?_, nP, nP'⟩
  · exact G.ok.bs (fun b o e n => up b o (fun hmw => by rw [(hwr b hmw).2] at e; cases e) (B5.base b o e n)) fun b o e => let ⟨o', e'⟩ := B5.there b o e; ⟨o', up b o' (fun hmw => by rw [(hwr b hmw).2] at e; cases e) e'⟩
  · obtain ⟨sl0, ps0', n0, t0, b0, I0, _, PR0⟩ := (SA.keep hk).ex
    obtain ⟨oda, _, _, eda, _⟩ := I0.ns
    have hac5 := up ac _ (old5 ac _ I0.at_) I5.at_
    refine ⟨⟨sl, ps, n, ti, b, ⟨hac5, I5.no, ?_⟩, hb, ?_⟩, SA.la, SA.ld, SA.ne⟩
    · obtain ⟨o, es, ep, e1', r⟩ := I5.ns
      exact ⟨o, es, ep, up da _ (old5 da _ eda) e1', r⟩
    · have : ps = ps0' := by
        have e1' := hP5 ac _ (Ne.symm nP) I0.at_
        have := Option.some.inj (e1'.symm.trans I5.at_)
        injection this with _ _ h3 _
        injection h3 with h4 _
        simpa using h4.symm
      subst this
      exact PR0.keep fun b' o nb e => C6.get b' o nb e
  · obtain ⟨⟨oc, e1', _⟩, vs, e2'⟩ := (kc Kc).at
    exact Kc5.via (fun o e => up _ _ (old5 _ _ e1') e) fun o e => up _ _ (old5 _ _ e2') e
  · obtain ⟨⟨oc, e1', ec⟩, vs, e2'⟩ := (kc Kc').at
    obtain ⟨_, vs0, e0⟩ := (kc Kc).at
    have ncP : c' ≠ P := fun q => by
      rw [q, e0] at e1'
      cases e1'
      cases ec
    exact (kc Kc').via (fun o e => up _ _ (old5 _ _ e) (hP5 _ _ ncP e)) fun o e => up _ _ (old5 _ _ e) (hP5 _ _ (Ne.symm G.ne) e)
  · obtain ⟨x, x1, o, x2⟩ := hsz
    exact ⟨x, x1, C.there x o x2⟩

theorem pstr_ok {CA ac da f c P c' P' : Addr} {L : List Addr} {cs : List Str} {p1 b1 b2 b3 b4 b5 b6 b7 b8 b9 b10 b11 d1 d2 d3 d4 : Pos} {k k' : Nat} (KF : KA K tp CA) (G : PgC tp L c P c' P') (l1 : (d1.endLine == d2.line) = true) (l2 : (d3.endLine == d4.line) = true)
    (Fn : FnK K tp f "__str__" "_Accumulator.__str__" (psL [("self", p1)]) [.Return (some (.Call (.Attribute (.Name "EMPTYSTRING" b1) "join" d1) [.GeneratorExp (.Call (.Attribute (.Name "EMPTYSTRING" b2) "join" d3) [.Tuple [.Name "fws" b3, .Name "part" b4] k' b5] [] d4)
      [⟨.Tuple [.Name "fws" b6, .Name "part" b7] k b8, .Name "self" b9, [], 0⟩] (scG "EMPTYSTRING") b10] [] d2)) b11] (scN [("self", .local), ("EMPTYSTRING", .globalImplicit)]) [] .none (.ref c))
    (hA : A.handled = none) (dp : A.depth ≤ 800) (S : St K tp CA L c P c' P' ac da s cs 0) (hcs : cs.length ≤ 1000) (h1 : ∀ x ∈ cs, JoinOk "" [" ", x] = true) (h2 : JoinOk "" (cs.map partT) = true) {Q : Value → Shared → Prop}
    (hq : ∀ s' t, Cg tp.H L s s' → St K tp CA L c P c' P' ac da s' cs 0 → Q (.str (lineT cs) t) s') : wpAny (model prog w) A (call (.ref f) [.ref ac]) Q (fun _ _ => False) s := by
  have S0 := S
  obtain ⟨B, SA, Kc, Kc', hsz, nP, nP'⟩ := S
  have hsz1 : tp.H.objs.size ≤ s.heap.objs.size := let ⟨x, h1, o, h2⟩ := hsz; Nat.le_of_lt (Nat.lt_of_le_of_lt h1 (Heap.lt_size h2))
  have X := KF.inK _ B
  obtain ⟨te, hem⟩ := G.emp
  refine call_m Fn (by omega) B X (binds := [("self", .ref ac)]) (fun _ _ => BindsTo.of_eq rfl) (by decide) (loc1 rfl) rfl rfl rfl fun pm doc h₀ _ hn hk => ?_
  have B0 := B.keep hk
  obtain ⟨c0, ps0, T0⟩ := G.tab
  have kc : ∀ {c P : Addr}, KCode s.heap c P → KCode h₀ c P := fun ⟨ps, h1, ⟨o, vs, e, r⟩, h3⟩ => ⟨ps, h1.keeps hk, ⟨o, vs, hk _ _ e, r⟩, hk _ _ h3⟩
  have lsz : s.heap.objs.size ≤ h₀.objs.size := by obtain ⟨o, es, ep, e1, _⟩ := hn; exact Nat.le_of_lt (Heap.lt_size e1)
  refine wpAny_execs_cons (wpAny_Return_some ?_)
  refine wpAny_Call_method (T := "str") rfl rfl l1 F.plainAttrs_str PySem.F.slot_str_join F.type_str_join (name_global (tp := tp) ⟨rfl, rfl, rfl⟩ B0 rfl hem (by decide) ?_)
  refine ⟨typeIs_str _ _ _, (fun a e => nomatch e), callWith_method1 ?_⟩
  refine wpAny_items_cons ?_
  refine gen_parts (s := { s with heap := h₀, toks := s.toks + 1 }) (F := fun x y => ∃ t, y = .str (partT x) t) KF hA (by show A.depth + 1 ≤ 900; omega) B0 (SA.keep hk) rfl rfl (kc Kc) T0 G.ns G.inL G.inT nP G.ok rfl (fun q => ldc rfl rfl hn (by rfl) q (by decide)) (Nat.le_trans hsz1 lsz) ?_ (fun _ => rfl) ?_
  · intro A' E' s' C code m t u x hA' Bs' hn' m1 m2 hc'
    refine wpAny_Call_method (T := "str") rfl rfl l2 F.plainAttrs_str PySem.F.slot_str_join F.type_str_join (name_global (tp := tp) ⟨rfl, rfl, rfl⟩ Bs' rfl hem (by decide) ?_)
    refine ⟨typeIs_str _ _ _, (fun a e => nomatch e), callWith_method1 ?_⟩
    refine wpAny_items_cons (wpAny_Tuple (wpAny_items_cons (name_loc rfl rfl (by decide) hn' m1 (wpAny_items_cons (name_loc rfl rfl (by decide) hn' m2 (wpAny_items_nil ?_))))))
    refine ⟨by show 2 ≤ sizeLine; have := line_big; omega, wpAny_items_nil ?_⟩
    refine join_tup (s := { s' with heap := s'.heap.push { cls := .type "tuple", data := .seq #[.str " " t, .str x u] } }) (l := [(" ", t), (x, u)]) (Heap.get?_push_size _ rfl) (h1 x hc') fun t' k => ⟨⟨t', rfl⟩, kpPush⟩
  · intro a s₅ g fp wr Stg W hst hty hfp hbig hafp hwr C5 Kc5 SA5 B5 hP5
    refine wpAny_items_nil ?_
    refine SC.joinGen W.in4_2 hty hst hfp hafp (fun i v h => let ⟨_, _, t, e⟩ := h; ⟨_, t, e⟩) (fun s' l hm hit => ?_) (Nat.le_trans hcs (by decide))
    have hl : l.map (·.1) = cs.map partT := by
      obtain ⟨hz, hat⟩ := hit
      have hz' : l.length = cs.length := by simpa [strValues] using hz
      refine List.ext_getElem? fun j => ?_
      rw [List.getElem?_map, List.getElem?_map]
      cases e : l[j]? with
      | none =>
        have : cs[j]? = none := by
          rw [List.getElem?_eq_none_iff] at e ⊢
          omega
        rw [this]; rfl
      | some p =>
        obtain ⟨x, e1, t, e2⟩ := hat j (.str p.1 p.2) (by simp [strValues, e])
        rw [e1]
        injection e2 with e3 _
        rw [Option.map_some, Option.map_some, e3]
    rw [hl]
    refine ⟨h2, fun t' k => ?_⟩
    obtain ⟨C, S'⟩ := st_after G S0 hk C5 Kc5 SA5 B5 hP5 hwr hm
    have kp : Keeps s' { s' with toks := k } := kpTok
    exact hq _ t' (C.trans (Cg.keeps kp)) ⟨S'.bs, S'.acc, S'.kc, S'.kc', S'.sz, S'.nP, S'.nP'⟩
end
end Mine
end
section
open PySem PySem.W PyProof.Rows PySem.Calls
open PySem.Builtin.ObjectAttr PySem.Builtin
set_option Elab.async false
set_option maxRecDepth 100000
namespace Mine
theorem slot_md_get : Slot "method_descriptor" "__get__" "method_descriptor.__get__" :=
  .of (owner := "method_descriptor") (n := "__get__") (by rw [typeLookup_type, builtinLookup_eq_fast]; kernel_rfl) (by decide +kernel) (by decide +kernel) (by decide +kernel)
    (by first | exact .inl (by decide +kernel) | exact .inr (by decide +kernel)) (by rw [isSubtype_type]; kernel_rfl)
theorem entry_md_get : entryFor table "method_descriptor.__get__" = some Builtin.«method_descriptor.__get__» := entryFor_of_tree (by kernel_rfl)
theorem args_md_get (a b c : Value) : argsOk "method_descriptor.__get__" ⟨[a, b, c], []⟩ := by unfold argsOk; kernel_rfl
theorem told_pop : Manifest.toldItsClass.contains "list.pop" = false := by decide +kernel
theorem ty_list_len : typeOf (.builtin "list.__len__") = pure (.type "wrapper_descriptor") := by kernel_rfl
theorem ty_list_init : typeOf (.builtin "list.__init__") = pure (.type "wrapper_descriptor") := by kernel_rfl
theorem ty_list_pop : typeOf (.builtin "list.pop") = pure (.type "method_descriptor") := by kernel_rfl
section
variable {prog : Program} {w : World} {A : Around} {E : Value → Shared → Prop} {h : Heap} {g : Array GenState} {d : Drawn} {t : Nat} {os : OsState} {x tpa : Addr}

theorem wd_bind {Q : Value → Shared → Prop} {n : String} (hn : n = "list.__len__" ∨ n = "list.__init__") (hi : Looks (model prog w) h (isInstance (.ref x) (.type "list")) true)
    (hq : Q (.ref h.objs.size) ⟨h.push { cls := .type "method-wrapper", data := .fields #[.builtin n, .ref x] }, g, d, t, os⟩) : wpAny (model prog w) A (call (.builtin "wrapper_descriptor.__get__") [.builtin n, .ref x, .ref tpa]) Q E ⟨h, g, d, t, os⟩ := by
  have hT : (⟨h, g, d, t, os⟩ : Shared).TypeIs (.builtin n) "wrapper_descriptor" := by
    rcases hn with rfl | rfl
    · exact ty_list_len
    · exact ty_list_init
  have e : (".".intercalate (n.cutAt '.').dropLast) = "list" := by rcases hn with rfl | rfl <;> decide +kernel
  rw [← e] at hi
  refine wpAny_call_entry slot_wd_get hT entry_wd_get ?_ (args_wd_get _ _ _)
  unfold Builtin.«wrapper_descriptor.__get__»
  repeat (any_goals (first | assumption | (with_reducible refine Looks.at hi ?_) | wp_step))
  exact ⟨_, rfl, hq⟩

theorem md_bind {Q : Value → Shared → Prop} (hi : Looks (model prog w) h (isInstance (.ref x) (.type "list")) true)
    (hq : Q (.ref h.objs.size) ⟨h.push { cls := .type "builtin_function_or_method", data := .fields #[.builtin "list.pop", .ref x] }, g, d, t, os⟩) : wpAny (model prog w) A (call (.builtin "method_descriptor.__get__") [.builtin "list.pop", .ref x, .ref tpa]) Q E ⟨h, g, d, t, os⟩ := by
  have hT : (⟨h, g, d, t, os⟩ : Shared).TypeIs (.builtin "list.pop") "method_descriptor" := ty_list_pop
  have e : (".".intercalate ("list.pop".cutAt '.').dropLast) = "list" := by decide +kernel
  rw [← e] at hi
  refine wpAny_call_entry slot_md_get hT entry_md_get ?_ (args_md_get _ _ _)
  unfold Builtin.«method_descriptor.__get__»
  iterate 6 (first | (simp only [told_pop, Bool.false_eq_true, if_false]) | wp_step)
  refine wpAny_pure ?_
  have e3 : ∀ y : Addr, (if (Value.ref y == Value.none) = true then none else some (Value.ref y)) = some (Value.ref y) := fun _ => rfl
  simp only [e3]
  rw [if_neg (by simp)]
  refine wpAny_pure ?_
  dsimp only
  rw [told_pop, if_neg (by decide)]
  repeat (any_goals (first | assumption | (with_reducible refine Looks.at hi ?_) | wp_step))
  exact ⟨_, rfl, hq⟩

/-- super's attribute: a builtin of the base, bound -/
theorem super_ga_b {so D C : Addr} {T gid bt id : String} {l₀ l : List Value} {K : Frag} {name : Str} {tk : Tok} {Q : Fin → Shared → Prop}
    (hso : h.get? so = some { cls := .type "super", dict := none, data := .fields #[.ref D, .ref x, .ref C], slots := #[] }) (hno : Looks (model prog w) h (opaqueClassAbove (.ref C)) none)
    (hC : Looks (model prog w) h (mroOf (.ref C)) l₀) (hl : (l₀.dropWhile (· != .ref D)).drop 1 = l) (X : K.In h)
    (hf : alongIn K name l = some (some (.builtin id))) (hty : typeOf (.builtin id) = pure (.type T)) (hlk : typeLookup (.type T) "__get__" = pure (some (.builtin gid))) (hxC : x ≠ C) (hn : (name == ("__class__" : Str)) = false)
    (hb : ∀ {A : Around} {E : Value → Shared → Prop} {R : Value → Shared → Prop}, R (.ref h.objs.size) ⟨h.push { cls := .type bt, data := .fields #[.builtin id, .ref x] }, g, d, t, os⟩ → wpAny (model prog w) A (call (.builtin gid) [.builtin id, .ref x, .ref C]) R E ⟨h, g, d, t, os⟩)
    (hq : Q (.done (.ret (.ref h.objs.size))) ⟨h.push { cls := .type bt, data := .fields #[.builtin id, .ref x] }, g, d, t, os⟩) :
    wpAny (model prog w) A (Builtin.«super.__getattribute__» ⟨[.ref so, .str name tk], []⟩) Q E ⟨h, g, d, t, os⟩ := by
  have hne : (Value.ref x == Value.ref C) = false := by simp [hxC]
  have hTf : (⟨h, g, d, t, os⟩ : Shared).TypeIs (.builtin id) T := hty
  have hdt : ({ cls := .type "super", dict := none, data := .fields #[.ref D, .ref x, .ref C], slots := #[] } : Obj).data = .fields #[.ref D, .ref x, .ref C] := rfl
  have f0 : (#[.ref D, .ref x, .ref C] : Array Value)[0]? = some (.ref D) := rfl
  have f1 : (#[.ref D, .ref x, .ref C] : Array Value)[1]? = some (.ref x) := rfl
  have f2 : (#[.ref D, .ref x, .ref C] : Array Value)[2]? = some (.ref C) := rfl
  unfold Builtin.«super.__getattribute__»
  repeat (first
    | (with_reducible refine wpAny_field hso hdt f0 ?_) | (with_reducible refine wpAny_field hso hdt f1 ?_) | (with_reducible refine wpAny_field hso hdt f2 ?_)
    | (with_reducible refine ks_wpAny_notOpaque hno ?_)
    | (with_reducible refine Looks.at hC ?_; rw [hl])
    | (refine ks_forIn_along X (fun _ _ => rfl) rfl ?_ hf)
    | (with_reducible refine wpAny_typeOf hTf ?_)
    | (with_reducible refine hb ?_)
    | (simp only [hn, hne, Bool.or_false, Bool.false_eq_true, if_false])
    | wp_step
    | dsimp only)
  all_goals exact hq
end
end Mine
end
section
open PySem PySem.W PyProof.Rows PySem.Calls
open PySem.Builtin.ObjectAttr PySem.Builtin
set_option Elab.async false
set_option maxRecDepth 100000
namespace Mine
section
variable {prog : Program} {w : World} {A : Around} {E : Value → Shared → Prop} {h : Heap} {g : Array GenState} {d : Drawn} {t : Nat} {os : OsState} {x : Addr}

theorem getMethod_super_b {so D C : Addr} {T gid bt id : String} {l₀ l : List Value} {K : Frag} {name : Str} {pl : Sem Bool} {Q : Value × List Value → Shared → Prop}
    (hso : h.get? so = some { cls := .type "super", dict := none, data := .fields #[.ref D, .ref x, .ref C], slots := #[] }) (hno : Looks (model prog w) h (opaqueClassAbove (.ref C)) none)
    (hC : Looks (model prog w) h (mroOf (.ref C)) l₀) (hl : (l₀.dropWhile (· != .ref D)).drop 1 = l) (X : K.In h)
    (hf : alongIn K name l = some (some (.builtin id))) (hty : typeOf (.builtin id) = pure (.type T)) (hlk : typeLookup (.type T) "__get__" = pure (some (.builtin gid))) (hxC : x ≠ C) (hn : (name == ("__class__" : Str)) = false)
    (hb : ∀ {t : Nat} {A : Around} {E : Value → Shared → Prop} {R : Value → Shared → Prop}, R (.ref h.objs.size) ⟨h.push { cls := .type bt, data := .fields #[.builtin id, .ref x] }, g, d, t, os⟩ → wpAny (model prog w) A (call (.builtin gid) [.builtin id, .ref x, .ref C]) R E ⟨h, g, d, t, os⟩)
    (hq : Q (.ref h.objs.size, []) ⟨h.push { cls := .type bt, data := .fields #[.builtin id, .ref x] }, g, d, t + 1, os⟩) :
    wpAny (model prog w) A (getMethod (.ref so) name pl) Q E ⟨h, g, d, t, os⟩ := by
  have hlk' := PySem.F.ks_slot_super_ga.lookup
  have hcan := PySem.F.ks_canon_super_ga
  have hT : ∀ t', (⟨h, g, d, t', os⟩ : Shared).TypeIs (.ref so) "super" := fun _ => ⟨_, hso, rfl⟩
  unfold getMethod
  refine wpAny_bind (wpAny_specialOf (hT _) hlk' ?_)
  show wpAny _ _ (if (Manifest.canonical "super.__getattribute__" != "object.__getattribute__") = true then _ else _) _ _ _
  rw [if_pos hcan]
  unfold getAttr getAttrBy
  refine wpAny_bind (wpAny_bind (wpAny_mkText (wpAny_holding (wpAny_bind (wpAny_typeOf (hT _) (wpAny_bind (wpAny_of_eq hlk' ?_)))))))
  show wpAny _ _ (getAttrByItsOwn (.ref so) (.str name t) (.type "super") (.builtin "super.__getattribute__") true false) _ _ _
  unfold getAttrByItsOwn hookBefore callGetattribute boundAndCalled
  refine wpAny_bind (wpAny_of_eq (show (if onTheHeap (.type "super") then typeLookup (.type "super") "__getattr__" else pure none) = pure none from rfl) ?_)
  refine wpAny_bind (wpAny_attempt (wpAny_holding ?_))
  show wpAny _ _ (bindSpecial (.builtin "super.__getattribute__") (.ref so) >>= _) _ _ _
  refine wpAny_bind (wpAny_of_eq (PySem.F.ks_slot_super_ga.bind _) ?_)
  refine wpAny_mono (Q := fun v s' => v = .ref h.objs.size ∧ s' = ⟨h.push { cls := .type bt, data := .fields #[.builtin id, .ref x] }, g, d, t + 1, os⟩) (E := fun _ _ => False)
    (wpAny_call_entry PySem.F.ks_slot_super_ga (hT _) PySem.F.ks_entry_super_ga (super_ga_b hso hno hC hl X hf hty hlk hxC hn hb ⟨_, rfl, rfl, rfl⟩) (PySem.F.ks_gaArgs_super _ _)) (fun v s' hv => ?_) fun _ _ z => z.elim
  obtain ⟨rfl, rfl⟩ := hv
  exact wpAny_pure (wpAny_pure hq)
end
section
variable {prog : Program} {w : World} {A : Around} {E : Value → Shared → Prop} {s : Shared} {env : Env}

/-- a bound builtin is called -/
theorem call_bd {bt id : String} {q : Addr} {x : Value} {rest : List Value} {B : Builtin} {Q : Value → Shared → Prop} (ho : s.heap.get? q = some { cls := .type bt, data := .fields #[.builtin id, x] }) (hbt : bt = "builtin_function_or_method" ∨ bt = "method-wrapper")
    (hck : ∀ {A : Around} {E : Value → Shared → Prop} {R : Unit → Shared → Prop}, R () s → wpAny (model prog w) A (checkBoundCall id ⟨x :: rest, []⟩) R E s) (he : entryFor table id = some B) (hp : plainId id = true)
    (h : wpAny (model prog w) A.in1 (B ⟨x :: rest, []⟩) (fun fin s' => ∃ v, fin = .done (.ret v) ∧ Q v s') E s) : wpAny (model prog w) A (call (.ref q) rest) Q E s := by
  refine wpAny_call (codeAny_of_tree ?_)
  show wpAny _ _ (callAny (.ref q) _) _ _ _
  unfold callAny
  refine wpAny_bind (wpAny_load ho ?_)
  dsimp only
  have e : (Value.type bt == Value.type "method" || Value.type bt == Value.type "builtin_function_or_method" || Value.type bt == Value.type "method-wrapper") = true := by rcases hbt with rfl | rfl <;> rfl
  have e2 : (Value.type bt != Value.type "method") = true := by rcases hbt with rfl | rfl <;> rfl
  rw [e, if_pos rfl, e2]
  show wpAny _ _ (checkBoundCall id ⟨x :: rest, []⟩ >>= fun _ => again (.builtin id ⟨x :: rest, []⟩)) _ _ _
  refine wpAny_bind (hck ?_)
  refine wpAny_pure ⟨plainId_quiet hp _, ?_⟩
  refine codeAny_builtin he ?_
  rw [Around.under_plainId hp]
  refine wpAny_mono h (fun fin s' z => ?_) fun _ _ e => e
  obtain ⟨v, rfl, q⟩ := z
  exact q

theorem keeps_b {bt id : String} {q : Addr} {x : Value} (hbt : bt = "builtin_function_or_method" ∨ bt = "method-wrapper") (h : Heap) (ho : h.get? q = some { cls := .type bt, data := .fields #[.builtin id, x] }) :
    ∃ k, (k = Keeper.frame ∨ k = Keeper.machine ∨ k = Keeper.boundFrame) ∧ Looks (model prog w) h (keeperOf (.ref q)) k := by
  refine ⟨.machine, .inr (.inl rfl), ?_⟩
  intro A Q E s k hq
  unfold keeperOf
  refine wpAny_bind (wpAny_load (k _ _ ho) ?_)
  rcases hbt with rfl | rfl
  · exact wpAny_pure hq
  · exact wpAny_pure hq

theorem callWith_b0 {bt id : String} {q : Addr} {x : Value} {pos : Pos} {Q : Value → Shared → Prop} (hbt : bt = "builtin_function_or_method" ∨ bt = "method-wrapper") (ho : s.heap.get? q = some { cls := .type bt, data := .fields #[.builtin id, x] })
    (h : wpAny (model prog w) A (call (.ref q) []) Q E s) : wpAny (model prog w) A (callWith pos (.ref q) [] (backTo pos (starEach [] env)) []) Q E s :=
  callWith_of (P := fun h => h.get? q = some { cls := .type bt, data := .fields #[.builtin id, x] }) rfl (keeps_b hbt) (evalArgs_nil3 ⟨ho, h⟩)
end
end Mine
end
section
open PySem PySem.W PyProof.Rows PySem.Calls
open PySem.Builtin.ObjectAttr PySem.Builtin
set_option Elab.async false
set_option maxRecDepth 100000
namespace Mine

structure SupK (prog : Program) (K : Frag) (tp : Tp) (CA cc : Addr) (cdA : ClassData) : Prop where
  cell : ∃ o, K.lookup cc = some o ∧ o.data = .cell (some (.ref CA))
  cls : clsIn K CA = some cdA
  sub : mroIn K CA (.ref CA) = some true
  mg : tp.mg "super" = none
  mb : tp.mb "super" = some (.type "super")
  opq : nsIn K cStatics "thirdparty.any" = some none
  top : (prog.main.scope.names.lookup ("super" : Str)).isSome = false
  alen : alongIn K "__len__" ((cdA.mro.dropWhile (· != .ref CA)).drop 1) = some (some (.builtin "list.__len__"))
  apop : alongIn K "pop" ((cdA.mro.dropWhile (· != .ref CA)).drop 1) = some (some (.builtin "list.pop"))
  ainit : alongIn K "__init__" ((cdA.mro.dropWhile (· != .ref CA)).drop 1) = some (some (.builtin "list.__init__"))
/-- the code object's file is the text's own -/
noncomputable def CodeFile (prog : Program) (K : Frag) (cd : Addr) : Prop := ∃ o vs file tf, K.lookup cd = some o ∧ o.data = .fields vs ∧ vs[2]? = some (.str file tf) ∧ ((prog.main.file : Str) == file) = true

section
variable {prog : Program} {w : World} {A : Around} {s : Shared} {env : Env} {K : Frag} {tp : Tp} {c : Code}

theorem call_ms {f : Addr} {n q : Str} {params : Arguments} {body : List Stmt} {scope : Scope} {cl : List (Str × Addr)} {dV cd : Value} {vals : List Value} {binds : List (Str × Value)} {Q : Value → Shared → Prop} (F : FnK K tp f n q params body scope cl dV cd) (dp : A.depth ≤ 900) (B : Bs tp s.heap) (X : K.In s.heap)
    (hbind : ∀ pm doc, BindsTo s (mdef n q params body scope cl dV pm cd doc) ⟨vals, []⟩ binds) (hcell : ∀ x ∈ scope.names, x.2 ≠ .cell) (hloc : ∀ x ∈ binds, scope.names.lookup x.1 = some .local) (hco : scope.isCoroutine = false) (hgen : scope.isGenerator = false) (hk : scope.kind = .function)
    (h : ∀ pm doc h₀, (∃ o, s.heap.get? f = some o ∧ o.data = .func (mdef n q params body scope cl dV pm cd doc)) → h₀.Ns s.heap.objs.size (fun x => binds.reverse.lookup x) → (∀ b o, s.heap.get? b = some o → h₀.get? b = some o) →
      PySem.wpAt (model prog w) (A.deeper (callEnv (mdef n q params body scope cl dV pm cd doc) s.heap.objs.size f)) (.func body (callEnv (mdef n q params body scope cl dV pm cd doc) s.heap.objs.size f)) (execs body (callEnv (mdef n q params body scope cl dV pm cd doc) s.heap.objs.size f))
        (fun fl s' => Q (match fl with | .ret v => v | _ => .none) s') (fun _ _ => False) { s with heap := h₀, toks := s.toks + binds.length }) :
    wpAny (model prog w) A (call (.ref f) vals) Q (fun _ _ => False) s := by
  obtain ⟨_, o, pm, doc, h1, h2, h3⟩ := F
  have hr : recursionLimit = 1000 := rfl
  refine wpAny_call (ks_codeAny_call_defAt (by omega) (X _ _ h1) h2 B.lim (h3 _ B) rfl (hbind pm doc) hcell hloc (fun h₀ hn hk' => ?_) hco hgen hk)
  exact ks_wpAt_mono (h pm doc h₀ ⟨o, X _ _ h1, h2⟩ hn hk') (fun _ _ q => q) fun _ _ e => e.elim

theorem wpAt_Call_G {o : Expr} {name : Str} {apos pos : Pos} {args : List Expr} {Q : Value → Shared → Prop} {E : Value → Shared → Prop} (hfew : ((backTo pos (starEach args env)).all (fun x => !x.1) && (backToKw pos (keywordEach [] env)).all (fun x => x.1.isSome)
      && decide (args.length + ([] : List Keyword).length + (if ([] : List Keyword).isEmpty then 0 else 1) < 30)) = true) (hline : (apos.endLine == pos.line) = true)
    (h : PySem.wpAt (model prog w) A c (attributeBase o name env (eval o env)) (fun ov s₁ => ∀ pl, wpAny (model prog w) A (getMethod ov name pl) (fun fx s₂ => wpAny (model prog w) A (callWith pos fx.1 fx.2 (backTo pos (starEach args env)) []) Q E s₂) E s₁) E s) :
    PySem.wpAt (model prog w) A c (eval (.Call (.Attribute o name apos) args [] pos) env) Q E s := by
  rw [arm_eval_Call]
  refine PySem.wpAt_bind (ks_wpAt_mono h (fun ov s₁ h₁ => PySem.wpAt_of_wpAny ?_) fun _ _ e => e)
  refine wpAny_bind (wpAny_standAt ?_)
  have hform : methodCallForm (args.length + ([] : List Keyword).length) (backTo pos (starEach args env)) (backToKw pos (keywordEach [] env)) = true := hfew
  have hpos : methodCallPos true o env apos pos = pure pos := by unfold methodCallPos; simp [hline]
  unfold methodCall
  rw [hform]
  refine wpAny_bind (wpAny_holding (wpAny_mono (h₁ _) (fun fx s₂ h₂ => ?_) fun _ _ e => e))
  exact wpAny_bind (wpAny_of_eq hpos h₂)

theorem super_node {CA cc f cdr ac da : Addr} {cdA : ClassData} {n q : Str} {params : Arguments} {body : List Stmt} {scope : Scope} {dV doc : Value} {pm : Value × Value} {L : Addr} {attr : Str} {whole : Sem Value} {p0 p1 : Pos} {m : Str → Option Value} {ar : Arg} {d : Data} {sl : Array (Option Value)} {mi : Str → Option Value} {b : Nat} {Q : Value → Shared → Prop}
    (S : SupK prog K tp CA cc cdA) (Cf : CodeFile prog K cdr) (X : K.In s.heap) (B : Bs tp s.heap) (I : Ins s.heap ac CA da d sl mi b) (hf : ∃ o, s.heap.get? f = some o ∧ o.data = .func (mdef n q params body scope [("__class__", cc)] dV pm (.ref cdr) doc))
    (hp : (params.posonlyargs ++ params.args).head? = some ar) (hn : s.heap.Ns L m) (hm : m ar.arg = some (.ref ac)) (hat : (attr == ("__class__" : Str)) = false) (hks : scope.names.lookup ("super" : Str) = some .globalImplicit) (hkc : scope.names.lookup ("__class__" : Str) = some .free) (hka : scope.names.lookup ar.arg = some .local) (hk : scope.kind = .function)
    (h : ∀ h', h'.get? s.heap.objs.size = some (ks_superObj CA ac CA) → (∀ b o, s.heap.get? b = some o → h'.get? b = some o) → Q (.ref s.heap.objs.size) { s with heap := h' }) :
    PySem.wpAt (model prog w) A (.func body (callEnv (mdef n q params body scope [("__class__", cc)] dV pm (.ref cdr) doc) L f)) (attributeBase (.Call (.Name "super" p0) [] [] p1) attr (callEnv (mdef n q params body scope [("__class__", cc)] dV pm (.ref cdr) doc) L f) whole) Q (fun _ _ => False) s := by
  obtain ⟨hh, g, d0, t, os⟩ := s
  obtain ⟨of, hf1, hf2⟩ := hf
  obtain ⟨oc, vs, file, tf, k1, k2, k3, k4⟩ := Cf
  obtain ⟨ocell, c1, c2⟩ := S.cell
  obtain ⟨od, I', hl⟩ := I.inst
  obtain ⟨oD, hD1, hD2⟩ : ∃ oD, hh.get? CA = some oD ∧ oD.data = .cls cdA := by
    have := S.cls
    unfold clsIn at this
    split at this
    · rename_i c d cd' sl ho
      cases this
      exact ⟨_, X _ _ ho, rfl⟩
    · cases this
  refine ks_wpAt_super_base (env := callEnv (mdef n q params body scope [("__class__", cc)] dV pm (.ref cdr) doc) L f) hks hkc hat rfl hf1 hf2 hp rfl (X _ _ k1) k2 k3 k4 S.top ?_
  refine ks_loadName_global hk hks (loadGlobal_builtin (env := callEnv (mdef n q params body scope [("__class__", cc)] dV pm (.ref cdr) doc) L f) B.g S.mg B.b S.mb ⟨rfl, ?_⟩)
  refine wpAny_loadName_free hk hkc rfl ⟨_, X _ _ c1, c2⟩ ?_
  refine wpAny_loadName_local hk hka hn hm ?_
  refine ks_wpAny_isType_cls hD1 hD2 ⟨rfl, ?_⟩
  refine ks_wpAny_call_super hD1 hD2 I'.at_ I'.cls (fun c e => ?_) (looks_mroIn X S.sub) (fun h' e k => h h' e k)
  have := I'.no
  unfold notCls at this
  rw [e] at this
  exact Bool.noConfusion this
end
end Mine
end
section
open PySem PySem.W PyProof.Rows PySem.Calls
open PySem.Builtin.ObjectAttr PySem.Builtin
set_option Elab.async false
set_option maxRecDepth 100000
namespace Mine
theorem ck_len (x : Value) : checkBoundCall "list.__len__" ⟨[x], []⟩ = pure () := by kernel_rfl
theorem ck_init (x : Value) : checkBoundCall "list.__init__" ⟨[x], []⟩ = pure () := by kernel_rfl
section
variable {prog : Program} {w : World} {A : Around} {s : Shared} {env : Env} {K : Frag} {tp : Tp}

theorem St.keep {CA : Addr} {L : List Addr} {c P c' P' ac da : Addr} {cs : List Str} {i : Int} (S : St K tp CA L c P c' P' ac da s cs i) {h' : Heap} {tk : Nat} (k : ∀ b o, s.heap.get? b = some o → h'.get? b = some o) : St K tp CA L c P c' P' ac da { s with heap := h', toks := tk } cs i :=
  ⟨S.bs.keep k, S.acc.keep k, S.kc.via (fun o e => k _ o e) (fun o e => k _ o e), S.kc'.via (fun o e => k _ o e) (fun o e => k _ o e), let ⟨x, h1, o, h2⟩ := S.sz; ⟨x, h1, o, k _ _ h2⟩, S.nP, S.nP'⟩

theorem body_len {E : Value → Shared → Prop} {a : Addr} {o : Obj} {items : Array Value} {n : Nat} {Q : Fin → Shared → Prop} (ho : s.heap.get? a = some o) (hd : o.data = .seq items n) (hq : Q (.done (.ret (.int items.size s.toks))) { s with toks := s.toks + 1 }) :
    wpAny (model prog w) A (Builtin.«list.__len__» ⟨[.ref a], []⟩) Q E s := by
  unfold Builtin.«list.__len__»
  repeat (any_goals (first | assumption | wp_step))
  rw [hd]
  refine wpAny_pure ?_
  exact wpAny_bind (wpAny_mkInt (wpAny_pure hq))

theorem part_count_ok {CA ac da f c P c' P' cc cdr : Addr} {cdA : ClassData} {L : List Addr} {cs : List Str} {i : Int} {p1 p0 pp1 a1 c1 p2 : Pos} (KF : KA K tp CA) (SK : SupK prog K tp CA cc cdA) (Cf : CodeFile prog K cdr) (lt : (a1.endLine == c1.line) = true)
    (Fn : FnK K tp f "part_count" "_Accumulator.part_count" (psL [("self", p1)]) [.Return (some (.Call (.Attribute (.Call (.Name "super" p0) [] [] pp1) "__len__" a1) [] [] c1)) p2] (scN [("self", .local), ("__class__", .free), ("super", .globalImplicit)]) [("__class__", cc)] .none (.ref cdr))
    (dp : A.depth ≤ 900) (S : St K tp CA L c P c' P' ac da s cs i) (hnc : ac ≠ CA) {Q : Value → Shared → Prop}
    (hq : ∀ s' t, Keeps s s' → St K tp CA L c P c' P' ac da s' cs i → Q (.int (cs.length : Nat) t) s') : wpAny (model prog w) A (call (.ref f) [.ref ac]) Q (fun _ _ => False) s := by
  have X := KF.inK _ S.bs
  refine call_ms Fn dp S.bs X (binds := [("self", .ref ac)]) (fun _ _ => BindsTo.of_eq rfl) (by decide) (loc1 rfl) rfl rfl rfl fun pm doc h₀ hf hn hk => ?_
  obtain ⟨of, hf1, hf2⟩ := hf
  have S0 := S.keep (tk := s.toks + 1) hk
  obtain ⟨sl, ps, n, ti, b, I, hb, PR⟩ := S0.acc.ex
  have X0 := KF.inK _ S0.bs
  refine ks_wpAt_execs_cons (ks_wpAt_Return_some (wpAt_Call_G rfl lt (super_node SK Cf X0 S0.bs I ⟨of, hk _ _ hf1, hf2⟩ rfl hn rfl (by decide) rfl rfl rfl rfl fun h1 e1 k1 pl => ?_)))
  have S1 := S0.keep (tk := s.toks + 1) k1
  have I1 := I.keep k1
  have X1 := KF.inK _ S1.bs
  have hC : Looks (model prog w) h1 (mroOf (.ref CA)) cdA.mro := (looks_clsIn X1 SK.cls).andThen .now
  have hi := ins_isInst (prog := prog) (w := w) (s := { s with heap := h1, toks := s.toks + 1 }) X1 I1 KF.islist
  refine getMethod_super_b (T := "wrapper_descriptor") (gid := "wrapper_descriptor.__get__") (bt := "method-wrapper") e1 (looks_opaque X1 SK.opq) hC rfl X1 SK.alen ty_list_len slot_wd_get.lookup hnc (by decide) (fun hR => wd_bind (.inl rfl) hi hR) ?_
  have k2 : ∀ b o, h1.get? b = some o → (h1.push { cls := .type "method-wrapper", data := .fields #[.builtin "list.__len__", .ref ac] }).get? b = some o := fun b o e => Heap.get?_push_of_some _ e
  have I2 := I1.keep k2
  refine callWith_b0 (.inr rfl) (Heap.get?_push_size _ rfl) ?_
  refine call_bd (Heap.get?_push_size _ rfl) (.inr rfl) (fun hR => wpAny_of_eq (ck_len _) hR) PySem.F.entry_list_len PySem.F.slot_list_len.plain ?_
  refine body_len I2.at_ rfl ⟨_, rfl, ?_⟩
  have e : ps.toArray.size = cs.length := by rw [List.size_toArray, PR.length]
  rw [e]
  exact hq _ _ ⟨_, _, rfl, fun b o e => k2 b o (k1 b o (hk b o e))⟩ (S.keep fun b o e => k2 b o (k1 b o (hk b o e)))
end
end Mine
end
section
open PySem PySem.W PyProof.Rows PySem.Calls
open PySem.Builtin.ObjectAttr PySem.Builtin
set_option Elab.async false
set_option maxRecDepth 100000
namespace Mine
section
variable {prog : Program} {w : World} {A : Around} {s : Shared} {env : Env} {K : Frag} {tp : Tp}
theorem body_pop {E : Value → Shared → Prop} {a : Addr} {o : Obj} {items : Array Value} {v : Value} {n : Nat} {Q : Fin → Shared → Prop} (ho : s.heap.get? a = some o) (hd : o.data = .seq (items.push v) n) (hs : items.size ≤ 1000)
    (hq : ∀ h', h' = s.heap.update a (Obj.mapSeq fun xs => xs.eraseIdxIfInBounds items.size) → Q (.done (.ret v)) { s with heap := h' }) :
    wpAny (model prog w) A (Builtin.«list.pop» ⟨[.ref a], []⟩) Q E s := by
  have hsz : (items.push v).size = items.size + 1 := Array.size_push ..
  unfold Builtin.«list.pop»
  have e1 : selfAndSome "list.pop" "pop" 0 1 ⟨[.ref a], []⟩ = pure (.ref a, []) := rfl
  rw [e1]
  refine wpAny_bind (wpAny_pure ?_)
  dsimp only
  refine wpAny_bind (wpAny_pure (a := (-1 : Int)) ?_)
  rw [if_neg (by decide)]
  refine wpAny_bind ?_
  have hli : ∀ {R : Array Value → Shared → Prop}, R (items.push v) s → wpAny (model prog w) A (Builtin.List.listItems (.ref a)) R E s := fun hR => by
    unfold Builtin.List.listItems
    exact wpAny_bind (wpAny_seqItems ho hd (wpAny_pure hR))
  refine hli ?_
  rw [if_neg (by simp)]
  have ei : (seqIndex? (-1) (items.push v).size).bind (fun k => Option.map (fun x => (k, x)) (items.push v)[k]?) = some (items.size, v) := by
    have : seqIndex? (-1) (items.push v).size = some items.size := by
      rw [hsz]
      unfold seqIndex?
      dsimp only
      rw [if_pos (show (-1 : Int) < 0 by decide)]
      have e2 : (-1 : Int) + ((items.size + 1 : Nat) : Int) = (items.size : Nat) := by omega
      rw [e2, if_pos (by simp only [Bool.and_eq_true, decide_eq_true_eq]; omega)]
      simp
    rw [this]
    simp
  rw [ei]
  dsimp only
  have hb := line_big
  show wpAny _ _ (updateSeq a (fun x => x.eraseIdxIfInBounds items.size) >>= fun _ => ret v) _ _ _
  refine wpAny_bind (wpAny_updateSeq ho hd (wpAny_pure (hq _ rfl)) (by rw [hsz]; omega) ?_)
  show ((items.push v).eraseIdxIfInBounds items.size).size ≤ sizeLine + 1
  have : ((items.push v).eraseIdxIfInBounds items.size).size ≤ (items.push v).size := by
    simp only [Array.eraseIdxIfInBounds]
    split
    · rw [Array.size_eraseIdx]; omega
    · exact Nat.le_refl _
  omega

theorem last_part {L : List Addr} {h : Heap} {ps : List Value} {cs : List Str} {x : Str} (P : PartsR L h ps (cs ++ [x])) : ∃ ps0 a n t u, ps = ps0 ++ [.ref a] ∧ PartsR L h ps0 cs ∧ a ∉ L ∧ h.get? a = some { cls := .type "tuple", data := .seq #[.str " " t, .str x u] n } := by
  induction cs generalizing ps with
  | nil =>
    cases P with
    | cons na ho r =>
      cases r
      exact ⟨[], _, _, _, _, rfl, .nil, na, ho⟩
  | cons y cs ih =>
    cases P with
    | cons na ho r =>
      obtain ⟨ps0, a, n, t, u, rfl, r2, na2, ho2⟩ := ih r
      exact ⟨_ :: ps0, a, n, t, u, rfl, .cons na ho r2, na2, ho2⟩
end
end Mine
end
section
open PySem PySem.W PyProof.Rows PySem.Calls
open PySem.Builtin.ObjectAttr PySem.Builtin
set_option Elab.async false
set_option maxRecDepth 100000
namespace Mine
noncomputable abbrev fullPop : String := toString (Str.ofString "_Accumulator").toString ++ toString "." ++ toString (Bind.lastOf "list.pop")
theorem sig_pop0 (a : Value) : (match Manifest.signature? "list.pop" with | some sig => Bind.checkArgs "list.pop" { sig with full := fullPop } ⟨[a], []⟩ | none => pure ()) = pure () := by kernel_rfl
theorem sig_pop1 : (Manifest.signature? "list.pop").isSome = true := by decide +kernel
theorem sig_pop : ∃ sig, Manifest.signature? "list.pop" = some sig ∧ ∀ (a : Value), Bind.checkArgs "list.pop" { sig with full := fullPop } ⟨[a], []⟩ = pure () := by
  obtain ⟨sig, h⟩ := Option.isSome_iff_exists.mp sig_pop1
  refine ⟨sig, h, fun a => ?_⟩
  have := sig_pop0 a
  rw [h] at this
  exact this
theorem var_pop : (Manifest.varargsMethods.contains "list.pop" || false) = false := by decide +kernel
theorem kind_pop : builtinKind "list.pop" = some .method := by decide +kernel
section
variable {prog : Program} {w : World} {A : Around} {s : Shared} {env : Env} {K : Frag} {tp : Tp}
theorem ck_pop {E : Value → Shared → Prop} {ac CA : Addr} {ox : Obj} {od : Option Obj} {cdA : ClassData} {R : Unit → Shared → Prop} (X : K.In s.heap) (I : InstAt s.heap ac ox CA od) (hm : mroIn K CA (.type "module") = some false) (hc : clsIn K CA = some cdA) (ht : typeIn K (.ref CA) = some (.type "type")) (hqn : cdA.qualname = "_Accumulator") (hR : R () s) :
    wpAny (model prog w) A (checkBoundCall "list.pop" ⟨[.ref ac], []⟩) R E s := by
  obtain ⟨hh, g, d, t, os⟩ := s
  obtain ⟨sig, hs, hk⟩ := sig_pop
  have hmod : Looks (model prog w) hh (isInstance (.ref ac) (.type "module")) false := I.type.andThen (looks_mroIn X hm)
  have hnc : ∀ c, ox.data ≠ .cls c := fun c e => by
    have := I.no
    unfold notCls at this
    rw [e] at this
    exact Bool.noConfusion this
  unfold checkBoundCall
  rw [hs, kind_pop]
  dsimp only
  rw [if_neg (by decide)]
  refine wpAny_bind (hmod.at ?_)
  rw [var_pop, if_neg (by decide)]
  refine wpAny_bind (ks_wpAny_isType_inst I.at_ hnc ?_)
  rw [if_neg (by decide)]
  refine wpAny_bind (I.type.at ?_)
  dsimp only
  refine wpAny_bind ((looks_clsIn X hc).at ?_)
  refine wpAny_bind ((looks_typeIn X ht).at ?_)
  rw [if_pos (by rfl), hqn]
  exact wpAny_of_eq (hk _) hR
end
end Mine
end
section
open PySem PySem.W PyProof.Rows PySem.Calls
open PySem.Builtin.ObjectAttr PySem.Builtin
set_option Elab.async false
set_option maxRecDepth 100000
namespace Mine
section
variable {prog : Program} {w : World} {A : Around} {s : Shared} {env : Env} {K : Frag} {tp : Tp}

/-- one object of the line's own changes -/
theorem St.but {CA x : Addr} {L : List Addr} {c P c' P' ac da : Addr} {cs cs' : List Str} {i i' : Int} {h' : Heap} {tk : Nat} {o' o0 : Obj} (hTp : TpOk tp) (S : St K tp CA L c P c' P' ac da s cs i) (hH : tp.H.get? x = none) (e0 : s.heap.get? x = some o0) (nc : o0.cls ≠ .type "code") (nn : o0.cls ≠ .none) (g : h'.get? x = some o') (sb : Heap.SameBut x s.heap h')
    (A' : AccS CA L h' ac da cs' i') : St K tp CA L c P c' P' ac da { s with heap := h', toks := tk } cs' i' := by
  have ne : ∀ b o, tp.H.get? b = some o → b ≠ x := fun b o e q => by rw [q, hH] at e; cases e
  have kv : ∀ {c P : Addr}, KCode s.heap c P → KCode h' c P := fun {c P} Kc => by
    obtain ⟨⟨oc, e1, e2⟩, vs, e3⟩ := Kc.at
    have n1 : c ≠ x := fun q => by rw [q, e0] at e1; cases e1; exact nc e2
    have n2 : P ≠ x := fun q => by rw [q, e0] at e3; cases e3; exact nn rfl
    exact Kc.via (fun o e => (sb.2 _ n1).trans e) fun o e => (sb.2 _ n2).trans e
  refine ⟨hTp.bs (fun b o e n => (sb.2 b (ne b o e)).trans (S.bs.base b o e n)) (fun b o e => let ⟨o2, e2⟩ := S.bs.there b o e; ⟨o2, (sb.2 b (ne b o e)).trans e2⟩), A', kv S.kc, kv S.kc', ?_, S.nP, S.nP'⟩
  obtain ⟨y, h1, o, h2⟩ := S.sz
  by_cases q : y = x
  · exact ⟨y, h1, o', q ▸ g⟩
  · exact ⟨y, h1, o, (sb.2 y q).trans h2⟩

/-- the class's methods, by their addresses -/
structure KM (K : Frag) (CA : Addr) (fPush fPopF fPop fLen fStr fReset fOnly fCount : Addr) : Prop where
  push : findIn K (.ref CA) "push" = some (some (.ref fPush))
  popF : findIn K (.ref CA) "pop_from" = some (some (.ref fPopF))
  pop : findIn K (.ref CA) "pop" = some (some (.ref fPop))
  len : findIn K (.ref CA) "__len__" = some (some (.ref fLen))
  str : findIn K (.ref CA) "__str__" = some (some (.ref fStr))
  reset : findIn K (.ref CA) "reset" = some (some (.ref fReset))
  only : findIn K (.ref CA) "is_onlyws" = some (some (.ref fOnly))
  count : findIn K (.ref CA) "part_count" = some (some (.ref fCount))
structure SupK2 (K : Frag) (CA : Addr) (cdA : ClassData) : Prop where
  mod : mroIn K CA (.type "module") = some false
  ty : typeIn K (.ref CA) = some (.type "type")
  qn : cdA.qualname = "_Accumulator"

/-- a method of the line's, called with no argument -/
theorem meth0 {CA ac da f : Addr} {d : Data} {sl : Array (Option Value)} {i : Int} {ti : Tok} {b : Nat} {pos : Pos} {pl : Sem Bool} {name n q : Str} {params : Arguments} {body : List Stmt} {scope : Scope} {cl : List (Str × Addr)} {dV cd : Value} {Q : Value → Shared → Prop} (KF : KA K tp CA) (B : Bs tp s.heap) (I : Ins s.heap ac CA da d sl (mAcc i ti) b) (hf : findIn K (.ref CA) name = some (some (.ref f)))
    (Fn : FnK K tp f n q params body scope cl dV cd) (hm : (mAcc i ti) name = none) (h : wpAny (model prog w) A (call (.ref f) [.ref ac]) Q (fun _ _ => False) s) :
    wpAny (model prog w) A (getMethod (.ref ac) name pl) (fun fx s₂ => wpAny (model prog w) A (callWith pos fx.1 fx.2 (backTo pos (starEach [] env)) []) Q (fun _ _ => False) s₂) (fun _ _ => False) s :=
  ins_meth (KF.inK _ B) I KF.pg hf Fn.1 hm (callWith_K0 (KF.inK _ B) Fn.keep h)

theorem pop_ok {CA ac da f fPush fPopF fLen fStr fReset fOnly fCount c P c' P' cc cdr cdr2 : Addr} {cdA : ClassData} {L : List Addr} {cs : List Str} {x : Str} {i : Int} {p1 q1 q2 q3 q4 q5 r1 r2 p0 pp1 a1 c1 p2 : Pos} {k : Nat} {t1 : List Stmt}
    {u1 u0 uu1 ua uc u2 : Pos} (KF : KA K tp CA) (M : KM K CA fPush fPopF f fLen fStr fReset fOnly fCount) (SK : SupK prog K tp CA cc cdA) (SK2 : SupK2 K CA cdA) (Cf : CodeFile prog K cdr) (Cf2 : CodeFile prog K cdr2) (lt : (a1.endLine == c1.line) = true) (lt2 : (q2.endLine == q3.line) = true) (lt3 : (ua.endLine == uc.line) = true)
    (Fc : FnK K tp fCount "part_count" "_Accumulator.part_count" (psL [("self", u1)]) [.Return (some (.Call (.Attribute (.Call (.Name "super" u0) [] [] uu1) "__len__" ua) [] [] uc)) u2] (scN [("self", .local), ("__class__", .free), ("super", .globalImplicit)]) [("__class__", cc)] .none (.ref cdr2))
    (Fn : FnK K tp f "pop" "_Accumulator.pop" (psL [("self", p1)]) [.If (.Compare (.Call (.Attribute (.Name "self" q1) "part_count" q2) [] [] q3) [.Eq] [.Constant (.int 0) k q4] q5) t1 [] r1, .Return (some (.Call (.Attribute (.Call (.Name "super" p0) [] [] pp1) "pop" a1) [] [] c1)) p2] (scN [("self", .local), ("__class__", .free), ("super", .globalImplicit)]) [("__class__", cc)] .none (.ref cdr))
    (hA : A.handled = none) (dp : A.depth ≤ 800) (S : St K tp CA L c P c' P' ac da s (cs ++ [x]) i) (hTp : TpOk tp) (hHa : tp.H.get? ac = none) (hcs : cs.length ≤ 900) (hnc : ac ≠ CA) {Q : Value → Shared → Prop}
    (hq : ∀ s' a t u n, Cg tp.H L s s' → St K tp CA L c P c' P' ac da s' cs i → a ∉ L → s'.heap.get? a = some { cls := .type "tuple", data := .seq #[.str " " t, .str x u] n } → Q (.ref a) s') : wpAny (model prog w) A (call (.ref f) [.ref ac]) Q (fun _ _ => False) s := by
  have X := KF.inK _ S.bs
  refine call_ms Fn (by omega) S.bs X (binds := [("self", .ref ac)]) (fun _ _ => BindsTo.of_eq rfl) (by decide) (loc1 rfl) rfl rfl rfl fun pm doc h₀ hf hn hk => ?_
  obtain ⟨of, hf1, hf2⟩ := hf
  have S0 := S.keep (tk := s.toks + 1) hk
  obtain ⟨sl0, ps0, n0, ti0, b0, I0, hb0, PR0⟩ := S0.acc.ex
  refine ks_wpAt_execs_cons (ks_wpAt_If (PySem.wpAt_of_wpAny (wpAny_isTrue_Compare1 (Call_G ⟨rfl, rfl, lt2⟩ (ldc rfl rfl hn (by rfl) ?_ (by decide))) rfl)))
  intro pl
  refine meth0 KF S0.bs I0 M.count Fc (by rfl) (part_count_ok KF SK Cf2 lt3 Fc (by show A.depth + 1 ≤ 900; omega) S0 hnc fun s1 t1' k1 S1 => ?_)
  refine wpAny_Constant_int (eq_int (wpAny_truthy_bool ?_))
  have ne : (((cs ++ [x]).length : Nat) : Int) ≠ 0 := by simp; omega
  rw [show ((((cs ++ [x]).length : Nat) : Int) == 0) = false by simpa using ne]
  rw [if_neg (by decide)]
  obtain ⟨h1, tk1, rfl, kk1⟩ := k1
  refine PySem.wpAt_of_wpAny (wpAny_execs_nil ?_)
  have S1' := S1.keep (tk := tk1 + 1) (h' := h1) fun _ _ e => e
  obtain ⟨sl, ps, n, ti, b, I, hb, PR⟩ := S1'.acc.ex
  have X1 := KF.inK _ S1'.bs
  refine ks_wpAt_execs_cons (ks_wpAt_Return_some (wpAt_Call_G rfl lt (super_node SK Cf X1 S1'.bs I ⟨of, kk1 _ _ (hk _ _ hf1), hf2⟩ rfl (hn.keeps kk1) rfl (by decide) rfl rfl rfl rfl fun h2 e2 k2 pl2 => ?_)))
  have S2 := S1'.keep (tk := tk1 + 1) (h' := h2) k2
  have I2 := I.keep k2
  have X2 := KF.inK _ S2.bs
  have hC : Looks (model prog w) h2 (mroOf (.ref CA)) cdA.mro := (looks_clsIn X2 SK.cls).andThen .now
  have hi := ins_isInst (prog := prog) (w := w) (s := { s with heap := h2, toks := tk1 + 1 }) X2 I2 KF.islist
  refine getMethod_super_b (T := "method_descriptor") (gid := "method_descriptor.__get__") (bt := "builtin_function_or_method") e2 (looks_opaque X2 SK.opq) hC rfl X2 SK.apop ty_list_pop slot_md_get.lookup hnc (by decide) (fun hR => md_bind hi hR) ?_
  have k3 : ∀ b o, h2.get? b = some o → (h2.push { cls := .type "builtin_function_or_method", data := .fields #[.builtin "list.pop", .ref ac] }).get? b = some o := fun b o e => Heap.get?_push_of_some _ e
  have S3 := S2.keep (tk := tk1 + 1 + 1) k3
  have I3 := I2.keep k3
  have PR3 : PartsR L (h2.push { cls := .type "builtin_function_or_method", data := .fields #[.builtin "list.pop", .ref ac] }) ps (cs ++ [x]) := PR.keep fun b o _ e => k3 b o (k2 b o e)
  refine callWith_b0 (.inl rfl) (Heap.get?_push_size _ rfl) ?_
  obtain ⟨od, I3', hl3⟩ := I3.inst
  refine call_bd (Heap.get?_push_size _ rfl) (.inl rfl) (fun hR => ck_pop (KF.inK _ S3.bs) I3' SK2.mod SK.cls SK2.ty SK2.qn hR) PySem.F.entry_list_pop PySem.F.slot_list_pop.plain ?_
  obtain ⟨ps1, a, n4, t, u, rfl, PR4, na, ho⟩ := last_part PR3
  have hl1 := PR4.length
  have at3 := I3.at_
  rw [show (ps1 ++ [Value.ref a]).toArray = ps1.toArray.push (.ref a) by simp] at at3
  refine body_pop (items := ps1.toArray) at3 rfl (by simp only [List.size_toArray]; omega) fun h4 e4 => ⟨_, rfl, ?_⟩
  have ee : (ps1.toArray.push (Value.ref a)).eraseIdxIfInBounds ps1.toArray.size = ps1.toArray := by
    rw [show ps1.toArray.push (Value.ref a) = (ps1 ++ [Value.ref a]).toArray by simp, List.eraseIdxIfInBounds_toArray, List.size_toArray, List.eraseIdx_append_of_length_le (Nat.le_refl _)]
    simp
  obtain ⟨n5, e5⟩ := mapSeq_any (fun xs => xs.eraseIdxIfInBounds ps1.toArray.size) (.ref CA) (some da) (ps1.toArray.push (.ref a)) n sl
  have g4 : h4.get? ac = some ⟨.ref CA, some da, .seq ps1.toArray n5, sl⟩ := by
    rw [e4, Heap.get?_update_self _ at3 (by rw [e5]; rfl), e5, ee]
  have sb4 : Heap.SameBut ac (h2.push { cls := .type "builtin_function_or_method", data := .fields #[.builtin "list.pop", .ref ac] }) h4 := by rw [e4]; exact Heap.SameBut.update ..
  have tot : Keeps s { s with heap := h2.push { cls := .type "builtin_function_or_method", data := .fields #[.builtin "list.pop", .ref ac] }, toks := tk1 + 1 + 1 } := ⟨_, _, rfl, fun b o e => k3 b o (k2 b o (kk1 b o (hk b o e)))⟩
  have C4 : Cg tp.H L { s with heap := h2.push { cls := .type "builtin_function_or_method", data := .fields #[.builtin "list.pop", .ref ac] }, toks := tk1 + 1 + 1 } { s with heap := h4, toks := tk1 + 1 + 1 } := Cg.but S.acc.la hHa g4 sb4
  refine hq _ a t u n4 ((Cg.keeps tot).trans C4) (St.but hTp S3 hHa I3.at_ (fun q => by cases q) (fun q => by cases q) g4 sb4 ?_) na (C4.get _ _ na ho)
  refine ⟨⟨sl, ps1, n5, ti, b, ⟨g4, rfl, ?_⟩, hb, PR4.keep fun b' o nb e => C4.get b' o nb e⟩, S.acc.la, S.acc.ld, S.acc.ne⟩
  obtain ⟨o, es, ep, f1, f2⟩ := I3.ns
  exact ⟨o, es, ep, (sb4.2 _ (Ne.symm S.acc.ne)).trans f1, f2⟩
end
end Mine
end
section
open PySem PySem.W PyProof.Rows PySem.Calls
open PySem.Builtin.ObjectAttr PySem.Builtin
set_option Elab.async false
set_option maxRecDepth 100000
namespace Mine
section
variable {prog : Program} {w : World} {A : Around} {E : Value → Shared → Prop} {s : Shared} {env : Env} {K : Frag} {tp : Tp}

theorem sub_none {q : Addr} {vl vu vs : Value} {Q : Option Int → Shared → Prop} (hs : s.heap.IsSliceOf q vl vu vs) (h : Q none s) : wpAny (model prog w) A (Builtin.List.listSubscript? (.ref q)) Q E s := by
  obtain ⟨o, h1, h2, h3⟩ := hs
  unfold Builtin.List.listSubscript?
  refine wpAny_bind (wpAny_specialOf (T := "slice") ⟨o, h1, h2⟩ slice_no_index ?_)
  rw [if_pos (by rfl)]
  exact wpAny_pure h

theorem parts_ok {q : Addr} {vl vu : Value} {lo hi : Option Int} {Q : Value × Value × Value → Shared → Prop} (hs : s.heap.IsSliceOf q vl vu .none) (pl : IsPart vl lo) (pu : IsPart vu hi) (h : Q (rawPart lo, rawPart hi, .none) s) : wpAny (model prog w) A (Builtin.List.listSliceParts (.ref q)) Q E s := by
  obtain ⟨o, h1, h2, h3⟩ := hs
  rw [listSliceParts_eq]
  refine wpAny_bind (wpAny_field h1 h3 (x := .none) rfl (wpAny_bind (wpAny_listPart .none ?_)))
  rw [if_neg (by decide)]
  refine wpAny_bind (wpAny_field h1 h3 (x := vl) rfl (wpAny_bind (wpAny_listPart pl ?_)))
  exact wpAny_bind (wpAny_field h1 h3 (x := vu) rfl (wpAny_bind (wpAny_listPart pu (wpAny_pure h))))

theorem items_any {a : Addr} {o : Obj} {xs : Array Value} {n : Nat} {R : Array Value → Shared → Prop} (ho : s.heap.get? a = some o) (hd : o.data = .seq xs n) (hR : R xs s) : wpAny (model prog w) A (Builtin.List.listItems (.ref a)) R E s := by
  unfold Builtin.List.listItems
  exact wpAny_bind (wpAny_seqItems ho hd (wpAny_pure hR))

theorem body_setslice {a q l : Addr} {o ol : Obj} {vl : Value} {lo : Option Int} {xs new : Array Value} {n n2 : Nat} {Q : Fin → Shared → Prop} (ho : s.heap.get? a = some o) (hd : o.data = .seq xs n) (hs : s.heap.IsSliceOf q vl .none .none) (pl : IsPart vl lo) (hl : s.heap.get? l = some ol) (hlc : ol.cls = .type "list") (hld : ol.data = .seq new n2) (hne : l ≠ a) (hb : xs.size ≤ 1000) (hb2 : new.size ≤ 1000)
    (hq : Q (.done (.ret .none)) { s with heap := s.heap.update a (Obj.mapSeq fun xs' => xs'.extract 0 (sliceBounds lo none none xs.size).1.toNat ++ new ++ xs'.extract (max (sliceBounds lo none none xs.size).1 (sliceBounds lo none none xs.size).2.1).toNat xs'.size) }) :
    wpAny (model prog w) A (Builtin.«list.__setitem__» ⟨[.ref a, .ref q, .ref l], []⟩) Q E s := by
  have hbig := line_big
  have hs0 := hs
  obtain ⟨oq, q1, q2, q3⟩ := hs
  have e1 : Builtin.List.listBlankSlotArgs "__setitem__" 2 ⟨[.ref a, .ref q, .ref l], []⟩ = pure (.ref a, [.ref q, .ref l]) := rfl
  unfold Builtin.«list.__setitem__»
  rw [e1]
  refine wpAny_bind (wpAny_pure ?_)
  dsimp only
  refine wpAny_bind (sub_none hs0 ?_)
  dsimp only
  refine wpAny_bind (wpAny_typeOf (T := "slice") ⟨oq, q1, q2⟩ ?_)
  rw [if_neg (by decide)]
  refine wpAny_bind (parts_ok hs0 pl .none ?_)
  dsimp only
  have e2 : Builtin.List.listSameRef (.ref a) (.ref l) = false := by
    show (a == l) = false
    simpa using fun e : a = l => hne e.symm
  rw [e2, if_neg (by decide)]
  unfold Builtin.List.listAllItems
  refine wpAny_bind (wpAny_bind (wpAny_typeOf (T := "list") ⟨ol, hl, hlc⟩ ?_))
  rw [if_pos (by decide)]
  refine items_any hl hld ?_
  refine wpAny_bind (items_any ho hd ?_)
  rw [show (Value.none : Value) = rawPart none from rfl, sliceIndices_raw lo none none xs.size (by decide)]
  refine wpAny_bind (wpAny_pure ?_)
  rw [if_pos (by rfl)]
  refine wpAny_bind (wpAny_rule ?_)
  have e3 : Builtin.List.listTooLong (xs.size + new.size) = false := by
    unfold Builtin.List.listTooLong
    exact decide_eq_false (by omega)
  rw [e3, if_neg (by decide)]
  show wpAny _ _ (updateSeq a (fun xs' => xs'.extract 0 (sliceBounds lo none none xs.size).1.toNat ++ new ++ xs'.extract (max (sliceBounds lo none none xs.size).1 (sliceBounds lo none none xs.size).2.1).toNat xs'.size) >>= _) _ _ _
  refine wpAny_bind (wpAny_updateSeq ho hd ?_ (by omega) ?_)
  · refine wpAny_bind (wpAny_letGo ?_)
    exact wpAny_pure hq
  · simp only [Array.size_append, Array.size_extract]
    omega

theorem key_inst {x C dx : Addr} {d : Data} {sl : Array (Option Value)} {m : Str → Option Value} {b : Nat} {k : Value} {name : Str} {Q : Value → Shared → Prop} (X : K.In s.heap) (I : Ins s.heap x C dx d sl m b) (hq : noSeq K C = true) (h : Q k s) : wpAny (model prog w) A (sequenceKey (.ref x) k name) Q E s := by
  obtain ⟨od, I', hl⟩ := I.inst
  unfold sequenceKey
  refine wpAny_bind (I'.type.here ?_)
  refine wpAny_bind ((anyM_none X hq).here ?_)
  rw [if_pos (show (!false) = true from rfl)]
  exact wpAny_pure h
end
end Mine
end
section
open PySem PySem.W PyProof.Rows PySem.Calls
open PySem.Builtin.ObjectAttr PySem.Builtin
set_option Elab.async false
set_option maxRecDepth 100000
namespace Mine

structure KS (K : Frag) (CA : Addr) (cdA : ClassData) : Prop where
  cls : clsIn K CA = some cdA
  hd : cdA.hasDict = true
  ne : cdA.mro.isEmpty = false
  ob : cdA.mro.contains (.type "object") = true
  sa : findIn K (.ref CA) "__setattr__" = some (some (.builtin "object.__setattr__"))
  rf : ∀ x : Addr, refuseLoop (.ref x) "__setattr__" cdA.mro = pure ()
  si : findIn K (.ref CA) "__setitem__" = some (some (.builtin "list.__setitem__"))
  gi : findIn K (.ref CA) "__getitem__" = some (some (.builtin "list.__getitem__"))
  nq : noSeq K CA = true

section
variable {prog : Program} {w : World} {A : Around} {s : Shared} {env : Env} {K : Frag} {tp : Tp}
theorem kind_setitem : builtinKind "list.__setitem__" = some .slot := by decide +kernel
theorem split_setitem : splitId "list.__setitem__" = some ("list", "__setitem__") := by decide +kernel

/-- self[lo:] = a list, of the line under way -/
theorem setslice_acc {CA ac da q l c P c' P' : Addr} {cdA : ClassData} {L : List Addr} {cs ds es : List Str} {i : Int} {vl : Value} {lo : Option Int} {new : List Value} {n2 : Nat} {Q : Unit → Shared → Prop} (KF : KA K tp CA) (SK : KS K CA cdA) (hTp : TpOk tp) (hHa : tp.H.get? ac = none) (S : St K tp CA L c P c' P' ac da s cs i)
    (hs : s.heap.IsSliceOf q vl .none .none) (pl : IsPart vl lo) (hl : s.heap.get? l = some { cls := .type "list", data := .seq new.toArray n2 }) (hn : PartsR L s.heap new ds) (hcs : cs.length ≤ 1000) (hds : ds.length ≤ 1000)
    (hpick : ∀ ps : List Value, PartsR L s.heap ps cs → ∃ qs : List Value, ps.toArray.extract 0 (sliceBounds lo none none ps.toArray.size).1.toNat ++ new.toArray ++ ps.toArray.extract (max (sliceBounds lo none none ps.toArray.size).1 (sliceBounds lo none none ps.toArray.size).2.1).toNat ps.toArray.size = qs.toArray ∧ PartsR L s.heap qs es)
    (hQ : ∀ h', Cg tp.H L s { s with heap := h' } → St K tp CA L c P c' P' ac da { s with heap := h' } es i → Heap.SameBut ac s.heap h' → Q () { s with heap := h' }) :
    wpAny (model prog w) A (setItem (.ref ac) (.ref q) (.ref l)) Q (fun _ _ => False) s := by
  have X := KF.inK _ S.bs
  obtain ⟨sl, ps, n, ti, b, I, hb, PR⟩ := S.acc.ex
  obtain ⟨qs, e1, e2⟩ := hpick ps PR
  have hne : l ≠ ac := fun e => by
    rw [e, I.at_] at hl
    cases hl
  unfold setItem
  refine wpAny_holding (wpAny_bind (key_inst X I SK.nq (wpAny_bind ?_)))
  refine special_bi X I SK.si PySem.F.slot_list_setitem.bind ?_
  refine call_bi (.inr kind_setitem) split_setitem PySem.F.slot_list_setitem.plain PySem.F.entry_list_setitem (ins_isInst X I KF.islist) (PySem.F.args_list_setitem_3 _ _ _) ?_
  have hp := PR.length
  have hq' := hn.length
  refine body_setslice I.at_ rfl hs pl hl rfl rfl hne (by simp only [List.size_toArray]; omega) (by simp only [List.size_toArray]; omega) ⟨_, rfl, wpAny_pure ?_⟩
  obtain ⟨n5, e5⟩ := mapSeq_any (fun xs' => xs'.extract 0 (sliceBounds lo none none ps.toArray.size).1.toNat ++ new.toArray ++ xs'.extract (max (sliceBounds lo none none ps.toArray.size).1 (sliceBounds lo none none ps.toArray.size).2.1).toNat xs'.size) (.ref CA) (some da) ps.toArray n sl
  have g4 := Heap.get?_update_self (h := s.heap) (Obj.mapSeq fun xs' => xs'.extract 0 (sliceBounds lo none none ps.toArray.size).1.toNat ++ new.toArray ++ xs'.extract (max (sliceBounds lo none none ps.toArray.size).1 (sliceBounds lo none none ps.toArray.size).2.1).toNat xs'.size) I.at_ (by rw [e5]; rfl)
  rw [e5, e1] at g4
  have C4 : Cg tp.H L s { s with heap := s.heap.update ac _ } := Cg.but (tk := s.toks) S.acc.la hHa g4 (Heap.SameBut.update ..)
  refine hQ _ C4 (St.but (tk := s.toks) hTp S hHa I.at_ (fun q => by cases q) (fun q => by cases q) g4 (Heap.SameBut.update ..) ?_) (Heap.SameBut.update ..)
  refine ⟨⟨sl, qs, n5, ti, b, ⟨g4, rfl, ?_⟩, hb, e2.keep fun b' o nb e => C4.get b' o nb e⟩, S.acc.la, S.acc.ld, S.acc.ne⟩
  obtain ⟨o, es', ep, f1, f2⟩ := I.ns
  exact ⟨o, es', ep, (Heap.get?_update_ne _ _ _ _ (Ne.symm S.acc.ne)).trans f1, f2⟩
end
end Mine
end
section
open PySem PySem.W PyProof.Rows PySem.Calls
open PySem.Builtin.ObjectAttr PySem.Builtin
set_option Elab.async false
set_option maxRecDepth 100000
namespace Mine
section
variable {prog : Program} {w : World} {A : Around} {s : Shared} {env : Env} {K : Frag} {tp : Tp}

/-- the object's dict changes -/
theorem St.butD {CA x : Addr} {L : List Addr} {c P c' P' ac da : Addr} {cs cs' : List Str} {i i' : Int} {h' : Heap} {tk : Nat} {o' o0 : Obj} {es : Array DictEntry} {ep : Nat} (hTp : TpOk tp) (S : St K tp CA L c P c' P' ac da s cs i) (hH : tp.H.get? x = none) (e0 : s.heap.get? x = some o0) (hd : o0.data = .dict es ep) (g : h'.get? x = some o') (sb : Heap.SameBut x s.heap h')
    (A' : AccS CA L h' ac da cs' i') : St K tp CA L c P c' P' ac da { s with heap := h', toks := tk } cs' i' := by
  have ne : ∀ b o, tp.H.get? b = some o → b ≠ x := fun b o e q => by rw [q, hH] at e; cases e
  have kv : ∀ {c P : Addr}, KCode s.heap c P → KCode h' c P := fun {c P} Kc => by
    obtain ⟨ps, ⟨o, vs, file, tf, flags, tg, inF, text, tt, op, h1, h2, h3, h4, h5, h6, h7, h8, h9⟩, h10⟩ := id Kc
    have n1 : c ≠ x := fun q => by rw [q, e0] at h1; cases h1; rw [hd] at h2; cases h2
    have n2 : P ≠ x := fun q => by rw [q, e0] at h8; cases h8; rw [hd] at h9; cases h9.1
    exact Kc.via (fun o e => (sb.2 _ n1).trans e) fun o e => (sb.2 _ n2).trans e
  refine ⟨hTp.bs (fun b o e n => (sb.2 b (ne b o e)).trans (S.bs.base b o e n)) (fun b o e => let ⟨o2, e2⟩ := S.bs.there b o e; ⟨o2, (sb.2 b (ne b o e)).trans e2⟩), A', kv S.kc, kv S.kc', ?_, S.nP, S.nP'⟩
  obtain ⟨y, h1, o, h2⟩ := S.sz
  by_cases q : y = x
  · exact ⟨y, h1, o', q ▸ g⟩
  · exact ⟨y, h1, o, (sb.2 y q).trans h2⟩

theorem pick_all {xs new : Array Value} : xs.extract 0 (sliceBounds none none none xs.size).1.toNat ++ new ++ xs.extract (max (sliceBounds none none none xs.size).1 (sliceBounds none none none xs.size).2.1).toNat xs.size = new := by
  have e1 : (sliceBounds none none none xs.size).1 = 0 := rfl
  have e2 : (sliceBounds none none none xs.size).2.1 = (xs.size : Int) := rfl
  rw [e1, e2]
  have e3 : (max (0 : Int) (xs.size : Int)).toNat = xs.size := by omega
  rw [e3]
  simp

/-- self._initial_size = n -/
theorem set_init {CA ac da c P c' P' : Addr} {cdA : ClassData} {L : List Addr} {cs : List Str} {i n : Int} {t : Tok} {Q : Unit → Shared → Prop} (KF : KA K tp CA) (SK : KS K CA cdA) (hTp : TpOk tp) (hHd : tp.H.get? da = none) (S : St K tp CA L c P c' P' ac da s cs i)
    (hQ : ∀ h' tk, Cg tp.H L s { s with heap := h', toks := tk } → St K tp CA L c P c' P' ac da { s with heap := h', toks := tk } cs n → Q () { s with heap := h', toks := tk }) : wpAny (model prog w) A (setAttr (.ref ac) "_initial_size" (.int n t)) Q (fun _ _ => False) s := by
  have X := KF.inK _ S.bs
  obtain ⟨sl, ps, n', ti, b, I, hb, PR⟩ := S.acc.ex
  refine ins_set X I SK.cls SK.hd SK.ne SK.ob SK.sa (SK.rf _) KF.noInit (by omega) fun h' hn hsb => ?_
  have e1 : (mAcc i ti (Str.ofString "_initial_size")).isSome = true := rfl
  rw [e1, if_pos rfl] at hn
  have e2 : (fun y => if y = Str.ofString "_initial_size" then some (Value.int n t) else mAcc i ti y) = mAcc n t := by
    funext y
    unfold mAcc
    split <;> rfl
  rw [e2] at hn
  obtain ⟨o, es, ep, f1, f2⟩ := I.ns
  obtain ⟨o', es', ep', g1, g2⟩ := id hn
  have C4 : Cg tp.H L s { s with heap := h', toks := s.toks + 2 } := Cg.but S.acc.ld hHd g1 hsb
  have A' : AccS CA L h' ac da cs n := ⟨⟨sl, ps, n', t, b, ⟨(hsb.2 _ S.acc.ne).trans I.at_, I.no, hn⟩, hb, PR.keep fun b' o nb e => C4.get b' o nb e⟩, S.acc.la, S.acc.ld, S.acc.ne⟩
  exact hQ h' _ C4 (St.butD hTp S hHd f1 f2.1 g1 hsb A')

noncomputable def psD (ns : List (Str × Pos)) (e : Expr) : Arguments := { posonlyargs := [], args := ns.map fun p => { arg := p.1, annotation := none, pos := p.2 }, vararg := none, kwonlyargs := [], kw_defaults := [], kwarg := none, defaults := [e] }

theorem reset_ok {CA ac da f c P c' P' : Addr} {cdA : ClassData} {L : List Addr} {cs ds : List Str} {i : Int} {v dV cd : Value} {vals : List Value} {p1 p2 q1 q2 q3 q4 q5 q6 r1 r2 r3 r4 r5 t1 t2 t3 t4 u1 : Pos} {k k' : Nat} {de : Expr} (KF : KA K tp CA) (SK : KS K CA cdA) (hTp : TpOk tp) (hHa : tp.H.get? ac = none) (hHd : tp.H.get? da = none)
    (Fn : FnK K tp f "reset" "_Accumulator.reset" (psD [("self", p1), ("startval", p2)] de) [.If (.Compare (.Name "startval" q1) [.Is] [.Constant .none k q2] q3) [.Assign [.Name "startval" q4] (.List [] q5) q6] [] r1,
      .Assign [.Subscript (.Name "self" r2) (.Slice none none none r3) r4] (.Name "startval" r5) t1, .Assign [.Attribute (.Name "self" t2) "_initial_size" t3] (.Constant (.int 0) k' t4) u1] (scL ["self", "startval"]) [] dV cd)
    (hbind : ∀ pm doc, BindsTo s (mdef "reset" "_Accumulator.reset" (psD [("self", p1), ("startval", p2)] de) [.If (.Compare (.Name "startval" q1) [.Is] [.Constant .none k q2] q3) [.Assign [.Name "startval" q4] (.List [] q5) q6] [] r1,
      .Assign [.Subscript (.Name "self" r2) (.Slice none none none r3) r4] (.Name "startval" r5) t1, .Assign [.Attribute (.Name "self" t2) "_initial_size" t3] (.Constant (.int 0) k' t4) u1] (scL ["self", "startval"]) [] dV pm cd doc) ⟨vals, []⟩ [("self", .ref ac), ("startval", v)])
    (dp : A.depth ≤ 800) (S : St K tp CA L c P c' P' ac da s cs i) (hcs : cs.length ≤ 1000) (hds : ds.length ≤ 1000)
    (hv : (v = .none ∧ ds = []) ∨ ∃ l new n2, v = .ref l ∧ s.heap.get? l = some { cls := .type "list", data := .seq (List.toArray new) n2 } ∧ PartsR L s.heap new ds) {Q : Value → Shared → Prop}
    (hq : ∀ s', Cg tp.H L s s' → St K tp CA L c P c' P' ac da s' ds 0 → Q .none s') : wpAny (model prog w) A (call (.ref f) vals) Q (fun _ _ => False) s := by
  have X := KF.inK _ S.bs
  refine call_m Fn (by omega) S.bs X (binds := [("self", .ref ac), ("startval", v)]) hbind (by decide) (loc2 rfl rfl) rfl rfl rfl fun pm doc h₀ hf hn hk => ?_
  have S0 := S.keep (tk := s.toks + 2) hk
  -- what is behind the first statement
  have rest : ∀ (h1 : Heap) (tk1 : Nat) (l : Addr) (new : List Value) (n2 : Nat), (∀ b o, s.heap.get? b = some o → h1.get? b = some o) → h1.Ns s.heap.objs.size (fun x => if x = Str.ofString "startval" then some (.ref l) else [(Str.ofString "self", Value.ref ac), (Str.ofString "startval", v)].reverse.lookup x) →
      h1.get? l = some { cls := .type "list", data := .seq (List.toArray new) n2 } → PartsR L h1 new ds →
      wpAny (model prog w) (A.deeper (callEnv (mdef "reset" "_Accumulator.reset" (psD [("self", p1), ("startval", p2)] de) [.If (.Compare (.Name "startval" q1) [.Is] [.Constant .none k q2] q3) [.Assign [.Name "startval" q4] (.List [] q5) q6] [] r1,
      .Assign [.Subscript (.Name "self" r2) (.Slice none none none r3) r4] (.Name "startval" r5) t1, .Assign [.Attribute (.Name "self" t2) "_initial_size" t3] (.Constant (.int 0) k' t4) u1] (scL ["self", "startval"]) [] dV pm cd doc) s.heap.objs.size f))
        (execs [.Assign [.Subscript (.Name "self" r2) (.Slice none none none r3) r4] (.Name "startval" r5) t1, .Assign [.Attribute (.Name "self" t2) "_initial_size" t3] (.Constant (.int 0) k' t4) u1] (callEnv (mdef "reset" "_Accumulator.reset" (psD [("self", p1), ("startval", p2)] de) [.If (.Compare (.Name "startval" q1) [.Is] [.Constant .none k q2] q3) [.Assign [.Name "startval" q4] (.List [] q5) q6] [] r1,
      .Assign [.Subscript (.Name "self" r2) (.Slice none none none r3) r4] (.Name "startval" r5) t1, .Assign [.Attribute (.Name "self" t2) "_initial_size" t3] (.Constant (.int 0) k' t4) u1] (scL ["self", "startval"]) [] dV pm cd doc) s.heap.objs.size f))
        (fun fl s' => Q (match fl with | .ret v => v | _ => .none) s') (fun _ _ => False) { s with heap := h1, toks := tk1 } := by
    intro h1 tk1 l new n2 k1 hn1 hl1 hp1
    have S1 := S.keep (tk := tk1) k1
    refine wpAny_execs_cons (wpAny_Assign_Subscript (ldc rfl rfl hn1 (by rfl) (ldc rfl rfl hn1 (by rfl) (wpAny_Slice (wpAny_evalPart_none (wpAny_evalPart_none (wpAny_evalPart_none ?_)))) (by decide)) (by decide)) rfl)
    have kp2 : ∀ b o, h1.get? b = some o → (h1.push { cls := .type "slice", data := .fields #[.none, .none, .none] }).get? b = some o := fun b o e => Heap.get?_push_of_some _ e
    have S2 := S1.keep (tk := tk1) kp2
    refine setslice_acc (s := { s with heap := h1.push { cls := .type "slice", data := .fields #[.none, .none, .none] }, toks := tk1 }) KF SK hTp hHa S2 (Heap.IsSliceOf.new _ _ _ _) .none (kp2 _ _ hl1) (hp1.keep fun b o _ e => kp2 b o e) hcs hds (fun ps _ => ⟨new, by rw [pick_all], hp1.keep fun b o _ e => kp2 b o e⟩) fun h3 C3 S3 sb3 => ?_
    have hn3 : h3.Ns s.heap.objs.size _ := (hn1.keeps kp2).at' fun o e => (sb3.2 _ (fun q => by
      obtain ⟨sl, ps, n, t, b, I, _, _⟩ := S.acc.ex
      exact absurd (Heap.lt_size I.at_) (by rw [← q]; exact Nat.lt_irrefl _))).trans e
    refine wpAny_execs_cons (plainObj_wpAny_Assign_Attribute (wpAny_Constant_int (ldc rfl rfl hn3 (by rfl) ?_ (by decide))) rfl)
    have S3' := S3.keep (tk := tk1 + 1) (h' := h3) fun _ _ e => e
    refine set_init KF SK hTp hHd S3' fun h4 tk4 C4 S4 => wpAny_execs_nil ?_
    have C1 : Cg tp.H L s { s with heap := h1.push { cls := .type "slice", data := .fields #[.none, .none, .none] }, toks := tk1 } := Cg.keeps ⟨_, _, rfl, fun b o e => kp2 b o (k1 b o e)⟩
    have C34 : Cg tp.H L { s with heap := h3, toks := tk1 } { s with heap := h3, toks := tk1 + 1 } := Cg.keeps ⟨_, _, rfl, fun _ _ e => e⟩
    exact hq _ ((C1.trans C3).trans (C34.trans C4)) S4
  rcases hv with ⟨rfl, rfl⟩ | ⟨l, new, n2, rfl, hl, hp⟩
  · refine wpAny_execs_cons (wpAny_If (wpAny_isTrue_Compare1 (ldc rfl rfl hn (by rfl) (wpAny_Constant_none (wpAny_is_plain (by rfl) (wpAny_truthy_bool ?_))) (by decide)) rfl))
    rw [if_pos (by rfl)]
    refine wpAny_execs_cons (wpAny_Assign_Name (wpAny_List (wpAny_items_nil ⟨Nat.zero_le _, ?_⟩)) rfl)
    have kp : ∀ b o, h₀.get? b = some o → (h₀.push { cls := .type "list", data := .seq #[] }).get? b = some o := fun b o e => Heap.get?_push_of_some _ e
    refine wpAny_storeName_local rfl (hn.keeps kp) (fun h2 hn2 hs2 => wpAny_execs_nil ?_) rfl
    have nl : h₀.objs.size ≠ s.heap.objs.size := fun q => by
      obtain ⟨o, es, ep, e1, _⟩ := hn
      exact absurd (Heap.lt_size e1) (by rw [q]; exact Nat.lt_irrefl _)
    refine rest h2 _ h₀.objs.size [] 0 (fun b o e => (hs2.2 b (Nat.ne_of_lt (Heap.lt_size e))).trans (kp b o (hk b o e))) hn2 ((hs2.2 _ nl).trans (Heap.get?_push_size _ rfl)) .nil
  · refine wpAny_execs_cons (wpAny_If (wpAny_isTrue_Compare1 (ldc rfl rfl hn (by rfl) (wpAny_Constant_none (wpAny_is_plain (by rfl) (wpAny_truthy_bool ?_))) (by decide)) rfl))
    rw [if_neg (by intro h; cases h)]
    refine wpAny_execs_nil (rest h₀ _ l new n2 hk ?_ (hk _ _ hl) (hp.keep fun b o _ e => hk b o e))
    have e : (fun x => List.lookup x [(Str.ofString "self", Value.ref ac), (Str.ofString "startval", Value.ref l)].reverse) = (fun x => if x = Str.ofString "startval" then some (Value.ref l) else List.lookup x [(Str.ofString "self", Value.ref ac), (Str.ofString "startval", Value.ref l)].reverse) := by
      funext x
      by_cases q : x = Str.ofString "startval"
      · subst q; rfl
      · rw [if_neg q]
    rw [← e]
    exact hn
end
end Mine
end
section
open PySem PySem.W PyProof.Rows PySem.Calls
open PySem.Builtin.ObjectAttr PySem.Builtin
set_option Elab.async false
set_option maxRecDepth 100000
namespace Mine
section
variable {prog : Program} {w : World} {A : Around} {E : Value → Shared → Prop} {s : Shared} {env : Env} {K : Frag} {tp : Tp}
theorem kind_getitem : builtinKind "list.__getitem__" = some .method := by decide +kernel
theorem split_getitem : splitId "list.__getitem__" = some ("list", "__getitem__") := by decide +kernel

theorem tail_inst {value slice : Expr} {i : Value} {x C dx : Addr} {d : Data} {sl : Array (Option Value)} {m : Str → Option Value} {b : Nat} {id : String} {l : List Value} {Q : Value → Shared → Prop} (X : K.In s.heap) (I : Ins s.heap x C dx d sl m b) (hs : findIn K (.ref C) "__getitem__" = some (some (.builtin id)))
    (h : wpAny (model prog w) A (getItem (.ref x) i) Q E s) (hsl : subscripted slice false (.ref x) i = operate l (getItem (.ref x) i)) (ht : ∀ r, letTemporaryGo value (.ref x) r = pure ()) : wpAny (model prog w) A (subscriptTail value slice (.ref x) i) Q E s := by
  obtain ⟨od, I', hl⟩ := I.inst
  unfold subscriptTail getitemInPython
  refine wpAny_bind (wpAny_bind (wpAny_bind (I'.type.here ((looks_findIn X hs).here ?_))))
  dsimp only
  refine wpAny_pure ?_
  rw [hsl]
  refine wpAny_bind (wpAny_operating (wpAny_mono h (fun r s₃ h₃ => ?_) fun _ _ e => e))
  exact wpAny_bind (wpAny_of_eq (ht r) (wpAny_pure h₃))

/-- self[i], a place of the line -/
theorem item_inst {x C dx : Addr} {items : Array Value} {n : Nat} {sl : Array (Option Value)} {m : Str → Option Value} {b : Nat} {k : Int} {t : Tok} {v : Value} {Q : Value → Shared → Prop} (X : K.In s.heap) (I : Ins s.heap x C dx (.seq items n) sl m b) (nq : noSeq K C = true) (hs : findIn K (.ref C) "__getitem__" = some (some (.builtin "list.__getitem__"))) (hm : mroIn K C (.type "list") = some true)
    (h0 : 0 ≤ k) (hfit : k < 2 ^ 63) (hx : items[k.toNat]? = some v) (h : Q v s) : wpAny (model prog w) A (getItem (.ref x) (.int k t)) Q E s := by
  unfold getItem
  refine wpAny_holding (wpAny_bind (key_inst X I nq (wpAny_bind ?_)))
  refine special_bi X I hs PySem.F.slot_list_getitem.bind ?_
  refine call_bi (.inl kind_getitem) split_getitem PySem.F.slot_list_getitem.plain PySem.F.entry_list_getitem (ins_isInst X I hm) (PySem.F.args_list_getitem_2 _ _) ?_
  show wpAny _ _ (Builtin.List.listSubscript? (.int k t) >>= _) _ _ s
  refine wpAny_bind (wpAny_listSubscript_int (fitsIndex_of h0 hfit) ?_)
  clear hfit
  obtain ⟨j, rfl⟩ := Int.eq_ofNat_of_zero_le h0
  have hx' : items[j]? = some v := hx
  show wpAny _ _ ((seqItemAt x j >>= fun r => pure (r.map (j, ·))) >>= _) _ _ s
  refine wpAny_bind (wpAny_bind (wpAny_seqItemAt I.at_ rfl (wpAny_pure ?_)))
  rw [hx']
  first
    | exact wpAny_bind (wpAny_pure (wpAny_pure ⟨v, rfl, wpAny_pure h⟩))
    | exact wpAny_pure ⟨v, rfl, wpAny_pure h⟩

/-- self[lo:], a list anew -/
theorem slice_inst {x C dx q : Addr} {items : Array Value} {n : Nat} {sl : Array (Option Value)} {m : Str → Option Value} {b : Nat} {vl : Value} {lo : Option Int} {Q : Value → Shared → Prop} (X : K.In s.heap) (I : Ins s.heap x C dx (.seq items n) sl m b) (nq : noSeq K C = true) (hg : findIn K (.ref C) "__getitem__" = some (some (.builtin "list.__getitem__"))) (hm : mroIn K C (.type "list") = some true)
    (hs : s.heap.IsSliceOf q vl .none .none) (pl : IsPart vl lo) (hsz : items.size ≤ 1000) (h : Q (.ref s.heap.objs.size) { s with heap := s.heap.push { cls := .type "list", data := .seq (slicePick items lo none none) } }) : wpAny (model prog w) A (getItem (.ref x) (.ref q)) Q E s := by
  have hs0 := hs
  obtain ⟨oq, q1, q2, q3⟩ := hs
  have hbig := line_big
  unfold getItem
  refine wpAny_holding (wpAny_bind (key_inst X I nq (wpAny_bind ?_)))
  refine special_bi X I hg PySem.F.slot_list_getitem.bind ?_
  refine call_bi (.inl kind_getitem) split_getitem PySem.F.slot_list_getitem.plain PySem.F.entry_list_getitem (ins_isInst X I hm) (PySem.F.args_list_getitem_2 _ _) ?_
  show wpAny _ _ (Builtin.List.listSubscript? (.ref q) >>= _) _ _ s
  refine wpAny_bind (sub_none hs0 ?_)
  show wpAny _ _ (typeOf (.ref q) >>= _) _ _ s
  refine wpAny_bind (wpAny_typeOf (T := "slice") ⟨oq, q1, q2⟩ ?_)
  rw [if_neg (by decide)]
  refine wpAny_bind (parts_ok hs0 pl .none ?_)
  refine wpAny_bind (m := Builtin.List.listItems (.ref x)) (items_any I.at_ rfl ?_)
  refine wpAny_bind (wpAny_of_eq (sliceIndices_raw lo none none items.size (by decide)) ?_)
  refine wpAny_bind (wpAny_newObj_type (wpAny_pure ⟨_, rfl, wpAny_pure h⟩) (Nat.le_trans (slicePick_size_le items lo none none) (by omega)))
end
end Mine
end
section
open PySem PySem.W PyProof.Rows PySem.Calls
open PySem.Builtin.ObjectAttr PySem.Builtin
set_option Elab.async false
set_option maxRecDepth 100000
namespace Mine
section
variable {prog : Program} {w : World} {A : Around} {s : Shared} {env : Env} {K : Frag} {tp : Tp}

theorem pick_from {xs : Array Value} {i : Nat} (hi : i ≤ xs.size) : xs.extract 0 (sliceBounds (some (i : Int)) none none xs.size).1.toNat ++ #[] ++ xs.extract (max (sliceBounds (some (i : Int)) none none xs.size).1 (sliceBounds (some (i : Int)) none none xs.size).2.1).toNat xs.size = xs.extract 0 i := by
  have e1 : (sliceBounds (some (i : Int)) none none xs.size).1 = (i : Int) := by
    have h1 : ¬ ((i : Int) < 0) := by omega
    simp only [sliceBounds, Option.getD_none, h1, if_false, show (1 : Int) > 0 by decide, if_true]
    omega
  have e2 : (sliceBounds (some (i : Int)) none none xs.size).2.1 = (xs.size : Int) := rfl
  rw [e1, e2]
  have e3 : (max (i : Int) (xs.size : Int)).toNat = xs.size := by omega
  have e4 : ((i : Int)).toNat = i := by omega
  rw [e3, e4]
  simp

theorem PartsR.take {L : List Addr} {h : Heap} {vs : List Value} {cs : List Str} (P : PartsR L h vs cs) : ∀ n : Nat, PartsR L h (vs.take n) (cs.take n) := by
  induction P with
  | nil => intro n; simpa using PartsR.nil
  | cons a b _ ih =>
    intro n
    cases n with
    | zero => simpa using PartsR.nil
    | succ n => simpa using PartsR.cons a b (ih n)
theorem PartsR.drop {L : List Addr} {h : Heap} {vs : List Value} {cs : List Str} (P : PartsR L h vs cs) : ∀ n : Nat, PartsR L h (vs.drop n) (cs.drop n) := by
  induction P with
  | nil => intro n; simpa using PartsR.nil
  | cons a b r ih =>
    intro n
    cases n with
    | zero => exact .cons a b r
    | succ n => simpa using ih n

theorem popfrom_ok {CA ac da f c P c' P' : Addr} {cdA : ClassData} {L : List Addr} {cs : List Str} {i : Int} {dV cd : Value} {vals : List Value} {p1 p2 q1 q2 q3 q4 q5 q6 r1 r2 r3 r4 r5 r6 u1 u2 : Pos} {de : Expr} {n : Nat} {tn : Tok} (KF : KA K tp CA) (SK : KS K CA cdA) (hTp : TpOk tp) (hHa : tp.H.get? ac = none)
    (Fn : FnK K tp f "pop_from" "_Accumulator.pop_from" (psD [("self", p1), ("i", p2)] de) [.Assign [.Name "popped" q1] (.Subscript (.Name "self" q2) (.Slice (some (.Name "i" q3)) none none q4) q5) q6,
      .Assign [.Subscript (.Name "self" r1) (.Slice (some (.Name "i" r2)) none none r3) r4] (.List [] r5) r6, .Return (some (.Name "popped" u1)) u2] (scL ["self", "i", "popped"]) [] dV cd)
    (hbind : ∀ pm doc, BindsTo s (mdef "pop_from" "_Accumulator.pop_from" (psD [("self", p1), ("i", p2)] de) [.Assign [.Name "popped" q1] (.Subscript (.Name "self" q2) (.Slice (some (.Name "i" q3)) none none q4) q5) q6,
      .Assign [.Subscript (.Name "self" r1) (.Slice (some (.Name "i" r2)) none none r3) r4] (.List [] r5) r6, .Return (some (.Name "popped" u1)) u2] (scL ["self", "i", "popped"]) [] dV pm cd doc) ⟨vals, []⟩ [("self", .ref ac), ("i", .int n tn)])
    (dp : A.depth ≤ 800) (S : St K tp CA L c P c' P' ac da s cs i) (hcs : cs.length ≤ 1000) (hn : n ≤ cs.length) {Q : Value → Shared → Prop}
    (hq : ∀ s' l new n2, s.heap.get? l = none → Cg tp.H L s s' → St K tp CA L c P c' P' ac da s' (cs.take n) i → s'.heap.get? l = some { cls := .type "list", data := .seq (List.toArray new) n2 } → PartsR L s'.heap new (cs.drop n) → Q (.ref l) s') : wpAny (model prog w) A (call (.ref f) vals) Q (fun _ _ => False) s := by
  have X := KF.inK _ S.bs
  refine call_m Fn (by omega) S.bs X (binds := [("self", .ref ac), ("i", .int n tn)]) hbind (by decide) (loc2 rfl rfl) rfl rfl rfl fun pm doc h₀ hf hn0 hk => ?_
  have S0 := S.keep (tk := s.toks + 2) hk
  have kp1 : ∀ b o, h₀.get? b = some o → (h₀.push { cls := .type "slice", data := .fields #[.int n tn, .none, .none] }).get? b = some o := fun b o e => Heap.get?_push_of_some _ e
  have S1 := S0.keep (tk := s.toks + 2) kp1
  obtain ⟨sl, ps, n0, ti, b, I, hb, PR⟩ := S1.acc.ex
  have hlen := PR.length
  refine wpAny_execs_cons (wpAny_Assign_Name (Subscript_ (ldc rfl rfl hn0 (by rfl) (wpAny_Slice (wpAny_evalPart_some (ldc rfl rfl hn0 (by rfl) (wpAny_evalPart_none (wpAny_evalPart_none ?_)) (by decide)))) (by decide))) rfl)
  refine tail_inst (s := { s with heap := h₀.push { cls := .type "slice", data := .fields #[.int n tn, .none, .none] }, toks := s.toks + 2 }) (KF.inK _ S1.bs) I SK.gi ?_ rfl (fun _ => rfl)
  refine slice_inst (KF.inK _ S1.bs) I SK.nq SK.gi KF.islist (Heap.IsSliceOf.new _ _ _ _) (.int _ _) (by simp only [List.size_toArray]; omega) ?_
  rw [slicePick_from _ _ (by rw [List.size_toArray]; omega)]
  have et : (ps.toArray.toList.drop n).toArray = (ps.drop n).toArray := by simp
  rw [et]
  generalize hh1 : h₀.push { cls := .type "slice", data := .fields #[.int n tn, .none, .none] } = h1 at *
  have kp2 : ∀ b o, h1.get? b = some o → (h1.push { cls := .type "list", data := .seq (ps.drop n).toArray }).get? b = some o := fun b o e => Heap.get?_push_of_some _ e
  have S2 := S1.keep (tk := s.toks + 2) kp2
  have loc1' : h1.Ns s.heap.objs.size _ := hn0.keeps kp1
  refine wpAny_storeName_local rfl (loc1'.keeps kp2) (fun h3 hn3 hs3 => ?_) rfl
  have Llt : s.heap.objs.size < h₀.objs.size := by obtain ⟨o, es, ep, e1, _⟩ := hn0; exact Heap.lt_size e1
  have k3 : ∀ b o, s.heap.get? b = some o → h3.get? b = some o := fun b o e => (hs3.2 b (Nat.ne_of_lt (Heap.lt_size e))).trans (kp2 b o (kp1 b o (hk b o e)))
  have S3 := S.keep (tk := s.toks + 2 + 1) k3
  have D1 : s.heap.objs.size < h1.objs.size := by rw [← hh1, Heap.size_push]; exact Nat.lt_succ_of_lt Llt
  have eD : h3.get? h1.objs.size = some { cls := .type "list", data := .seq (ps.drop n).toArray } := (hs3.2 _ (Nat.ne_of_gt D1)).trans (Heap.get?_push_size _ rfl)
  obtain ⟨sl3, ps3, n3, ti3, b3, I3, hb3, PR3⟩ := S3.acc.ex
  -- self[i:] = []
  refine wpAny_execs_cons (wpAny_Assign_Subscript (wpAny_List (wpAny_items_nil ⟨Nat.zero_le _, ?_⟩)) rfl)
  have kp4 : ∀ b o, h3.get? b = some o → (h3.push { cls := .type "list", data := .seq #[] }).get? b = some o := fun b o e => Heap.get?_push_of_some _ e
  refine ldc rfl rfl (hn3.keeps kp4) (by rfl) (wpAny_Slice (wpAny_evalPart_some (ldc rfl rfl (hn3.keeps kp4) (by rfl) (wpAny_evalPart_none (wpAny_evalPart_none ?_)) (by decide)))) (by decide)
  have kp5 : ∀ b o, h3.get? b = some o → ((h3.push { cls := .type "list", data := .seq #[] }).push { cls := .type "slice", data := .fields #[.int n tn, .none, .none] }).get? b = some o := fun b o e => Heap.get?_push_of_some _ (kp4 b o e)
  have S5 := S3.keep (tk := s.toks + 2 + 1) kp5
  refine setslice_acc (new := []) (n2 := 0) (ds := []) (es := cs.take n) (s := { s with heap := (h3.push { cls := .type "list", data := .seq #[] }).push { cls := .type "slice", data := .fields #[.int n tn, .none, .none] }, toks := s.toks + 2 + 1 }) KF SK hTp hHa S5 (Heap.IsSliceOf.new _ _ _ _) (.int _ _) (Heap.get?_push_of_some _ (Heap.get?_push_size _ rfl)) .nil hcs (Nat.zero_le _) (fun qs hqs => ⟨qs.take n, ?_, hqs.take n⟩) fun h6 C6 S6 sb6 => ?_
  · have := hqs.length
    rw [pick_from (by rw [List.size_toArray]; omega)]
    simp
  · have acl : ac ≠ s.heap.objs.size := Nat.ne_of_lt (by obtain ⟨sl, ps, n, t, b, I, _, _⟩ := S.acc.ex; exact Heap.lt_size I.at_)
    have nacD : h1.objs.size ≠ ac := fun q => by
      rw [q, I3.at_] at eD
      cases eD
    have hn6 : h6.Ns s.heap.objs.size _ := (hn3.keeps kp5).at' fun o e => (sb6.2 _ (Ne.symm acl)).trans e
    refine wpAny_execs_cons (wpAny_Return_some (ldc rfl rfl hn6 (by rfl) ?_ (by decide)))
    have C5 : Cg tp.H L s { s with heap := (h3.push { cls := .type "list", data := .seq #[] }).push { cls := .type "slice", data := .fields #[.int n tn, .none, .none] }, toks := s.toks + 2 + 1 } := Cg.keeps ⟨_, _, rfl, fun b o e => kp5 b o (k3 b o e)⟩
    refine hq _ h1.objs.size (ps.drop n) 0 (Heap.get?_none_of_le (Nat.le_of_lt D1)) (C5.trans C6) S6 ((sb6.2 _ nacD).trans (kp5 _ _ eD)) ?_
    have PRs : PartsR L h3 ps cs := by
      obtain ⟨sl', ps', n', t', b', I', _, PR'⟩ := S.acc.ex
      have e1 := kp1 _ _ (hk _ _ I'.at_)
      have : ps = ps' := by
        have := Option.some.inj (e1.symm.trans I.at_)
        injection this with _ _ h3 _
        injection h3 with h4 _
        simpa using h4.symm
      subst this
      exact PR'.keep fun b o _ e => k3 b o e
    exact (PRs.drop n).keep fun b o nb e => C6.get b o nb (kp5 b o e)
end
end Mine
end
section
open PySem PySem.W PyProof.Rows PySem.Calls
open PySem.Builtin.ObjectAttr PySem.Builtin
set_option Elab.async false
set_option maxRecDepth 100000
namespace Mine
section
variable {prog : Program} {w : World} {A : Around} {s : Shared} {env : Env} {K : Frag} {tp : Tp}

theorem len_body {x C dx f : Addr} {d : Data} {sl : Array (Option Value)} {m : Str → Option Value} {b : Nat} {E : Value → Shared → Prop} {Q : Value → Shared → Prop} (X : K.In s.heap) (I : Ins s.heap x C dx d sl m b) (hs : findIn K (.ref C) "__len__" = some (some (.ref f))) (hf : typeIn K (.ref f) = some (.type "function"))
    (h : wpAny (model prog w) A (call (.ref f) [.ref x]) (W.LenBack Q) E s) : wpAny (model prog w) A (Builtin.«len» ⟨[.ref x], []⟩) (fun fin s' => ∃ v, fin = .done (.ret v) ∧ Q v s') E s := by
  obtain ⟨od, I', hl⟩ := I.inst
  unfold Builtin.«len»
  refine wpAny_bind (m := oneArg "len" _) (wpAny_pure ?_)
  refine wpAny_bind (m := callSpecial? (.ref x) (Str.ofString "__len__")) (special_fn X I' hs hf (wpAny_mono h (fun r s' hr => ?_) fun _ _ y => y))
  cases r <;> first | exact hr.elim | skip
  rename_i n u
  obtain ⟨⟨h0, h1⟩, hq⟩ := hr
  refine wpAny_bind (wpAny_holding (wpAny_pure ?_))
  refine wpAny_bind (wpAny_letGo ?_)
  show wpAny _ _ (if n < 0 then _ else _) _ _ _
  rw [if_neg (by omega)]
  show wpAny _ _ (if n ≥ 2 ^ 63 then _ else _) _ _ _
  rw [if_neg (by omega)]
  exact wpAny_bind (wpAny_mkInt (wpAny_pure ⟨_, rfl, hq⟩))

/-- len(the line) by its own def -/
theorem acc_len {x C dx f : Addr} {d : Data} {sl : Array (Option Value)} {m : Str → Option Value} {b : Nat} {E : Value → Shared → Prop} {Q : Value → Shared → Prop} (X : K.In s.heap) (I : Ins s.heap x C dx d sl m b) (hs : findIn K (.ref C) "__len__" = some (some (.ref f))) (hf : typeIn K (.ref f) = some (.type "function"))
    (h : wpAny (model prog w) A.in1 (call (.ref f) [.ref x]) (W.LenBack Q) E s) : wpAny (model prog w) A (call (.builtin "len") [.ref x]) Q E s :=
  Calls.call_function_entry kind_len plain_len entry_len (args_len1 _) (len_body X I hs hf h)

theorem acc_truthy {x C dx f : Addr} {d : Data} {sl : Array (Option Value)} {m : Str → Option Value} {b : Nat} {E : Value → Shared → Prop} {Q : Bool → Shared → Prop} (X : K.In s.heap) (I : Ins s.heap x C dx d sl m b) (hb : findIn K (.ref C) "__bool__" = some none) (hs : findIn K (.ref C) "__len__" = some (some (.ref f))) (hf : typeIn K (.ref f) = some (.type "function"))
    (h : wpAny (model prog w) A.in1 (call (.ref f) [.ref x]) (W.LenBack fun v s' => ∃ n t, v = .int n t ∧ Q (n != 0) s') E s) : wpAny (model prog w) A (truthy (.ref x)) Q E s := by
  obtain ⟨od, I', hl⟩ := I.inst
  unfold truthy
  refine wpAny_bind (m := callSpecial? (.ref x) (Str.ofString "__bool__")) (wpAny_bind (wpAny_bind (I'.type.here ((looks_findIn X hb).here (wpAny_pure ?_)))))
  refine wpAny_bind (wpAny_bind (I'.type.here ((looks_findIn X hs).here ?_)))
  rw [if_neg (by simp)]
  refine wpAny_bind (wpAny_runValue (codeAny_builtin entry_len ?_))
  rw [Around.under_plainId plain_len]
  refine wpAny_mono (len_body X I hs hf h) (fun fin s' z => ?_) fun _ _ e => e
  obtain ⟨v, rfl, n, t, rfl, hq⟩ := z
  exact wpAny_pure hq
end
end Mine
end
section
open PySem PySem.W PyProof.Rows PySem.Calls
open PySem.Builtin.ObjectAttr PySem.Builtin
set_option Elab.async false
set_option maxRecDepth 100000
namespace Mine
section
variable {prog : Program} {w : World} {A : Around} {s : Shared} {env : Env} {K : Frag} {tp : Tp}

/-- the defs of the line: what the calls of __len__ and __str__ give, said once -/
structure LineD (prog : Program) (w : World) (K : Frag) (tp : Tp) (CA fLen fStr : Addr) (L : List Addr) (c P c' P' : Addr) : Prop where
  fl : findIn K (.ref CA) "__len__" = some (some (.ref fLen))
  tl : typeIn K (.ref fLen) = some (.type "function")
  fs : findIn K (.ref CA) "__str__" = some (some (.ref fStr))
  ts : typeIn K (.ref fStr) = some (.type "function")
  nb : findIn K (.ref CA) "__bool__" = some none
  len : ∀ (A : Around) (s : Shared) (ac da : Addr) (cs : List Str) (Q : Value → Shared → Prop), A.handled = none → A.depth ≤ 800 → St K tp CA L c P c' P' ac da s cs 0 → cs.length ≤ 1000 → (∀ x ∈ cs, x.length = 1) →
    (∀ s' t, Cg tp.H L s s' → St K tp CA L c P c' P' ac da s' cs 0 → Q (.int (2 * cs.length : Nat) t) s') → wpAny (model prog w) A (call (.ref fLen) [.ref ac]) Q (fun _ _ => False) s
  str : ∀ (A : Around) (s : Shared) (ac da : Addr) (cs : List Str) (Q : Value → Shared → Prop), A.handled = none → A.depth ≤ 800 → St K tp CA L c P c' P' ac da s cs 0 → cs.length ≤ 1000 → (∀ x ∈ cs, JoinOk "" [" ", x] = true) → JoinOk "" (cs.map partT) = true →
    (∀ s' t, Cg tp.H L s s' → St K tp CA L c P c' P' ac da s' cs 0 → Q (.str (lineT cs) t) s') → wpAny (model prog w) A (call (.ref fStr) [.ref ac]) Q (fun _ _ => False) s

/-- len(the line) as the program calls it -/
theorem lineLen {CA fLen fStr ac da c P c' P' : Addr} {L : List Addr} {cs : List Str} {Q : Value → Shared → Prop} (KF : KA K tp CA) (D : LineD prog w K tp CA fLen fStr L c P c' P') (hA : A.handled = none) (dp : A.depth ≤ 800) (S : St K tp CA L c P c' P' ac da s cs 0) (hcs : cs.length ≤ 1000) (h1 : ∀ x ∈ cs, x.length = 1)
    (hq : ∀ s' t, Cg tp.H L s s' → St K tp CA L c P c' P' ac da s' cs 0 → Q (.int (2 * cs.length : Nat) t) s') : wpAny (model prog w) A (call (.builtin "len") [.ref ac]) Q (fun _ _ => False) s := by
  obtain ⟨sl, ps, n, ti, b, I, hb, PR⟩ := S.acc.ex
  refine acc_len (KF.inK _ S.bs) I D.fl D.tl (D.len A.in1 s ac da cs _ hA dp S hcs h1 fun s' t C S' => ⟨⟨by omega, by omega⟩, ?_⟩)
  have kp : Keeps s' { s' with toks := s'.toks + 1 } := kpTok
  exact hq _ _ (C.trans (Cg.keeps kp)) (S'.keep (tk := s'.toks + 1) (h' := s'.heap) fun _ _ e => e)

theorem lineTruth {CA fLen fStr ac da c P c' P' : Addr} {L : List Addr} {cs : List Str} {Q : Bool → Shared → Prop} (KF : KA K tp CA) (D : LineD prog w K tp CA fLen fStr L c P c' P') (hA : A.handled = none) (dp : A.depth ≤ 800) (S : St K tp CA L c P c' P' ac da s cs 0) (hcs : cs.length ≤ 1000) (h1 : ∀ x ∈ cs, x.length = 1)
    (hq : ∀ s', Cg tp.H L s s' → St K tp CA L c P c' P' ac da s' cs 0 → Q (decide (cs.length ≠ 0)) s') : wpAny (model prog w) A (truthy (.ref ac)) Q (fun _ _ => False) s := by
  obtain ⟨sl, ps, n, ti, b, I, hb, PR⟩ := S.acc.ex
  refine acc_truthy (KF.inK _ S.bs) I D.nb D.fl D.tl (D.len A.in1 s ac da cs _ hA dp S hcs h1 fun s' t C S' => ⟨⟨by omega, by omega⟩, _, _, rfl, ?_⟩)
  have kp : Keeps s' { s' with toks := s'.toks + 1 } := kpTok
  have e : (((2 * cs.length : Nat) : Int) != 0) = decide (cs.length ≠ 0) := by
    by_cases q : cs.length = 0
    · simp [q]
    · simp [q]
  rw [e]
  exact hq _ (C.trans (Cg.keeps kp)) (S'.keep (tk := s'.toks + 1) (h' := s'.heap) fun _ _ e => e)

theorem lineStr {CA fLen fStr ac da c P c' P' : Addr} {L : List Addr} {cs : List Str} {Q : Value → Shared → Prop} (KF : KA K tp CA) (D : LineD prog w K tp CA fLen fStr L c P c' P') (hA : A.handled = none) (dp : A.depth ≤ 800) (un : A.units ≤ 5000) (S : St K tp CA L c P c' P' ac da s cs 0) (hcs : cs.length ≤ 1000) (h1 : ∀ x ∈ cs, JoinOk "" [" ", x] = true) (h2 : JoinOk "" (cs.map partT) = true)
    (hq : ∀ s' t, Cg tp.H L s s' → St K tp CA L c P c' P' ac da s' cs 0 → Q (.str (lineT cs) t) s') : wpAny (model prog w) A (call (.type "str") [.ref ac]) Q (fun _ _ => False) s := by
  obtain ⟨sl, ps, n, ti, b, I, hb, PR⟩ := S.acc.ex
  obtain ⟨od, I', hl⟩ := I.inst
  have u2 : cLine = 9900 := by decide
  refine kso_call (by show A.units + 1 + 1 < cLine; omega) (KF.inK _ S.bs) I' D.fs (by show (typeIn K _ == _) = true; rw [D.ts]; rfl) (D.str A.in1.in1 s ac da cs _ hA dp S hcs h1 h2 fun s' t C S' => ?_)
  exact hq s' t C S'
end
end Mine
end
section
open PySem PySem.W PyProof.Rows PySem.Calls
open PySem.Builtin.ObjectAttr PySem.Builtin
set_option Elab.async false
set_option maxRecDepth 100000
namespace Mine
section
variable {prog : Program} {w : World} {A : Around} {s : Shared} {env : Env} {K : Frag} {tp : Tp}

theorem only_ok {CA ac da f fLen fStr c P c' P' : Addr} {L : List Addr} {cs : List Str} {cd : Value} {p1 q1 q2 q3 q4 r1 r2 r3 r4 r5 r6 r7 r8 r9 : Pos} {k : Nat} (KF : KA K tp CA) (D : LineD prog w K tp CA fLen fStr L c P c' P') (hstr : tp.mg "str" = none ∧ tp.mb "str" = some (.type "str")) (lt : (r5.endLine == r6.line) = true)
    (Fn : FnK K tp f "is_onlyws" "_Accumulator.is_onlyws" (psL [("self", p1)]) [.Return (some (.BoolOp .And [.Compare (.Attribute (.Name "self" q1) "_initial_size" q2) [.Eq] [.Constant (.int 0) k q3] q4,
      .BoolOp .Or [.UnaryOp .Not (.Name "self" r1) r2, .Call (.Attribute (.Call (.Name "str" r3) [.Name "self" r4] [] r7) "isspace" r5) [] [] r6] r8] r9)) u1] (scN [("self", .local), ("str", .globalImplicit)]) [] .none cd)
    (hA : A.handled = none) (dp : A.depth ≤ 700) (un : A.units ≤ 4000) (S : St K tp CA L c P c' P' ac da s cs 0) (hcs : cs.length ≤ 1000) (hne : cs ≠ []) (hL : ∀ b ∈ L, ∃ o, s.heap.get? b = some o) (h1 : ∀ x ∈ cs, x.length = 1) (h2 : ∀ x ∈ cs, JoinOk "" [" ", x] = true) (h3 : JoinOk "" (cs.map partT) = true) {Q : Value → Shared → Prop}
    (hq : ∀ s', Cg tp.H L s s' → St K tp CA L c P c' P' ac da s' cs 0 → Q (.bool (Txt.isspace (lineT cs))) s') : wpAny (model prog w) A (call (.ref f) [.ref ac]) Q (fun _ _ => False) s := by
  have X := KF.inK _ S.bs
  refine call_m Fn (by omega) S.bs X (binds := [("self", .ref ac)]) (fun _ _ => BindsTo.of_eq rfl) (by decide) (loc1 rfl) rfl rfl rfl fun pm doc h₀ _ hn hk => ?_
  have S0 := S.keep (tk := s.toks + 1) hk
  obtain ⟨sl, ps, n, ti, b, I, hb, PR⟩ := S0.acc.ex
  have dp' : (A.deeper (callEnv (mdef "is_onlyws" "_Accumulator.is_onlyws" (psL [("self", p1)]) [.Return (some (.BoolOp .And [.Compare (.Attribute (.Name "self" q1) "_initial_size" q2) [.Eq] [.Constant (.int 0) k q3] q4,
      .BoolOp .Or [.UnaryOp .Not (.Name "self" r1) r2, .Call (.Attribute (.Call (.Name "str" r3) [.Name "self" r4] [] r7) "isspace" r5) [] [] r6] r8] r9)) u1] (scN [("self", .local), ("str", .globalImplicit)]) [] .none pm cd doc) s.heap.objs.size f)).depth ≤ 800 := by show A.depth + 1 ≤ 800; omega
  have nL : s.heap.objs.size ∉ L := fun q => by
    obtain ⟨o, e⟩ := hL _ q
    exact absurd (Heap.lt_size e) (Nat.lt_irrefl _)
  refine wpAny_execs_cons (wpAny_Return_some (BoolOp_and (wpAny_Compare1 (Attribute_name (ldc rfl rfl hn (by rfl) ?_ (by decide))) rfl)))
  refine ins_get (KF.inK _ S0.bs) I KF.pg KF.hd KF.noInit (by rfl) (by rfl) ?_
  refine wpAny_Constant_int (eq_int (wpAny_truthy_bool ?_))
  rw [if_pos (by decide)]
  have S1 := S0.keep (tk := s.toks + 1 + 1 + 1) (h' := h₀) fun _ _ e => e
  refine BoolOp_one (BoolOp_or (UnaryOp_ (ldc rfl rfl hn (by rfl) (not_of (lineTruth (s := { s with heap := h₀, toks := s.toks + 1 + 1 + 1 }) KF D hA dp' S1 hcs h1 fun s2 C2 S2 => wpAny_truthy_bool ?_)) (by decide))))
  have ec : decide (cs.length ≠ 0) = true := decide_eq_true (fun e => hne (List.length_eq_zero_iff.mp e))
  rw [ec, if_neg (by decide)]
  have hn2 : s2.heap.Ns s.heap.objs.size _ := hn.at' fun o e => C2.get _ o nL e
  have un' : (A.deeper (callEnv (mdef "is_onlyws" "_Accumulator.is_onlyws" (psL [("self", p1)]) [.Return (some (.BoolOp .And [.Compare (.Attribute (.Name "self" q1) "_initial_size" q2) [.Eq] [.Constant (.int 0) k q3] q4,
      .BoolOp .Or [.UnaryOp .Not (.Name "self" r1) r2, .Call (.Attribute (.Call (.Name "str" r3) [.Name "self" r4] [] r7) "isspace" r5) [] [] r6] r8] r9)) u1] (scN [("self", .local), ("str", .globalImplicit)]) [] .none pm cd doc) s.heap.objs.size f)).units ≤ 5000 := by show A.units + 3 ≤ 5000; omega
  refine BoolOp_one (Call_method0 rfl lt (wpAny_Call_NameR (name_builtin (tp := tp) ⟨rfl, rfl, rfl⟩ S2.bs rfl hstr.1 hstr.2 (by decide) (PySem.callWith_type1 (ldc rfl rfl hn2 (by rfl) ?_ (by decide))))))
  refine lineStr KF D hA dp' un' S2 hcs h2 h3 fun s3 t3 C3 S3 => SB.isspace ?_
  have C0 : Cg tp.H L s { s with heap := h₀, toks := s.toks + 1 + 1 + 1 } := Cg.keeps ⟨_, _, rfl, hk⟩
  exact hq s3 ((C0.trans C2).trans C3) S3
end
end Mine
end
section
open PySem PySem.W PyProof.Rows PySem.Calls
open PySem.Builtin.ObjectAttr PySem.Builtin
set_option Elab.async false
set_option maxRecDepth 100000
namespace Mine

structure MethF (K : Frag) (C : Addr) (name : Str) (f : Addr) : Prop where
  find : findIn K (.ref C) name = some (some (.ref f))
  ty : typeIn K (.ref f) = some (.type "function")
  keep : keepIn K (.ref f) = true

/-- the line's parts are of one sign, its text can be laid -/
structure LineOk (cs : List Str) : Prop where
  few : cs.length ≤ 800
  one : ∀ x ∈ cs, x.length = 1
  part : ∀ x ∈ cs, JoinOk "" [" ", x] = true
  all : JoinOk "" (cs.map partT) = true

section
variable (prog : Program) (w : World) (K : Frag) (tp : Tp)
/-- what the line's methods do, said once -/
structure LineO (CA fLen fStr fPush fPopF fPop fReset fOnly fCount : Addr) (L : List Addr) (c P c' P' : Addr) : Prop where
  d : LineD prog w K tp CA fLen fStr L c P c' P'
  mPush : MethF K CA "push" fPush
  mPopF : MethF K CA "pop_from" fPopF
  mPop : MethF K CA "pop" fPop
  mReset : MethF K CA "reset" fReset
  mOnly : MethF K CA "is_onlyws" fOnly
  mCount : MethF K CA "part_count" fCount
  push : ∀ (A : Around) (s : Shared) (ac da : Addr) (cs : List Str) (x : Str) (t u : Tok) (Q : Value → Shared → Prop), A.handled = none → A.depth ≤ 600 → A.units ≤ 3000 → tp.H.get? ac = none → tp.H.get? da = none → St K tp CA L c P c' P' ac da s cs 0 → cs.length ≤ 800 → (∀ b ∈ L, ∃ o, s.heap.get? b = some o) →
    (∀ s', Cg tp.H L s s' → St K tp CA L c P c' P' ac da s' (cs ++ [x]) 0 → Q .none s') → codeAny (model prog w) A (.call (.ref fPush) ⟨[.ref ac, .str " " t, .str x u], []⟩) (Rf Q) s
  pop : ∀ (A : Around) (s : Shared) (ac da : Addr) (cs : List Str) (x : Str) (Q : Value → Shared → Prop), A.handled = none → A.depth ≤ 600 → A.units ≤ 3000 → tp.H.get? ac = none → tp.H.get? da = none → ac ≠ CA → St K tp CA L c P c' P' ac da s (cs ++ [x]) 0 → cs.length ≤ 800 →
    (∀ s' a t u n, Cg tp.H L s s' → St K tp CA L c P c' P' ac da s' cs 0 → a ∉ L → s'.heap.get? a = some { cls := .type "tuple", data := .seq #[.str " " t, .str x u] n } → Q (.ref a) s') → wpAny (model prog w) A (call (.ref fPop) [.ref ac]) Q (fun _ _ => False) s
  reset0 : ∀ (A : Around) (s : Shared) (ac da : Addr) (cs : List Str) (Q : Value → Shared → Prop), A.handled = none → A.depth ≤ 600 → A.units ≤ 3000 → tp.H.get? ac = none → tp.H.get? da = none → St K tp CA L c P c' P' ac da s cs 0 → cs.length ≤ 800 →
    (∀ s', Cg tp.H L s s' → St K tp CA L c P c' P' ac da s' [] 0 → Q .none s') → wpAny (model prog w) A (call (.ref fReset) [.ref ac]) Q (fun _ _ => False) s
  reset1 : ∀ (A : Around) (s : Shared) (ac da l : Addr) (new : List Value) (n2 : Nat) (cs ds : List Str) (Q : Value → Shared → Prop), A.handled = none → A.depth ≤ 600 → A.units ≤ 3000 → tp.H.get? ac = none → tp.H.get? da = none → St K tp CA L c P c' P' ac da s cs 0 → cs.length ≤ 800 → ds.length ≤ 800 →
    s.heap.get? l = some { cls := .type "list", data := .seq (List.toArray new) n2 } → PartsR L s.heap new ds →
    (∀ s', Cg tp.H L s s' → St K tp CA L c P c' P' ac da s' ds 0 → Q .none s') → wpAny (model prog w) A (call (.ref fReset) [.ref ac, .ref l]) Q (fun _ _ => False) s
  popF : ∀ (A : Around) (s : Shared) (ac da : Addr) (cs : List Str) (n : Nat) (tn : Tok) (Q : Value → Shared → Prop), A.handled = none → A.depth ≤ 600 → A.units ≤ 3000 → tp.H.get? ac = none → tp.H.get? da = none → St K tp CA L c P c' P' ac da s cs 0 → cs.length ≤ 800 → n ≤ cs.length →
    (∀ s' l new n2, s.heap.get? l = none → Cg tp.H L s s' → St K tp CA L c P c' P' ac da s' (cs.take n) 0 → s'.heap.get? l = some { cls := .type "list", data := .seq (List.toArray new) n2 } → PartsR L s'.heap new (cs.drop n) → Q (.ref l) s') → wpAny (model prog w) A (call (.ref fPopF) [.ref ac, .int n tn]) Q (fun _ _ => False) s
  only : ∀ (A : Around) (s : Shared) (ac da : Addr) (cs : List Str) (Q : Value → Shared → Prop), A.handled = none → A.depth ≤ 600 → A.units ≤ 3000 → St K tp CA L c P c' P' ac da s cs 0 → LineOk cs → cs ≠ [] → (∀ b ∈ L, ∃ o, s.heap.get? b = some o) →
    (∀ s', Cg tp.H L s s' → St K tp CA L c P c' P' ac da s' cs 0 → Q (.bool (Txt.isspace (lineT cs))) s') → wpAny (model prog w) A (call (.ref fOnly) [.ref ac]) Q (fun _ _ => False) s
  count : ∀ (A : Around) (s : Shared) (ac da : Addr) (cs : List Str) (Q : Value → Shared → Prop), A.handled = none → A.depth ≤ 600 → A.units ≤ 3000 → ac ≠ CA → St K tp CA L c P c' P' ac da s cs 0 →
    (∀ s' t, Cg tp.H L s s' → St K tp CA L c P c' P' ac da s' cs 0 → Q (.int (cs.length : Nat) t) s') → wpAny (model prog w) A (call (.ref fCount) [.ref ac]) Q (fun _ _ => False) s
end

section
variable {prog : Program} {w : World} {A : Around} {s : Shared} {env : Env} {K : Frag} {tp : Tp}

structure KV (K : Frag) (CV : Addr) : Prop where
  pg : PG K CV
  hd : hasDictIn K CV = true
  cur : findIn K (.ref CV) "_current_line" = some none
  lin : findIn K (.ref CV) "_lines" = some none
  max : findIn K (.ref CV) "_maxlen" = some none
  spl : findIn K (.ref CV) "_splitchars" = some none

/-- the page -/
structure PgS (K : Frag) (tp : Tp) (CA CV : Addr) (L : List Addr) (c P c' P' pg dp ll ac da : Addr) (s : Shared) (lines cs : List Str) (mx : Int) : Prop where
  st : St K tp CA L c P c' P' ac da s cs 0
  pgI : ∃ sl m b, Ins s.heap pg CV dp .plain sl m b ∧ m "_current_line" = some (.ref ac) ∧ m "_lines" = some (.ref ll) ∧ (∃ t, m "_maxlen" = some (.int mx t)) ∧ (∃ t, m "_splitchars" = some (.str " " t)) ∧ m "_append_chunk" = none ∧ m "newline" = none ∧ m "_str" = none
  lnI : ∃ vs n, s.heap.get? ll = some { cls := .type "list", data := .seq (List.toArray vs) n } ∧ StrsAre vs lines
  nPg : pg ∉ L
  nDp : dp ∉ L
  nLl : ll ∉ L
  hLl : tp.H.get? ll = none
  hAc : tp.H.get? ac = none
  hDa : tp.H.get? da = none
  nCA : ac ≠ CA
  inL : ∀ b ∈ L, ∃ o, s.heap.get? b = some o

/-- the line under way changes, the page stays -/
theorem PgS.line {CA CV c P c' P' pg dp ll ac da : Addr} {L : List Addr} {lines cs cs' : List Str} {mx : Int} {s' : Shared} (G : PgS K tp CA CV L c P c' P' pg dp ll ac da s lines cs mx) (C : Cg tp.H L s s') (S : St K tp CA L c P c' P' ac da s' cs' 0) : PgS K tp CA CV L c P c' P' pg dp ll ac da s' lines cs' mx := by
  obtain ⟨st, ⟨sl, m, b, I, r⟩, ⟨vs, n, h1, h2⟩, n1, n2, n3, h3, h4, h5, h6, h7⟩ := G
  refine ⟨S, ⟨sl, m, b, ⟨C.get _ _ n1 I.at_, I.no, ?_⟩, r⟩, ⟨vs, n, C.get _ _ n3 h1, h2⟩, n1, n2, n3, h3, h4, h5, h6, fun b hb => let ⟨o, e⟩ := h7 b hb; C.there b o e⟩
  obtain ⟨o, es, ep, e1, r⟩ := I.ns
  exact ⟨o, es, ep, C.get _ _ n2 e1, r⟩
end
end Mine
end
section
open PySem PySem.W PyProof.Rows PySem.Calls
open PySem.Builtin.ObjectAttr PySem.Builtin
set_option Elab.async false
set_option maxRecDepth 100000
namespace Mine
section
variable {prog : Program} {w : World} {A : Around} {E : Value → Shared → Prop} {s : Shared} {env : Env} {K : Frag} {tp : Tp}

/-- a def of the class as an attribute of the object: bound -/
theorem ins_bound {x C dx f : Addr} {d : Data} {sl : Array (Option Value)} {m : Str → Option Value} {b : Nat} {name : Str} {expr : Bool} {Q : Value → Shared → Prop} (X : K.In s.heap) (I : Ins s.heap x C dx d sl m b) (hg : PG K C) (hd : hasDictIn K C = true) (M : MethF K C name f) (hm : m name = none) (hc : copiedNames.contains name = false)
    (h : Q (.ref s.heap.objs.size) { s with heap := s.heap.push { cls := .type "method", data := .fields #[.ref f, .ref x] }, toks := s.toks + 1 }) : wpAny (model prog w) A (getAttr (.ref x) name expr) Q E s := by
  obtain ⟨od, I', hl⟩ := I.inst
  obtain ⟨cd, hcd, hdd⟩ := any_some hd
  have hsp : specialIn K (.ref f) "__get__" = some (some (.builtin "function.__get__")) := by
    unfold specialIn
    rw [M.ty, Option.bind_some]
    rfl
  have htk : takesIn K (.ref f) = some false := by
    unfold takesIn specialIn
    rw [M.ty]
    rfl
  have hfo : findObj K C (some od) name = some (.bind (.builtin "function.__get__") (.ref f)) := by
    unfold findObj
    rw [hcd, Option.bind_some, M.find, Option.bind_some]
    dsimp only
    rw [hsp, Option.bind_some]
    dsimp only
    rw [htk, Option.bind_some]
    dsimp only
    have ho : W.ownOf cd (some od) name = some none := by unfold W.ownOf; rw [if_pos hdd]; show lookIn name od = _; rw [hl, hm]
    rw [ho, Option.bind_some, hc]
    rfl
  refine ga_bnd X I' hg hfo ?_
  have hTf : ({ s with toks := s.toks + 1 } : Shared).TypeIs (.ref f) "function" := by
    have ht : (K.lookup f).map (·.cls) = some (.type "function") := M.ty
    cases z : K.lookup f with
    | none => rw [z] at ht; cases ht
    | some of => rw [z] at ht; exact ⟨of, X _ _ z, Option.some.inj ht⟩
  refine wpAny_call_entry PySem.F.ks_slot_function_get hTf PySem.F.ks_entry_function_get ?_ (PySem.F.ks_getArgs_function _ _ _)
  unfold Builtin.«function.__get__»
  repeat (any_goals (first | assumption | wp_step))
  refine ⟨_, rfl, ?_⟩
  exact wpAny_pure h
end
end Mine
end
section
open PySem PySem.W PyProof.Rows PySem.Calls
open PySem.Builtin.ObjectAttr PySem.Builtin
set_option Elab.async false
set_option maxRecDepth 100000
namespace Mine
section
variable {prog : Program} {w : World} {A : Around} {E : Value → Shared → Prop} {s : Shared} {env : Env} {K : Frag} {tp : Tp}

theorem Call_star {o e : Expr} {name : Str} {apos pos sp : Pos} {Q : Value → Shared → Prop} (hbase : attributeBase o name env (eval o env) = eval o env)
    (h : wpAny (model prog w) A (eval o env) (fun ov s₁ => wpAny (model prog w) A (getAttr ov name true) (fun f s₂ => wpAny (model prog w) A (callWith pos f [] (backTo pos (starEach [.Starred e sp] env)) []) Q E s₂) E s₁) E s) :
    wpAny (model prog w) A (eval (.Call (.Attribute o name apos) [.Starred e sp] [] pos) env) Q E s := by
  rw [arm_eval_Call, hbase]
  refine wpAny_bind (wpAny_mono h (fun ov s₁ h₁ => ?_) fun _ _ e => e)
  refine wpAny_bind (wpAny_standAt ?_)
  have hform : methodCallForm (([.Starred e sp] : List Expr).length + ([] : List Keyword).length) (backTo pos (starEach [.Starred e sp] env)) (backToKw pos (keywordEach [] env)) = false := rfl
  have hpos : methodCallPos false o env apos pos = pure pos := by unfold methodCallPos; simp
  unfold methodCall calleeOf
  rw [hform, if_neg (by decide)]
  refine wpAny_bind (wpAny_holding (wpAny_bind (wpAny_mono h₁ (fun f s₂ h₂ => wpAny_pure ?_) fun _ _ e => e)))
  exact wpAny_bind (wpAny_of_eq hpos h₂)

theorem callWith_star {e : Expr} {pos sp : Pos} {q f T : Addr} {x a b : Value} {n : Nat} {Q : Value → Shared → Prop} (hf : fnIn K f = true) (X : K.In s.heap) (hq0 : s.heap.get? q = some { cls := .type "method", data := .fields #[.ref f, x] }) (hT : s.heap.get? T = some { cls := .type "tuple", data := .seq #[a, b] n })
    (he : ∀ {R : Value → Shared → Prop}, R (.ref T) s → wpAny (model prog w) A (eval e env) R E s)
    (h : ∀ h', (∀ b o, s.heap.get? b = some o → h'.get? b = some o) → codeAny (model prog w) A (.call (.ref f) ⟨[x, a, b], []⟩) (Rf Q) { s with heap := h' }) :
    wpAny (model prog w) A (callWith pos (.ref q) [] (backTo pos (starEach [.Starred e sp] env)) []) Q E s := by
  have e1 : backTo pos (starEach [.Starred e sp] env) = [(true, do let v ← eval e env; standAt pos; pure v)] := rfl
  rw [e1]
  unfold callWith evalArgs
  refine wpAny_bind (wpAny_holding ?_)
  refine wpAny_bind (wpAny_bind (he (wpAny_bind (wpAny_standAt (wpAny_pure (wpAny_bind (wpAny_pure ?_)))))))
  dsimp only
  refine wpAny_holding ?_
  rw [if_pos (by rfl)]
  refine wpAny_bind (wpAny_pure (a := ([] : List Value)) ?_)
  refine wpAny_bind ?_
  have hTT : s.TypeIs (.ref T) "tuple" := ⟨_, hT, rfl⟩
  have hni : ∀ {R : Bool → Shared → Prop} {A : Around} {E : Value → Shared → Prop}, R false s → wpAny (model prog w) A (notIterableAtAll (.ref T)) R E s := fun hR => by
    unfold notIterableAtAll
    refine wpAny_bind (wpAny_specialOf hTT PySem.F.slot_tuple_iter.lookup ?_)
    rw [if_pos (by rfl)]
    exact wpAny_pure hR
  refine wpAny_bind (hni ?_)
  rw [if_neg (by decide)]
  refine wpAny_holding (wpAny_collect_seq T (.inr rfl) hT rfl rfl (fun h' k => ?_) (by show 2 ≤ sizeLine; have := line_big; omega))
  refine wpAny_pure ?_
  refine wpAny_bind (wpAny_standAt ?_)
  have hq1 : h'.get? q = some { cls := .type "method", data := .fields #[.ref f, x] } := k _ _ hq0
  have hk : ∀ {R : Keeper → Shared → Prop}, R .boundFrame { s with heap := h' } → wpAny (model prog w) A (keeperOf (.ref q)) R E { s with heap := h' } := fun hR => by
    unfold keeperOf
    refine wpAny_bind (wpAny_load hq1 ?_)
    dsimp only
    rw [if_neg (by decide)]
    unfold fnIn at hf
    split at hf
    · rename_i oc od fd sl ez
      exact wpAny_bind (wpAny_load (k _ _ (X _ _ ez)) (wpAny_pure hR))
    · cases hf
  refine wpAny_bind (hk ?_)
  refine wpAny_bind (wpAny_operating (wpAny_call (codeAny_mono (method_call hq1 (h h' k)) fun r s' z => ?_)))
  rcases r with er | (v | _ | _ | _)
  all_goals first | exact z.elim | exact wpAny_bind (wpAny_holding (wpAny_point (wpAny_pure z)))
end
end Mine
end
section
open PySem PySem.W PyProof.Rows PySem.Calls
open PySem.Builtin.ObjectAttr PySem.Builtin
set_option Elab.async false
set_option maxRecDepth 100000
namespace Mine
section
variable {prog : Program} {w : World} {A : Around} {E : Value → Shared → Prop} {s : Shared} {env : Env} {K : Frag} {tp : Tp}

theorem PgS.keep {CA CV c P c' P' pg dp ll ac da : Addr} {L : List Addr} {lines cs : List Str} {mx : Int} {h' : Heap} {tk : Nat} (G : PgS K tp CA CV L c P c' P' pg dp ll ac da s lines cs mx) (k : ∀ b o, s.heap.get? b = some o → h'.get? b = some o) : PgS K tp CA CV L c P c' P' pg dp ll ac da { s with heap := h', toks := tk } lines cs mx :=
  G.line (Cg.keeps ⟨_, _, rfl, k⟩) (G.st.keep k)

/-- self._current_line, read in a method of the page -/
theorem cur_line {CA CV c P c' P' pg dp ll ac da : Addr} {L : List Addr} {lines cs : List Str} {mx : Int} {m : Str → Option Value} {q1 q2 : Pos} {R : Value → Shared → Prop} (KF : KA K tp CA) (V : KV K CV) (G : PgS K tp CA CV L c P c' P' pg dp ll ac da s lines cs mx) (hf : env.scope.kind = .function) (hk : env.kindOf "self" = some .local) (hn : s.heap.Ns env.locals m) (hm : m "self" = some (.ref pg))
    (h : PgS K tp CA CV L c P c' P' pg dp ll ac da { s with toks := s.toks + 1 } lines cs mx → R (.ref ac) { s with toks := s.toks + 1 }) : wpAny (model prog w) A (eval (.Attribute (.Name "self" q1) "_current_line" q2) env) R E s := by
  refine Attribute_name (name_loc hf hk (by decide) hn hm ?_)
  obtain ⟨sl, mm, b, I, h1, _⟩ := G.pgI
  exact ins_get (KF.inK _ G.st.bs) I V.pg V.hd V.cur h1 (by rfl) (h (G.keep (h' := s.heap) fun _ _ e => e))

/-- a method of the line, called with nothing -/
theorem line_meth {CA c P c' P' pg dp ll ac da f CV : Addr} {L : List Addr} {lines cs : List Str} {mx : Int} {name : Str} {pos : Pos} {pl : Sem Bool} {Q : Value → Shared → Prop} (KF : KA K tp CA) (G : PgS K tp CA CV L c P c' P' pg dp ll ac da s lines cs mx) (M : MethF K CA name f) (hm : (name = Str.ofString "_initial_size") = False)
    (h : wpAny (model prog w) A (call (.ref f) [.ref ac]) Q (fun _ _ => False) s) : wpAny (model prog w) A (getMethod (.ref ac) name pl) (fun fx s₂ => wpAny (model prog w) A (callWith pos fx.1 fx.2 (backTo pos (starEach [] env)) []) Q (fun _ _ => False) s₂) (fun _ _ => False) s := by
  obtain ⟨sl, ps, n, ti, b, I, hb, PR⟩ := G.st.acc.ex
  exact ins_meth (KF.inK _ G.st.bs) I KF.pg M.find M.ty (by show (if name = _ then _ else _) = none; rw [if_neg (by intro h; exact hm ▸ h)]) (callWith_K0 (KF.inK _ G.st.bs) M.keep h)

theorem pair_shaped {x : Str} (hx : PyData.strOk x = true) : PySem.SeqAt.shaped (.tuple [.str " ", .str x]) = true := by
  have h0 : PyData.strOk " " = true := by decide +kernel
  simp [PySem.SeqAt.shaped, PyData.canLay0, PyData.canLayAll0, PyData.depth, PyData.depthAll, hx, h0]

/-- a part against a pair of texts written there -/
theorem pair_ne {a b : Addr} {x y : Str} {t u t' u' : Tok} {n n' : Nat} {Q : Value → Shared → Prop} (ha : s.heap.get? a = some { cls := .type "tuple", data := .seq #[.str " " t, .str x u] n }) (hb : s.heap.get? b = some { cls := .type "tuple", data := .seq #[.str " " t', .str y u'] n' }) (hx : PyData.strOk x = true) (hy : PyData.strOk y = true)
    (hu : A.units + 64 < cLine) (hne : (x == y) = false) (h : Q (.bool true) s) : wpAny (model prog w) A (compareOp .NotEq (.ref a) (.ref b)) Q E s := by
  refine PySem.SeqAt.compareNe_shaped (.tuple ha rfl rfl (.cons (.str _ _) (.cons (.str _ _) .nil))) (.tuple hb rfl rfl (.cons (.str _ _) (.cons (.str _ _) .nil))) (pair_shaped hx) (pair_shaped hy) hu ?_
  have e : PyData.eqv (.tuple [.str " ", .str x]) (.tuple [.str " ", .str y]) = false := by simp [PyData.eqv, PyData.eqvAll, hne]
  rw [e]
  exact h

theorem PartsR.keepT {L : List Addr} {h h' : Heap} {vs : List Value} {cs : List Str} (P : PartsR L h vs cs) (k : ∀ b xs n, b ∉ L → h.get? b = some { cls := .type "tuple", data := .seq xs n } → h'.get? b = some { cls := .type "tuple", data := .seq xs n }) : PartsR L h' vs cs := by
  induction P with
  | nil => exact .nil
  | cons na ho _ ih => exact .cons na (k _ _ _ na ho) ih

/-- a local is stored while the page stands by -/
theorem PgS.local {CA CV c P c' P' pg dp ll ac da x : Addr} {L : List Addr} {lines cs : List Str} {mx : Int} {h' : Heap} {tk : Nat} {m m' : Str → Option Value} (hTp : TpOk tp) (G : PgS K tp CA CV L c P c' P' pg dp ll ac da s lines cs mx) (hH : tp.H.get? x = none) (hxL : x ∉ L) (hxd : x ≠ dp) (hn : s.heap.Ns x m) (hn' : h'.Ns x m') (sb : Heap.SameBut x s.heap h') :
    PgS K tp CA CV L c P c' P' pg dp ll ac da { s with heap := h', toks := tk } lines cs mx := by
  obtain ⟨st, ⟨sl, mm, b, I, r⟩, ⟨vs, n, h1, h2⟩, n1, n2, n3, h3, h4, h5, h6, h7⟩ := G
  obtain ⟨ox, es, ep, e0, ed, _⟩ := id hn
  obtain ⟨o', _, _, g, _⟩ := id hn'
  have nd : ∀ b o, s.heap.get? b = some o → (∀ es ep, o.data ≠ .dict es ep) → b ≠ x := fun b o e q z => by
    rw [z, e0] at e
    cases e
    exact q _ _ ed
  have nac : ac ≠ x := fun q => hxL (q ▸ st.acc.la)
  have nda : da ≠ x := fun q => hxL (q ▸ st.acc.ld)
  have acc' : AccS CA L h' ac da cs 0 := by
    obtain ⟨⟨sl, ps, n, ti, b, ⟨f1, f2, o, es', ep', f3, f4⟩, hb, PR⟩, la, ld, ne⟩ := st.acc
    exact ⟨⟨sl, ps, n, ti, b, ⟨(sb.2 _ nac).trans f1, f2, o, es', ep', (sb.2 _ nda).trans f3, f4⟩, hb, PR.keepT fun b xs n _ e => (sb.2 _ (nd b _ e (fun _ _ q => by cases q))).trans e⟩, la, ld, ne⟩
  refine ⟨St.butD hTp st hH e0 ed g sb acc', ?_, ?_, n1, n2, n3, h3, h4, h5, h6, ?_⟩
  · obtain ⟨f1, f2, o, es', ep', f3, f4⟩ := I
    exact ⟨sl, mm, b, ⟨(sb.2 _ (nd _ _ f1 (fun _ _ q => by cases q))).trans f1, f2, o, es', ep', (sb.2 _ (Ne.symm hxd)).trans f3, f4⟩, r⟩
  · exact ⟨vs, n, (sb.2 _ (nd _ _ h1 (fun _ _ q => by cases q))).trans h1, h2⟩
  · intro b hb
    obtain ⟨o, e⟩ := h7 b hb
    exact ⟨o, (sb.2 b (fun q => hxL (q ▸ hb))).trans e⟩
end
end Mine
end
section
open PySem PySem.W PyProof.Rows PySem.Calls
open PySem.Builtin.ObjectAttr PySem.Builtin
set_option Elab.async false
set_option maxRecDepth 100000
namespace Mine
noncomputable def scNL : List (Str × NameKind) := [("self", .local), ("end_of_line", .local), ("len", .globalImplicit), ("str", .globalImplicit)]
section
variable {prog : Program} {w : World} {A : Around} {s s0 : Shared} {env : Env} {K : Frag} {tp : Tp}

theorem Cg.mono {H : Heap} {L L' : List Addr} {s s' : Shared} (a : Cg H L s s') (h : ∀ x ∈ L, x ∈ L') : Cg H L' s s' := ⟨fun b o n e => a.get b o (fun q => n (h b q)) e, a.2, a.3, a.4, a.5⟩
/-- a new place is written: nothing of before is touched -/
theorem Cg.newBut {H : Heap} {L : List Addr} {s s1 : Shared} {x : Addr} {h' : Heap} {tk : Nat} (a : Cg H L s s1) (h0 : s.heap.get? x = none) (hH : H.get? x = none) (sb : Heap.SameBut x s1.heap h') : Cg H L s { s1 with heap := h', toks := tk } := by
  have ne : ∀ b o, s.heap.get? b = some o → b ≠ x := fun b o e q => by rw [q, h0] at e; cases e
  exact ⟨fun b o n e => (sb.2 b (ne b o e)).trans (a.get b o n e), fun b o e => let ⟨o', e'⟩ := a.there b o e; ⟨o', (sb.2 b (ne b o e)).trans e'⟩, a.3, a.4, fun O => old_but (a.5 O) hH (Sb.of sb)⟩

/-- the body of `newline`: its two first statements (the line is cut and pushed back whole) -/
theorem nl_back {CA CV fLen fStr fPush fPopF fPop fReset fOnly fCount c P c' P' pg dp ll ac da : Addr} {L : List Addr} {lines cs : List Str} {x : Str} {mx : Int} {m : Str → Option Value} {rest : List Stmt} {Q : Flow → Shared → Prop}
    {n0 n1 n2 n3 n4 n5 o1 o2 o3 o4 o5 o6 o7 o8 o9 g1 g2 g3 g4 : Pos} {k k1 k2 : Nat} (KF : KA K tp CA) (V : KV K CV) (hTp : TpOk tp) (O : LineO prog w K tp CA fLen fStr fPush fPopF fPop fReset fOnly fCount L c P c' P') (hfn : fnIn K fPush = true) (lt : (n3.endLine == n4.line) = true) 
    (hA : A.handled = none) (dpt : A.depth ≤ 600) (un : A.units ≤ 3000) (G : PgS K tp CA CV L c P c' P' pg dp ll ac da s lines (cs ++ [x]) mx) (hcs : cs.length ≤ 700) (hx : PyData.strOk x = true) (hne : (x == ("" : Str)) = false)
    (hf : env.scope.kind = .function) (hni : interactive env = false) (hks : env.kindOf "self" = some .local) (hke : env.kindOf "end_of_line" = some .local) (hn : s.heap.Ns env.locals m) (hm : m "self" = some (.ref pg)) (hH : tp.H.get? env.locals = none) (hlL : env.locals ∉ L) (hld : env.locals ≠ dp) (hC0 : Cg tp.H L s0 s) (hz : s0.heap.get? env.locals = none)
    (h : ∀ s' m', Cg tp.H L s0 s' → PgS K tp CA CV L c P c' P' pg dp ll ac da s' lines (cs ++ [x]) mx → s'.heap.Ns env.locals m' → m' "self" = some (.ref pg) → wpAny (model prog w) A (execs rest env) Q (fun _ _ => False) s') :
    wpAny (model prog w) A (execs (.Assign [.Name "end_of_line" n0] (.Call (.Attribute (.Attribute (.Name "self" n1) "_current_line" n2) "pop" n3) [] [] n4) n5 ::
      .If (.Compare (.Name "end_of_line" o1) [.NotEq] [.Tuple [.Constant (.str " ") k1 o2, .Constant (.str "") k2 o3] k o4] o5)
        [.Expr (.Call (.Attribute (.Attribute (.Name "self" o6) "_current_line" o7) "push" o8) [.Starred (.Name "end_of_line" o9) g1] [] g2) g3] [] g4 :: rest) env) Q (fun _ _ => False) s := by
  refine wpAny_execs_cons (wpAny_Assign_Name (Call_G ⟨rfl, rfl, lt⟩ (cur_line KF V G hf hks hn hm fun G1 => ?_)) rfl)
  intro pl
  refine line_meth (s := { s with toks := s.toks + 1 }) KF G1 O.mPop (by decide) (O.pop A _ ac da cs x _ hA dpt un G1.hAc G1.hDa G1.nCA G1.st (by omega) fun s2 a t u n C2 S2 na ha => ?_)
  have G2 := G1.line C2 S2
  have hn2 : s2.heap.Ns env.locals m := hn.at' fun o e => C2.get _ o hlL e
  refine wpAny_storeName_local hke hn2 (fun h3 hn3 sb3 => ?_) (by rw [hf]; rfl)
  have G3 := G2.local (tk := s2.toks + 1) hTp hH hlL hld hn2 hn3 sb3
  have nea : a ≠ env.locals := fun q => by
    obtain ⟨o, es, ep, e1, e2, _⟩ := hn2
    rw [q, e1] at ha
    cases ha
    cases e2
  have ha3 : h3.get? a = some { cls := .type "tuple", data := .seq #[.str " " t, .str x u] n } := (sb3.2 _ nea).trans ha
  refine wpAny_execs_cons (wpAny_If (wpAny_isTrue_Compare1 (name_loc hf hke (by decide) hn3 (if_pos rfl) ?_) rfl))
  refine wpAny_Tuple (wpAny_items_cons (wpAny_Constant_str (wpAny_items_cons (wpAny_Constant_str (wpAny_items_nil ⟨by show 2 ≤ sizeLine; have := line_big; omega, ?_⟩)))))
  have kp : ∀ b o, h3.get? b = some o → (h3.push { cls := .type "tuple", data := .seq #[.str " " (s2.toks + 1), .str "" (s2.toks + 1 + 1)] }).get? b = some o := fun b o e => Heap.get?_push_of_some _ e
  have u9 : cLine = 9900 := by decide
  refine pair_ne (s := { s2 with heap := h3.push { cls := .type "tuple", data := .seq #[.str " " (s2.toks + 1), .str "" (s2.toks + 1 + 1)] }, toks := s2.toks + 1 + 1 + 1 }) (kp _ _ ha3) (Heap.get?_push_size _ rfl) hx (by decide +kernel) (by omega) hne (wpAny_truthy_bool ?_)
  rw [if_pos (by rfl)]
  have G4 := G3.keep (tk := s2.toks + 1 + 1 + 1) kp
  have hn4 := hn3.keeps kp
  refine wpAny_execs_cons (wpAny_Expr_any (Call_star rfl (cur_line KF V G4 hf hks hn4 (by show (if _ then _ else _) = _; rw [if_neg (by decide)]; exact hm) fun G5 => ?_)) hni rfl)
  obtain ⟨sl, ps, n', ti, b, I, hb, PR⟩ := G5.st.acc.ex
  refine ins_bound (KF.inK _ G5.st.bs) I KF.pg KF.hd O.mPush (by rfl) (by decide) ?_
  have kq : ∀ b o, (h3.push { cls := .type "tuple", data := .seq #[.str " " (s2.toks + 1), .str "" (s2.toks + 1 + 1)] }).get? b = some o → ((h3.push { cls := .type "tuple", data := .seq #[.str " " (s2.toks + 1), .str "" (s2.toks + 1 + 1)] }).push { cls := .type "method", data := .fields #[.ref fPush, .ref ac] }).get? b = some o := fun b o e => Heap.get?_push_of_some _ e
  have G6 := G5.keep (tk := s2.toks + 1 + 1 + 1 + 1 + 1) kq
  have hn6 := hn4.keeps kq
  refine callWith_star hfn (KF.inK _ G6.st.bs) (Heap.get?_push_size _ rfl) (kq _ _ (kp _ _ ha3)) (fun hR => name_loc hf hke (by decide) hn6 (if_pos rfl) hR) fun h7 k7 => ?_
  have G7 := G6.keep (tk := s2.toks + 1 + 1 + 1 + 1 + 1) k7
  refine O.push A _ ac da cs x t u _ hA dpt un G7.hAc G7.hDa G7.st (by omega) G7.inL fun s8 C8 S8 => ?_
  refine wpAny_execs_nil (h s8 _ ?_ (G7.line C8 S8) ((hn6.keeps k7).at' fun o e => C8.get _ o hlL e) ?_)
  · have C3 : Cg tp.H L s0 { s2 with heap := h3, toks := s2.toks + 1 } := ((hC0.trans (Cg.keeps (s' := { s with toks := s.toks + 1 }) kpTok)).trans C2).newBut hz hH sb3
    exact (C3.trans (Cg.keeps ⟨_, _, rfl, fun b o e => k7 b o (kq b o (kp b o e))⟩)).trans C8
  · show (if _ then _ else _) = _
    rw [if_neg (by decide)]
    exact hm
end
end Mine
end
section
open PySem PySem.W PyProof.Rows PySem.Calls
open PySem.Builtin.ObjectAttr PySem.Builtin
set_option Elab.async false
set_option maxRecDepth 100000
namespace Mine
section
variable {prog : Program} {w : World} {A : Around} {s s0 : Shared} {env : Env} {K : Frag} {tp : Tp}

theorem strs_snoc {x : Str} {t : Tok} : ∀ {vs : List Value} {ys : List Str}, StrsAre vs ys → StrsAre (vs ++ [.str x t]) (ys ++ [x])
  | _, _, .nil => .cons x t .nil
  | _, _, .cons y t' h => .cons y t' (strs_snoc h)
theorem strs_len : ∀ {vs : List Value} {ys : List Str}, StrsAre vs ys → vs.length = ys.length
  | _, _, .nil => rfl
  | _, _, .cons y t' h => by rw [List.length_cons, List.length_cons, strs_len h]

/-- a text joins the page's lines -/
theorem add_line {CA CV c P c' P' pg dp ll ac da : Addr} {L : List Addr} {lines cs : List Str} {mx : Int} {x : Str} {t : Tok} {Q : Value → Shared → Prop} (hTp : TpOk tp) (G : PgS K tp CA CV L c P c' P' pg dp ll ac da s lines cs mx) (hll : lines.length ≤ 1000) (hpl : pg ≠ ll) (hdl : dp ≠ ll)
    (h : ∀ h' o', Heap.SameBut ll s.heap h' → h'.get? ll = some o' → PgS K tp CA CV L c P c' P' pg dp ll ac da { s with heap := h' } (lines ++ [x]) cs mx → Q .none { s with heap := h' }) :
    wpAny (model prog w) A (call (.builtin "list.append") [.ref ll, .str x t]) Q (fun _ _ => False) s := by
  obtain ⟨st, ⟨sl, mm, b, I, r⟩, ⟨vs, n, h1, h2⟩, n1, n2, n3, h3, h4, h5, h6, h7⟩ := G
  have hT : s.TypeIs (.ref ll) "list" := ⟨_, h1, rfl⟩
  have hlen := strs_len h2
  have hbig := line_big
  refine wpAny_call_entry slot_list_append hT entry_list_append ?_ (args_list_append _ _)
  show wpAny _ _ (updateSeq ll (·.push (.str x t)) >>= fun _ => ret .none) _ _ s
  refine wpAny_bind (wpAny_updateSeq h1 rfl (wpAny_pure ⟨.none, rfl, ?_⟩) (by simp only [List.size_toArray]; omega) (by simp only [Array.size_push, List.size_toArray]; omega))
  have e1 := Heap.get?_update_self (h := s.heap) (Obj.mapSeq (·.push (.str x t))) h1 (by rfl)
  obtain ⟨m2, e2⟩ := mapSeq_any (·.push (.str x t)) (.type "list") none vs.toArray n #[]
  have e3 : (s.heap.update ll (Obj.mapSeq (·.push (.str x t)))).get? ll = some ⟨.type "list", none, .seq (vs ++ [Value.str x t]).toArray m2, #[]⟩ := by
    rw [show (vs ++ [Value.str x t]).toArray = vs.toArray.push (.str x t) by simp]
    exact e1.trans (congrArg some e2)
  have sb : Heap.SameBut ll s.heap (s.heap.update ll (Obj.mapSeq (·.push (.str x t)))) := Heap.SameBut.update ..
  refine h _ _ sb e3 ?_
  have nac : ac ≠ ll := fun q => n3 (q ▸ st.acc.la)
  have nda : da ≠ ll := fun q => n3 (q ▸ st.acc.ld)
  have acc' : AccS CA L (s.heap.update ll (Obj.mapSeq (·.push (.str x t)))) ac da cs 0 := by
    obtain ⟨⟨sl, ps, n, ti, b, ⟨f1, f2, o, es', ep', f3, f4⟩, hb, PR⟩, la, ld, ne⟩ := st.acc
    refine ⟨⟨sl, ps, n, ti, b, ⟨(sb.2 _ nac).trans f1, f2, o, es', ep', (sb.2 _ nda).trans f3, f4⟩, hb, PR.keepT fun b xs n _ e => (sb.2 _ fun q => ?_).trans e⟩, la, ld, ne⟩
    rw [q, h1] at e
    have e9 : Value.type "list" = Value.type "tuple" := congrArg Obj.cls (Option.some.inj e)
    injection e9 with e9
    exact absurd e9 (by decide)
  refine ⟨St.but hTp st h3 h1 (fun q => by injection q with q; exact absurd q (by decide)) (fun q => by cases q) e3 sb acc', ?_, ⟨_, _, e3, strs_snoc h2⟩, n1, n2, n3, h3, h4, h5, h6, ?_⟩
  · obtain ⟨f1, f2, o, es', ep', f3, f4⟩ := I
    exact ⟨sl, mm, b, ⟨(sb.2 _ hpl).trans f1, f2, o, es', ep', (sb.2 _ hdl).trans f3, f4⟩, r⟩
  · intro b hb
    obtain ⟨o, e⟩ := h7 b hb
    exact ⟨o, (sb.2 b (fun q => n3 (q ▸ hb))).trans e⟩
end
end Mine
end
section
open PySem PySem.W PyProof.Rows PySem.Calls
open PySem.Builtin.ObjectAttr PySem.Builtin
set_option Elab.async false
set_option maxRecDepth 100000
namespace Mine
section
variable {prog : Program} {w : World} {A : Around} {s s0 : Shared} {env : Env} {K : Frag} {tp : Tp}

/-- the body of `newline`: what is behind (the line's text joins the lines, the line is emptied) -/
theorem nl_flush {CA CV fLen fStr fPush fPopF fPop fReset fOnly fCount c P c' P' pg dp ll ac da : Addr} {L : List Addr} {lines cs : List Str} {mx : Int} {m : Str → Option Value} {aug : List Stmt} {Q : Flow → Shared → Prop}
    {l1 l2 l3 l4 l5 l6 a1 a2 a3 a4 a5 a6 a7 b1 b2 b3 b4 b5 b6 b7 b8 b9 d1 d2 e1 e2 e3 e4 e5 : Pos} {k : Nat} (KF : KA K tp CA) (V : KV K CV) (hTp : TpOk tp) (O : LineO prog w K tp CA fLen fStr fPush fPopF fPop fReset fOnly fCount L c P c' P') (lt1 : (a3.endLine == a4.line) = true) (lt2 : (b3.endLine == b8.line) = true) (lt3 : (e3.endLine == e4.line) = true)
    (hlen : tp.mg "len" = none ∧ tp.mb "len" = some (.builtin "len")) (hstr : tp.mg "str" = none ∧ tp.mb "str" = some (.type "str"))
    (hA : A.handled = none) (dpt : A.depth ≤ 600) (un : A.units ≤ 3000) (G : PgS K tp CA CV L c P c' P' pg dp ll ac da s lines cs mx) (hL : LineOk cs) (hne : cs ≠ []) (hsp : Txt.isspace (lineT cs) = false) (hll : lines.length ≤ 1000) (hpl : pg ≠ ll) (hdl : dp ≠ ll) (hal : env.locals ≠ ll)
    (hE : EnvG env) (hf : env.scope.kind = .function) (hni : interactive env = false) (hks : env.kindOf "self" = some .local) (hkl : env.kindOf "len" = some .globalImplicit) (hkt : env.kindOf "str" = some .globalImplicit) (hn : s.heap.Ns env.locals m) (hm : m "self" = some (.ref pg)) (hlL : env.locals ∉ L) (hC0 : Cg tp.H L s0 s)
    (h : ∀ s', Cg tp.H (ll :: L) s0 s' → PgS K tp CA CV L c P c' P' pg dp ll ac da s' (lines ++ [lineT cs]) [] mx → Q .next s') :
    wpAny (model prog w) A (execs [.If (.Compare (.Call (.Name "len" l1) [.Attribute (.Name "self" l2) "_current_line" l3] [] l4) [.Gt] [.Constant (.int 0) k l5] l6)
      [.If (.BoolOp .And [.Call (.Attribute (.Attribute (.Name "self" a1) "_current_line" a2) "is_onlyws" a3) [] [] a4, .Attribute (.Name "self" a5) "_lines" a6] a7) aug
        [.Expr (.Call (.Attribute (.Attribute (.Name "self" b1) "_lines" b2) "append" b3) [.Call (.Name "str" b4) [.Attribute (.Name "self" b5) "_current_line" b6] [] b7] [] b8) b9] d1] [] d2,
      .Expr (.Call (.Attribute (.Attribute (.Name "self" e1) "_current_line" e2) "reset" e3) [] [] e4) e5] env) Q (fun _ _ => False) s := by
  have hc8 := hL.few
  refine wpAny_execs_cons (wpAny_If (wpAny_isTrue_Compare1 (wpAny_Call_NameR (name_builtin (tp := tp) hE G.st.bs hkl hlen.1 hlen.2 (by decide) (PySem.callWith_builtin1 (cur_line KF V G hf hks hn hm fun G1 => ?_)))) rfl))
  refine lineLen (s := { s with toks := s.toks + 1 }) KF O.d hA (by omega) G1.st (by omega) hL.one fun s2 t2 C2 S2 => ?_
  refine wpAny_Constant_int (gt_int (wpAny_truthy_bool ?_))
  have hpos : 0 < cs.length := Nat.pos_of_ne_zero fun e => hne (List.length_eq_zero_iff.mp e)
  rw [show decide (((2 * cs.length : Nat) : Int) > 0) = true from decide_eq_true (by omega), if_pos (by rfl)]
  have G2 := (G1.line C2 S2).keep (tk := s2.toks + 1) (h' := s2.heap) fun _ _ e => e
  have hn2 : s2.heap.Ns env.locals m := hn.at' fun o e => C2.get _ o hlL e
  have D2 : Cg tp.H L s0 { s2 with toks := s2.toks + 1 } := ((hC0.trans (Cg.keeps (s' := { s with toks := s.toks + 1 }) kpTok)).trans C2).trans (Cg.keeps kpTok)
  refine wpAny_execs_cons (wpAny_If (isTrue_and (wpAny_isTrue_value (Call_G ⟨rfl, rfl, lt1⟩ (cur_line (s := { s2 with toks := s2.toks + 1 }) KF V G2 hf hks hn2 hm fun G3 => ?_)))))
  intro pl
  refine line_meth (s := { s2 with toks := s2.toks + 1 + 1 }) KF G3 O.mOnly (by decide) (O.only A _ ac da cs _ hA dpt un G3.st hL hne G3.inL fun s4 C4 S4 => ?_)
  rw [hsp]
  refine wpAny_truthy_bool ?_
  rw [if_neg (by decide), if_neg (by decide)]
  have G4 := G3.line C4 S4
  have hn4 : s4.heap.Ns env.locals m := hn2.at' fun o e => C4.get _ o hlL e
  have D4 : Cg tp.H L s0 s4 := (D2.trans (Cg.keeps (s' := { s2 with toks := s2.toks + 1 + 1 }) kpTok)).trans C4
  refine wpAny_execs_cons (wpAny_Expr_any (wpAny_Call_append rfl rfl lt2 rfl (Attribute_name (name_loc hf hks (by decide) hn4 hm ?_))) hni rfl)
  obtain ⟨sl, mm, b, I, i1, i2, _⟩ := G4.pgI
  refine ins_get (KF.inK _ G4.st.bs) I V.pg V.hd V.lin i2 (by rfl) ?_
  have G5 := G4.keep (tk := s4.toks + 1) (h' := s4.heap) fun _ _ e => e
  obtain ⟨vs, n, j1, j2⟩ := G5.lnI
  refine ⟨ll, vs.toArray, rfl, ⟨_, n, j1, rfl, rfl, rfl⟩, ?_⟩
  refine wpAny_Call_NameR (name_builtin (tp := tp) hE G5.st.bs hkt hstr.1 hstr.2 (by decide) (PySem.callWith_type1 (cur_line (s := { s4 with toks := s4.toks + 1 }) KF V G5 hf hks hn4 hm fun G6 => ?_)))
  refine lineStr (s := { s4 with toks := s4.toks + 1 + 1 }) KF O.d hA (by omega) (by omega) G6.st (by omega) hL.part hL.all fun s7 t7 C7 S7 => ?_
  have G7 := G6.line C7 S7
  have hn7 : s7.heap.Ns env.locals m := hn4.at' fun o e => C7.get _ o hlL e
  have D7 : Cg tp.H L s0 s7 := (D4.trans (Cg.keeps (s' := { s4 with toks := s4.toks + 1 + 1 }) kpTok)).trans C7
  refine add_line hTp G7 hll hpl hdl fun h8 o8 sb8 g8 G8 => ?_
  have hn8 : h8.Ns env.locals m := hn7.at' fun o e => (sb8.2 _ hal).trans e
  have D8 : Cg tp.H (ll :: L) s0 { s7 with heap := h8 } := (D7.mono fun x hx => List.mem_cons_of_mem _ hx).trans (Cg.but (tk := s7.toks) (.head _) G8.hLl g8 sb8)
  refine wpAny_execs_nil (wpAny_execs_nil ?_)
  refine wpAny_execs_cons (wpAny_Expr_any (Call_G ⟨rfl, rfl, lt3⟩ (cur_line (s := { s7 with heap := h8 }) KF V G8 hf hks hn8 hm fun G9 => ?_)) hni rfl)
  intro pl2
  refine line_meth (s := { s7 with heap := h8, toks := s7.toks + 1 }) KF G9 O.mReset (by decide) (O.reset0 A _ ac da cs _ hA dpt un G9.hAc G9.hDa G9.st (by omega) fun s10 C10 S10 => wpAny_execs_nil ?_)
  exact h s10 ((D8.trans (Cg.keeps (s' := { s7 with heap := h8, toks := s7.toks + 1 }) kpTok)).trans (C10.mono fun x hx => List.mem_cons_of_mem _ hx)) (G9.line C10 S10)
end
end Mine
end
section
open PySem PySem.W PyProof.Rows PySem.Calls
open PySem.Builtin.ObjectAttr PySem.Builtin
set_option Elab.async false
set_option maxRecDepth 100000
namespace Mine
section
variable {prog : Program} {w : World} {A : Around} {s : Shared} {K : Frag} {tp : Tp}

/-- `newline` of the page -/
theorem newline_ok {CA CV f fLen fStr fPush fPopF fPop fReset fOnly fCount c P c' P' pg dp ll ac da : Addr} {L : List Addr} {lines cs : List Str} {x : Str} {mx : Int} {aug : List Stmt} {cd : Value} {Q : Value → Shared → Prop} {p1 : Pos}
    {n0 n1 n2 n3 n4 n5 o1 o2 o3 o4 o5 o6 o7 o8 o9 g1 g2 g3 g4 : Pos} {k0 k1 k2 : Nat}
    {l1 l2 l3 l4 l5 l6 a1 a2 a3 a4 a5 a6 a7 b1 b2 b3 b4 b5 b6 b7 b8 b9 d1 d2 e1 e2 e3 e4 e5 : Pos} {k : Nat} (KF : KA K tp CA) (V : KV K CV) (hTp : TpOk tp) (O : LineO prog w K tp CA fLen fStr fPush fPopF fPop fReset fOnly fCount L c P c' P') (hfn : fnIn K fPush = true)
    (lt0 : (n3.endLine == n4.line) = true) (lt1 : (a3.endLine == a4.line) = true) (lt2 : (b3.endLine == b8.line) = true) (lt3 : (e3.endLine == e4.line) = true)
    (hlen : tp.mg "len" = none ∧ tp.mb "len" = some (.builtin "len")) (hstr : tp.mg "str" = none ∧ tp.mb "str" = some (.type "str"))
    (Fn : FnK K tp f "newline" "_ValueFormatter.newline" (psL [("self", p1)]) (.Assign [.Name "end_of_line" n0] (.Call (.Attribute (.Attribute (.Name "self" n1) "_current_line" n2) "pop" n3) [] [] n4) n5 ::
      .If (.Compare (.Name "end_of_line" o1) [.NotEq] [.Tuple [.Constant (.str " ") k1 o2, .Constant (.str "") k2 o3] k0 o4] o5)
        [.Expr (.Call (.Attribute (.Attribute (.Name "self" o6) "_current_line" o7) "push" o8) [.Starred (.Name "end_of_line" o9) g1] [] g2) g3] [] g4 ::
      [.If (.Compare (.Call (.Name "len" l1) [.Attribute (.Name "self" l2) "_current_line" l3] [] l4) [.Gt] [.Constant (.int 0) k l5] l6)
      [.If (.BoolOp .And [.Call (.Attribute (.Attribute (.Name "self" a1) "_current_line" a2) "is_onlyws" a3) [] [] a4, .Attribute (.Name "self" a5) "_lines" a6] a7) aug
        [.Expr (.Call (.Attribute (.Attribute (.Name "self" b1) "_lines" b2) "append" b3) [.Call (.Name "str" b4) [.Attribute (.Name "self" b5) "_current_line" b6] [] b7] [] b8) b9] d1] [] d2,
      .Expr (.Call (.Attribute (.Attribute (.Name "self" e1) "_current_line" e2) "reset" e3) [] [] e4) e5]) (scN scNL) [] .none cd)
    (hA : A.handled = none) (dpt : A.depth ≤ 500) (un : A.units ≤ 2900) (hH : tp.H.objs.size ≤ s.heap.objs.size) (G : PgS K tp CA CV L c P c' P' pg dp ll ac da s lines (cs ++ [x]) mx) (hcs : cs.length ≤ 700) (hx : PyData.strOk x = true) (hne : (x == ("" : Str)) = false) (hL : LineOk (cs ++ [x])) (hsp : Txt.isspace (lineT (cs ++ [x])) = false)
    (hll : lines.length ≤ 1000) (hpl : pg ≠ ll) (hdl : dp ≠ ll) 
    (hq : ∀ s', Cg tp.H (ll :: L) s s' → PgS K tp CA CV L c P c' P' pg dp ll ac da s' (lines ++ [lineT (cs ++ [x])]) [] mx → Q .none s') : wpAny (model prog w) A (call (.ref f) [.ref pg]) Q (fun _ _ => False) s := by
  have X := KF.inK _ G.st.bs
  have fresh : ∀ b o, s.heap.get? b = some o → s.heap.objs.size ≠ b := fun b o e q => absurd (Heap.lt_size e) (by rw [← q]; exact Nat.lt_irrefl _)
  refine call_m Fn (by omega) G.st.bs X (binds := [("self", .ref pg)]) (fun _ _ => BindsTo.of_eq rfl) (by decide) (loc1 rfl) rfl rfl rfl fun pm doc h₀ _ hn hk => ?_
  have G0 := G.keep (tk := s.toks + 1) hk
  have nH : tp.H.get? s.heap.objs.size = none := Heap.get?_none_of_le hH
  have nS : s.heap.get? s.heap.objs.size = none := Heap.get?_none_of_le (Nat.le_refl _)
  have nL : s.heap.objs.size ∉ L := fun q => let ⟨o, e⟩ := G.inL _ q; fresh _ o e rfl
  have ndp : s.heap.objs.size ≠ dp := by
    obtain ⟨sl, mm, b, ⟨f1, f2, o, es', ep', f3, f4⟩, _⟩ := G.pgI
    exact fresh _ _ f3
  have nll : s.heap.objs.size ≠ ll := by
    obtain ⟨vs, n, j1, j2⟩ := G.lnI
    exact fresh _ _ j1
  refine nl_back (s0 := s) (s := { s with heap := h₀, toks := s.toks + 1 }) KF V hTp O hfn lt0 hA (by show A.depth + 1 ≤ 600; omega) (by show A.units + 3 ≤ 3000; omega) G0 hcs hx hne rfl rfl rfl rfl hn rfl nH nL ndp (Cg.keeps ⟨_, _, rfl, hk⟩) nS fun s' m' C' G' hn' hm' => ?_
  refine nl_flush (s0 := s) KF V hTp O lt1 lt2 lt3 hlen hstr hA (by show A.depth + 1 ≤ 600; omega) (by show A.units + 3 ≤ 3000; omega) G' hL (by simp) hsp hll hpl hdl nll ⟨rfl, rfl, rfl⟩ rfl rfl rfl rfl rfl hn' hm' nL C' fun s2 C2 G2 => ?_
  exact hq s2 C2 G2
end
end Mine
end
section
open PySem PySem.W PyProof.Rows PySem.Calls
open PySem.Builtin.ObjectAttr PySem.Builtin
set_option Elab.async false
set_option maxRecDepth 100000
namespace Mine
section
variable {prog : Program} {w : World} {A : Around} {s s0 : Shared} {env : Env} {K : Frag} {tp : Tp}

/-- self._maxlen, read in a method of the page -/
theorem max_len {CA CV c P c' P' pg dp ll ac da : Addr} {L : List Addr} {lines cs : List Str} {mx : Int} {m : Str → Option Value} {q1 q2 : Pos} {E : Value → Shared → Prop} {R : Value → Shared → Prop} (KF : KA K tp CA) (V : KV K CV) (G : PgS K tp CA CV L c P c' P' pg dp ll ac da s lines cs mx) (hf : env.scope.kind = .function) (hk : env.kindOf "self" = some .local) (hn : s.heap.Ns env.locals m) (hm : m "self" = some (.ref pg))
    (h : ∀ t, PgS K tp CA CV L c P c' P' pg dp ll ac da { s with toks := s.toks + 1 } lines cs mx → R (.int mx t) { s with toks := s.toks + 1 }) : wpAny (model prog w) A (eval (.Attribute (.Name "self" q1) "_maxlen" q2) env) R E s := by
  refine Attribute_name (name_loc hf hk (by decide) hn hm ?_)
  obtain ⟨sl, mm, b, I, h1, h2, ⟨t, h3⟩, _⟩ := G.pgI
  exact ins_get (KF.inK _ G.st.bs) I V.pg V.hd V.max h3 (by rfl) (h t (G.keep (h' := s.heap) fun _ _ e => e))

/-- the first two steps of `_append_chunk`: the part joins the line, the line's length is asked -/
theorem chunk_push {CA CV fLen fStr fPush fPopF fPop fReset fOnly fCount c P c' P' pg dp ll ac da : Addr} {L : List Addr} {lines cs : List Str} {x : Str} {t u : Tok} {mx : Int} {m : Str → Option Value} {big rest : List Stmt} {Q : Flow → Shared → Prop}
    {a1 a2 a3 a4 a5 a6 a7 l1 l2 l3 l4 l5 l6 l7 d2 : Pos} (KF : KA K tp CA) (V : KV K CV) (O : LineO prog w K tp CA fLen fStr fPush fPopF fPop fReset fOnly fCount L c P c' P') (lt1 : (a3.endLine == a6.line) = true)
    (hlen : tp.mg "len" = none ∧ tp.mb "len" = some (.builtin "len"))
    (hA : A.handled = none) (dpt : A.depth ≤ 600) (un : A.units ≤ 3000) (G : PgS K tp CA CV L c P c' P' pg dp ll ac da s lines cs mx) (hcs : cs.length ≤ 700) (h1 : ∀ y ∈ cs ++ [x], y.length = 1)
    (hE : EnvG env) (hf : env.scope.kind = .function) (hni : interactive env = false) (hks : env.kindOf "self" = some .local) (hkf : env.kindOf "fws" = some .local) (hkx : env.kindOf "string" = some .local) (hkl : env.kindOf "len" = some .globalImplicit) (hn : s.heap.Ns env.locals m) (hm : m "self" = some (.ref pg)) (hmf : m "fws" = some (.str " " t)) (hmx : m "string" = some (.str x u)) (hlL : env.locals ∉ L) (hC0 : Cg tp.H L s0 s)
    (h : ∀ s', Cg tp.H L s0 s' → PgS K tp CA CV L c P c' P' pg dp ll ac da s' lines (cs ++ [x]) mx → s'.heap.Ns env.locals m → wpAny (model prog w) A (execs (if (2 * (cs.length + 1) : Nat) > mx then big else []) env) (fun fl s2 => match fl with | .next => wpAny (model prog w) A (execs rest env) Q (fun _ _ => False) s2 | fl => Q fl s2) (fun _ _ => False) s') :
    wpAny (model prog w) A (execs (.Expr (.Call (.Attribute (.Attribute (.Name "self" a1) "_current_line" a2) "push" a3) [.Name "fws" a4, .Name "string" a5] [] a6) a7 ::
      .If (.Compare (.Call (.Name "len" l1) [.Attribute (.Name "self" l2) "_current_line" l3] [] l4) [.Gt] [.Attribute (.Name "self" l5) "_maxlen" l6] l7) big [] d2 :: rest) env) Q (fun _ _ => False) s := by
  refine wpAny_execs_cons (wpAny_Expr_any (Call_G ⟨rfl, rfl, lt1⟩ (cur_line KF V G hf hks hn hm fun G1 => ?_)) hni rfl)
  intro pl
  obtain ⟨sl, ps, n, ti, b, I, hb, PR⟩ := G1.st.acc.ex
  refine ins_meth (KF.inK _ G1.st.bs) I KF.pg O.mPush.find O.mPush.ty (by rfl) ?_
  refine callWith_K (K := K) (h₀ := s.heap) (KF.inK _ G.st.bs) O.mPush.keep ?_
  refine wpAny_items_cons (name_loc (s := { s with toks := s.toks + 1 }) hf hkf (by decide) hn hmf (wpAny_items_cons (name_loc hf hkx (by decide) hn hmx (wpAny_items_nil ⟨KF.inK _ G1.st.bs, ?_⟩))))
  refine wpAny_call (codeAny_mono (O.push A _ ac da cs x t u (fun v s' => v = .none ∧ Cg tp.H L { s with toks := s.toks + 1 } s' ∧ St K tp CA L c P c' P' ac da s' (cs ++ [x]) 0) hA dpt un G1.hAc G1.hDa G1.st (by omega) G1.inL fun s2 C2 S2 => ⟨rfl, C2, S2⟩) fun r s2 q => ?_)
  rcases r with e | (v | _ | _ | _)
  all_goals first | exact q.elim | skip
  obtain ⟨_, C2, S2⟩ := q
  have G2 := G1.line C2 S2
  have hn2 : s2.heap.Ns env.locals m := hn.at' fun o e => C2.get _ o hlL e
  refine wpAny_execs_cons (wpAny_If (wpAny_isTrue_Compare1 (wpAny_Call_NameR (name_builtin (tp := tp) hE G2.st.bs hkl hlen.1 hlen.2 (by decide) (PySem.callWith_builtin1 (cur_line KF V G2 hf hks hn2 hm fun G3 => ?_)))) rfl))
  refine lineLen (s := { s2 with toks := s2.toks + 1 }) KF O.d hA (by omega) G3.st (by simp; omega) h1 fun s4 t4 C4 S4 => ?_
  have G4 := G3.line C4 S4
  have hn4 : s4.heap.Ns env.locals m := hn2.at' fun o e => C4.get _ o hlL e
  refine max_len KF V G4 hf hks hn4 hm fun t5 G5 => gt_int (wpAny_truthy_bool ?_)
  have C5 : Cg tp.H L s0 { s4 with toks := s4.toks + 1 } := ((((hC0.trans (Cg.keeps (s' := { s with toks := s.toks + 1 }) kpTok)).trans C2).trans (Cg.keeps (s' := { s2 with toks := s2.toks + 1 }) kpTok)).trans C4).trans (Cg.keeps kpTok)
  have hh := h _ C5 G5 hn4
  rw [show (cs ++ [x]).length = cs.length + 1 by simp]
  by_cases q : ((2 * (cs.length + 1) : Nat) : Int) > mx
  · rw [decide_eq_true q, if_pos rfl]
    rw [if_pos q] at hh
    exact hh
  · rw [decide_eq_false q, if_neg (by decide)]
    rw [if_neg q] at hh
    exact hh
end
end Mine
end
section
open PySem PySem.W PyProof.Rows PySem.Calls
open PySem.Builtin.ObjectAttr PySem.Builtin
set_option Elab.async false
set_option maxRecDepth 100000
namespace Mine
section
variable {prog : Program} {w : World} {A : Around} {s : Shared} {K : Frag} {tp : Tp}

structure ScC (sc : List (Str × NameKind)) : Prop where
  cell : ∀ x ∈ (scN sc).names, x.2 ≠ .cell
  self : List.lookup (Str.ofString "self") (scN sc).names = some NameKind.local
  fws : List.lookup (Str.ofString "fws") (scN sc).names = some NameKind.local
  string : List.lookup (Str.ofString "string") (scN sc).names = some NameKind.local
  ch : List.lookup (Str.ofString "ch") (scN sc).names = some NameKind.local
  i : List.lookup (Str.ofString "i") (scN sc).names = some NameKind.local
  rem : List.lookup (Str.ofString "remainder") (scN sc).names = some NameKind.local
  len : List.lookup (Str.ofString "len") (scN sc).names = some NameKind.globalImplicit
  str : List.lookup (Str.ofString "str") (scN sc).names = some NameKind.globalImplicit
  range : List.lookup (Str.ofString "range") (scN sc).names = some NameKind.globalImplicit

/-- `_append_chunk` of the page, its start: what is behind the pushed part -/
theorem chunk_start {CA CV f fLen fStr fPush fPopF fPop fReset fOnly fCount c P c' P' pg dp ll ac da : Addr} {L : List Addr} {lines cs : List Str} {x : Str} {t u : Tok} {mx : Int} {sc : List (Str × NameKind)} {cd : Value} {big : List Stmt} {Q : Value → Shared → Prop}
    {p1 p2 p3 a1 a2 a3 a4 a5 a6 a7 l1 l2 l3 l4 l5 l6 l7 d2 : Pos} (KF : KA K tp CA) (V : KV K CV) (O : LineO prog w K tp CA fLen fStr fPush fPopF fPop fReset fOnly fCount L c P c' P') (SC : ScC sc) (lt1 : (a3.endLine == a6.line) = true)
    (hlen : tp.mg "len" = none ∧ tp.mb "len" = some (.builtin "len"))
    (Fn : FnK K tp f "_append_chunk" "_ValueFormatter._append_chunk" (psL [("self", p1), ("fws", p2), ("string", p3)]) (.Expr (.Call (.Attribute (.Attribute (.Name "self" a1) "_current_line" a2) "push" a3) [.Name "fws" a4, .Name "string" a5] [] a6) a7 ::
      .If (.Compare (.Call (.Name "len" l1) [.Attribute (.Name "self" l2) "_current_line" l3] [] l4) [.Gt] [.Attribute (.Name "self" l5) "_maxlen" l6] l7) big [] d2 :: []) (scN sc) [] .none cd)
    (hA : A.handled = none) (dpt : A.depth ≤ 500) (un : A.units ≤ 2900) (G : PgS K tp CA CV L c P c' P' pg dp ll ac da s lines cs mx) (hcs : cs.length ≤ 700) (h1 : ∀ y ∈ cs ++ [x], y.length = 1)
    (h : ∀ pm doc s' m, Cg tp.H L s s' → PgS K tp CA CV L c P c' P' pg dp ll ac da s' lines (cs ++ [x]) mx → s'.heap.Ns s.heap.objs.size m → m "self" = some (.ref pg) →
      wpAny (model prog w) (A.deeper (callEnv (mdef "_append_chunk" "_ValueFormatter._append_chunk" (psL [("self", p1), ("fws", p2), ("string", p3)]) (.Expr (.Call (.Attribute (.Attribute (.Name "self" a1) "_current_line" a2) "push" a3) [.Name "fws" a4, .Name "string" a5] [] a6) a7 ::
      .If (.Compare (.Call (.Name "len" l1) [.Attribute (.Name "self" l2) "_current_line" l3] [] l4) [.Gt] [.Attribute (.Name "self" l5) "_maxlen" l6] l7) big [] d2 :: []) (scN sc) [] .none pm cd doc) s.heap.objs.size f))
        (execs (if (2 * (cs.length + 1) : Nat) > mx then big else []) (callEnv (mdef "_append_chunk" "_ValueFormatter._append_chunk" (psL [("self", p1), ("fws", p2), ("string", p3)]) (.Expr (.Call (.Attribute (.Attribute (.Name "self" a1) "_current_line" a2) "push" a3) [.Name "fws" a4, .Name "string" a5] [] a6) a7 ::
      .If (.Compare (.Call (.Name "len" l1) [.Attribute (.Name "self" l2) "_current_line" l3] [] l4) [.Gt] [.Attribute (.Name "self" l5) "_maxlen" l6] l7) big [] d2 :: []) (scN sc) [] .none pm cd doc) s.heap.objs.size f)) (fun fl s2 => Q (match fl with | .ret v => v | _ => .none) s2) (fun _ _ => False) s') :
    wpAny (model prog w) A (call (.ref f) [.ref pg, .str " " t, .str x u]) Q (fun _ _ => False) s := by
  have X := KF.inK _ G.st.bs
  have fresh : ∀ b o, s.heap.get? b = some o → s.heap.objs.size ≠ b := fun b o e q => absurd (Heap.lt_size e) (by rw [← q]; exact Nat.lt_irrefl _)
  have nL : s.heap.objs.size ∉ L := fun q => let ⟨o, e⟩ := G.inL _ q; fresh _ o e rfl
  refine call_m Fn (by omega) G.st.bs X (binds := [("self", .ref pg), ("fws", .str " " t), ("string", .str x u)]) (fun _ _ => BindsTo.of_eq rfl) SC.cell (loc3 SC.self SC.fws SC.string) rfl rfl rfl fun pm doc h₀ _ hn hk => ?_
  have G0 := G.keep (tk := s.toks + 3) hk
  refine chunk_push (s0 := s) (s := { s with heap := h₀, toks := s.toks + 3 }) KF V O lt1 hlen hA (by show A.depth + 1 ≤ 600; omega) (by show A.units + 3 ≤ 3000; omega) G0 hcs h1 ⟨rfl, rfl, rfl⟩ rfl rfl SC.self SC.fws SC.string SC.len hn rfl rfl rfl nL (Cg.keeps ⟨_, _, rfl, hk⟩) fun s' C' G' hn' => ?_
  refine wpAny_mono (h pm doc s' _ C' G' hn' rfl) (fun fl s2 q => ?_) fun _ _ e => e
  cases fl with
  | next => exact wpAny_execs_nil q
  | _ => exact q

/-- a short line: the part only joins it -/
theorem chunk_few {CA CV f fLen fStr fPush fPopF fPop fReset fOnly fCount c P c' P' pg dp ll ac da : Addr} {L : List Addr} {lines cs : List Str} {x : Str} {t u : Tok} {mx : Int} {sc : List (Str × NameKind)} {cd : Value} {big : List Stmt} {Q : Value → Shared → Prop}
    {p1 p2 p3 a1 a2 a3 a4 a5 a6 a7 l1 l2 l3 l4 l5 l6 l7 d2 : Pos} (KF : KA K tp CA) (V : KV K CV) (O : LineO prog w K tp CA fLen fStr fPush fPopF fPop fReset fOnly fCount L c P c' P') (SC : ScC sc) (lt1 : (a3.endLine == a6.line) = true)
    (hlen : tp.mg "len" = none ∧ tp.mb "len" = some (.builtin "len"))
    (Fn : FnK K tp f "_append_chunk" "_ValueFormatter._append_chunk" (psL [("self", p1), ("fws", p2), ("string", p3)]) (.Expr (.Call (.Attribute (.Attribute (.Name "self" a1) "_current_line" a2) "push" a3) [.Name "fws" a4, .Name "string" a5] [] a6) a7 ::
      .If (.Compare (.Call (.Name "len" l1) [.Attribute (.Name "self" l2) "_current_line" l3] [] l4) [.Gt] [.Attribute (.Name "self" l5) "_maxlen" l6] l7) big [] d2 :: []) (scN sc) [] .none cd)
    (hA : A.handled = none) (dpt : A.depth ≤ 500) (un : A.units ≤ 2900) (G : PgS K tp CA CV L c P c' P' pg dp ll ac da s lines cs mx) (hcs : cs.length ≤ 700) (h1 : ∀ y ∈ cs ++ [x], y.length = 1) (hmx : ((2 * (cs.length + 1) : Nat) : Int) ≤ mx)
    (hq : ∀ s', Cg tp.H L s s' → PgS K tp CA CV L c P c' P' pg dp ll ac da s' lines (cs ++ [x]) mx → Q .none s') :
    wpAny (model prog w) A (call (.ref f) [.ref pg, .str " " t, .str x u]) Q (fun _ _ => False) s := by
  refine chunk_start KF V O SC lt1 hlen Fn hA dpt un G hcs h1 fun pm doc s' m C' G' _ _ => ?_
  rw [if_neg (by omega)]
  exact wpAny_execs_nil (hq s' C' G')
end
end Mine
end
section
open PySem PySem.W PyProof.Rows PySem.Calls
open PySem.Builtin.ObjectAttr PySem.Builtin
set_option Elab.async false
set_option maxRecDepth 100000
namespace Mine
section
variable {prog : Program} {w : World} {A : Around} {s : Shared} {env : Env}

/-- a loop over a text, left in its first turn -/
theorem for_str_brk {v : Str} {px pos : Pos} {iter : Expr} {body orelse : List Stmt} {c : Nat} {m : Str → Option Value} {Q : Flow → Shared → Prop} (hc : c < 128) (hv : env.kindOf v = some .local) (hp : (env.scope.kind == .class || (env.scope.kind == .module && env.locals != env.globals)) = false)
    (h : wpAny (model prog w) A (eval iter env) (fun xv s₁ => ∃ t, xv = .str ⟨#[c]⟩ t ∧ s₁.heap.Ns env.locals m ∧
      ∀ h2 tk u, h2.Ns env.locals (fun y => if y = v then some (.str ⟨#[c]⟩ u) else m y) → (∀ b o, b ≠ env.locals → s₁.heap.get? b = some o → h2.get? b = some o) →
        wpAny (model prog w) A (execs body env) (fun f s₃ => f = .brk ∧ Q .next s₃) (fun _ _ => False) { s₁ with heap := h2, toks := tk }) (fun _ _ => False) s)
    (hs : ∀ y, foldedSetIterable iter env y = pure y := by intro _; rfl) : wpAny (model prog w) A (exec (.For (.Name v px) iter body orelse pos) env) Q (fun _ _ => False) s := by
  refine wpAny_For (wpAny_mono h (fun xv s₁ h₁ => ?_) fun _ _ e => e) hs
  obtain ⟨t, rfl, hn, hb⟩ := h₁
  obtain ⟨oL, _, _, hoL, _⟩ := id hn
  have hlt : ∀ b o, s₁.heap.get? b = some o → b ≠ s₁.heap.objs.size := fun b o e => Nat.ne_of_lt (Heap.lt_size e)
  refine wpAny_pyIter_ascii (by simp [hc]) ?_
  refine codeAny_forLoop (fun n s' => n = 0 ∧ s' = { s₁ with heap := s₁.heap.push { cls := .type "str_ascii_iterator", data := .fields #[.str ⟨#[c]⟩ t, .int 0 0] } }) ?_ 0 ⟨rfl, rfl⟩
  rintro n s' ⟨rfl, rfl⟩
  refine wpAny_pyNext_ascii_item (i := 0) (c := c) ⟨_, Heap.get?_push_size _ rfl, rfl, rfl⟩ rfl fun h₁ hit₁ hs₁ => ?_
  refine wpAny_assign_Name (wpAny_storeName_local hv ((hn.push _).sameBut hs₁ (hlt _ _ hoL)) (fun h₂ hn₂ hs₂ => ?_) hp)
  refine wpAny_mono (hb h₂ _ _ hn₂ fun b o nb e => hs₂.extBut b o nb (hs₁.extBut b o (hlt b o e) (Heap.get?_push_of_some _ e))) (fun f s₃ q => ?_) fun _ _ e => e.elim
  obtain ⟨rfl, q⟩ := q
  exact q

/-- a loop over a range, left in its first turn -/
theorem for_range_brk {v : Str} {px pos : Pos} {iter : Expr} {body orelse : List Stmt} {m : Str → Option Value} {Q : Flow → Shared → Prop} (hv : env.kindOf v = some .local) (hp : (env.scope.kind == .class || (env.scope.kind == .module && env.locals != env.globals)) = false)
    (h : wpAny (model prog w) A (eval iter env) (fun xv s₁ => ∃ r a b c t u z, xv = .ref r ∧ IsRange s₁.heap r a b c t u z ∧ Builtin.Range.small a b c = true ∧ 0 < Builtin.Range.rangeSize a b c ∧ s₁.heap.Ns env.locals m ∧
      ∀ h2 tk u, h2.Ns env.locals (fun y => if y = v then some (.int a u) else m y) → (∀ b o, b ≠ env.locals → s₁.heap.get? b = some o → h2.get? b = some o) →
        wpAny (model prog w) A (execs body env) (fun f s₃ => f = .brk ∧ Q .next s₃) (fun _ _ => False) { s₁ with heap := h2, toks := tk }) (fun _ _ => False) s)
    (hs : ∀ y, foldedSetIterable iter env y = pure y := by intro _; rfl) : wpAny (model prog w) A (exec (.For (.Name v px) iter body orelse pos) env) Q (fun _ _ => False) s := by
  refine wpAny_For (wpAny_mono h (fun xv s₁ h₁ => ?_) fun _ _ e => e) hs
  obtain ⟨r, a, b, c, t, u, z, rfl, hr, hsm, hsz, hn, hb⟩ := h₁
  obtain ⟨oL, _, _, hoL, _⟩ := id hn
  have hlt : ∀ b o, s₁.heap.get? b = some o → b ≠ s₁.heap.objs.size := fun b o e => Nat.ne_of_lt (Heap.lt_size e)
  refine wpAny_pyIter_range hr hsm ?_
  refine codeAny_forLoop (fun n s' => n = 0 ∧ s' = { s₁ with heap := s₁.heap.push { cls := .type "range_iterator", data := .fields #[rawInt a, rawInt (Builtin.Range.rangeSize a b c), rawInt c] } }) ?_ 0 ⟨rfl, rfl⟩
  rintro n s' ⟨rfl, rfl⟩
  refine wpAny_pyNext_range_item (x := a) (left := Builtin.Range.rangeSize a b c) (step := c) (Heap.get?_push_size _ rfl) hsz fun h₁ hit₁ hs₁ => ?_
  refine wpAny_assign_Name (wpAny_storeName_local hv ((hn.push _).sameBut hs₁ (hlt _ _ hoL)) (fun h₂ hn₂ hs₂ => ?_) hp)
  refine wpAny_mono (hb h₂ _ _ hn₂ fun b o nb e => hs₂.extBut b o nb (hs₁.extBut b o (hlt b o e) (Heap.get?_push_of_some _ e))) (fun f s₃ q => ?_) fun _ _ e => e.elim
  obtain ⟨rfl, q⟩ := q
  exact q
end
end Mine
end
section
open PySem PySem.W PyProof.Rows PySem.Calls
open PySem.Builtin.ObjectAttr PySem.Builtin
set_option Elab.async false
set_option maxRecDepth 100000
namespace Mine
section
variable {prog : Program} {w : World} {A : Around} {s : Shared} {env : Env} {K : Frag} {tp : Tp}

/-- self._current_line[i][0]: the blank ahead of a part -/
theorem part_blank {CA CV c P c' P' pg dp ll ac da : Addr} {cdA : ClassData} {L : List Addr} {lines cs : List Str} {mx : Int} {m : Str → Option Value} {j : Nat} {ti : Tok} {q1 q2 q3 q4 q5 q6 : Pos} {k : Nat} {R : Value → Shared → Prop} (KF : KA K tp CA) (SK : KS K CA cdA) (V : KV K CV) (G : PgS K tp CA CV L c P c' P' pg dp ll ac da s lines cs mx) (hf : env.scope.kind = .function) (hks : env.kindOf "self" = some .local) (hki : env.kindOf "i" = some .local) (hn : s.heap.Ns env.locals m) (hm : m "self" = some (.ref pg)) (hmi : m "i" = some (.int (j : Int) ti)) (hj : j < cs.length) (hcs : cs.length ≤ 1000)
    (h : ∀ t, R (.str " " t) { s with toks := s.toks + 1 + 1 }) : wpAny (model prog w) A (eval (.Subscript (.Subscript (.Attribute (.Name "self" q1) "_current_line" q2) (.Name "i" q3) q4) (.Constant (.int 0) k q5) q6) env) R (fun _ _ => False) s := by
  refine Subscript_ (Subscript_ (cur_line KF V G hf hks hn hm fun G1 => name_loc (s := { s with toks := s.toks + 1 }) hf hki (by decide) hn hmi ?_))
  obtain ⟨sl, ps, n, tn, b, I, hb, PR⟩ := G1.st.acc.ex
  have hl := PR.length
  have hv : ∃ v, ps[j]? = some v := ⟨ps[j]'(by omega), List.getElem?_eq_getElem _⟩
  obtain ⟨v, hv⟩ := hv
  obtain ⟨a, n2, t, u, c2, rfl, _, na, ho⟩ := PR.at j v hv
  refine kba_turn (value' := .Name "_" ⟨0, 0, 0, 0⟩) (fun _ => rfl) (tail_inst (l := [.ref ac, .int (j : Int) ti]) (KF.inK _ G1.st.bs) I SK.gi (item_inst (k := (j : Int)) (v := .ref a) (KF.inK _ G1.st.bs) I SK.nq SK.gi KF.islist (by omega) (by omega) (by simpa using hv) ?_) rfl (fun _ => rfl))
  refine wpAny_Constant_int ?_
  refine kba_turn (value' := .Name "_" ⟨0, 0, 0, 0⟩) (fun _ => rfl) (item_tuple (items := #[.str " " t, .str c2 u]) ⟨_, ho, rfl, n2, rfl⟩ (by decide) (by decide) (j := 0) (by rfl) (by rfl) (h t))
end
end Mine
end
section
open PySem PySem.W PyProof.Rows PySem.Calls
open PySem.Builtin.ObjectAttr PySem.Builtin
set_option Elab.async false
set_option maxRecDepth 100000
namespace Mine
section
variable {prog : Program} {w : World} {A : Around} {s s0 : Shared} {env : Env} {K : Frag} {tp : Tp}

/-- the inner loop's body of `_append_chunk`: left at once, the part's blank is the split sign -/
theorem split_body {CA CV c P c' P' pg dp ll ac da : Addr} {cdA : ClassData} {L : List Addr} {lines cs : List Str} {mx : Int} {m : Str → Option Value} {j : Nat} {ti tc : Tok} {h1 h2 h3 h4 h5 q0 q1 q2 q3 q4 q5 q6 q7 r1 r2 r3 r4 r5 r6 r7 r8 r9 : Pos} {k k2 : Nat} {rest : List Stmt} {Q : Flow → Shared → Prop} (KF : KA K tp CA) (SK : KS K CA cdA) (V : KV K CV) (hTp : TpOk tp) (lt : (h2.endLine == h3.line) = true) (G : PgS K tp CA CV L c P c' P' pg dp ll ac da s lines cs mx)
    (hf : env.scope.kind = .function) (hks : env.kindOf "self" = some .local) (hki : env.kindOf "i" = some .local) (hkc : env.kindOf "ch" = some .local) (hkf : env.kindOf "fws" = some .local) (hn : s.heap.Ns env.locals m) (hm : m "self" = some (.ref pg)) (hmi : m "i" = some (.int (j : Int) ti)) (hmc : m "ch" = some (.str " " tc)) (hj : j < cs.length) (hcs : cs.length ≤ 1000)
    (hH : tp.H.get? env.locals = none) (hlL : env.locals ∉ L) (hld : env.locals ≠ dp) (hC0 : Cg tp.H L s0 s) (hz : s0.heap.get? env.locals = none)
    (h : ∀ s' m', Cg tp.H L s0 s' → PgS K tp CA CV L c P c' P' pg dp ll ac da s' lines cs mx → s'.heap.Ns env.locals m' → m' "self" = some (.ref pg) → (∃ t, m' "i" = some (.int (j : Int) t)) → Q .brk s') :
    wpAny (model prog w) A (execs (.If (.Call (.Attribute (.Name "ch" h1) "isspace" h2) [] [] h3)
      [.Assign [.Name "fws" q0] (.Subscript (.Subscript (.Attribute (.Name "self" q1) "_current_line" q2) (.Name "i" q3) q4) (.Constant (.int 0) k q5) q6) q7,
       .If (.BoolOp .And [.Name "fws" r1, .Compare (.Subscript (.Name "fws" r2) (.Constant (.int 0) k2 r3) r4) [.Eq] [.Name "ch" r5] r6] r7) [.Break r8] [] r9] [] h5 :: rest) env) Q (fun _ _ => False) s := by
  refine wpAny_execs_cons (wpAny_If (wpAny_isTrue_value (Call_method0 rfl lt (name_loc hf hkc (by decide) hn hmc (SB.isspace (wpAny_truthy_bool ?_))))))
  rw [show Txt.isspace (Str.ofString " ") = true by decide +kernel, if_pos rfl]
  refine wpAny_execs_cons (wpAny_Assign_Name (part_blank KF SK V G hf hks hki hn hm hmi hj hcs fun t => ?_) rfl)
  refine wpAny_storeName_local (s := { s with toks := s.toks + 1 + 1 }) hkf hn (fun h3 hn3 sb3 => ?_) (by rw [hf]; rfl)
  have G3 := G.local (tk := s.toks + 1 + 1 + 1) hTp hH hlL hld hn hn3 sb3
  have C3 : Cg tp.H L s0 { s with heap := h3, toks := s.toks + 1 + 1 + 1 } := hC0.newBut hz hH sb3
  refine wpAny_execs_cons (wpAny_If (isTrue_and (wpAny_isTrue_value (name_loc hf hkf (by decide) hn3 (if_pos rfl) (PySem.P.truthy_str (by decide) ?_)))))
  rw [if_pos (by decide)]
  refine isTrue_and (wpAny_isTrue_Compare1 (Subscript_ (name_loc hf hkf (by decide) hn3 (if_pos rfl) (wpAny_Constant_int (kba_turn (value' := .Name "_" ⟨0, 0, 0, 0⟩) (fun _ => rfl) (subscriptTail_builtin (typeIs_str _ _ _) PySem.F.slot_str_getitem.lookup (getItem_str (c := 32) (by decide) (by rfl) (name_loc (v := .str " " tc) hf hkc (by decide) hn3 ?_ (PyProof.Rows.eq_str (wpAny_truthy_bool ?_))))))))) rfl)
  · show (if _ then _ else _) = _
    rw [if_neg (by decide)]
    exact hmc
  rw [show ((⟨#[32]⟩ : Str) == Str.ofString " ") = true by decide +kernel, if_pos rfl]
  refine isTrue_and_nil ?_
  rw [if_pos rfl]
  refine wpAny_execs_cons (wpAny_Break ?_)
  refine h _ _ (C3.trans (Cg.keeps kpTok)) (G3.keep fun _ _ e => e) hn3 ?_ ⟨ti, ?_⟩
  · show (if _ then _ else _) = _
    rw [if_neg (by decide)]
    exact hm
  · show (if _ then _ else _) = _
    rw [if_neg (by decide)]
    exact hmi
end
end Mine
end
section
open PySem PySem.W PyProof.Rows PySem.Calls
open PySem.Builtin.ObjectAttr PySem.Builtin
set_option Elab.async false
set_option maxRecDepth 100000
namespace Mine
section
variable {prog : Program} {w : World} {A : Around} {s s0 : Shared} {env : Env} {K : Frag} {tp : Tp}

/-- range(self._current_line.part_count()-1, 0, -1) -/
theorem range_parts {CA CV fLen fStr fPush fPopF fPop fReset fOnly fCount c P c' P' pg dp ll ac da : Addr} {L : List Addr} {lines cs : List Str} {mx : Int} {m : Str → Option Value} {r1 r2 r3 r4 r5 r6 r7 r8 r9 ra rb : Pos} {k1 k2 k3 : Nat} {R : Value → Shared → Prop} (KF : KA K tp CA) (V : KV K CV) (O : LineO prog w K tp CA fLen fStr fPush fPopF fPop fReset fOnly fCount L c P c' P') (lt : (r4.endLine == r5.line) = true)
    (hrg : tp.mg "range" = none ∧ tp.mb "range" = some (.type "range")) (hA : A.handled = none) (dpt : A.depth ≤ 600) (un : A.units ≤ 3000) (G : PgS K tp CA CV L c P c' P' pg dp ll ac da s lines cs mx) (hcs : cs.length ≤ 1000)
    (hE : EnvG env) (hf : env.scope.kind = .function) (hks : env.kindOf "self" = some .local) (hkr : env.kindOf "range" = some .globalImplicit) (hn : s.heap.Ns env.locals m) (hm : m "self" = some (.ref pg)) (hlL : env.locals ∉ L) (hC0 : Cg tp.H L s0 s)
    (h : ∀ s' r t u z, Cg tp.H L s0 s' → PgS K tp CA CV L c P c' P' pg dp ll ac da s' lines cs mx → s'.heap.Ns env.locals m → IsRange s'.heap r ((cs.length : Int) - 1) 0 (-1) t u z → R (.ref r) s') :
    wpAny (model prog w) A (eval (.Call (.Name "range" r1) [.BinOp (.Call (.Attribute (.Attribute (.Name "self" r2) "_current_line" r3) "part_count" r4) [] [] r5) .Sub (.Constant (.int 1) k1 r6) r7, .Constant (.int 0) k2 r8, .UnaryOp .USub (.Constant (.int 1) k3 r9) ra] [] rb) env) R (fun _ _ => False) s := by
  refine wpAny_Call_NameR (name_builtin (tp := tp) hE G.st.bs hkr hrg.1 hrg.2 (by decide) (PySem.Pv.callWith_type1 (wpAny_items_cons (wpAny_BinOp (Call_G ⟨rfl, rfl, lt⟩ (cur_line KF V G hf hks hn hm fun G1 => ?_))))))
  intro pl
  refine line_meth (s := { s with toks := s.toks + 1 }) KF G1 O.mCount (by decide) (O.count A _ ac da cs _ hA dpt un G1.nCA G1.st fun s2 t2 C2 S2 => ?_)
  have G2 := G1.line C2 S2
  have hn2 : s2.heap.Ns env.locals m := hn.at' fun o e => C2.get _ o hlL e
  refine wpAny_Constant_int (PyProof.Rows.sub_int (wpAny_items_cons (wpAny_Constant_int (wpAny_items_cons (UnaryOp_ (wpAny_Constant_int (PyProof.Rows.neg_int (wpAny_items_nil ?_))))))))
  refine PySem.call_range_3 (by decide) ?_
  have kp : ∀ {o : Obj}, ∀ b o', s2.heap.get? b = some o' → (s2.heap.push o).get? b = some o' := fun b o' e => Heap.get?_push_of_some _ e
  exact h _ _ _ _ _ (((hC0.trans (Cg.keeps (s' := { s with toks := s.toks + 1 }) kpTok)).trans C2).trans (Cg.keeps ⟨_, _, rfl, kp⟩)) (G2.keep kp) (hn2.keeps kp) (Heap.get?_push_size _ rfl)
end
end Mine
end
section
open PySem PySem.W PyProof.Rows PySem.Calls
open PySem.Builtin.ObjectAttr PySem.Builtin
set_option Elab.async false
set_option maxRecDepth 100000
namespace Mine
section
variable {prog : Program} {w : World} {A : Around} {s s0 : Shared} {env : Env} {K : Frag} {tp : Tp}

theorem Cg.newSb {H : Heap} {L : List Addr} {s s1 : Shared} {x : Addr} {h' : Heap} {tk : Nat} (a : Cg H L s s1) (h0 : s.heap.get? x = none) (hH : H.get? x = none) (sb : ∀ b o, b ≠ x → s1.heap.get? b = some o → h'.get? b = some o) : Cg H L s { s1 with heap := h', toks := tk } := by
  have ne : ∀ b o, s.heap.get? b = some o → b ≠ x := fun b o e q => by rw [q, h0] at e; cases e
  exact ⟨fun b o n e => sb b o (ne b o e) (a.get b o n e), fun b o e => let ⟨o', e'⟩ := a.there b o e; ⟨o', sb b o' (ne b o e) e'⟩, a.3, a.4, fun O => old_but (a.5 O) hH (fun b o n e => sb b o n e)⟩

theorem PgS.localS {CA CV c P c' P' pg dp ll ac da x : Addr} {L : List Addr} {lines cs : List Str} {mx : Int} {h' : Heap} {tk : Nat} {m m' : Str → Option Value} (hTp : TpOk tp) (G : PgS K tp CA CV L c P c' P' pg dp ll ac da s lines cs mx) (hH : tp.H.get? x = none) (hxL : x ∉ L) (hxd : x ≠ dp) (hn : s.heap.Ns x m) (hn' : h'.Ns x m') (sb : ∀ b o, b ≠ x → s.heap.get? b = some o → h'.get? b = some o) :
    PgS K tp CA CV L c P c' P' pg dp ll ac da { s with heap := h', toks := tk } lines cs mx := by
  obtain ⟨st, ⟨sl, mm, b, I, r⟩, ⟨vs, n, h1, h2⟩, n1, n2, n3, h3, h4, h5, h6, h7⟩ := G
  obtain ⟨ox, es, ep, e0, ed, _⟩ := id hn
  obtain ⟨o', _, _, g, _⟩ := id hn'
  have nd : ∀ b o, s.heap.get? b = some o → (∀ es ep, o.data ≠ .dict es ep) → b ≠ x := fun b o e q z => by
    rw [z, e0] at e
    cases e
    exact q _ _ ed
  have nac : ac ≠ x := fun q => hxL (q ▸ st.acc.la)
  have nda : da ≠ x := fun q => hxL (q ▸ st.acc.ld)
  have acc' : AccS CA L h' ac da cs 0 := by
    obtain ⟨⟨sl, ps, n, ti, b, ⟨f1, f2, o, es', ep', f3, f4⟩, hb, PR⟩, la, ld, ne⟩ := st.acc
    exact ⟨⟨sl, ps, n, ti, b, ⟨sb _ _ nac f1, f2, o, es', ep', sb _ _ nda f3, f4⟩, hb, PR.keepT fun b xs n _ e => sb _ _ (nd b _ e (fun _ _ q => by cases q)) e⟩, la, ld, ne⟩
  have ne : ∀ b o, tp.H.get? b = some o → b ≠ x := fun b o e q => by rw [q, hH] at e; cases e
  have kv : ∀ {c P : Addr}, KCode s.heap c P → KCode h' c P := fun {c P} Kc => by
    obtain ⟨ps, ⟨o, vs, file, tf, flags, tg, inF, text, tt, op, z1, z2, z3, z4, z5, z6, z7, z8, z9⟩, z10⟩ := id Kc
    have k1 : c ≠ x := fun q => by rw [q, e0] at z1; cases z1; rw [ed] at z2; cases z2
    have k2 : P ≠ x := fun q => by rw [q, e0] at z8; cases z8; rw [ed] at z9; cases z9.1
    exact Kc.via (fun o e => sb _ _ k1 e) fun o e => sb _ _ k2 e
  refine ⟨⟨hTp.bs (fun b o e n => sb b _ (ne b o e) (st.bs.base b o e n)) (fun b o e => let ⟨o2, e2⟩ := st.bs.there b o e; ⟨o2, sb b _ (ne b o e) e2⟩), acc', kv st.kc, kv st.kc', ?_, st.nP, st.nP'⟩, ?_, ⟨vs, n, sb _ _ (nd _ _ h1 (fun _ _ q => by cases q)) h1, h2⟩, n1, n2, n3, h3, h4, h5, h6, ?_⟩
  · obtain ⟨y, y1, o, y2⟩ := st.sz
    by_cases q : y = x
    · exact ⟨y, y1, o', q ▸ g⟩
    · exact ⟨y, y1, o, sb y _ q y2⟩
  · obtain ⟨f1, f2, o, es', ep', f3, f4⟩ := I
    exact ⟨sl, mm, b, ⟨sb _ _ (nd _ _ f1 (fun _ _ q => by cases q)) f1, f2, o, es', ep', sb _ _ (Ne.symm hxd) f3, f4⟩, r⟩
  · intro b hb
    obtain ⟨o, e⟩ := h7 b hb
    exact ⟨o, sb b _ (fun q => hxL (q ▸ hb)) e⟩

/-- the inner loop of `_append_chunk` and the break behind it, for the split sign " " -/
theorem search_inner {CA CV fLen fStr fPush fPopF fPop fReset fOnly fCount c P c' P' pg dp ll ac da : Addr} {cdA : ClassData} {L : List Addr} {lines cs : List Str} {mx : Int} {m : Str → Option Value} {tc : Tok} {h1 h2 h3 h4 q0 q1 q2 q3 q4 q5 q6 q7 z1 z2 z3 z4 z5 z6 z7 z8 z9 : Pos} {k k2 : Nat} {rest orelse : List Stmt} {Q : Flow → Shared → Prop} {r1 r2 r3 r4 r5 r6 r7 r8 r9 ra rb pi pf pb : Pos} {k1 k4 k3 : Nat} (KF : KA K tp CA) (SK : KS K CA cdA) (V : KV K CV) (hTp : TpOk tp) (O : LineO prog w K tp CA fLen fStr fPush fPopF fPop fReset fOnly fCount L c P c' P') (lt0 : (h2.endLine == h3.line) = true) (lt : (r4.endLine == r5.line) = true)
    (hrg : tp.mg "range" = none ∧ tp.mb "range" = some (.type "range")) (hA : A.handled = none) (dpt : A.depth ≤ 600) (un : A.units ≤ 3000) (G : PgS K tp CA CV L c P c' P' pg dp ll ac da s lines cs mx) (hcs : cs.length ≤ 1000) (h2c : 2 ≤ cs.length)
    (hE : EnvG env) (hf : env.scope.kind = .function) (hks : env.kindOf "self" = some .local) (hki : env.kindOf "i" = some .local) (hkc : env.kindOf "ch" = some .local) (hkf : env.kindOf "fws" = some .local) (hkr : env.kindOf "range" = some .globalImplicit) (hn : s.heap.Ns env.locals m) (hm : m "self" = some (.ref pg)) (hmc : m "ch" = some (.str " " tc))
    (hH : tp.H.get? env.locals = none) (hlL : env.locals ∉ L) (hld : env.locals ≠ dp) (hC0 : Cg tp.H L s0 s) (hz : s0.heap.get? env.locals = none)
    (h : ∀ s' m', Cg tp.H L s0 s' → PgS K tp CA CV L c P c' P' pg dp ll ac da s' lines cs mx → s'.heap.Ns env.locals m' → m' "self" = some (.ref pg) → (∃ t, m' "i" = some (.int ((cs.length - 1 : Nat) : Int) t)) → Q .brk s') :
    wpAny (model prog w) A (execs [.For (.Name "i" pi) (.Call (.Name "range" r1) [.BinOp (.Call (.Attribute (.Attribute (.Name "self" r2) "_current_line" r3) "part_count" r4) [] [] r5) .Sub (.Constant (.int 1) k1 r6) r7, .Constant (.int 0) k4 r8, .UnaryOp .USub (.Constant (.int 1) k3 r9) ra] [] rb)
      (.If (.Call (.Attribute (.Name "ch" h1) "isspace" h2) [] [] h3)
      [.Assign [.Name "fws" q0] (.Subscript (.Subscript (.Attribute (.Name "self" q1) "_current_line" q2) (.Name "i" q3) q4) (.Constant (.int 0) k q5) q6) q7,
       .If (.BoolOp .And [.Name "fws" z1, .Compare (.Subscript (.Name "fws" z2) (.Constant (.int 0) k2 z3) z4) [.Eq] [.Name "ch" z5] z6] z7) [.Break z8] [] z9] [] h4 :: rest) orelse pf, .Break pb] env) Q (fun _ _ => False) s := by
  refine wpAny_execs_cons (for_range_brk hki (by rw [hf]; rfl) (range_parts KF V O lt hrg hA dpt un G hcs hE hf hks hkr hn hm hlL hC0 fun s' r t u z C' G' hn' hr => ⟨r, _, _, _, t, u, z, rfl, hr, ?_, ?_, hn', fun h2 tk u2 hn2 k2 => ?_⟩))
  · unfold Builtin.Range.small Builtin.Range.rangeSize
    simp only [Builtin.Range.rangeFitsLong, Bool.and_eq_true, Bool.or_eq_true, decide_eq_true_eq, beq_iff_eq]
    simp
    split <;> omega
  · unfold Builtin.Range.rangeSize
    simp
    omega
  · have sb : Cg tp.H L s0 { s' with heap := h2, toks := tk } ∧ PgS K tp CA CV L c P c' P' pg dp ll ac da { s' with heap := h2, toks := tk } lines cs mx := by
      exact ⟨C'.newSb hz hH k2, G'.localS hTp hH hlL hld hn' hn2 k2⟩
    have e9 : ((cs.length : Int) - 1) = ((cs.length - 1 : Nat) : Int) := by omega
    refine wpAny_mono (split_body (h4 := pi) (s0 := s0) (s := { s' with heap := h2, toks := tk }) (j := cs.length - 1) (ti := u2) (tc := tc) (Q := fun f s3 => f = .brk ∧ wpAny (model prog w) A (execs [.Break pb] env) Q (fun _ _ => False) s3) KF SK V hTp lt0 sb.2 hf hks hki hkc hkf hn2 ?_ ?_ ?_ (by omega) hcs hH hlL hld sb.1 hz fun s3 m3 C3 G3 hn3 m1 m2 => ⟨rfl, wpAny_execs_cons (wpAny_Break (h s3 m3 C3 G3 hn3 m1 m2))⟩) (fun f s3 q => q) fun _ _ e => e
    · show (if _ then _ else _) = _
      rw [if_neg (by decide)]
      exact hm
    · show (if _ then _ else _) = _
      rw [if_pos rfl, e9]
    · show (if _ then _ else _) = _
      rw [if_neg (by decide)]
      exact hmc
end
end Mine
end
section
open PySem PySem.W PyProof.Rows PySem.Calls
open PySem.Builtin.ObjectAttr PySem.Builtin
set_option Elab.async false
set_option maxRecDepth 100000
namespace Mine
section
variable {prog : Program} {w : World} {A : Around} {s s0 : Shared} {env : Env} {K : Frag} {tp : Tp}

/-- the search of `_append_chunk`: left at the last part -/
theorem search_outer {CA CV fLen fStr fPush fPopF fPop fReset fOnly fCount c P c' P' pg dp ll ac da : Addr} {cdA : ClassData} {L : List Addr} {lines cs : List Str} {mx : Int} {m : Str → Option Value} {h1 h2 h3 h4 q0 q1 q2 q3 q4 q5 q6 q7 z1 z2 z3 z4 z5 z6 z7 z8 z9 : Pos} {k k2 : Nat} {rest orelse orelse2 : List Stmt} {Q : Flow → Shared → Prop} {r1 r2 r3 r4 r5 r6 r7 r8 r9 ra rb pi pf pb po pp pq pr : Pos} {k1 k4 k3 : Nat} (KF : KA K tp CA) (SK : KS K CA cdA) (V : KV K CV) (hTp : TpOk tp) (O : LineO prog w K tp CA fLen fStr fPush fPopF fPop fReset fOnly fCount L c P c' P') (lt0 : (h2.endLine == h3.line) = true) (lt : (r4.endLine == r5.line) = true)
    (hrg : tp.mg "range" = none ∧ tp.mb "range" = some (.type "range")) (hA : A.handled = none) (dpt : A.depth ≤ 600) (un : A.units ≤ 3000) (G : PgS K tp CA CV L c P c' P' pg dp ll ac da s lines cs mx) (hcs : cs.length ≤ 1000) (h2c : 2 ≤ cs.length)
    (hE : EnvG env) (hf : env.scope.kind = .function) (hks : env.kindOf "self" = some .local) (hki : env.kindOf "i" = some .local) (hkc : env.kindOf "ch" = some .local) (hkf : env.kindOf "fws" = some .local) (hkr : env.kindOf "range" = some .globalImplicit) (hn : s.heap.Ns env.locals m) (hm : m "self" = some (.ref pg))
    (hH : tp.H.get? env.locals = none) (hlL : env.locals ∉ L) (hld : env.locals ≠ dp) (hC0 : Cg tp.H L s0 s) (hz : s0.heap.get? env.locals = none)
    (h : ∀ s' m', Cg tp.H L s0 s' → PgS K tp CA CV L c P c' P' pg dp ll ac da s' lines cs mx → s'.heap.Ns env.locals m' → m' "self" = some (.ref pg) → (∃ t, m' "i" = some (.int ((cs.length - 1 : Nat) : Int) t)) → Q .next s') :
    wpAny (model prog w) A (exec (.For (.Name "ch" po) (.Attribute (.Name "self" pp) "_splitchars" pq) [.For (.Name "i" pi) (.Call (.Name "range" r1) [.BinOp (.Call (.Attribute (.Attribute (.Name "self" r2) "_current_line" r3) "part_count" r4) [] [] r5) .Sub (.Constant (.int 1) k1 r6) r7, .Constant (.int 0) k4 r8, .UnaryOp .USub (.Constant (.int 1) k3 r9) ra] [] rb)
      (.If (.Call (.Attribute (.Name "ch" h1) "isspace" h2) [] [] h3)
      [.Assign [.Name "fws" q0] (.Subscript (.Subscript (.Attribute (.Name "self" q1) "_current_line" q2) (.Name "i" q3) q4) (.Constant (.int 0) k q5) q6) q7,
       .If (.BoolOp .And [.Name "fws" z1, .Compare (.Subscript (.Name "fws" z2) (.Constant (.int 0) k2 z3) z4) [.Eq] [.Name "ch" z5] z6] z7) [.Break z8] [] z9] [] h4 :: rest) orelse pf, .Break pb] orelse2 pr) env) Q (fun _ _ => False) s := by
  refine for_str_brk (c := 32) (m := m) (by decide) hkc (by rw [hf]; rfl) (Attribute_name (name_loc hf hks (by decide) hn hm ?_))
  obtain ⟨sl, mm, b, I, i1, i2, i3, ⟨t, i4⟩, _⟩ := G.pgI
  refine ins_get (KF.inK _ G.st.bs) I V.pg V.hd V.spl i4 (by rfl) ⟨t, rfl, hn, fun hp tk u hn2 k2 => ?_⟩
  have C2 : Cg tp.H L s0 { s with heap := hp, toks := tk } := hC0.newSb hz hH k2
  have G2 := G.localS (tk := tk) hTp hH hlL hld hn hn2 k2
  refine search_inner (s0 := s0) (s := { s with heap := hp, toks := tk }) (tc := u) (h4 := h4) KF SK V hTp O lt0 lt hrg hA dpt un G2 hcs h2c hE hf hks hki hkc hkf hkr hn2 ?_ ?_ hH hlL hld C2 hz fun s3 m3 C3 G3 hn3 m1 m2 => ⟨rfl, h s3 m3 C3 G3 hn3 m1 m2⟩
  · show (if _ then _ else _) = _
    rw [if_neg (by decide)]
    exact hm
  · show (if _ then _ else _) = _
    rw [if_pos rfl]
    rfl
end
end Mine
end
section
open PySem PySem.W PyProof.Rows PySem.Calls
open PySem.Builtin.ObjectAttr PySem.Builtin
set_option Elab.async false
set_option maxRecDepth 100000
namespace Mine
section
variable {prog : Program} {w : World} {A : Around} {s s0 : Shared} {env : Env} {K : Frag} {tp : Tp}

/-- a list of parts at an address outside the page -/
theorem cut_line {CA CV fLen fStr fPush fPopF fPop fReset fOnly fCount c P c' P' pg dp ll ac da : Addr} {L : List Addr} {lines cs : List Str} {mx : Int} {m : Str → Option Value} {j : Nat} {n0 n1 n2 n3 n4 n5 n6 : Pos} {ti : Tok} {Q : Flow → Shared → Prop} (KF : KA K tp CA) (V : KV K CV) (hTp : TpOk tp) (O : LineO prog w K tp CA fLen fStr fPush fPopF fPop fReset fOnly fCount L c P c' P') (lt : (n3.endLine == n5.line) = true)
    (hA : A.handled = none) (dpt : A.depth ≤ 600) (un : A.units ≤ 3000) (G : PgS K tp CA CV L c P c' P' pg dp ll ac da s lines cs mx) (hcs : cs.length ≤ 800) (hj : j ≤ cs.length)
    (hf : env.scope.kind = .function) (hks : env.kindOf "self" = some .local) (hki : env.kindOf "i" = some .local) (hkr : env.kindOf "remainder" = some .local) (hn : s.heap.Ns env.locals m) (hm : m "self" = some (.ref pg)) (hmi : m "i" = some (.int (j : Int) ti))
    (hH : tp.H.get? env.locals = none) (hlL : env.locals ∉ L) (hld : env.locals ≠ dp) (hC0 : Cg tp.H L s0 s) (hz : s0.heap.get? env.locals = none)
    (h : ∀ s' m' l new n2, s.heap.get? l = none → Cg tp.H L s0 s' → PgS K tp CA CV L c P c' P' pg dp ll ac da s' lines (cs.take j) mx → s'.heap.Ns env.locals m' → m' "self" = some (.ref pg) → m' "remainder" = some (.ref l) → s'.heap.get? l = some { cls := .type "list", data := .seq (List.toArray new) n2 } → PartsR L s'.heap new (cs.drop j) → Q .next s') :
    wpAny (model prog w) A (exec (.Assign [.Name "remainder" n0] (.Call (.Attribute (.Attribute (.Name "self" n1) "_current_line" n2) "pop_from" n3) [.Name "i" n4] [] n5) n6) env) Q (fun _ _ => False) s := by
  refine wpAny_Assign_Name (Call_G ⟨rfl, rfl, lt⟩ (cur_line KF V G hf hks hn hm fun G1 => ?_)) rfl
  intro pl
  obtain ⟨sl, ps, n, tn, b, I, hb, PR⟩ := G1.st.acc.ex
  refine ins_meth (KF.inK _ G1.st.bs) I KF.pg O.mPopF.find O.mPopF.ty (by rfl) ?_
  refine callWith_K (K := K) (h₀ := s.heap) (KF.inK _ G.st.bs) O.mPopF.keep ?_
  refine wpAny_items_cons (name_loc (s := { s with toks := s.toks + 1 }) hf hki (by decide) hn hmi (wpAny_items_nil ⟨KF.inK _ G1.st.bs, ?_⟩))
  refine O.popF A _ ac da cs j ti _ hA dpt un G1.hAc G1.hDa G1.st hcs hj fun s2 l new n2 hnew C2 S2 hl2 hp2 => ?_
  have G2 := G1.line C2 S2
  have hn2 : s2.heap.Ns env.locals m := hn.at' fun o e => C2.get _ o hlL e
  refine wpAny_storeName_local hkr hn2 (fun h3 hn3 sb3 => ?_) (by rw [hf]; rfl)
  obtain ⟨ol, es, ep, e1, e2, _⟩ := id hn2
  have nel : l ≠ env.locals := fun q => by
    rw [q, e1] at hl2
    cases hl2
    cases e2
  refine h _ _ l new n2 hnew (((hC0.trans (Cg.keeps (s' := { s with toks := s.toks + 1 }) kpTok)).trans C2).newBut hz hH sb3) (G2.local hTp hH hlL hld hn2 hn3 sb3) hn3 ?_ (if_pos rfl) ((sb3.2 _ nel).trans hl2) (hp2.keepT fun b xs n' _ e => (sb3.2 _ fun q => ?_).trans e)
  · show (if _ then _ else _) = _
    rw [if_neg (by decide)]
    exact hm
  · rw [q, e1] at e
    cases e
    cases e2
end
end Mine
end
section
open PySem PySem.W PyProof.Rows PySem.Calls
open PySem.Builtin.ObjectAttr PySem.Builtin
set_option Elab.async false
set_option maxRecDepth 100000
namespace Mine
section
variable {prog : Program} {w : World} {A : Around} {s s0 : Shared} {env : Env} {K : Frag} {tp : Tp}

/-- the two last steps of the long branch: the line's text joins the lines, the line goes on with what was cut off -/
theorem chunk_tail {CA CV fLen fStr fPush fPopF fPop fReset fOnly fCount c P c' P' pg dp ll ac da l : Addr} {L : List Addr} {lines cs ds : List Str} {new : List Value} {n2 : Nat} {mx : Int} {m : Str → Option Value} {Q : Flow → Shared → Prop}
    {b1 b2 b3 b4 b5 b6 b7 b8 b9 e1 e2 e3 e4 e5 e6 : Pos} (KF : KA K tp CA) (V : KV K CV) (hTp : TpOk tp) (O : LineO prog w K tp CA fLen fStr fPush fPopF fPop fReset fOnly fCount L c P c' P') (lt2 : (b3.endLine == b8.line) = true) (lt3 : (e3.endLine == e5.line) = true)
    (hstr : tp.mg "str" = none ∧ tp.mb "str" = some (.type "str"))
    (hA : A.handled = none) (dpt : A.depth ≤ 600) (un : A.units ≤ 3000) (G : PgS K tp CA CV L c P c' P' pg dp ll ac da s lines cs mx) (hL : LineOk cs) (hds : ds.length ≤ 800) (hll : lines.length ≤ 1000) (hpl : pg ≠ ll) (hdl : dp ≠ ll) (hal : env.locals ≠ ll)
    (hE : EnvG env) (hf : env.scope.kind = .function) (hni : interactive env = false) (hks : env.kindOf "self" = some .local) (hkr : env.kindOf "remainder" = some .local) (hkt : env.kindOf "str" = some .globalImplicit) (hn : s.heap.Ns env.locals m) (hm : m "self" = some (.ref pg)) (hmr : m "remainder" = some (.ref l)) (hlL : env.locals ∉ L) (hC0 : Cg tp.H L s0 s)
    (hl : s.heap.get? l = some { cls := .type "list", data := .seq (List.toArray new) n2 }) (hp : PartsR L s.heap new ds) (nl : l ∉ L) (nll : l ≠ ll)
    (h : ∀ s', Cg tp.H (ll :: L) s0 s' → PgS K tp CA CV L c P c' P' pg dp ll ac da s' (lines ++ [lineT cs]) ds mx → Q .next s') :
    wpAny (model prog w) A (execs [.Expr (.Call (.Attribute (.Attribute (.Name "self" b1) "_lines" b2) "append" b3) [.Call (.Name "str" b4) [.Attribute (.Name "self" b5) "_current_line" b6] [] b7] [] b8) b9,
      .Expr (.Call (.Attribute (.Attribute (.Name "self" e1) "_current_line" e2) "reset" e3) [.Name "remainder" e4] [] e5) e6] env) Q (fun _ _ => False) s := by
  have hc8 := hL.few
  refine wpAny_execs_cons (wpAny_Expr_any (wpAny_Call_append rfl rfl lt2 rfl (Attribute_name (name_loc hf hks (by decide) hn hm ?_))) hni rfl)
  obtain ⟨sl, mm, b, I, i1, i2, _⟩ := G.pgI
  refine ins_get (KF.inK _ G.st.bs) I V.pg V.hd V.lin i2 (by rfl) ?_
  have G5 := G.keep (tk := s.toks + 1) (h' := s.heap) fun _ _ e => e
  obtain ⟨vs, n, j1, j2⟩ := G5.lnI
  refine ⟨ll, vs.toArray, rfl, ⟨_, n, j1, rfl, rfl, rfl⟩, ?_⟩
  refine wpAny_Call_NameR (name_builtin (tp := tp) hE G5.st.bs hkt hstr.1 hstr.2 (by decide) (PySem.callWith_type1 (cur_line (s := { s with toks := s.toks + 1 }) KF V G5 hf hks hn hm fun G6 => ?_)))
  refine lineStr (s := { s with toks := s.toks + 1 + 1 }) KF O.d hA (by omega) (by omega) G6.st (by omega) hL.part hL.all fun s7 t7 C7 S7 => ?_
  have G7 := G6.line C7 S7
  have hn7 : s7.heap.Ns env.locals m := hn.at' fun o e => C7.get _ o hlL e
  have D7 : Cg tp.H L s0 s7 := (hC0.trans (Cg.keeps (s' := { s with toks := s.toks + 1 + 1 }) kpTok)).trans C7
  have hl7 : s7.heap.get? l = some { cls := .type "list", data := .seq (List.toArray new) n2 } := C7.get _ _ nl hl
  have hp7 : PartsR L s7.heap new ds := hp.keep fun b o nb e => C7.get b o nb e
  obtain ⟨vs7, n7, j7, _⟩ := G7.lnI
  refine add_line hTp G7 hll hpl hdl fun h8 o8 sb8 g8 G8 => ?_
  have hn8 : h8.Ns env.locals m := hn7.at' fun o e => (sb8.2 _ hal).trans e
  have hl8 : h8.get? l = some { cls := .type "list", data := .seq (List.toArray new) n2 } := (sb8.2 _ nll).trans hl7
  have hp8 : PartsR L h8 new ds := hp7.keepT fun b xs n' _ e => (sb8.2 _ fun q => by
    rw [q, j7] at e
    have e9 : Value.type "list" = Value.type "tuple" := congrArg Obj.cls (Option.some.inj e)
    injection e9 with e9
    exact absurd e9 (by decide)).trans e
  have D8 : Cg tp.H (ll :: L) s0 { s7 with heap := h8 } := (D7.mono fun x hx => List.mem_cons_of_mem _ hx).trans (Cg.but (tk := s7.toks) (.head _) G8.hLl g8 sb8)
  refine wpAny_execs_cons (wpAny_Expr_any (Call_G ⟨rfl, rfl, lt3⟩ (cur_line (s := { s7 with heap := h8 }) KF V G8 hf hks hn8 hm fun G9 => ?_)) hni rfl)
  intro pl
  obtain ⟨sl9, ps9, n9, tn9, b9, I9, hb9, PR9⟩ := G9.st.acc.ex
  refine ins_meth (KF.inK _ G9.st.bs) I9 KF.pg O.mReset.find O.mReset.ty (by rfl) ?_
  refine callWith_K (K := K) (h₀ := h8) (KF.inK _ G9.st.bs) O.mReset.keep ?_
  refine wpAny_items_cons (name_loc (s := { s7 with heap := h8, toks := s7.toks + 1 }) hf hkr (by decide) hn8 hmr (wpAny_items_nil ⟨KF.inK _ G9.st.bs, ?_⟩))
  refine O.reset1 A _ ac da l new n2 cs ds _ hA dpt un G9.hAc G9.hDa G9.st (by omega) hds hl8 hp8 fun s10 C10 S10 => wpAny_execs_nil ?_
  exact h s10 ((D8.trans (Cg.keeps (s' := { s7 with heap := h8, toks := s7.toks + 1 }) kpTok)).trans (C10.mono fun x hx => List.mem_cons_of_mem _ hx)) (G9.line C10 S10)
end
end Mine
end
section
open PySem PySem.W PyProof.Rows PySem.Calls
open PySem.Builtin.ObjectAttr PySem.Builtin
set_option Elab.async false
set_option maxRecDepth 100000
namespace Mine
section
variable {prog : Program} {w : World} {A : Around} {s s0 : Shared} {env : Env} {K : Frag} {tp : Tp}

/-- a long line: it is cut ahead of the part, the part stays -/
theorem chunk_many {CA CV f fLen fStr fPush fPopF fPop fReset fOnly fCount c P c' P' pg dp ll ac da : Addr} {cdA : ClassData} {L : List Addr} {lines cs : List Str} {x : Str} {t u : Tok} {mx : Int} {sc : List (Str × NameKind)} {cd : Value} {Q : Value → Shared → Prop}
    {p1 p2 p3 a1 a2 a3 a4 a5 a6 a7 l1 l2 l3 l4 l5 l6 l7 d2 : Pos} {h1 h2 h3 h4 q0 q1 q2 q3 q4 q5 q6 q7 z1 z2 z3 z4 z5 z6 z7 z8 z9 : Pos} {k k2 : Nat} {rest orelse orelse2 : List Stmt} {r1 r2 r3 r4 r5 r6 r7 r8 r9 ra rb pi pf pb po pp pq pr : Pos} {k1 k4 k3 : Nat}
    {n0 n1 n2 n3 n4 n5 n6 : Pos} {b1 b2 b3 b4 b5 b6 b7 b8 b9 e1 e2 e3 e4 e5 e6 : Pos}
    (KF : KA K tp CA) (SK : KS K CA cdA) (V : KV K CV) (hTp : TpOk tp) (O : LineO prog w K tp CA fLen fStr fPush fPopF fPop fReset fOnly fCount L c P c' P') (SC : ScC sc) (lt1 : (a3.endLine == a6.line) = true)
    (lt0 : (h2.endLine == h3.line) = true) (lt : (r4.endLine == r5.line) = true) (lt4 : (n3.endLine == n5.line) = true) (lt2 : (b3.endLine == b8.line) = true) (lt3 : (e3.endLine == e5.line) = true)
    (hlen : tp.mg "len" = none ∧ tp.mb "len" = some (.builtin "len")) (hrg : tp.mg "range" = none ∧ tp.mb "range" = some (.type "range")) (hstr : tp.mg "str" = none ∧ tp.mb "str" = some (.type "str"))
    (Fn : FnK K tp f "_append_chunk" "_ValueFormatter._append_chunk" (psL [("self", p1), ("fws", p2), ("string", p3)]) (.Expr (.Call (.Attribute (.Attribute (.Name "self" a1) "_current_line" a2) "push" a3) [.Name "fws" a4, .Name "string" a5] [] a6) a7 ::
      .If (.Compare (.Call (.Name "len" l1) [.Attribute (.Name "self" l2) "_current_line" l3] [] l4) [.Gt] [.Attribute (.Name "self" l5) "_maxlen" l6] l7)
       [.For (.Name "ch" po) (.Attribute (.Name "self" pp) "_splitchars" pq) [.For (.Name "i" pi) (.Call (.Name "range" r1) [.BinOp (.Call (.Attribute (.Attribute (.Name "self" r2) "_current_line" r3) "part_count" r4) [] [] r5) .Sub (.Constant (.int 1) k1 r6) r7, .Constant (.int 0) k4 r8, .UnaryOp .USub (.Constant (.int 1) k3 r9) ra] [] rb)
      (.If (.Call (.Attribute (.Name "ch" h1) "isspace" h2) [] [] h3)
      [.Assign [.Name "fws" q0] (.Subscript (.Subscript (.Attribute (.Name "self" q1) "_current_line" q2) (.Name "i" q3) q4) (.Constant (.int 0) k q5) q6) q7,
       .If (.BoolOp .And [.Name "fws" z1, .Compare (.Subscript (.Name "fws" z2) (.Constant (.int 0) k2 z3) z4) [.Eq] [.Name "ch" z5] z6] z7) [.Break z8] [] z9] [] h4 :: rest) orelse pf, .Break pb] orelse2 pr,
       .Assign [.Name "remainder" n0] (.Call (.Attribute (.Attribute (.Name "self" n1) "_current_line" n2) "pop_from" n3) [.Name "i" n4] [] n5) n6,
       .Expr (.Call (.Attribute (.Attribute (.Name "self" b1) "_lines" b2) "append" b3) [.Call (.Name "str" b4) [.Attribute (.Name "self" b5) "_current_line" b6] [] b7] [] b8) b9,
       .Expr (.Call (.Attribute (.Attribute (.Name "self" e1) "_current_line" e2) "reset" e3) [.Name "remainder" e4] [] e5) e6] [] d2 :: []) (scN sc) [] .none cd)
    (hA : A.handled = none) (dpt : A.depth ≤ 500) (un : A.units ≤ 2900) (hH : tp.H.objs.size ≤ s.heap.objs.size) (G : PgS K tp CA CV L c P c' P' pg dp ll ac da s lines cs mx) (hcs : cs.length ≤ 700) (hne : cs ≠ []) (hone : ∀ y ∈ cs ++ [x], y.length = 1) (hL : LineOk cs) (hmx : mx < ((2 * (cs.length + 1) : Nat) : Int))
    (hll : lines.length ≤ 1000) (hpl : pg ≠ ll) (hdl : dp ≠ ll)
    (hq : ∀ s', Cg tp.H (ll :: L) s s' → PgS K tp CA CV L c P c' P' pg dp ll ac da s' (lines ++ [lineT cs]) [x] mx → Q .none s') :
    wpAny (model prog w) A (call (.ref f) [.ref pg, .str " " t, .str x u]) Q (fun _ _ => False) s := by
  have fresh : ∀ b o, s.heap.get? b = some o → s.heap.objs.size ≠ b := fun b o e q => absurd (Heap.lt_size e) (by rw [← q]; exact Nat.lt_irrefl _)
  have nH : tp.H.get? s.heap.objs.size = none := Heap.get?_none_of_le hH
  have nS : s.heap.get? s.heap.objs.size = none := Heap.get?_none_of_le (Nat.le_refl _)
  have nL : s.heap.objs.size ∉ L := fun q => let ⟨o, e⟩ := G.inL _ q; fresh _ o e rfl
  have ndp : s.heap.objs.size ≠ dp := by
    obtain ⟨sl, mm, b, ⟨f1, f2, o, es', ep', f3, f4⟩, _⟩ := G.pgI
    exact fresh _ _ f3
  have nll : s.heap.objs.size ≠ ll := by
    obtain ⟨vs, n, j1, j2⟩ := G.lnI
    exact fresh _ _ j1
  have h2c : 2 ≤ (cs ++ [x]).length := by
    have : 0 < cs.length := Nat.pos_of_ne_zero fun e => hne (List.length_eq_zero_iff.mp e)
    simp; omega
  have e1 : (cs ++ [x]).length - 1 = cs.length := by simp
  have hc1 : (cs ++ [x]).length ≤ 800 := by simp; omega
  refine chunk_start KF V O SC lt1 hlen Fn hA dpt un G hcs hone fun pm doc s' m C' G' hn' hm' => ?_
  rw [if_pos (by omega)]
  refine wpAny_execs_cons (search_outer (s0 := s) (h4 := h4) KF SK V hTp O lt0 lt hrg hA (by show A.depth + 1 ≤ 600; omega) (by show A.units + 3 ≤ 3000; omega) G' (by omega) h2c ⟨rfl, rfl, rfl⟩ rfl SC.self SC.i SC.ch SC.fws SC.range hn' hm' nH nL ndp C' nS fun s2 m2 C2 G2 hn2 hm2 hi2 => ?_)
  obtain ⟨ti, hi2⟩ := hi2
  rw [e1] at hi2
  refine wpAny_execs_cons (cut_line (s0 := s) KF V hTp O lt4 hA (by show A.depth + 1 ≤ 600; omega) (by show A.units + 3 ≤ 3000; omega) G2 hc1 (by simp) rfl SC.self SC.i SC.rem hn2 hm2 hi2 nH nL ndp C2 nS fun s3 m3 l new n2' hnew C3 G3 hn3 hm3 hr3 hl3 hp3 => ?_)
  rw [List.take_left] at G3
  rw [List.drop_left] at hp3
  have lL : l ∉ L := fun q => by
    obtain ⟨o, e⟩ := G2.inL _ q
    rw [e] at hnew
    cases hnew
  have l_ll : l ≠ ll := fun q => by
    obtain ⟨vs, n, j1, j2⟩ := G2.lnI
    rw [q, j1] at hnew
    cases hnew
  refine wpAny_mono (chunk_tail (s0 := s) (Q := fun fl s4 => fl = .next ∧ Q .none s4) KF V hTp O lt2 lt3 hstr hA (by show A.depth + 1 ≤ 600; omega) (by show A.units + 3 ≤ 3000; omega) G3 hL (show [x].length ≤ 800 by show 1 ≤ 800; omega) hll hpl hdl nll ⟨rfl, rfl, rfl⟩ rfl rfl SC.self SC.rem SC.str hn3 hm3 hr3 nL C3 hl3 hp3 lL l_ll fun s4 C4 G4 => ⟨rfl, hq s4 C4 G4⟩) (fun fl s4 q => ?_) fun _ _ e => e
  obtain ⟨rfl, q⟩ := q
  exact q
end
end Mine
end
section
open PySem PySem.W PyProof.Rows PySem.Calls
open PySem.Builtin.ObjectAttr PySem.Builtin
set_option Elab.async false
set_option maxRecDepth 100000
namespace Mine
section
variable {prog : Program} {w : World} {A : Around} {s s0 : Shared} {env : Env} {K : Frag} {tp : Tp}

/-- `_str` of the page -/
theorem pagestr_ok {CA CV f fNl c P c' P' pg dp ll ac da : Addr} {L : List Addr} {lines cs : List Str} {sep x : Str} {t : Tok} {mx : Int} {cd : Value} {Q : Value → Shared → Prop} {p1 p2 a1 a2 a3 a4 b1 b2 b3 b4 b5 b6 : Pos} (KF : KA K tp CA) (V : KV K CV) (lt1 : (a2.endLine == a3.line) = true) (lt2 : (b2.endLine == b5.line) = true)
    (MN : MethF K CV "newline" fNl)
    (Fn : FnK K tp f "_str" "_ValueFormatter._str" (psL [("self", p1), ("linesep", p2)]) [.Expr (.Call (.Attribute (.Name "self" a1) "newline" a2) [] [] a3) a4,
      .Return (some (.Call (.Attribute (.Name "linesep" b1) "join" b2) [.Attribute (.Name "self" b3) "_lines" b4] [] b5)) b6] (scL ["self", "linesep"]) [] .none cd)
    (dpt : A.depth ≤ 400) (G : PgS K tp CA CV L c P c' P' pg dp ll ac da s lines (cs ++ [x]) mx)
    (hnl : ∀ (A' : Around) (s1 : Shared) (Q' : Value → Shared → Prop), A'.handled = A.handled → A'.depth ≤ A.depth + 1 → A'.units ≤ A.units + 3 → s.heap.objs.size ≤ s1.heap.objs.size → PgS K tp CA CV L c P c' P' pg dp ll ac da s1 lines (cs ++ [x]) mx →
      (∀ s', Cg tp.H (ll :: L) s1 s' → PgS K tp CA CV L c P c' P' pg dp ll ac da s' (lines ++ [lineT (cs ++ [x])]) [] mx → Q' .none s') → wpAny (model prog w) A' (call (.ref fNl) [.ref pg]) Q' (fun _ _ => False) s1)
    (hj : JoinOk sep (lines ++ [lineT (cs ++ [x])]) = true)
    (hq : ∀ s' t', Cg tp.H (ll :: L) s s' → PgS K tp CA CV L c P c' P' pg dp ll ac da s' (lines ++ [lineT (cs ++ [x])]) [] mx → Q (.str (Txt.join sep (lines ++ [lineT (cs ++ [x])])) t') s') : wpAny (model prog w) A (call (.ref f) [.ref pg, .str sep t]) Q (fun _ _ => False) s := by
  have X := KF.inK _ G.st.bs
  have fresh : ∀ b o, s.heap.get? b = some o → s.heap.objs.size ≠ b := fun b o e q => absurd (Heap.lt_size e) (by rw [← q]; exact Nat.lt_irrefl _)
  have nL : s.heap.objs.size ∉ L := fun q => let ⟨o, e⟩ := G.inL _ q; fresh _ o e rfl
  have nll : s.heap.objs.size ≠ ll := by
    obtain ⟨vs, n, j1, j2⟩ := G.lnI
    exact fresh _ _ j1
  refine call_m Fn (by omega) G.st.bs X (binds := [("self", .ref pg), ("linesep", .str sep t)]) (fun _ _ => BindsTo.of_eq rfl) (by decide) (loc2 rfl rfl) rfl rfl rfl fun pm doc h₀ _ hn hk => ?_
  have G0 := G.keep (tk := s.toks + 2) hk
  obtain ⟨sl, mm, b, I, i1, i2, i3, i4, i5, i6, i7⟩ := G0.pgI
  have lsz : s.heap.objs.size ≤ h₀.objs.size := by obtain ⟨o, es, ep, e1, _⟩ := hn; exact Nat.le_of_lt (Heap.lt_size e1)
  refine wpAny_execs_cons (wpAny_Expr_any (Call_G ⟨rfl, rfl, lt1⟩ (ldc rfl rfl hn (by rfl) ?_ (by decide))) rfl rfl)
  intro pl
  refine ins_meth (KF.inK _ G0.st.bs) I V.pg MN.find MN.ty i6 (callWith_K0 (KF.inK _ G0.st.bs) MN.keep ?_)
  refine hnl (A.deeper _) { s with heap := h₀, toks := s.toks + 2 } _ rfl (Nat.le_refl _) (Nat.le_refl _) lsz G0 fun s1 C1 G1 => ?_
  have hn1 : s1.heap.Ns s.heap.objs.size _ := hn.at' fun o e => C1.get _ o (fun hm => by
    rcases List.mem_cons.mp hm with q | q
    · exact nll q
    · exact nL q) e
  obtain ⟨sl, mm, b, I, i1, i2, i3, i4, i5, i6, i7⟩ := G1.pgI
  refine wpAny_execs_cons (wpAny_Return_some ?_)
  refine wpAny_Call_method (T := "str") rfl rfl lt2 F.plainAttrs_str PySem.F.slot_str_join F.type_str_join (ldc rfl rfl hn1 (by rfl) ?_ (by decide))
  refine ⟨typeIs_str _ _ _, (fun a e => nomatch e), callWith_method1 ?_⟩
  refine wpAny_items_cons (Attribute_name (ldc rfl rfl hn1 (by rfl) ?_ (by decide)))
  refine ins_get (KF.inK _ G1.st.bs) I V.pg V.hd V.lin i2 (by rfl) (wpAny_items_nil ?_)
  obtain ⟨vs, n, j1, j2⟩ := G1.lnI
  obtain ⟨l, e4, e5⟩ := StrsAre.pairs j2
  subst e4
  refine SC.join (isL j1) e5 hj fun t' tk => ?_
  have C : Cg tp.H (ll :: L) s s1 := (Cg.keeps (s' := { s with heap := h₀, toks := s.toks + 2 }) ⟨_, _, rfl, hk⟩).trans C1
  exact hq _ t' (C.trans (Cg.keeps (s' := { s1 with toks := tk }) kpTok)) (G1.keep (h' := s1.heap) fun _ _ e => e)
end
end Mine
end
section
open PySem PySem.W PyProof.Rows PySem.Calls
open PySem.Builtin.ObjectAttr PySem.Builtin
set_option Elab.async false
set_option maxRecDepth 100000
namespace Mine

noncomputable def makesL (K : Frag) (C : Addr) : Bool := match K.lookup C with
  | some ⟨_, _, .cls cd, sl⟩ => !cd.abstract && !cd.hasDel && (sl.toList[4]?).join == some (.builtin "list.__new__") && !cd.mro.isEmpty && cd.mro.contains (.ref C) && cd.mro.contains (.type "list") &&
      specialIn K (.ref C) "__call__" == some (some (.builtin "type.__call__")) && instIn K (.ref C) (.type "type") == some true
  | _ => false
structure MakesL (M : Model) (h : Heap) (C : Addr) : Prop where
  obj : ∃ oc od cd sl, h.get? C = some ⟨oc, od, .cls cd, sl⟩ ∧ cd.abstract = false ∧ cd.hasDel = false ∧ cd.mro.isEmpty = false
  made : Looks M h (Bind.madeBy (.ref C)) (some "list.__new__")
  base : Looks M h (Bind.staticBase (.ref C)) (.ref C)
  self : Looks M h (isSubtype (.ref C) (.ref C)) true
  top : Looks M h (isSubtype (.ref C) (.type "list")) true
  call : Looks M h (specialOf (.ref C) "__call__") (some (.builtin "type.__call__"))
  typ : Looks M h (isInstance (.ref C) (.type "type")) true
theorem makesL_of {K : Frag} {M : Model} {h : Heap} (X : K.In h) {C : Addr} (e : makesL K C = true) : MakesL M h C := by
  unfold makesL at e
  split at e
  · rename_i oc od cd sl ho
    simp only [Bool.and_eq_true, Bool.not_eq_true', beq_iff_eq] at e
    obtain ⟨⟨⟨⟨⟨⟨⟨e1, e2⟩, e3⟩, e4⟩, e5⟩, e6⟩, e7⟩, e8⟩ := e
    have hc : clsIn K C = some cd := by unfold clsIn; rw [ho]
    have hm : Looks M h (mroOf (.ref C)) cd.mro := (looks_clsIn X hc).andThen .now
    obtain ⟨c, l, hl⟩ : ∃ c l, cd.mro = c :: l := by cases q : cd.mro with | nil => rw [q] at e4; cases e4 | cons c l => exact ⟨c, l, rfl⟩
    have made : Looks M h (Bind.madeBy (.ref C)) (some "list.__new__") := by
      intro A Q E s k q
      unfold Bind.madeBy
      refine wpAny_bind (hm A _ E s k ?_)
      rw [hl, List.forIn_cons]
      refine wpAny_bind (wpAny_bind (wpAny_bind (wpAny_bind (wpAny_loadPart (k _ _ (X _ _ ho)) (wpAny_pure ?_)))))
      dsimp only
      rw [← Array.getElem?_toList, e3]
      exact wpAny_pure (wpAny_pure (wpAny_pure q))
    refine ⟨⟨oc, od, cd, sl, X _ _ ho, e1, e2, e4⟩, made, ?_, looks_mroIn X ?_, looks_mroIn X ?_, looks_specialIn X e7, looks_instIn X e8⟩
    · intro A Q E s k q
      unfold Bind.staticBase
      refine wpAny_bind (hm A _ E s k ?_)
      rw [hl, List.forIn_cons]
      exact wpAny_bind (wpAny_bind (wpAny_bind (made A _ E s k (wpAny_pure (wpAny_pure (wpAny_pure q))))))
    · unfold mroIn; rw [hc, Option.bind_some, if_neg (by rw [e4]; decide), e5]
    · unfold mroIn; rw [hc, Option.bind_some, if_neg (by rw [e4]; decide), e6]
  · cases e

noncomputable abbrev listObj (C dx : Addr) : Obj := { cls := .ref C, dict := some dx, data := .seq #[] }

theorem ln_kind : builtinKind "list.__new__" = some .builtinFn := by decide +kernel
theorem ln_split : splitId "list.__new__" = some ("list", "__new__") := by decide +kernel
theorem ln_quiet : "list.__new__".startsWith "lifetime." = false := by decide +kernel
theorem ln_args (a : Value) (rest : List Value) : (match Manifest.signature? "list.__new__" with | some sig => Bind.checkArgs "list.__new__" sig ⟨a :: rest, []⟩ | none => pure ()) = pure () := by kernel_rfl
section
variable {prog : Program} {w : World} {A : Around} {C : Addr} {R : Result → Shared → Prop} {h : Heap} {g : Array GenState} {d : Drawn} {t : Nat} {os : OsState}
theorem ln_check {rest : List Value} {E : Value → Shared → Prop} {Q : Unit → Shared → Prop} (Y : MakesL (model prog w) h C) (hq : Q () ⟨h, g, d, t, os⟩) : wpAny (model prog w) A (checkBuiltinCall "list.__new__" ⟨.ref C :: rest, []⟩) Q E ⟨h, g, d, t, os⟩ := by
  obtain ⟨⟨oc, od, cd, sl, hC, e1, e2, e4⟩, made, base, self, top, call, typ⟩ := Y
  have args := ln_args (.ref C) rest
  simp only [checkBuiltinCall, ln_kind, ln_split]
  cases hs : Manifest.signature? "list.__new__" with
  | none => repeat (first | exact hq | simp only [bne_self_eq_false, Bool.false_eq_true, if_false] | lk)
  | some sig =>
    rw [hs] at args
    dsimp only at args ⊢
    rw [args]
    repeat (first | exact hq | simp only [bne_self_eq_false, Bool.false_eq_true, if_false] | lk)

theorem new_L {rest : List Value} (Y : MakesL (model prog w) h C)
    (hq : R (.ok (.ret (.ref (h.objs.size + 1)))) ⟨(h.push emptyDict).push (listObj C h.objs.size), g, d, t, os⟩) :
    codeAny (model prog w) A (.call (.builtin "list.__new__") ⟨.ref C :: rest, []⟩) R ⟨h, g, d, t, os⟩ := by
  have Y0 := Y
  obtain ⟨⟨oc, od, cd, sl, hC, e1, e2, e4⟩, made, base, self, top, call, typ⟩ := Y
  refine codeAny_of_tree ?_
  show wpAny _ A.in1 (do checkBuiltinCall "list.__new__" ⟨.ref C :: rest, []⟩; again (.builtin "list.__new__" ⟨.ref C :: rest, []⟩)) _ _ _
  refine wpAny_bind (ln_check Y0 (wpAny_pure ⟨plainId_quiet F.plain_list_new _, codeAny_builtin_stack F.entry_list_new rfl fun p st => ?_⟩))
  rw [Around.under_plainId F.plain_list_new _]
  have hown := owner_list_new
  simp only [hown]
  repeat (first | simp only [Bool.false_eq_true, if_false, Bool.not_true] | lk)
  refine nd_load (Heap.get?_push_of_some _ (Heap.get?_push_of_some _ hC)) (wpAny_pure (wpAny_pure ?_))
  rw [e2, if_neg (by decide)]
  refine wpAny_pure (wpAny_pure ?_)
  rw [Heap.size_push]
  exact hq

theorem make_L {rest : List Value} {init : Value} (Y : MakesL (model prog w) h C) (hi : Looks (model prog w) h (typeLookup (.ref C) "__init__") (some init))
    (hb : ∀ self, Looks (model prog w) h (bindSpecial init self) (init, [self]))
    (hq : codeAny (model prog w) (A.under (.builtin "type.__call__" ⟨.ref C :: rest, []⟩)) (.call init ⟨.ref (h.objs.size + 1) :: rest, []⟩) (InitBack (h.objs.size + 1) R) ⟨(h.push emptyDict).push (listObj C h.objs.size), g, d, t, os⟩) :
    codeAny (model prog w) A (.call (.ref C) ⟨rest, []⟩) R ⟨h, g, d, t, os⟩ := by
  have Y' := Y
  obtain ⟨⟨oc, od, cd, sl, hC, e1, e2, e4⟩, made, base, self, top, call, typ⟩ := Y
  refine codeAny_of_tree ?_
  show wpAny _ _ (callAny (.ref C) _) _ _ _
  refine nd_load hC ?_
  show wpAny _ _ (callAny.viaDunder (.ref C) _) _ _ _
  unfold callAny.viaDunder
  refine wpAny_bind (call.at ?_)
  dsimp only
  rw [tc_bind]
  refine wpAny_bind (wpAny_pure (wpAny_bind (wpAny_pure ?_)))
  refine wpAny_pure (a := Fin.again (.call (.builtin "type.__call__") ⟨.ref C :: rest, []⟩)) (And.intro rfl ?_)
  refine codeAny_call_builtin_at (Code.quiet_builtin _ (by decide +kernel)) entry_typeCall (check_slot tc_kind tc_split typ (tc_args _ _ _) ?_)
  unfold Builtin.«type.__call__»
  have hm : Looks (model prog w) h (mroOf (.ref C)) cd.mro := ((Looks.ld (part := none) hC).andThen .now).andThen .now
  repeat (first | simp only [e4, Bool.false_eq_true, if_false] | with_reducible refine wpAny_call ?_ | lk)
  refine new_L Y' ?_
  have k : ∀ b o, h.get? b = some o → ((h.push emptyDict).push (listObj C h.objs.size)).get? b = some o := fun b o e => Heap.get?_push_of_some _ (Heap.get?_push_of_some _ e)
  have hx : ((h.push emptyDict).push (listObj C h.objs.size)).get? (h.objs.size + 1) = some (listObj C h.objs.size) := by heap_get
  have t1 : Looks (model prog w) ((h.push emptyDict).push (listObj C h.objs.size)) (typeOf (.ref (h.objs.size + 1))) (.ref C) := (Looks.ld hx).andThen .now
  have s1 := self.keeps k
  have i1 := hi.keeps k
  have b1 := (hb (.ref (h.objs.size + 1))).keeps k
  unfold isInstance callSpecial? specialOf
  repeat (first | with_reducible refine wpAny_call ?_ | lk)
  refine codeAny_mono hq fun r s' z => ?_
  rcases r with e | (v | _ | _ | _) <;> first | exact z | exact z.elim | skip
  obtain ⟨rfl, z⟩ := z
  exact wpAny_pure (wpAny_pure z)
end
end Mine
end
section
open PySem PySem.W PyProof.Rows PySem.Calls
open PySem.Builtin.ObjectAttr PySem.Builtin
set_option Elab.async false
set_option maxRecDepth 100000
namespace Mine
theorem entry_list_init' : entryFor table "list.__init__" = some Builtin.«list.__init__» := entryFor_of_tree (by kernel_rfl)
theorem plain_list_init' : plainId "list.__init__" = true := by decide +kernel
section
variable {prog : Program} {w : World} {A : Around} {s : Shared} {env : Env} {K : Frag} {tp : Tp}

theorem call_msC {f : Addr} {n q : Str} {params : Arguments} {body : List Stmt} {scope : Scope} {cl : List (Str × Addr)} {dV cd : Value} {vals : List Value} {binds : List (Str × Value)} {Q : Value → Shared → Prop} (F : FnK K tp f n q params body scope cl dV cd) (dp : A.depth ≤ 900) (B : Bs tp s.heap) (X : K.In s.heap)
    (hbind : ∀ pm doc, BindsTo s (mdef n q params body scope cl dV pm cd doc) ⟨vals, []⟩ binds) (hcell : ∀ x ∈ scope.names, x.2 ≠ .cell) (hloc : ∀ x ∈ binds, scope.names.lookup x.1 = some .local) (hco : scope.isCoroutine = false) (hgen : scope.isGenerator = false) (hk : scope.kind = .function)
    (h : ∀ pm doc h₀, (∃ o, s.heap.get? f = some o ∧ o.data = .func (mdef n q params body scope cl dV pm cd doc)) → h₀.Ns s.heap.objs.size (fun x => binds.reverse.lookup x) → (∀ b o, s.heap.get? b = some o → h₀.get? b = some o) →
      PySem.wpAt (model prog w) (A.deeper (callEnv (mdef n q params body scope cl dV pm cd doc) s.heap.objs.size f)) (.func body (callEnv (mdef n q params body scope cl dV pm cd doc) s.heap.objs.size f)) (execs body (callEnv (mdef n q params body scope cl dV pm cd doc) s.heap.objs.size f))
        (fun fl s' => Q (match fl with | .ret v => v | _ => .none) s') (fun _ _ => False) { s with heap := h₀, toks := s.toks + binds.length }) :
    codeAny (model prog w) A (.call (.ref f) ⟨vals, []⟩) (Rf Q) s := by
  obtain ⟨_, o, pm, doc, h1, h2, h3⟩ := F
  have hr : recursionLimit = 1000 := rfl
  refine (ks_codeAny_call_defAt (by omega) (X _ _ h1) h2 B.lim (h3 _ B) rfl (hbind pm doc) hcell hloc (fun h₀ hn hk' => ?_) hco hgen hk)
  exact ks_wpAt_mono (h pm doc h₀ ⟨o, X _ _ h1, h2⟩ hn hk') (fun _ _ q => q) fun _ _ e => e.elim

theorem body_init {E : Value → Shared → Prop} {a : Addr} {o : Obj} {items : Array Value} {n : Nat} {Q : Fin → Shared → Prop} (ho : s.heap.get? a = some o) (hd : o.data = .seq items n) (hz : items = #[])
    (hq : Q (.done (.ret .none)) { s with heap := s.heap.update a (Obj.mapSeq fun _ => #[]) }) : wpAny (model prog w) A (Builtin.«list.__init__» ⟨[.ref a], []⟩) Q E s := by
  subst hz
  show wpAny _ _ (do let old ← Builtin.List.listItems (.ref a); Builtin.List.listUpdate (.ref a) (fun _ => #[]); letGo old.toList.reverse; ret .none) _ _ s
  refine wpAny_bind ?_
  unfold Builtin.List.listItems
  refine wpAny_bind (wpAny_seqItems ho hd (wpAny_pure ?_))
  show wpAny _ _ (updateSeq a (fun _ => #[]) >>= fun _ => letGo (#[] : Array Value).toList.reverse >>= fun _ => ret .none) _ _ s
  refine wpAny_bind (wpAny_updateSeq ho hd ?_)
  refine wpAny_bind (wpAny_letGo ?_)
  exact wpAny_pure hq

/-- `__init__` of the line's class, on the new object -/
theorem acc_init {CA x dx f cc cdr : Addr} {cdA : ClassData} {i : Int} {ti : Tok} {dV : Value} {de : Expr} {p1 p2 a1 a2 a3 a4 p0 pp1 b1 b2 c1 : Pos} {Q : Value → Shared → Prop} (KF : KA K tp CA) (SK : SupK prog K tp CA cc cdA) (KSx : KS K CA cdA) (hTp : TpOk tp) (Cf : CodeFile prog K cdr) (lt : (b1.endLine == c1.line) = true)
    (Fn : FnK K tp f "__init__" "_Accumulator.__init__" (psD [("self", p1), ("initial_size", p2)] de) [.Assign [.Attribute (.Name "self" a1) "_initial_size" a2] (.Name "initial_size" a3) a4,
      .Expr (.Call (.Attribute (.Call (.Name "super" p0) [] [] pp1) "__init__" b1) [] [] c1) b2] (scN [("self", .local), ("initial_size", .local), ("__class__", .free), ("super", .globalImplicit)]) [("__class__", cc)] dV (.ref cdr))
    (hbind : ∀ pm doc, BindsTo s (mdef "__init__" "_Accumulator.__init__" (psD [("self", p1), ("initial_size", p2)] de) [.Assign [.Attribute (.Name "self" a1) "_initial_size" a2] (.Name "initial_size" a3) a4,
      .Expr (.Call (.Attribute (.Call (.Name "super" p0) [] [] pp1) "__init__" b1) [] [] c1) b2] (scN [("self", .local), ("initial_size", .local), ("__class__", .free), ("super", .globalImplicit)]) [("__class__", cc)] dV pm (.ref cdr) doc) ⟨[.ref x, .int i ti], []⟩ [("self", .ref x), ("initial_size", .int i ti)])
    (dp : A.depth ≤ 900) (B : Bs tp s.heap) (I : Ins s.heap x CA dx (.seq #[]) #[] (fun _ => none) 0) (hH : tp.H.objs.size ≤ x) (hHd : tp.H.objs.size ≤ dx) (hne : x ≠ dx) (hnc : x ≠ CA)
    (hq : ∀ h' tk n t, (∀ b o, b ≠ x → b ≠ dx → s.heap.get? b = some o → h'.get? b = some o) → (Bs tp h') → Ins h' x CA dx (.seq #[] n) #[] (mAcc i t) 1 → Q .none { s with heap := h', toks := tk }) : codeAny (model prog w) A (.call (.ref f) ⟨[.ref x, .int i ti], []⟩) (Rf Q) s := by
  have X := KF.inK _ B
  refine call_msC Fn dp B X (binds := [("self", .ref x), ("initial_size", .int i ti)]) hbind (by decide) (loc2 rfl rfl) rfl rfl rfl fun pm doc h₀ hf hn hk => ?_
  obtain ⟨of, hf1, hf2⟩ := hf
  have B0 := B.keep hk
  have I0 := I.keep hk
  have X0 := KF.inK _ B0
  have bsB : ∀ {y : Addr} {h1 h2 : Heap}, tp.H.objs.size ≤ y → Bs tp h1 → Heap.SameBut y h1 h2 → Bs tp h2 := fun {y h1 h2} hy B1 sb => by
    have ne : ∀ b o, tp.H.get? b = some o → b ≠ y := fun b o e => Nat.ne_of_lt (Nat.lt_of_lt_of_le (Heap.lt_size e) hy)
    exact hTp.bs (fun b o e n => (sb.2 b (ne b o e)).trans (B1.base b o e n)) fun b o e => let ⟨o', e'⟩ := B1.there b o e; ⟨o', (sb.2 b (ne b o e)).trans e'⟩
  have fresh : ∀ b o, s.heap.get? b = some o → b ≠ s.heap.objs.size := fun b o e => Nat.ne_of_lt (Heap.lt_size e)
  refine ks_wpAt_execs_cons (PySem.wpAt_of_wpAny (plainObj_wpAny_Assign_Attribute (ldc rfl rfl hn (by rfl) (ldc rfl rfl hn (by rfl) ?_ (by decide)) (by decide)) rfl))
  refine ins_set (s := { s with heap := h₀, toks := s.toks + 2 }) X0 I0 KSx.cls KSx.hd KSx.ne KSx.ob KSx.sa (KSx.rf _) KF.noInit (by omega) fun h1 hn1 hsb1 => ?_
  have e1 : ((fun _ : Str => (none : Option Value)) (Str.ofString "_initial_size")).isSome = false := rfl
  rw [e1, if_neg (by decide)] at hn1
  have e2 : (fun y => if y = Str.ofString "_initial_size" then some (Value.int i ti) else none) = mAcc i ti := rfl
  rw [e2] at hn1
  have B1 := bsB hHd B0 hsb1
  have I1 : Ins h1 x CA dx (.seq #[]) #[] (mAcc i ti) 1 := ⟨(hsb1.2 _ hne).trans I0.at_, I0.no, hn1⟩
  have X1 := KF.inK _ B1
  have nl1 : h1.Ns s.heap.objs.size _ := hn.at' fun o e => (hsb1.2 _ (fun q => by
    obtain ⟨o', es, ep, e1, _⟩ := I.ns
    exact fresh dx o' e1 q.symm)).trans e
  refine ks_wpAt_execs_cons (ks_wpAt_Expr_any (wpAt_Call_G rfl lt (super_node SK Cf X1 B1 I1 ⟨of, (hsb1.2 _ (fun q => by
    obtain ⟨o', es, ep, e1, e2, _⟩ := I0.ns
    have e3 := hk _ _ hf1
    rw [q, e1] at e3
    cases e3
    rw [hf2] at e2
    cases e2)).trans (hk _ _ hf1), hf2⟩ rfl nl1 rfl (by decide) rfl rfl rfl rfl fun h2 e2 k2 pl => ?_)))
  have B2 := B1.keep k2
  have I2 := I1.keep k2
  have X2 := KF.inK _ B2
  have hC : Looks (model prog w) h2 (mroOf (.ref CA)) cdA.mro := (looks_clsIn X2 SK.cls).andThen .now
  have hi := ins_isInst (prog := prog) (w := w) (s := { s with heap := h2, toks := s.toks + 2 + 2 }) X2 I2 KF.islist
  refine getMethod_super_b (T := "wrapper_descriptor") (gid := "wrapper_descriptor.__get__") (bt := "method-wrapper") e2 (looks_opaque X2 SK.opq) hC rfl X2 SK.ainit ty_list_init slot_wd_get.lookup hnc (by decide) (fun hR => wd_bind (.inr rfl) hi hR) ?_
  have k3 : ∀ b o, h2.get? b = some o → (h2.push { cls := .type "method-wrapper", data := .fields #[.builtin "list.__init__", .ref x] }).get? b = some o := fun b o e => Heap.get?_push_of_some _ e
  have I3 := I2.keep k3
  have B3 := B2.keep k3
  refine callWith_b0 (.inr rfl) (Heap.get?_push_size _ rfl) ?_
  refine call_bd (Heap.get?_push_size _ rfl) (.inr rfl) (fun hR => wpAny_of_eq (ck_init _) hR) entry_list_init' plain_list_init' ?_
  refine body_init I3.at_ rfl rfl ⟨_, rfl, PySem.wpAt_of_wpAny (wpAny_execs_nil ?_)⟩
  obtain ⟨n5, e5⟩ := mapSeq_any (fun _ => #[]) (.ref CA) (some dx) #[] 0 #[]
  have g4 := Heap.get?_update_self (h := h2.push { cls := .type "method-wrapper", data := .fields #[.builtin "list.__init__", .ref x] }) (Obj.mapSeq fun _ => #[]) I3.at_ (by rw [e5]; rfl)
  rw [e5] at g4
  have sb4 : Heap.SameBut x (h2.push { cls := .type "method-wrapper", data := .fields #[.builtin "list.__init__", .ref x] }) ((h2.push { cls := .type "method-wrapper", data := .fields #[.builtin "list.__init__", .ref x] }).update x (Obj.mapSeq fun _ => #[])) := Heap.SameBut.update ..
  refine hq _ _ n5 ti (fun b o n1 n2 e => (sb4.2 b n1).trans (k3 b o (k2 b o ((hsb1.2 b n2).trans (hk b o e))))) (bsB hH B3 sb4) ⟨g4, rfl, ?_⟩
  obtain ⟨o, es, ep, f1, f2⟩ := I3.ns
  exact ⟨o, es, ep, (sb4.2 _ (Ne.symm hne)).trans f1, f2⟩
end
end Mine
end
section
open PySem PySem.W PyProof.Rows PySem.Calls
open PySem.Builtin.ObjectAttr PySem.Builtin
set_option Elab.async false
set_option maxRecDepth 100000
namespace Mine
section
variable {prog : Program} {w : World} {A : Around} {s : Shared} {env : Env} {K : Frag} {tp : Tp}

/-- what a call of the line's class gives, said once -/
noncomputable def AccMk (prog : Program) (w : World) (tp : Tp) (CA : Addr) : Prop :=
  ∀ (A : Around) (s : Shared) (i : Int) (ti : Tok) (Q : Value → Shared → Prop), A.depth ≤ 800 → Bs tp s.heap → tp.H.objs.size ≤ s.heap.objs.size →
    (∀ h' tk n t, (∀ b o, s.heap.get? b = some o → h'.get? b = some o) → Bs tp h' → Ins h' (s.heap.objs.size + 1) CA s.heap.objs.size (.seq #[] n) #[] (mAcc i t) 1 → Q (.ref (s.heap.objs.size + 1)) { s with heap := h', toks := tk }) →
    wpAny (model prog w) A (call (.ref CA) [.int i ti]) Q (fun _ _ => False) s

theorem acc_make {CA f cc cdr : Addr} {cdA : ClassData} {dV : Value} {de : Expr} {p1 p2 a1 a2 a3 a4 p0 pp1 b1 b2 c1 : Pos} (KF : KA K tp CA) (SK : SupK prog K tp CA cc cdA) (KSx : KS K CA cdA) (hTp : TpOk tp) (Cf : CodeFile prog K cdr) (lt : (b1.endLine == c1.line) = true) (hmk : makesL K CA = true) (hfi : findIn K (.ref CA) "__init__" = some (some (.ref f))) (hCA : CA < tp.H.objs.size)
    (Fn : FnK K tp f "__init__" "_Accumulator.__init__" (psD [("self", p1), ("initial_size", p2)] de) [.Assign [.Attribute (.Name "self" a1) "_initial_size" a2] (.Name "initial_size" a3) a4,
      .Expr (.Call (.Attribute (.Call (.Name "super" p0) [] [] pp1) "__init__" b1) [] [] c1) b2] (scN [("self", .local), ("initial_size", .local), ("__class__", .free), ("super", .globalImplicit)]) [("__class__", cc)] dV (.ref cdr))
    (hbind : ∀ (s : Shared), Bs tp s.heap → ∀ (x : Addr) (i : Int) (ti : Tok) pm doc, BindsTo s (mdef "__init__" "_Accumulator.__init__" (psD [("self", p1), ("initial_size", p2)] de) [.Assign [.Attribute (.Name "self" a1) "_initial_size" a2] (.Name "initial_size" a3) a4,
      .Expr (.Call (.Attribute (.Call (.Name "super" p0) [] [] pp1) "__init__" b1) [] [] c1) b2] (scN [("self", .local), ("initial_size", .local), ("__class__", .free), ("super", .globalImplicit)]) [("__class__", cc)] dV pm (.ref cdr) doc) ⟨[.ref x, .int i ti], []⟩ [("self", .ref x), ("initial_size", .int i ti)]) :
    AccMk prog w tp CA := by
  intro A s i ti Q dp B hsz hq
  obtain ⟨h, g, d, t, os⟩ := s
  have X := KF.inK _ B
  have k : ∀ b o, h.get? b = some o → ((h.push emptyDict).push (listObj CA h.objs.size)).get? b = some o := fun b o e => Heap.get?_push_of_some _ (Heap.get?_push_of_some _ e)
  have hx : ((h.push emptyDict).push (listObj CA h.objs.size)).get? (h.objs.size + 1) = some (listObj CA h.objs.size) := by heap_get
  have hd : ((h.push emptyDict).push (listObj CA h.objs.size)).get? h.objs.size = some emptyDict := by heap_get
  have I : Ins ((h.push emptyDict).push (listObj CA h.objs.size)) (h.objs.size + 1) CA h.objs.size (.seq #[]) #[] (fun _ => none) 0 := ⟨hx, rfl, _, #[], 0, hd, rfl, fun e he => by cases he; contradiction, fun _ => rfl, Nat.zero_le _⟩
  refine wpAny_call (make_L (makesL_of X hmk) (looks_findIn X hfi) (fun self => bind_fn X self Fn.1) (codeAny_mono (acc_init (s := ⟨(h.push emptyDict).push (listObj CA h.objs.size), g, d, t, os⟩) (Q := fun v s' => v = .none ∧ Q (.ref (h.objs.size + 1)) s') KF SK KSx hTp Cf lt Fn (hbind _ (B.keep k) _ _ _) (by show A.depth + 1 ≤ 900; omega) (B.keep k) I (Nat.le_succ_of_le hsz) hsz (Nat.succ_ne_self _) (fun q => ?_) fun h' tk n t' k' B' I' => ⟨rfl, ?_⟩) fun r s' q => ?_))
  · have : (h.objs.size + 1 : Nat) < tp.H.objs.size := Nat.lt_of_le_of_lt (Nat.le_of_eq q) hCA
    have hsz' : tp.H.objs.size ≤ h.objs.size := hsz
    omega
  · refine hq h' tk n t' (fun b o e => k' b o (Nat.ne_of_lt (Nat.lt_succ_of_lt (Heap.lt_size e))) (Nat.ne_of_lt (Heap.lt_size e)) (k b o e)) B' I'
  · rcases r with e | (v | _ | _ | _)
    all_goals first | exact q.elim | skip
    exact ⟨q.1, q.2⟩
end
end Mine
end
section
open PySem PySem.W PyProof.Rows PySem.Calls
open PySem.Builtin.ObjectAttr PySem.Builtin
set_option Elab.async false
set_option maxRecDepth 100000
namespace Mine
section
variable {prog : Program} {w : World} {A : Around} {s : Shared} {env : Env} {K : Frag} {tp : Tp}

structure KVs (K : Frag) (CV : Addr) (cdV : ClassData) : Prop where
  cls : clsIn K CV = some cdV
  hd : cdV.hasDict = true
  ne : cdV.mro.isEmpty = false
  ob : cdV.mro.contains (.type "object") = true
  sa : findIn K (.ref CV) "__setattr__" = some (some (.builtin "object.__setattr__"))
  rf : ∀ x : Addr, refuseLoop (.ref x) "__setattr__" cdV.mro = pure ()
  mak : makesIn K CV = true
  cws : findIn K (.ref CV) "_continuation_ws" = some none
  cwl : findIn K (.ref CV) "_continuation_ws_len" = some none

/-- the page being made -/
structure PMk (tp : Tp) (h0 h : Heap) (pg CV dp lo : Addr) (m : Str → Option Value) (b : Nat) (ml : Str → Option Value) : Prop where
  bs : Bs tp h
  keep : ∀ b o, h0.get? b = some o → h.get? b = some o
  ins : Ins h pg CV dp .plain #[] m b
  loc : h.Ns lo ml
theorem PMk.push {h0 h h' : Heap} {pg CV dp lo : Addr} {m ml : Str → Option Value} {b : Nat} (P : PMk tp h0 h pg CV dp lo m b ml) (k : ∀ b o, h.get? b = some o → h'.get? b = some o) : PMk tp h0 h' pg CV dp lo m b ml :=
  ⟨P.bs.keep k, fun b o e => k b o (P.keep b o e), P.ins.keep k, P.loc.keeps k⟩
theorem PMk.set {h0 : Heap} {pg CV dp lo : Addr} {cdV : ClassData} {m ml : Str → Option Value} {b : Nat} {name : Str} {v : Value} {Q : Unit → Shared → Prop} (KX : ∀ h, Bs tp h → K.In h) (V : KVs K CV cdV) (hTp : TpOk tp) (P : PMk tp h0 s.heap pg CV dp lo m b ml) (hn : findIn K (.ref CV) name = some none) (hm : m name = none) (hb : b ≤ 50) (hH : tp.H.objs.size ≤ dp) (h0d : h0.objs.size ≤ dp) (hdl : dp ≠ lo) (hpd : pg ≠ dp)
    (h : ∀ h' tk, PMk tp h0 h' pg CV dp lo (fun y => if y = name then some v else m y) (b + 1) ml → Heap.SameBut dp s.heap h' → Q () { s with heap := h', toks := tk }) : wpAny (model prog w) A (setAttr (.ref pg) name v) Q (fun _ _ => False) s := by
  refine ins_set (KX _ P.bs) P.ins V.cls V.hd V.ne V.ob V.sa (V.rf _) hn (by omega) fun h' hn' sb => ?_
  rw [hm] at hn'
  have ne : ∀ b o, tp.H.get? b = some o → b ≠ dp := fun b o e => Nat.ne_of_lt (Nat.lt_of_lt_of_le (Heap.lt_size e) hH)
  exact h h' _ ⟨hTp.bs (fun b o e n => (sb.2 b (ne b o e)).trans (P.bs.base b o e n)) (fun b o e => let ⟨o', e'⟩ := P.bs.there b o e; ⟨o', (sb.2 b (ne b o e)).trans e'⟩),
    fun b o e => (sb.2 b (Nat.ne_of_lt (Nat.lt_of_lt_of_le (Heap.lt_size e) h0d))).trans (P.keep b o e), ⟨(sb.2 _ hpd).trans P.ins.at_, P.ins.no, hn'⟩, P.loc.at' fun o e => (sb.2 _ (Ne.symm hdl)).trans e⟩ sb

set_option maxHeartbeats 2000000 in
/-- a call of the page's class -/
theorem page_make {CA CV fI c P c' P' : Addr} {cdV : ClassData} {cd : Value} {mx : Int} {t0 t1 t2 t3 : Tok} {p1 p2 p3 p4 p5 a1 a2 a3 a4 b1 b2 b3 b4 c1 c2 c3 c4 c5 c6 d1 d2 d3 d4 e1 e2 e3 e4 f1 f2 f3 f4 f5 f6 : Pos} {Q : Value → Shared → Prop} (KF : KA K tp CA) (V : KVs K CV cdV) (KVx : KV K CV) (hTp : TpOk tp) (AM : AccMk prog w tp CA) (hka : keepIn K (.ref CA) = true) (hma : tp.mg "_Accumulator" = some (.ref CA)) (hCA : CA < tp.H.objs.size)
    (hlen : tp.mg "len" = none ∧ tp.mb "len" = some (.builtin "len")) (hfi : findIn K (.ref CV) "__init__" = some (some (.ref fI)))
    (Fn : FnK K tp fI "__init__" "_ValueFormatter.__init__" (psL [("self", p1), ("headerlen", p2), ("maxlen", p3), ("continuation_ws", p4), ("splitchars", p5)]) [.Assign [.Attribute (.Name "self" a1) "_maxlen" a2] (.Name "maxlen" a3) a4, .Assign [.Attribute (.Name "self" b1) "_continuation_ws" b2] (.Name "continuation_ws" b3) b4,
      .Assign [.Attribute (.Name "self" c1) "_continuation_ws_len" c2] (.Call (.Name "len" c3) [.Name "continuation_ws" c4] [] c5) c6, .Assign [.Attribute (.Name "self" d1) "_splitchars" d2] (.Name "splitchars" d3) d4, .Assign [.Attribute (.Name "self" e1) "_lines" e2] (.List [] e3) e4,
      .Assign [.Attribute (.Name "self" f1) "_current_line" f2] (.Call (.Name "_Accumulator" f3) [.Name "headerlen" f4] [] f5) f6]
      (scN [("self", .local), ("headerlen", .local), ("maxlen", .local), ("continuation_ws", .local), ("splitchars", .local), ("len", .globalImplicit), ("_Accumulator", .globalImplicit)]) [] .none cd)
    (dp : A.depth ≤ 700) (B : Bs tp s.heap) (hsz : tp.H.objs.size ≤ s.heap.objs.size) (Kc : KCode s.heap c P) (Kc' : KCode s.heap c' P')
    (hq : ∀ s' pg dp ll ac da, Keeps s s' → (∀ b ∈ [pg, dp, ll, ac, da], s.heap.get? b = none) → pg ≠ ll → dp ≠ ll → PgS K tp CA CV [ac, da, P, P'] c P c' P' pg dp ll ac da s' [] [] mx → Q (.ref pg) s') :
    wpAny (model prog w) A (call (.ref CV) [.int 0 t0, .int mx t1, .str " " t2, .str " " t3]) Q (fun _ _ => False) s := by
  obtain ⟨h, g, d, t, os⟩ := s
  have X := KF.inK _ B
  have k : ∀ b o, h.get? b = some o → ((h.push emptyDict).push (instObj CV h.objs.size)).get? b = some o := fun b o e => Heap.get?_push_of_some _ (Heap.get?_push_of_some _ e)
  have hx : ((h.push emptyDict).push (instObj CV h.objs.size)).get? (h.objs.size + 1) = some (instObj CV h.objs.size) := by heap_get
  have hd : ((h.push emptyDict).push (instObj CV h.objs.size)).get? h.objs.size = some emptyDict := by heap_get
  have I : Ins ((h.push emptyDict).push (instObj CV h.objs.size)) (h.objs.size + 1) CV h.objs.size .plain #[] (fun _ => none) 0 := ⟨hx, rfl, _, #[], 0, hd, rfl, fun e he => by cases he; contradiction, fun _ => rfl, Nat.zero_le _⟩
  have hsz0 : tp.H.objs.size ≤ h.objs.size := hsz
  refine wpAny_call (make_core (makes_of X V.mak) (looks_findIn X hfi) (fun self => bind_fn X self Fn.1) (.inl rfl) ?_)
  generalize hh1 : (h.push emptyDict).push (instObj CV h.objs.size) = h1 at *
  have lt1 : h.objs.size + 2 ≤ h1.objs.size := by rw [← hh1, Heap.size_push, Heap.size_push]; exact Nat.le_refl _
  refine codeAny_mono (call_mC (s := ⟨h1, g, d, t, os⟩) (binds := [("self", .ref (h.objs.size + 1)), ("headerlen", .int 0 t0), ("maxlen", .int mx t1), ("continuation_ws", .str " " t2), ("splitchars", .str " " t3)]) (Q := fun v s' => v = .none ∧ Q (.ref (h.objs.size + 1)) s') Fn ?_ (B.keep k) (KF.inK _ (B.keep k)) (fun _ _ => BindsTo.of_eq rfl) (by decide) ?_ rfl rfl rfl fun pm doc h₀ _ hn hk => ?_) fun r s' q => ?_
  · show A.depth + 1 ≤ 900
    omega
  · exact List.forall_mem_cons.mpr ⟨rfl, List.forall_mem_cons.mpr ⟨rfl, loc3 rfl rfl rfl⟩⟩
  · have hdl : h.objs.size ≠ h1.objs.size := Nat.ne_of_lt (by omega)
    have hpd : h.objs.size + 1 ≠ h.objs.size := Nat.succ_ne_self _
    dsimp only
    have M0 : PMk tp h h₀ (h.objs.size + 1) CV h.objs.size h1.objs.size (fun _ => none) 0 _ := ⟨(B.keep k).keep hk, fun b o e => hk b o (k b o e), I.keep hk, hn⟩
    refine wpAny_execs_cons (plainObj_wpAny_Assign_Attribute (ldc rfl rfl M0.loc (by rfl) (ldc rfl rfl M0.loc (by rfl) (M0.set KF.inK V hTp KVx.max rfl (by omega) hsz (Nat.le_refl _) hdl hpd fun h2 tk2 M2 _ => ?_) (by decide)) (by decide)) rfl)
    refine wpAny_execs_cons (plainObj_wpAny_Assign_Attribute (ldc rfl rfl M2.loc (by rfl) (ldc rfl rfl M2.loc (by rfl) (M2.set KF.inK V hTp V.cws (by rfl) (by omega) hsz (Nat.le_refl _) hdl hpd fun h3 tk3 M3 _ => ?_) (by decide)) (by decide)) rfl)
    refine wpAny_execs_cons (plainObj_wpAny_Assign_Attribute (wpAny_Call_NameR (name_builtin (tp := tp) ⟨rfl, rfl, rfl⟩ M3.bs rfl hlen.1 hlen.2 (by decide) (PySem.callWith_builtin1 (ldc rfl rfl M3.loc (by rfl) (PySem.P.len_str (by decide) (ldc rfl rfl M3.loc (by rfl) (M3.set KF.inK V hTp V.cwl (by rfl) (by omega) hsz (Nat.le_refl _) hdl hpd fun h4 tk4 M4 _ => ?_) (by decide))) (by decide))))) rfl)
    refine wpAny_execs_cons (plainObj_wpAny_Assign_Attribute (ldc rfl rfl M4.loc (by rfl) (ldc rfl rfl M4.loc (by rfl) (M4.set KF.inK V hTp KVx.spl (by rfl) (by omega) hsz (Nat.le_refl _) hdl hpd fun h5 tk5 M5 _ => ?_) (by decide)) (by decide)) rfl)
    refine wpAny_execs_cons (plainObj_wpAny_Assign_Attribute (wpAny_List (wpAny_items_nil ⟨Nat.zero_le _, ?_⟩)) rfl)
    have kl : ∀ b o, h5.get? b = some o → (h5.push { cls := .type "list", data := .seq #[] }).get? b = some o := fun b o e => Heap.get?_push_of_some _ e
    have M5' := M5.push kl
    refine ldc rfl rfl M5'.loc (by rfl) (M5'.set KF.inK V hTp KVx.lin (by rfl) (by omega) hsz (Nat.le_refl _) hdl hpd fun h6 tk6 M6 sb6 => ?_) (by decide)
    have hll : h6.get? h5.objs.size = some { cls := .type "list", data := .seq (List.toArray ([] : List Value)) } := (sb6.2 _ (fun q => by
      obtain ⟨o, es, ep, e1, _⟩ := M5.ins.ns
      have := Heap.lt_size e1
      rw [← q] at this
      exact Nat.lt_irrefl _ this)).trans (Heap.get?_push_size _ rfl)
    refine wpAny_execs_cons (plainObj_wpAny_Assign_Attribute (wpAny_Call_NameR (name_global (tp := tp) ⟨rfl, rfl, rfl⟩ M6.bs rfl hma (by decide) (callWith_K (K := K) (h₀ := h6) (KF.inK _ M6.bs) hka (wpAny_items_cons (ldc rfl rfl M6.loc (by rfl) (wpAny_items_nil ⟨KF.inK _ M6.bs, ?_⟩) (by decide)))))) rfl)
    have sz5 : h.objs.size + 2 ≤ h5.objs.size := by
      obtain ⟨o, es, ep, e1, _⟩ := M5.loc
      exact Nat.le_trans lt1 (Nat.le_of_lt (Heap.lt_size e1))
    have sz6 : h5.objs.size < h6.objs.size := Heap.lt_size hll
    have H5 : tp.H.objs.size ≤ h5.objs.size := Nat.le_trans hsz0 (Nat.le_trans (Nat.le_add_right _ 2) sz5)
    have H6 : tp.H.objs.size ≤ h6.objs.size := Nat.le_trans H5 (Nat.le_of_lt sz6)
    refine AM _ _ 0 t0 _ ?_ M6.bs H6 fun h7 tk7 n7 t7 k7 B7 I7 => ?_
    · show A.depth + 1 + 1 ≤ 800
      omega
    have M7 := M6.push k7
    have dpl : h.objs.size < h6.objs.size := Nat.lt_trans (Nat.lt_of_lt_of_le (Nat.lt_add_of_pos_right (by decide)) sz5) sz6
    refine ldc rfl rfl M7.loc (by rfl) (M7.set KF.inK V hTp KVx.cur (by rfl) (by omega) hsz (Nat.le_refl _) hdl hpd fun h8 tk8 M8 sb8 => wpAny_execs_nil ⟨rfl, ?_⟩) (by decide)
    have n1 : h5.objs.size ≠ h.objs.size := fun q => absurd (Nat.lt_of_lt_of_le (Nat.lt_add_of_pos_right (k := 2) (by decide)) sz5) (by rw [q]; exact Nat.lt_irrefl _)
    have n2 : h5.objs.size ≠ h.objs.size + 1 := fun q => absurd (Nat.lt_of_lt_of_le (Nat.lt_succ_self (h.objs.size + 1)) sz5) (by rw [q]; exact Nat.lt_irrefl _)
    have n3 : h6.objs.size ≠ h.objs.size := Nat.ne_of_gt dpl
    have n4 : h6.objs.size + 1 ≠ h.objs.size := Nat.ne_of_gt (Nat.lt_succ_of_lt dpl)
    have n5 : h6.objs.size ≠ h.objs.size + 1 := Nat.ne_of_gt (Nat.lt_of_le_of_lt (Nat.le_trans (Nat.le_succ _) sz5) sz6)
    have n6 : h6.objs.size + 1 ≠ h.objs.size + 1 := fun q => n3 (Nat.succ.inj q)
    have Pl : P < h.objs.size := by obtain ⟨_, vs, e⟩ := Kc.at; exact Heap.lt_size e
    have Pl' : P' < h.objs.size := by obtain ⟨_, vs, e⟩ := Kc'.at; exact Heap.lt_size e
    have keep8 : ∀ b o, h.get? b = some o → h8.get? b = some o := M8.keep
    have acI : Ins h8 (h6.objs.size + 1) CA h6.objs.size (.seq (List.toArray []) n7) #[] (mAcc 0 t7) 1 := by
      refine ⟨(sb8.2 _ n4).trans I7.at_, I7.no, ?_⟩
      obtain ⟨o, es, ep, e1, r⟩ := I7.ns
      exact ⟨o, es, ep, (sb8.2 _ n3).trans e1, r⟩
    have ll8 : h8.get? h5.objs.size = some { cls := .type "list", data := .seq (List.toArray ([] : List Value)) } := (sb8.2 _ n1).trans (k7 _ _ hll)
    refine hq _ (h.objs.size + 1) h.objs.size h5.objs.size (h6.objs.size + 1) h6.objs.size ⟨h8, _, rfl, keep8⟩ ?_ (Ne.symm n2) (Ne.symm n1) ?_
    · intro b hb
      have s5 : h.objs.size ≤ h5.objs.size := Nat.le_trans (Nat.le_add_right _ 2) sz5
      have s6 : h.objs.size ≤ h6.objs.size := Nat.le_of_lt dpl
      refine getNone ?_
      show h.objs.size ≤ b
      rcases List.mem_cons.mp hb with rfl | hb
      · exact Nat.le_succ _
      rcases List.mem_cons.mp hb with rfl | hb
      · exact Nat.le_refl _
      rcases List.mem_cons.mp hb with rfl | hb
      · exact s5
      rcases List.mem_cons.mp hb with rfl | hb
      · exact Nat.le_succ_of_le s6
      rcases List.mem_cons.mp hb with rfl | hb
      · exact s6
      · cases hb
    · have out : ∀ y : Addr, y ≠ h6.objs.size + 1 → y ≠ h6.objs.size → y ≠ P → y ≠ P' → y ∉ [h6.objs.size + 1, h6.objs.size, P, P'] := fun y a b c d hm => by
        rcases List.mem_cons.mp hm with q | hm
        · exact a q
        rcases List.mem_cons.mp hm with q | hm
        · exact b q
        rcases List.mem_cons.mp hm with q | hm
        · exact c q
        rcases List.mem_cons.mp hm with q | hm
        · exact d q
        · cases hm
      have oldP : ∀ y, h.objs.size ≤ y → y ≠ P ∧ y ≠ P' := fun y hy => ⟨Nat.ne_of_gt (Nat.lt_of_lt_of_le Pl hy), Nat.ne_of_gt (Nat.lt_of_lt_of_le Pl' hy)⟩
      have s5 : h.objs.size ≤ h5.objs.size := Nat.le_trans (Nat.le_add_right _ 2) sz5
      have s6 : h.objs.size ≤ h6.objs.size := Nat.le_of_lt dpl
      refine ⟨⟨M8.bs, ⟨⟨#[], [], n7, t7, 1, acI, by decide, .nil⟩, .head _, .tail _ (.head _), Nat.succ_ne_self _⟩, Kc.via (fun o e => keep8 _ _ e) (fun o e => keep8 _ _ e), Kc'.via (fun o e => keep8 _ _ e) (fun o e => keep8 _ _ e), ⟨h.objs.size, hsz0, _, (M8.ins.ns).choose_spec.choose_spec.choose_spec.1⟩, ?_, ?_⟩,
        ⟨#[], _, _, M8.ins, if_pos rfl, by rfl, ⟨t1, by rfl⟩, ⟨t3, by rfl⟩, by rfl, by rfl, by rfl⟩, ⟨[], 0, ll8, .nil⟩, ?_, ?_, ?_, Heap.get?_none_of_le H5, Heap.get?_none_of_le (Nat.le_succ_of_le H6), Heap.get?_none_of_le H6, ?_, ?_⟩
      · exact Nat.ne_of_lt (Nat.lt_of_lt_of_le Pl (Nat.le_succ_of_le s6))
      · exact Nat.ne_of_lt (Nat.lt_of_lt_of_le Pl' (Nat.le_succ_of_le s6))
      · exact out _ (Ne.symm n6) (Ne.symm n5) (oldP _ (Nat.le_succ _)).1 (oldP _ (Nat.le_succ _)).2
      · exact out _ (Ne.symm n4) (Ne.symm n3) (oldP _ (Nat.le_refl _)).1 (oldP _ (Nat.le_refl _)).2
      · exact out _ (Nat.ne_of_lt (Nat.lt_succ_of_lt sz6)) (Nat.ne_of_lt sz6) (oldP _ s5).1 (oldP _ s5).2
      · exact Nat.ne_of_gt (Nat.lt_of_lt_of_le hCA (Nat.le_succ_of_le H6))
      · intro b hb
        rcases List.mem_cons.mp hb with rfl | hb
        · exact ⟨_, acI.at_⟩
        rcases List.mem_cons.mp hb with rfl | hb
        · exact ⟨_, (acI.ns).choose_spec.choose_spec.choose_spec.1⟩
        rcases List.mem_cons.mp hb with rfl | hb
        · obtain ⟨_, vs, e⟩ := Kc.at; exact ⟨_, keep8 _ _ e⟩
        rcases List.mem_cons.mp hb with rfl | hb
        · obtain ⟨_, vs, e⟩ := Kc'.at; exact ⟨_, keep8 _ _ e⟩
        · cases hb
  · rcases r with e | (v | _ | _ | _)
    all_goals first | exact q.elim | skip
    exact ⟨q.1, q.2⟩
end
end Mine
end
section
open PySem PySem.W PyProof.Rows PySem.Calls
set_option Elab.async false
set_option maxRecDepth 100000
namespace Mine

/-- what stands below the call of the law -/
structure Top0 (P : Params) (tp : Tp) : Prop where
  tb : tp.tb = [174, 181]
  kin : (Kx P).In tp.H
  g : tp.H.Ns mainGlobals tp.mg
  b : tp.H.Ns builtinsNs tp.mb
  lim : tp.H.NoLimit
  mb : ∀ x : Str, x ≠ "__name__" → tp.mb x = bootBuiltins x
  t1 : tp.H.get? 174 = some { cls := .none, data := .fields #[] }
  t2 : tp.H.get? 181 = some { cls := .none, data := .fields #[] }
  sz : 271 ≤ tp.H.objs.size

theorem kx_lt (P : Params) : ∀ a o, (Kx P).lookup a = some o → (decide (a = 174) || decide (a = 181)) = false := by
  intro a o e
  by_cases h : a = 174
  · subst h; rw [show (Kx P).lookup 174 = none by kernel_rfl] at e; cases e
  · by_cases h' : a = 181
    · subst h'; rw [show (Kx P).lookup 181 = none by kernel_rfl] at e; cases e
    · simp [h, h']

section
variable {P : Params} {tp : Tp}
theorem Top0.inK (T : Top0 P tp) (h : Heap) (B : Bs tp h) : (Kx P).In h := fun a o e => B.base a o (T.kin a o e) (by
  rw [T.tb]
  have := kx_lt P a o e
  simp only [Bool.or_eq_false_iff, decide_eq_false_iff_not] at this
  simp [this.1, this.2])
theorem Top0.mgS (T : Top0 P tp) {n : Str} {v : Value} (e : nsIn (Kx P) mainGlobals n = some (some v)) : tp.mg n = some v := mg_of T.kin T.g e
theorem Top0.mgN (T : Top0 P tp) {n : Str} (e : nsIn (Kx P) mainGlobals n = some none) : tp.mg n = none := mg_none_of T.kin T.g e
theorem Top0.bi (T : Top0 P tp) {n : Str} {v : Value} (e : nsIn (Kx P) mainGlobals n = some none) (e2 : bootBuiltins n = some v) (ne : (n == ("__name__" : Str)) = false) : tp.mg n = none ∧ tp.mb n = some v := ⟨T.mgN e, (T.mb n (by intro h; subst h; simp at ne)).trans e2⟩
theorem Top0.crec (T : Top0 P tp) {c : Addr} {q : Str} {o : Obj} {vs : Array Value} {t : Tok} (e1 : (Kx P).lookup c = some o) (e2 : o.data = .fields vs) (e3 : vs[1]? = some (.str q t)) (h : Heap) (B : Bs tp h) : h.CodeRec (.ref c) q := ⟨c, o, vs, t, rfl, T.inK h B _ _ e1, e2, e3⟩

theorem mkFn (T : Top0 P tp) {f c : Addr} {s : Stmt} {n q : Str} {pm dV ct : Value} {cl : List (Str × Addr)} {n0 : Str} {params : Arguments} {body : List Stmt} {ds : List Expr} {ret : Option Expr} {tps : List TypeParam} {scope : Scope} {ts : Option Scope} {bd : Str} {pos : Pos} {oc : Obj} {vs : Array Value} {t : Tok}
    (h1 : (Kx P).lookup f = some ⟨.type "function", none, .func (fD s n q pm (.ref c) dV ct cl), List.toArray []⟩) (h2 : (Kx P).lookup c = some oc) (h3 : oc.data = .fields vs) (h4 : vs[1]? = some (.str q t))
    (h5 : s = .FunctionDef n0 params body ds ret tps scope ts bd pos) : FnK (Kx P) tp f n q params body scope cl dV (.ref c) := by
  refine ⟨by show (List.lookup f (Kx P)).map (·.cls) = _; rw [h1]; rfl, _, (pm, ct), .none, h1, ?_, fun h B => T.crec h2 h3 h4 h B⟩
  subst h5
  rfl

noncomputable def cdA : ClassData := { name := "_Accumulator", bases := [.type "list"], mro := [.ref 212, .type "list", .type "object"], ns := 211, qualname := "_Accumulator", hasDict := true }
noncomputable def cdV : ClassData := { name := "_ValueFormatter", bases := [.type "object"], mro := [.ref 128, .type "object"], ns := 127, qualname := "_ValueFormatter", hasDict := true }

theorem Top0.ok (T : Top0 P tp) : TpOk tp where
  g := T.g
  b := T.b
  lim := T.lim
  nb := by
    refine ⟨_, ⟨_, _, _, T.kin 2 _ rfl, rfl, fun e he => ?_, fun _ => rfl⟩, ?_⟩
    · simp only [List.mem_toArray, List.mem_cons, List.not_mem_nil, or_false] at he
      rcases he with rfl | rfl | rfl | rfl | rfl | rfl | rfl | rfl | rfl <;> exact ⟨_, _, rfl⟩
    · kernel_rfl
  t1 := by rw [T.tb]; decide
  t2 := by rw [T.tb]; decide
  t3 := by rw [T.tb]; decide

theorem refuse_list (self : Value) (l : List Value) : refuseLoop self "__setattr__" (.type "list" :: l) = refuseLoop self "__setattr__" l := by
  have e : classOwn (.type "list") "__setattr__" = pure none := by show pure (builtinOwn "list" "__setattr__") = _; rw [builtinOwn_eq_fast]; kernel_rfl
  unfold refuseLoop
  simp only [List.forIn_cons]
  rw [if_neg (by decide), if_neg (by decide), e]
  rfl
theorem refuse_acc (x : Addr) : refuseLoop (.ref x) "__setattr__" cdA.mro = pure () := by
  show refuseLoop (.ref x) "__setattr__" [.ref 212, .type "list", .type "object"] = pure ()
  rw [refuseLoop_ref, refuse_list]
  exact PySem.F.store_object.passes _

theorem k_A (T : Top0 P tp) : KA (Kx P) tp 212 where
  inK := T.inK
  pg := ⟨by kernel_rfl, .inr ⟨by kernel_rfl, by kernel_rfl⟩⟩
  hd := by kernel_rfl
  islist := by kernel_rfl
  append := by kernel_rfl
  iter := by kernel_rfl
  noInit := by kernel_rfl
  bm := ⟨4, ⟨.type "module", some builtinsNs, .plain, List.toArray []⟩, T.mgS (by kernel_rfl), by decide, by kernel_rfl, rfl, rfl, rfl⟩
theorem k_M : KM (Kx P) 212 156 164 172 179 186 194 201 209 where
  push := by kernel_rfl
  popF := by kernel_rfl
  pop := by kernel_rfl
  len := by kernel_rfl
  str := by kernel_rfl
  reset := by kernel_rfl
  only := by kernel_rfl
  count := by kernel_rfl
theorem k_Sup (T : Top0 P tp) : SupK pw (Kx P) tp 212 136 cdA where
  cell := ⟨⟨.type "cell", none, .cell (some (.ref 212)), List.toArray []⟩, by kernel_rfl, rfl⟩
  cls := by kernel_rfl
  sub := by kernel_rfl
  mg := (T.bi (n := "super") (v := .type "super") (by kernel_rfl) (by kernel_rfl) (by decide)).1
  mb := (T.bi (n := "super") (v := .type "super") (by kernel_rfl) (by kernel_rfl) (by decide)).2
  opq := by kernel_rfl
  top := by kernel_rfl
  alen := by kernel_rfl
  apop := by kernel_rfl
  ainit := by kernel_rfl
theorem k_Sup2 : SupK2 (Kx P) 212 cdA where
  mod := by kernel_rfl
  ty := by kernel_rfl
  qn := by kernel_rfl
theorem k_S : KS (Kx P) 212 cdA where
  cls := by kernel_rfl
  hd := by kernel_rfl
  ne := by kernel_rfl
  ob := by kernel_rfl
  sa := by kernel_rfl
  rf := fun x => refuse_acc x
  si := by kernel_rfl
  gi := by kernel_rfl
  nq := by kernel_rfl
theorem k_V : KV (Kx P) 128 where
  pg := ⟨by kernel_rfl, .inl (by kernel_rfl)⟩
  hd := by kernel_rfl
  cur := by kernel_rfl
  lin := by kernel_rfl
  max := by kernel_rfl
  spl := by kernel_rfl
theorem k_Vs : KVs (Kx P) 128 cdV where
  cls := by kernel_rfl
  hd := by kernel_rfl
  ne := by kernel_rfl
  ob := by kernel_rfl
  sa := by kernel_rfl
  rf := fun x => refuse_only _ (by kernel_rfl)
  mak := by kernel_rfl
  cws := by kernel_rfl
  cwl := by kernel_rfl
end
end Mine
end
section
open PySem PySem.W PyProof.Rows PySem.Calls
set_option Elab.async false
set_option maxRecDepth 100000
namespace Mine
section
variable {P : Params} {tp : Tp} {w : World} {ac da : Addr}
theorem pg_C (T : Top0 P tp) (ha : tp.H.get? ac = none) (hd : tp.H.get? da = none) : PgC tp [ac, da, 174, 181] 178 174 185 181 where
  ok := T.ok
  tab := ⟨178, #[], ⟨_, _, T.kin 178 _ rfl, rfl, rfl, rfl⟩, T.t1⟩
  tab' := ⟨185, #[], ⟨_, _, T.kin 185 _ rfl, rfl, rfl, rfl⟩, T.t2⟩
  ns := by decide
  ns' := by decide
  inL := by simp
  inL' := by simp
  inT := by rw [T.tb]; decide
  inT' := by rw [T.tb]; decide
  ne := by decide
  len := T.bi (by kernel_rfl) (by kernel_rfl) (by decide)
  sum := T.bi (by kernel_rfl) (by kernel_rfl) (by decide)
  str := T.bi (by kernel_rfl) (by kernel_rfl) (by decide)
  range := T.bi (by kernel_rfl) (by kernel_rfl) (by decide)
  emp := ⟨362, T.mgS (by kernel_rfl)⟩
  acc := fun {x} hx n1 n2 => by
    simp only [List.mem_cons, List.not_mem_nil, or_false] at hx
    rcases hx with rfl | rfl | rfl | rfl
    · exact ha
    · exact hd
    · exact (n1 rfl).elim
    · exact (n2 rfl).elim

theorem line_d (T : Top0 P tp) (ha : tp.H.get? ac = none) (hd : tp.H.get? da = none) : LineD pw w (Kx P) tp 212 179 186 [ac, da, 174, 181] 178 174 185 181 where
  fl := by kernel_rfl
  tl := by kernel_rfl
  fs := by kernel_rfl
  ts := by kernel_rfl
  nb := by kernel_rfl
  len := fun A s ac da cs Q hA dp S hcs h1 hq => len_ok (k_A T) (pg_C T ha hd) (mkFn T (f := 179) (c := 178) (s := sC 11 4) rfl rfl rfl rfl rfl) hA dp S hcs h1 hq
  str := fun A s ac da cs Q hA dp S hcs h1 h2 hq => pstr_ok (k_A T) (pg_C T ha hd).swap rfl rfl (mkFn T (f := 186) (c := 185) (s := sC 11 5) rfl rfl rfl rfl rfl) hA dp S.swap hcs h1 h2 fun s' t C S' => hq s' t C S'.swap
end
end Mine
end
section
open PySem PySem.W PyProof.Rows PySem.Calls
set_option Elab.async false
set_option maxRecDepth 100000
namespace Mine
section
variable {P : Params} {tp : Tp} {w : World} {ac da : Addr}
theorem cfile (c : Addr) {o : Obj} {vs : Array Value} {tf : Tok} (h : (Kx P).lookup c = some o) (hd : o.data = .fields vs) (hv : vs[2]? = some (.str "/claim/cut.py" tf)) : CodeFile pw (Kx P) c := ⟨o, vs, _, tf, h, hd, hv, by kernel_rfl⟩
theorem mF {C f : Addr} {name : Str} (h1 : findIn (Kx P) (.ref C) name = some (some (.ref f))) (h2 : typeIn (Kx P) (.ref f) = some (.type "function")) (h3 : keepIn (Kx P) (.ref f) = true) : MethF (Kx P) C name f := ⟨h1, h2, h3⟩

theorem line_o (T : Top0 P tp) (ha : tp.H.get? ac = none) (hd : tp.H.get? da = none) : LineO pw w (Kx P) tp 212 179 186 156 164 172 194 201 209 [ac, da, 174, 181] 178 174 185 181 where
  d := line_d T ha hd
  mPush := mF (by kernel_rfl) (by kernel_rfl) (by kernel_rfl)
  mPopF := mF (by kernel_rfl) (by kernel_rfl) (by kernel_rfl)
  mPop := mF (by kernel_rfl) (by kernel_rfl) (by kernel_rfl)
  mReset := mF (by kernel_rfl) (by kernel_rfl) (by kernel_rfl)
  mOnly := mF (by kernel_rfl) (by kernel_rfl) (by kernel_rfl)
  mCount := mF (by kernel_rfl) (by kernel_rfl) (by kernel_rfl)
  push := fun A s ac' da' cs x t u Q hA dp un hac hda S hcs hL hq => push_okC (k_A T) rfl (mkFn T (f := 156) (c := 155) (s := sC 11 1) rfl rfl rfl rfl rfl) hA (by omega) S.bs S.acc hL (by omega) fun s1 h' k sb A' => by
    obtain ⟨h1, tk, rfl, kk⟩ := k
    have S1 := S.keep (tk := tk) kk
    obtain ⟨sl, ps, n, ti, b, I, hb, PR⟩ := S1.acc.ex
    obtain ⟨sl', ps', n', ti', b', I', hb', PR'⟩ := A'.ex
    exact hq _ ((Cg.keeps ⟨h1, tk, rfl, kk⟩).trans (Cg.but (tk := tk) S.acc.la hac I'.at_ sb)) (St.but (tk := tk) T.ok S1 hac I.at_ (fun q => by cases q) (fun q => by cases q) I'.at_ sb A')
  pop := fun A s ac' da' cs x Q hA dp un hac hda hne S hcs hq => pop_ok (r2 := ⟨0, 0, 0, 0⟩) (k_A T) k_M (k_Sup T) k_Sup2 (cfile 171 rfl rfl rfl) (cfile 208 rfl rfl rfl) rfl rfl rfl (mkFn T (f := 209) (c := 208) (s := sC 11 8) rfl rfl rfl rfl rfl) (mkFn T (f := 172) (c := 171) (s := sC 11 3) rfl rfl rfl rfl rfl) hA (by omega) S T.ok hac (by omega) hne hq
  reset0 := fun A s ac' da' cs Q hA dp un hac hda S hcs hq => reset_ok (k_A T) k_S T.ok hac hda (mkFn T (f := 194) (c := 193) (s := sC 11 6) rfl rfl rfl rfl rfl) (fun pm doc => BindsTo.of_defaults (T := 187) rfl (T.inK _ S.bs 187 _ rfl) rfl rfl rfl) (by omega) S (by omega) (Nat.zero_le _) (.inl ⟨rfl, rfl⟩) hq
  reset1 := fun A s ac' da' l new n2 cs ds Q hA dp un hac hda S hcs hds hl hp hq => reset_ok (k_A T) k_S T.ok hac hda (mkFn T (f := 194) (c := 193) (s := sC 11 6) rfl rfl rfl rfl rfl) (fun pm doc => BindsTo.of_defaults (T := 187) rfl (T.inK _ S.bs 187 _ rfl) rfl rfl rfl) (by omega) S (by omega) (by omega) (.inr ⟨l, new, n2, rfl, hl, hp⟩) hq
  popF := fun A s ac' da' cs n tn Q hA dp un hac hda S hcs hn hq => popfrom_ok (tn := tn) (k_A T) k_S T.ok hac (mkFn T (f := 164) (c := 163) (s := sC 11 2) rfl rfl rfl rfl rfl) (fun pm doc => BindsTo.of_defaults (T := 157) rfl (T.inK _ S.bs 157 _ rfl) rfl rfl rfl) (by omega) S (by omega) hn hq
  only := fun A s ac' da' cs Q hA dp un S hL hne hin hq => only_ok (k_A T) (line_d T ha hd) (T.bi (by kernel_rfl) (by kernel_rfl) (by decide)) rfl (mkFn T (f := 201) (c := 200) (s := sC 11 7) rfl rfl rfl rfl rfl) hA (by omega) (by omega) S (by have := hL.few; omega) hne hin hL.one hL.part hL.all hq
  count := fun A s ac' da' cs Q hA dp un hne S hq => part_count_ok (k_A T) (k_Sup T) (cfile 208 rfl rfl rfl) rfl (mkFn T (f := 209) (c := 208) (s := sC 11 8) rfl rfl rfl rfl rfl) (by omega) S hne fun s' t k S' => hq s' t (Cg.keeps k) S'
end
end Mine
end
section
open PySem PySem.W PyProof.Rows PySem.Calls
set_option Elab.async false
set_option maxRecDepth 100000
namespace Mine
noncomputable abbrev PgX (P : Params) (tp : Tp) (pg dp ll ac da : Addr) (s : Shared) (lines cs : List Str) (mx : Int) : Prop := PgS (Kx P) tp 212 128 [ac, da, 174, 181] 178 174 185 181 pg dp ll ac da s lines cs mx
section
variable {P : Params} {tp : Tp} {w : World}
theorem St.szL {K : Frag} {CA c P c' P' ac da : Addr} {L : List Addr} {s : Shared} {cs : List Str} {i : Int} (S : St K tp CA L c P c' P' ac da s cs i) : tp.H.objs.size ≤ s.heap.objs.size := let ⟨_, h1, _, h2⟩ := S.sz; Nat.le_of_lt (Nat.lt_of_le_of_lt h1 (Heap.lt_size h2))

theorem pgx_acc (T : Top0 P tp) : AccMk pw w tp 212 := acc_make (k_A T) (k_Sup T) k_S T.ok (cfile 148 rfl rfl rfl) rfl (by kernel_rfl) (by kernel_rfl) (Nat.lt_of_lt_of_le (by decide) T.sz) (mkFn T (f := 149) (c := 148) (s := sC 11 0) rfl rfl rfl rfl rfl)
  (fun s B x i ti pm doc => BindsTo.of_defaults (T := 141) rfl (T.inK _ B 141 _ rfl) rfl rfl rfl)

theorem kc174 (T : Top0 P tp) : KCode tp.H 178 174 := ⟨#[], ⟨_, _, _, _, _, _, _, _, _, _, T.kin 178 _ rfl, rfl, rfl, rfl, rfl, rfl, rfl, T.t1, rfl, trivial, by decide⟩, ⟨_, _, T.kin 178 _ rfl, rfl, rfl, rfl⟩, T.t1⟩
theorem kc181 (T : Top0 P tp) : KCode tp.H 185 181 := ⟨#[], ⟨_, _, _, _, _, _, _, _, _, _, T.kin 185 _ rfl, rfl, rfl, rfl, rfl, rfl, rfl, T.t2, rfl, trivial, by decide⟩, ⟨_, _, T.kin 185 _ rfl, rfl, rfl, rfl⟩, T.t2⟩

theorem pgx_make (T : Top0 P tp) {A : Around} {s : Shared} {mx : Int} {t0 t1 t2 t3 : Tok} {Q : Value → Shared → Prop} (dp : A.depth ≤ 700) (B : Bs tp s.heap) (hsz : tp.H.objs.size ≤ s.heap.objs.size) (e1 : s.heap.get? 174 = tp.H.get? 174) (e2 : s.heap.get? 181 = tp.H.get? 181)
    (hq : ∀ s' pg dp ll ac da, Keeps s s' → (∀ b ∈ [pg, dp, ll, ac, da], s.heap.get? b = none) → pg ≠ ll → dp ≠ ll → PgX P tp pg dp ll ac da s' [] [] mx → Q (.ref pg) s') :
    wpAny (model pw w) A (call (.ref 128) [.int 0 t0, .int mx t1, .str " " t2, .str " " t3]) Q (fun _ _ => False) s :=
  page_make (k_A T) k_Vs k_V T.ok (pgx_acc T) (by kernel_rfl) (T.mgS (by kernel_rfl)) (Nat.lt_of_lt_of_le (by decide) T.sz) (T.bi (by kernel_rfl) (by kernel_rfl) (by decide)) (by kernel_rfl)
    (mkFn T (f := 69) (c := 68) (s := sC 10 0) rfl rfl rfl rfl rfl) dp B hsz ((kc174 T).via (fun o e => B.base _ _ e (by rw [T.tb]; decide)) fun o e => e1.trans e) ((kc181 T).via (fun o e => B.base _ _ e (by rw [T.tb]; decide)) fun o e => e2.trans e) hq

theorem pgx_newline (T : Top0 P tp) {A : Around} {s : Shared} {pg dp ll ac da : Addr} {lines cs : List Str} {x : Str} {mx : Int} {Q : Value → Shared → Prop}
    (hA : A.handled = none) (dpt : A.depth ≤ 500) (un : A.units ≤ 2900) (G : PgX P tp pg dp ll ac da s lines (cs ++ [x]) mx) (hcs : cs.length ≤ 700) (hx : PyData.strOk x = true) (hne : (x == ("" : Str)) = false) (hL : LineOk (cs ++ [x])) (hsp : Txt.isspace (lineT (cs ++ [x])) = false)
    (hll : lines.length ≤ 1000) (hpl : pg ≠ ll) (hdl : dp ≠ ll) 
    (hq : ∀ s', Cg tp.H [ll, ac, da, 174, 181] s s' → PgX P tp pg dp ll ac da s' (lines ++ [lineT (cs ++ [x])]) [] mx → Q .none s') : wpAny (model pw w) A (call (.ref 90) [.ref pg]) Q (fun _ _ => False) s :=
  newline_ok (k_A T) k_V T.ok (line_o T G.hAc G.hDa) (by kernel_rfl) rfl rfl rfl rfl (T.bi (by kernel_rfl) (by kernel_rfl) (by decide)) (T.bi (by kernel_rfl) (by kernel_rfl) (by decide)) (mkFn T (f := 90) (c := 89) (s := sC 10 3) rfl rfl rfl rfl rfl) hA dpt un G.st.szL G hcs hx hne hL hsp hll hpl hdl hq

theorem pgx_str (T : Top0 P tp) {A : Around} {s : Shared} {pg dp ll ac da : Addr} {lines cs : List Str} {sep x : Str} {t : Tok} {mx : Int} {Q : Value → Shared → Prop}
    (hA : A.handled = none) (dpt : A.depth ≤ 400) (un : A.units ≤ 2800) (G : PgX P tp pg dp ll ac da s lines (cs ++ [x]) mx) (hcs : cs.length ≤ 700) (hx : PyData.strOk x = true) (hne : (x == ("" : Str)) = false) (hL : LineOk (cs ++ [x])) (hsp : Txt.isspace (lineT (cs ++ [x])) = false)
    (hll : lines.length ≤ 1000) (hpl : pg ≠ ll) (hdl : dp ≠ ll) (hj : JoinOk sep (lines ++ [lineT (cs ++ [x])]) = true)
    (hq : ∀ s' t', Cg tp.H [ll, ac, da, 174, 181] s s' → PgX P tp pg dp ll ac da s' (lines ++ [lineT (cs ++ [x])]) [] mx → Q (.str (Txt.join sep (lines ++ [lineT (cs ++ [x])])) t') s') : wpAny (model pw w) A (call (.ref 76) [.ref pg, .str sep t]) Q (fun _ _ => False) s :=
  pagestr_ok (k_A T) k_V rfl rfl (fNl := 90) (mF (by kernel_rfl) (by kernel_rfl) (by kernel_rfl)) (mkFn T (f := 76) (c := 75) (s := sC 10 1) rfl rfl rfl rfl rfl) dpt G
    (fun A' s1 Q' h1 h2 h3 h4 G1 hq1 => pgx_newline T (h1.trans hA) (by omega) (by omega) G1 hcs hx hne hL hsp hll hpl hdl hq1) hj hq
end
end Mine
end
section
open PySem PySem.W PyProof.Rows PySem.Calls
set_option Elab.async false
set_option maxRecDepth 100000
namespace Mine
section
variable {P : Params} {tp : Tp} {w : World}
theorem sc_C : ScC [("self", .local), ("fws", .local), ("string", .local), ("ch", .local), ("i", .local), ("prevpart", .local), ("part", .local), ("remainder", .local), ("len", .globalImplicit), ("range", .globalImplicit), ("str", .globalImplicit)] where
  cell := by decide
  self := rfl
  fws := rfl
  string := rfl
  ch := rfl
  i := rfl
  rem := rfl
  len := rfl
  str := rfl
  range := rfl

/-- the lines and the parts behind one more part -/
noncomputable def pushL (mx : Int) (p : List Str × List Str) (x : Str) : List Str × List Str := if (2 * (p.2.length + 1) : Nat) ≤ mx then (p.1, p.2 ++ [x]) else (p.1 ++ [lineT p.2], [x])

theorem pgx_chunk (T : Top0 P tp) {A : Around} {s : Shared} {pg dp ll ac da : Addr} {lines cs : List Str} {x : Str} {t u : Tok} {mx : Int} {Q : Value → Shared → Prop}
    (hA : A.handled = none) (dpt : A.depth ≤ 500) (un : A.units ≤ 2900) (G : PgX P tp pg dp ll ac da s lines cs mx) (hcs : cs.length ≤ 700) (hone : x.length = 1) (hL : LineOk cs) (hmx : 2 ≤ mx) (hll : lines.length ≤ 1000) (hpl : pg ≠ ll) (hdl : dp ≠ ll)
    (hq : ∀ s', Cg tp.H [ll, ac, da, 174, 181] s s' → PgX P tp pg dp ll ac da s' (pushL mx (lines, cs) x).1 (pushL mx (lines, cs) x).2 mx → Q .none s') :
    wpAny (model pw w) A (call (.ref 125) [.ref pg, .str " " t, .str x u]) Q (fun _ _ => False) s := by
  have h1 : ∀ y ∈ cs ++ [x], y.length = 1 := fun y hy => by
    rcases List.mem_append.mp hy with h | h
    · exact hL.one y h
    · rw [List.mem_singleton.mp h]; exact hone
  unfold pushL at hq
  by_cases q : ((2 * (cs.length + 1) : Nat) : Int) ≤ mx
  · rw [if_pos q] at hq
    exact chunk_few (k_A T) k_V (line_o T G.hAc G.hDa) sc_C rfl (T.bi (by kernel_rfl) (by kernel_rfl) (by decide)) (mkFn T (f := 125) (c := 124) (s := sC 10 8) rfl rfl rfl rfl rfl) hA dpt un G hcs h1 q fun s' C G' => hq s' (C.mono fun x hx => List.mem_cons_of_mem _ hx) G'
  · rw [if_neg q] at hq
    have hne : cs ≠ [] := fun e => q (by rw [e]; exact hmx)
    exact chunk_many (k_A T) k_S k_V T.ok (line_o T G.hAc G.hDa) sc_C rfl rfl rfl rfl rfl rfl (T.bi (by kernel_rfl) (by kernel_rfl) (by decide)) (T.bi (by kernel_rfl) (by kernel_rfl) (by decide)) (T.bi (by kernel_rfl) (by kernel_rfl) (by decide))
      (mkFn T (f := 125) (c := 124) (s := sC 10 8) rfl rfl rfl rfl rfl) hA dpt un G.st.szL G hcs hne h1 hL (by omega) hll hpl hdl hq
end
end Mine
end
section
open PySem PySem.W PyProof.Rows PySem.Calls
set_option Elab.async false
set_option maxRecDepth 100000
namespace Mine
section
variable {prog : Program} {w : World} {nm : Nat → Str} {tp : Tp} {X : Shared → Prop} {env : Env}

/-- an item of a value that no name holds -/
theorem snd_idxT {pa pb : Expr} {pos : Pos} {fa fb : Ev} {ra rb : Bool} (ha : Snd prog w nm tp pa env ra fa) (hb : Snd prog w nm tp pb env rb fb)
    (hs : ∀ o i, subscripted pb false o i = operate [o, i] (getItem o i)) : Snd prog w nm tp (.Subscript pa pb pos) env true (eIdx fa fb) := by
  intro A s ρ v hA hB hr hf
  unfold eIdx at hf
  split at hf
  · rename_i x y ex ey
    exact Subscript_ (snd2 ha hb hA hB hr ex ey fun a b s₂ r1 r2 f1 f2 k o1 o2 => kba_turn (value' := .Name "_" ⟨0, 0, 0, 0⟩) (fun _ => rfl) (wpAny_mono (idx_ok r1 r2 hf hs (fun _ _ => rfl)) (fun _ _ z => Out.fr k z) fun _ _ z => z))
  · cases hf

noncomputable def eFromS (fa fb : Ev) : Ev := fun ρ => match fa ρ, fb ρ with
  | some (.u (.s t)), some (.u (.i k)) => gd (.u (.s (Txt.slice t (some k) none)))
  | _, _ => none
theorem snd_fromS {pa pb : Expr} {p pos : Pos} {fa fb : Ev} {ra rb : Bool} (ha : Snd prog w nm tp pa env ra fa) (hb : Snd prog w nm tp pb env rb fb) :
    Snd prog w nm tp (.Subscript pa (.Slice (some pb) none none p) pos) env true (eFromS fa fb) := by
  intro A s ρ v hA hB hr hf
  unfold eFromS at hf
  split at hf
  · rename_i x k ex ey
    obtain ⟨rfl, ok⟩ := gd_some hf
    refine Subscript_ (wpAny_mono (snd2p ha hb hA hB hr ex ey fun a b s₂ r1 r2 kp o1 o2 => (⟨r1, r2, kp, o1⟩ : RepV s₂.heap a (.u (.s x)) ∧ RepV s₂.heap b (.u (.i k)) ∧ Keeps s s₂ ∧ okV (.u (.s x)) = true)) (fun a s₁ h₁ => wpAny_Slice (wpAny_mono h₁ (fun b s₂ q => wpAny_evalPart_none (wpAny_evalPart_none ?_)) fun _ _ e => e)) fun _ _ e => e)
    obtain ⟨r1, r2, kp, o1⟩ := q
    obtain ⟨t, rfl⟩ := r1; obtain ⟨u, rfl⟩ := r2
    refine kba_turn (value' := .Name "_" ⟨0, 0, 0, 0⟩) (fun _ => rfl) (subscriptTail_builtin (typeIs_str _ x t) PySem.F.slot_str_getitem.lookup (wpAny_getItem_str_slice (l := some (k, u)) (u := none) (st := none) ⟨_, Heap.get?_push_size _ rfl, rfl, rfl⟩ rfl (made_slice (str_ok o1) fun t' tk => Out.u ⟨_, rfl⟩ (three kp) ok)) rfl (fun _ => rfl))
  · cases hf

-- one is not True and one is not False
theorem sndT_notB {x : Nat} {n : Str} {p1 p2 p3 p4 p5 p6 p7 : Pos} {k1 k2 : Nat} (hx : nm x = n) (hk : env.scope.kind = .function) (hd : (n == ("__debug__" : Str)) = false) :
    SndT prog w nm tp (.BoolOp .And [.Compare (.Name n p1) [.IsNot] [.Constant (.bool true) k1 p2] p3, .Compare (.Name n p4) [.IsNot] [.Constant (.bool false) k2 p5] p6] p7) env (tNotB x) := by
  intro A s ρ b whole hA hB hr hf
  unfold tNotB at hf
  split at hf
  · rename_i c ec
    cases hf
    have hv : ∀ {p : Pos} {Q : Value → Shared → Prop} {E : Value → Shared → Prop}, Q (.bool c) s → wpAny (model prog w) A (eval (.Name n p) env) Q E s := fun {p Q E} q => by
      subst hx
      obtain ⟨val, r, ok, H⟩ := hr x _ ec
      rw [show val = _ from r] at H
      refine wpAny_Name ?_ hd
      rcases H with ⟨e, m, hn, hm⟩ | ⟨e, c', hc, hcell⟩
      · exact wpAny_loadName_local hk e hn hm q
      · exact wpAny_loadName_cell hk e hc hcell q
    have one : ∀ {p1 p2 p3 : Pos} {k : Nat} {d : Bool} {Q : Bool → Shared → Prop} {whole : Sem Value}, Q (!(c == d)) s → wpAny (model prog w) A (isTrue (.Compare (.Name n p1) [.IsNot] [.Constant (.bool d) k p2] p3) env whole) Q (fun _ _ => False) s := fun {p1 p2 p3 k d Q whole} q => by
      refine wpAny_isTrue_Compare1 (hv (wpAny_Constant_bool (wpAny_isNot_plain ?_ (wpAny_truthy_bool ?_)))) rfl
      · cases c <;> cases d <;> rfl
      · have : (!((Value.bool c) == (Value.bool d))) = !(c == d) := by cases c <;> cases d <;> rfl
        rw [this]; exact q
    refine isTrue_and (one ?_)
    cases c
    · rw [if_pos (by rfl)]
      refine isTrue_and (one ?_)
      rw [if_neg (by decide)]
      exact ⟨rfl, kpR _⟩
    · rw [if_neg (by decide)]
      exact ⟨rfl, kpR _⟩
  · cases hf

theorem FS1.mono {n : Str} {f f' : V → Option V} (h : ∀ x v, f' x = some v → f x = some v) (F : FS1 prog w tp n f) : FS1 prog w tp n f' := by
  obtain ⟨a, o, fd, h1, h2, h3, h4, h5⟩ := F
  exact ⟨a, o, fd, h1, h2, h3, h4, fun A s va x v hA hB r ok e => h5 A s va x v hA hB r ok (h x v e)⟩

-- with the tokens' count in hand
noncomputable def SndK (prog : Program) (w : World) (nm : Nat → Str) (tp : Tp) (pe : Expr) (env : Env) (f : Ev) : Prop :=
  ∀ (A : Around) (s : Shared) (ρ : List (Nat × V)) (v : V), AOk A → Bs tp s.heap → Acc nm env s.heap ρ → 1 ≤ s.toks → f ρ = some v →
    wpAny (model prog w) A (eval pe env) (fun val s' => Out s true v val s') (fun _ _ => False) s

theorem sndK_bin {op : Op} {pa pb : Expr} {pos : Pos} {fa fb : Ev} {rb : Bool} (ha : SndK prog w nm tp pa env fa) (hb : Snd prog w nm tp pb env rb fb)
    (o : Operator) (ho : op.py = o) : SndK prog w nm tp (.BinOp pa o pb pos) env (eBin op fa fb) := by
  subst ho
  intro A s ρ v hA hB hr htk hf
  unfold eBin at hf
  split at hf
  · rename_i x y ex ey
    refine wpAny_BinOp (wpAny_mono (ha A s ρ x hA hB hr htk ex) (fun a s₁ h₁ => ?_) fun _ _ e => e.elim)
    obtain ⟨r₁, f₁, k₁, o₁⟩ := h₁
    refine wpAny_mono (hb A s₁ ρ y hA (hB.keep (kpK k₁)) (hr.keep _ (kpK k₁)) ey) (fun b s₂ h₂ => ?_) fun _ _ e => e.elim
    obtain ⟨r₂, f₂, k₂, o₂⟩ := h₂
    exact wpAny_mono (bin_ok o₁ o₂ (r₁.keep (kpK k₂)) r₂ hf) (fun _ _ z => Out.fr (kpT k₁ k₂) z) fun _ _ z => z
  · cases hf

noncomputable def eMail (fa fe : Ev) : Ev := fun ρ => match fa ρ, fe ρ with
  | some (.u (.s x)), some (.u (.s e)) => if (e.length == 0) || decide (100 < e.length) then none else gd (.u (.s (Txt.replace x "x" ("x" ++ e ++ "."))))
  | _, _ => none
/-- o.replace('x', 'x' + e + '.') -/
theorem sndK_mail {o e : Expr} {apos pos c1 c2 c3 b1 b2 : Pos} {k1 k2 k3 : Nat} {fa fe : Ev} {ra re : Bool} (P : MethAt o "replace" apos pos env [.Constant (.str "x") k1 c1, .BinOp (.BinOp (.Constant (.str "x") k2 c2) .Add e b1) .Add (.Constant (.str ".") k3 c3) b2])
    (ha : Snd prog w nm tp o env ra fa) (he : Snd prog w nm tp e env re fe) :
    SndK prog w nm tp (.Call (.Attribute o "replace" apos) [.Constant (.str "x") k1 c1, .BinOp (.BinOp (.Constant (.str "x") k2 c2) .Add e b1) .Add (.Constant (.str ".") k3 c3) b2] [] pos) env (eMail fa fe) := by
  intro A s ρ v hA hB hr htk hf
  unfold eMail at hf
  split at hf
  · rename_i x z ex ez
    split at hf
    · cases hf
    · rename_i hc
      simp only [Bool.or_eq_true, beq_iff_eq, decide_eq_true_eq, not_or, Nat.not_lt] at hc
      obtain ⟨rfl, ok⟩ := gd_some hf
      refine wpAny_Call_method (T := "str") P.base P.few P.line F.plainAttrs_str PySem.F.slot_str_replace F.type_str_replace (wpAny_mono (wpAny_toks_of htk (ha A s ρ _ hA hB hr ex)) (fun a s₁ h₁ => ?_) fun _ _ e => e.2.elim)
      obtain ⟨htk1, r₁, _, k₁, o₁⟩ := h₁
      obtain ⟨t, rfl⟩ := r₁
      refine ⟨typeIs_str _ _ _, (fun a e => nomatch e), callWith_method1 ?_⟩
      refine wpAny_items_cons (wpAny_Constant_str (wpAny_items_cons (wpAny_BinOp (wpAny_BinOp (wpAny_Constant_str ?_)))))
      have kk : Keeps s { s₁ with toks := s₁.toks + 1 + 1 } := kpT k₁ kpTok
      refine wpAny_mono (wpAny_toks_of (n := s₁.toks + 1 + 1) (Nat.le_refl _) (he A { s₁ with toks := s₁.toks + 1 + 1 } ρ _ hA (hB.keep (kpK kk)) (hr.keep _ (kpK kk)) ez)) (fun b s₂ h₂ => ?_) fun _ _ e => e.2.elim
      obtain ⟨htk2, r₂, _, k₂, o₂⟩ := h₂
      obtain ⟨u, rfl⟩ := r₂
      have hb := line_big
      have hx := str_ok o₁
      have lx : (Str.ofString "x").length = 1 := rfl
      have ld : (Str.ofString ".").length = 1 := rfl
      have l1 : (Str.ofString "x" ++ z).length = 1 + z.length := by rw [Str.length_append, lx]
      have l2 : (Str.ofString "x" ++ z ++ Str.ofString ".").length = 1 + z.length + 1 := by rw [Str.length_append, l1, ld]
      refine PySem.P.add_str ?_
      rw [if_neg (by rw [lx]; decide), if_neg (by simpa using hc.1)]
      refine ⟨by rw [l1]; omega, ?_⟩
      refine wpAny_Constant_str (PySem.P.add_str ?_)
      rw [if_neg (by rw [l1]; simp), if_neg (by rw [ld]; decide)]
      refine ⟨by rw [l2]; omega, wpAny_items_nil ?_⟩
      have ks2 : Keeps s { s₂ with toks := s₂.toks + 1 + 1 + 1 } := kpT (kpT kk k₂) kpTok
      have NB := (hB.keep (kpK ks2)).nb
      refine SC.replaceW2 4000 102 (by decide) (by show s₁.toks ≠ 0; omega) (by show s₂.toks + 1 + 1 ≠ 0; omega) (by show s₁.toks ≠ s₂.toks + 1 + 1; omega) hx (by rw [l2]; omega) (fun t' k => ?_) NB
      exact Out.u ⟨_, rfl⟩ (kpT ks2 (kpTok (tk := k))) ok
  · cases hf

/-- a name is stored, the tokens' count in hand -/
theorem snd1_asgK (K : TpOk tp) (S : Ls nm tp env) (hX : XOk tp X) {x : Nat} {n : Str} {pe : Expr} {p1 pos : Pos} {f : Ev} (hn : nm x = n) (h : SndK prog w nm tp pe env f) (hp : Plc env n)
    (hsw : swapsWith pe (some (Expr.Name n p1)) pos.line env = pure false) : Snd1 prog w nm tp X (.Assign [.Name n p1] pe pos) env [x] (sAsg x f) := by
  intro A s ρ ρ' r hA hW hx htk hg
  unfold sAsg at hg
  split at hg
  · rename_i v e1
    cases hg
    subst hn
    refine wpAny_Assign_Name (wpAny_mono (h A s ρ v hA hW.bs hW.acc htk e1) (fun val s₁ o => ?_) fun _ _ e => e.elim) hsw
    obtain ⟨r1, f1, k1, o1⟩ := o
    refine store_var K S (hW.keep (kpK k1)) hp r1 o1 (fun a ea y _ ey => fresh_ok hW (kpK k1) (f1 rfl a ea) y ey) (fun a ea => fresh_new hW (f1 rfl a ea)) fun h' tk c W' hc _ hs hnf hiff => ?_
    refine ⟨hX.same _ c h' tk hc (Sb.of hs) (hX.keep _ _ k1 hx), fun b vs e => ?_, fun y hy val hv => ?_, rfl, W'⟩
    · exact (hs.2 b fun q => hnf _ (q ▸ kpK k1 b _ e) vs rfl).trans (kpK k1 b _ e)
    · exact (hiff y val (by simpa using hy)).mp (hv.keep (kpK k1))
  · cases hg
end
end Mine
end
section
open PySem PySem.W PyProof.Rows PySem.Calls
set_option Elab.async false
set_option maxRecDepth 100000
namespace Mine

noncomputable def prmOf : Stmt → Arguments
  | .FunctionDef _ a _ _ _ _ _ _ _ _ => a
  | _ => default
noncomputable def bodOf : Stmt → List Stmt
  | .FunctionDef _ _ b _ _ _ _ _ _ _ => b
  | _ => []
noncomputable def morOf : Stmt → List (Str × Const)
  | .FunctionDef _ _ _ _ _ _ sc _ _ _ => sc.more
  | _ => []
noncomputable def lawPrm : Arguments := prmOf (sM 21)
noncomputable def lawBody : List Stmt := bodOf (sM 21)
/-- the law's names -/
noncomputable abbrev lawNames : List (Str × NameKind) := [(Str.ofString "script", NameKind.local), (Str.ofString "first", NameKind.cell), (Str.ofString "second", NameKind.local), (Str.ofString "k", NameKind.cell), (Str.ofString "ring", NameKind.cell), (Str.ofString "turns", NameKind.local), (Str.ofString "column", NameKind.cell), (Str.ofString "place", NameKind.local), (Str.ofString "same", NameKind.local), (Str.ofString "deed", NameKind.local), (Str.ofString "odd", NameKind.local), (Str.ofString "ends", NameKind.local), (Str.ofString "end", NameKind.local), (Str.ofString "mail", NameKind.local), (Str.ofString "sent", NameKind.local), (Str.ofString "dots", NameKind.local), (Str.ofString "size", NameKind.local), (Str.ofString "page", NameKind.local), (Str.ofString "rows", NameKind.cell), (Str.ofString "ahead", NameKind.local), (Str.ofString "places", NameKind.local), (Str.ofString "less", NameKind.local), (Str.ofString "more", NameKind.local), (Str.ofString "below", NameKind.local), (Str.ofString "like", NameKind.local), (Str.ofString "step", NameKind.local), (Str.ofString "sum", NameKind.globalImplicit), (Str.ofString "range", NameKind.globalImplicit), (Str.ofString "sorted", NameKind.globalImplicit), (Str.ofString "_law_turned", NameKind.globalImplicit), (Str.ofString "len", NameKind.globalImplicit), (Str.ofString "quotedata", NameKind.globalImplicit), (Str.ofString "concat", NameKind.globalImplicit), (Str.ofString "_ValueFormatter", NameKind.globalImplicit), (Str.ofString "countOf", NameKind.globalImplicit), (Str.ofString "setitem", NameKind.globalImplicit), (Str.ofString "getitem", NameKind.globalImplicit)]
noncomputable def lawS : Scope := { kind := .function, names := lawNames, isGenerator := false, isCoroutine := false, more := morOf (sM 21) }
noncomputable def lawFd : FuncData := { name := "law", qualname := "law", params := lawPrm, body := .stmts lawBody, scope := lawS, globals := mainGlobals, closure := [], defaults := .none, kwdefaults := .none, doc := .none, pyModule := .str "law_xj0027_01" 622, code := .ref 269, closureTuple := .none, builtins := builtinsNs }
theorem law_fd : fD (sM 21) "law" "law" (.str "law_xj0027_01" 622) (.ref 269) .none .none [] = lawFd := rfl

/-- the names of what the walk keeps -/
noncomputable def nmList : List Str := ["first", "second", "k", "ring", "turns", "column", "place", "same", "deed", "odd", "ends", "end", "mail", "sent", "dots", "size", "rows", "ahead", "places", "less", "more", "below", "like", "step", "turn", "row", "spot", "one", "page", "script"]
noncomputable def nmL (n : Nat) : Str := match nmList[n]? with
  | some s => s
  | none => ⟨Array.replicate n 0⟩
theorem nmL_inj : ∀ x y, nmL x = nmL y → x = y := by
  have h1 : ∀ x : Fin 30, ∀ y : Fin 30, nmL x.1 = nmL y.1 → x = y := by decide +kernel
  have h2 : ∀ x : Fin 30, (nmL x.1).cps.size < 30 := by decide +kernel
  have h3 : ∀ x, 30 ≤ x → nmL x = ⟨Array.replicate x 0⟩ := fun x hx => by
    unfold nmL
    rw [show nmList[x]? = none from List.getElem?_eq_none hx]
  intro x y e
  by_cases hx : x < 30
  · by_cases hy : y < 30
    · exact congrArg Fin.val (h1 ⟨x, hx⟩ ⟨y, hy⟩ e)
    · have := h2 ⟨x, hx⟩
      rw [show nmL (⟨x, hx⟩ : Fin 30).1 = nmL x from rfl, e, h3 y (by omega)] at this
      simp at this
      omega
  · by_cases hy : y < 30
    · have := h2 ⟨y, hy⟩
      rw [show nmL (⟨y, hy⟩ : Fin 30).1 = nmL y from rfl, ← e, h3 x (by omega)] at this
      simp at this
      omega
    · rw [h3 x (by omega), h3 y (by omega)] at e
      have := congrArg (fun s : Str => s.cps.size) e
      simpa using this

noncomputable def envL (L : Addr) : Env := callEnvC lawFd L 270
theorem envL_cells (L : Addr) : (envL L).cells = [(Str.ofString "rows", L + 5), (Str.ofString "column", L + 4), (Str.ofString "ring", L + 3), (Str.ofString "k", L + 2), (Str.ofString "first", L + 1)] := rfl
theorem cell_cases {L c : Addr} {x : Str} (h : (envL L).cells.lookup x = some c) : (x = "rows" ∧ c = L + 5) ∨ (x = "column" ∧ c = L + 4) ∨ (x = "ring" ∧ c = L + 3) ∨ (x = "k" ∧ c = L + 2) ∨ (x = "first" ∧ c = L + 1) := by
  rw [envL_cells] at h
  simp only [List.lookup] at h
  repeat' split at h
  all_goals first
    | (rename_i q; cases h; have := eq_of_beq q; subst this; simp)
    | cases h
theorem envL_ls {tp : Tp} {L : Addr} (hL : tp.H.objs.size ≤ L) : Ls nmL tp (envL L) where
  k := rfl
  loc := hL
  cel := fun x c h => by
    rcases cell_cases h with ⟨_, rfl⟩ | ⟨_, rfl⟩ | ⟨_, rfl⟩ | ⟨_, rfl⟩ | ⟨_, rfl⟩ <;> exact Nat.le_trans hL (Nat.le_add_right _ _)
  nc := rfl
  inj := fun x y c h1 h2 => by
    have key : ∀ {a b : Nat}, (L : Nat) + a = L + b → a = b := fun h => Nat.add_left_cancel h
    rcases cell_cases h1 with ⟨rfl, e1⟩ | ⟨rfl, e1⟩ | ⟨rfl, e1⟩ | ⟨rfl, e1⟩ | ⟨rfl, e1⟩ <;> rcases cell_cases h2 with ⟨rfl, e2⟩ | ⟨rfl, e2⟩ | ⟨rfl, e2⟩ | ⟨rfl, e2⟩ | ⟨rfl, e2⟩ <;> first
      | rfl
      | (exact absurd (key (e1.symm.trans e2)) (by decide))
  nmi := nmL_inj
theorem envL_G (L : Addr) : EnvG (envL L) := ⟨rfl, rfl, rfl⟩
theorem plc_loc {L : Addr} {n : Str} (h : (envL L).kindOf n = some .local) : Plc (envL L) n := .inl h
theorem plc_cell {L c : Addr} {n : Str} (h : (envL L).kindOf n = some .cell) (h2 : (envL L).cells.lookup n = some c) : Plc (envL L) n := .inr ⟨h, c, h2⟩
end Mine
end
section
open PySem PySem.W PyProof.Rows PySem.Calls
set_option Elab.async false
set_option maxRecDepth 100000
namespace Mine
section
variable {prog : Program} {w : World} {nm : Nat → Str} {tp : Tp} {X : Shared → Prop} {env : Env}

/-- a local of the frame has been stored, new objects beside -/
theorem Lw.stored (K : TpOk tp) (S : Ls nm tp env) {h h' : Heap} {ρ : List (Nat × V)} (W : Lw nm tp env h ρ) {x : Nat} {val : Value} {v : V} {m : Str → Option Value} (hm : h.Ns env.locals m) (hn : h'.Ns env.locals (fun z => if z = nm x then some val else m z))
    (k : ∀ b o, b ≠ env.locals → h.get? b = some o → h'.get? b = some o) (hk : env.kindOf (nm x) = some .local) (r : RepV h' val v) (ok : okV v = true) (fr : ∀ a, val = .ref a → h.get? a = none) :
    Lw nm tp env h' (upd ρ x v) ∧ (∀ y u, y ≠ x → VarAt env h (nm y) u → VarAt env h' (nm y) u) := by
  have nl : ∀ o, h.get? env.locals = some o → ∃ es ep, o.data = .dict es ep := fun o e => by
    obtain ⟨o', es, ep, e1, e2, _⟩ := hm
    rw [e1] at e; cases e; exact ⟨es, ep, e2⟩
  have fw : ∀ y u, y ≠ x → VarAt env h (nm y) u → VarAt env h' (nm y) u := fun y u q hv => by
    have nq : nm y ≠ nm x := fun e => q (S.nmi _ _ e)
    rcases hv with ⟨e, m', hn', hm'⟩ | ⟨e, c, hc, o, ho, hd⟩
    · have := Ns.fn hm hn'; subst this
      exact .inl ⟨e, _, hn, by simp [nq, hm']⟩
    · refine .inr ⟨e, c, hc, o, k _ _ (fun q' => ?_) ho, hd⟩
      obtain ⟨es, ep, e3⟩ := nl o (q' ▸ ho)
      rw [e3] at hd; cases hd
  have hx : VarAt env h' (nm x) val := .inl ⟨hk, _, hn, by simp⟩
  have back : ∀ y u, y ≠ x → (look ρ y).isSome = true → VarAt env h' (nm y) u → VarAt env h (nm y) u := fun y u q e hv => by
    obtain ⟨z, hz⟩ := Option.isSome_iff_exists.mp e
    obtain ⟨val', _, _, hv'⟩ := W.acc y z hz
    have := VarAt.fn (fw y _ q hv') hv
    rw [← this]; exact hv'
  have far : ∀ a, val = .ref a → ∀ y, y ≠ x → (look ρ y).isSome = true → ¬ VarAt env h' (nm y) (.ref a) := fun a ea y q e hv => fresh_ok W (fun _ _ e => e) (fr a ea) y e (back y _ q e hv)
  have sb : Sb env.locals h h' := fun b o n e => k b o n e
  have up : ∀ y, y ≠ x → (look (upd ρ x v) y).isSome = true → (look ρ y).isSome = true := fun y q e => by
    rw [look_upd, if_neg q] at e; exact e
  have neH : ∀ b o, tp.H.get? b = some o → b ≠ env.locals := fun b o e => Nat.ne_of_lt (Nat.lt_of_lt_of_le (Heap.lt_size e) S.loc)
  refine ⟨⟨K.bs (fun b o e n => k b o (neH b o e) (W.bs.base b o e n)) (fun b o e => let ⟨o', e'⟩ := W.bs.there b o e; ⟨o', k b o' (neH b o e) e'⟩), fun y u e => ?_, ⟨_, hn⟩, fun y c h1 h2 => ?_, fun y z hyz e1 e2 a b v1 v2 => ?_, fun y a e hv => ?_⟩, fw⟩
  · rw [look_upd] at e
    by_cases q : y = x
    · subst q
      rw [if_pos rfl] at e
      cases e
      exact ⟨val, r, ok, hx⟩
    · rw [if_neg q] at e
      obtain ⟨u', r', ok', hv'⟩ := W.acc y u e
      exact ⟨u', rep_sb sb (fun o e n vs q => by obtain ⟨es, ep, e3⟩ := nl o e; rw [e3] at q; cases q) r', ok', fw y _ q hv'⟩
  · obtain ⟨v0, o, ho, hd⟩ := W.cel y c h1 h2
    refine ⟨v0, o, k _ _ (fun q' => ?_) ho, hd⟩
    obtain ⟨es, ep, e3⟩ := nl o (q' ▸ ho)
    rw [e3] at hd; cases hd
  · by_cases q : y = x
    · subst q
      have e3 := VarAt.fn hx v1
      intro hab; subst hab
      exact far a e3 z (Ne.symm hyz) (up z (Ne.symm hyz) e2) v2
    · by_cases q2 : z = x
      · subst q2
        have e3 := VarAt.fn hx v2
        intro hab; subst hab
        exact far a e3 y q (up y q e1) v1
      · exact W.sep y z hyz (up y q e1) (up z q2 e2) a b (back y _ q (up y q e1) v1) (back z _ q2 (up z q2 e2) v2)
  · by_cases q : y = x
    · subst q
      have := VarAt.fn hx hv
      exact fresh_new W (fr a this)
    · exact W.new y a (up y q e) (back y _ q (up y q e) hv)

/-- the frame's own place, as the rules of statements tell of it -/
theorem pst_stored (hX : XOk tp X) (S : Ls nm tp env) {s s₁ : Shared} {h' : Heap} {tk : Nat} {ρ : List (Nat × V)} {x : Nat} {v : V} {m : Str → Option Value} (hx : X s) (k1 : Keeps s s₁) (hm : s₁.heap.Ns env.locals m) (k : ∀ b o, b ≠ env.locals → s₁.heap.get? b = some o → h'.get? b = some o)
    (W : Lw nm tp env h' (upd ρ x v)) (fw : ∀ y u, y ≠ x → VarAt env s₁.heap (nm y) u → VarAt env h' (nm y) u) : Pst nm tp env X [x] s (upd ρ x v) none .next { s₁ with heap := h', toks := tk } := by
  refine ⟨hX.same s₁ env.locals h' tk (getNone S.loc) (fun b o n e => k b o n e) (hX.keep _ _ k1 hx), fun b vs e => k b _ (fun q => ?_) (kpK k1 b _ e), fun y hy val hv => fw y val (by simpa using hy) (hv.keep (kpK k1)), rfl, W⟩
  obtain ⟨o', es, ep, e1, e2, _⟩ := hm
  have e3 := kpK k1 b _ e
  rw [q, e1] at e3
  cases e3; cases e2

theorem snd1_asgC (K : TpOk tp) (S : Ls nm tp env) (hX : XOk tp X) {scope : Scope} {cl : List (Str × Addr)} {x y : Nat} {fv : List Nat} (H : CompOk nm env scope cl x fv) {elt src : Expr} {px py pos spos : Pos} {ifs : List Expr} {fs fe : Ev} {fc : Tv} {re rs : Bool} {n ny : Str} (hn : nm x = n) (hny : nm y = ny) (hky : env.kindOf ny = some .local)
    (hs : Snd prog w nm tp src env rs fs) (he : ∀ C, Snd prog w nm tp elt (compEnvC scope cl C env) re fe) (hc : ∀ C, SndI prog w nm tp (compEnvC scope cl C env) ifs fc)
    (hsw : swapsWith (.ListComp elt [⟨.Name n px, src, ifs, 0⟩] scope pos) (some (.Name ny py)) spos.line env = pure true)
    (hfold : ∀ x, foldedSetIterable src env x = pure x) : Snd1 prog w nm tp X (.Assign [.Name ny py] (.ListComp elt [⟨.Name n px, src, ifs, 0⟩] scope pos) spos) env [y] (sAsg y (eComp x fv fs fe fc)) := by
  subst hn
  subst hny
  intro A s ρ ρ' r hA hW hx htk hg
  unfold sAsg at hg
  split at hg
  · rename_i v hf
    cases hg
    unfold eComp at hf
    split at hf
    · rename_i sv e1
      split at hf
      · rename_i us e2
        split at hf
        · rename_i ys e3
          obtain ⟨rfl, ok⟩ := gd_some hf
          refine wpAny_Assign_ListComp_free (pOf x (capt fv ρ) fc) (FOf x (capt fv ρ) fe) hsw H.clos H.cell H.kind H.names H.var hky S.nc (wpAny_mono (hs A s ρ sv hA hW.bs hW.acc e1) (fun xv s₁ h₁ => ?_) fun _ _ e => e.elim) hfold
          obtain ⟨r1, _, k1, o1⟩ := h₁
          obtain ⟨ax, vs, n1, rfl, hl, rx⟩ := itemsOf_rep e2 r1
          obtain ⟨hlen, hok⟩ := itemsOf_ok e2 o1
          have W1 := hW.keep (kpK k1)
          obtain ⟨m, hm⟩ := W1.loc
          refine wpAny_pyIter_list (isL hl) ?_
          have hlt : ax < s₁.heap.objs.size := Heap.lt_size hl
          have hne : ax ≠ s₁.heap.objs.size := Nat.ne_of_lt hlt
          have hl2 := Heap.get?_push_of_some { cls := .type "list_iterator", data := .fields #[.ref ax, .int 0 0] } hl
          have hIL : env.locals ≠ s₁.heap.objs.size := Nat.ne_of_lt (by obtain ⟨o, es, ep, e, _⟩ := hm; exact Heap.lt_size e)
          refine ⟨s₁.heap.objs.size, _, _, _, _, _, m, rfl, Walks.list hA.hd s₁.heap.objs.size ax hne vs.toArray, ?_, ⟨⟨_, Heap.get?_push_size _ rfl, rfl, rfl⟩, isL hl2⟩, ?_, ?_, hm.keeps fun b o e => Heap.get?_push_of_some _ e, ?_, ?_⟩
          · rw [List.size_toArray, rx.length]; exact Nat.le_trans hlen (by decide)
          · intro b hb
            show b < (s₁.heap.push _).objs.size
            rw [Heap.size_push]
            rcases List.mem_cons.mp hb with rfl | hb
            · exact Nat.lt_succ_self _
            · rcases List.mem_cons.mp hb with rfl | hb
              · exact Nat.lt_succ_of_lt hlt
              · cases hb
          · intro hm'
            rcases List.mem_cons.mp hm' with q | q
            · exact hIL q
            · cases q
          · refine quiet H he hc hA W1.bs W1.acc (s₁ := s₁) (us := us) (fun b o e => ⟨Heap.get?_push_of_some _ e, fun hm => ?_⟩) e3 (fun i v hv => ?_) hok
            · rcases List.mem_cons.mp hm with rfl | hm
              · exact Nat.lt_irrefl _ (Heap.lt_size e)
              · cases hm
            · exact rx.at i v (by simpa using hv)
          · intro D h' tk zs ws hD hL hP hlen2 hws hpair hn' hk
            obtain ⟨n2, hp⟩ := hP
            have hrw : Reps ws us := reps_of (by rw [hlen2, List.size_toArray, rx.length]) fun j v hv => rx.at j v (by simpa using hws j v hv)
            have kk : ∀ b o, b ≠ env.locals → s₁.heap.get? b = some o → h'.get? b = some o := fun b o n e => hk b o n (fun hm => by
              rcases List.mem_cons.mp hm with rfl | hm
              · exact Nat.lt_irrefl _ (Heap.lt_size e)
              · cases hm) (Heap.get?_push_of_some _ e)
            obtain ⟨W2, fw⟩ := W1.stored K S (v := .l ys) hm hn' kk hky ⟨D, zs.toList, n2, rfl, by simpa using hp, comp_out hrw e3 hpair⟩ ok (fun a e => by
              cases e
              cases q : s₁.heap.get? D with
              | none => rfl
              | some o => have z := Heap.get?_push_of_some { cls := .type "list_iterator", data := .fields #[.ref ax, .int 0 0] } q; rw [hD] at z; cases z)
            exact pst_stored (s₁ := s₁) hX S hx k1 hm kk W2 fw
        · cases hf
      · cases hf
    · cases hf
  · cases hg

theorem snd1_asgCR (K : TpOk tp) (S : Ls nm tp env) (hX : XOk tp X) {scope : Scope} {cl : List (Str × Addr)} {x y : Nat} {fv : List Nat} (H : CompOk nm env scope cl x fv) {elt pn : Expr} {np p2 px py pos spos : Pos} {ifs : List Expr} {fs fe : Ev} {fc : Tv} {re rs : Bool} {n ny : Str} (hn : nm x = n) (hny : nm y = ny) (hky : env.kindOf ny = some .local)
    (hs : Snd prog w nm tp pn env rs fs) (he : ∀ C, Snd prog w nm tp elt (compEnvC scope cl C env) re fe) (hc : ∀ C, SndI prog w nm tp (compEnvC scope cl C env) ifs fc)
    (G : EnvG env) (hk : env.kindOf "range" = some .globalImplicit) (h0 : tp.mg "range" = none) (h1 : tp.mb "range" = some (.type "range")) (hst : starEach [pn] env = [(false, eval pn env)])
    (hsw : swapsWith (.ListComp elt [⟨.Name n px, .Call (.Name "range" np) [pn] [] p2, ifs, 0⟩] scope pos) (some (.Name ny py)) spos.line env = pure true) :
    Snd1 prog w nm tp X (.Assign [.Name ny py] (.ListComp elt [⟨.Name n px, .Call (.Name "range" np) [pn] [] p2, ifs, 0⟩] scope pos) spos) env [y] (sAsg y (eCompR x fv fs fe fc)) := by
  subst hn
  subst hny
  intro A s ρ ρ' r hA hW hx htk hg
  unfold sAsg at hg
  split at hg
  · rename_i v hf
    cases hg
    unfold eCompR at hf
    split at hf
    · rename_i k e1
      split at hf
      · rename_i hcc
        simp only [Bool.and_eq_true, decide_eq_true_eq] at hcc
        split at hf
        · rename_i ys e3
          obtain ⟨rfl, ok⟩ := gd_some hf
          refine wpAny_Assign_ListComp_free (pOf x (capt fv ρ) fc) (FOf x (capt fv ρ) fe) hsw H.clos H.cell H.kind H.names H.var hky S.nc (range_call hs G hk h0 h1 hst hA hW.bs hW.acc e1 fun r s₁ t u v hR k1 => ?_) (fun _ => rfl)
          obtain ⟨es, esm⟩ := small_range hcc.1 hcc.2
          have W1 := hW.keep (kpK k1)
          obtain ⟨m', hm⟩ := W1.loc
          refine wpAny_pyIter_range hR esm ?_
          obtain ⟨m, rfl⟩ := Int.eq_ofNat_of_zero_le hcc.1
          rw [Int.toNat_natCast] at e3
          rw [es]
          have hIL : env.locals ≠ s₁.heap.objs.size := Nat.ne_of_lt (by obtain ⟨o, es, ep, e, _⟩ := hm; exact Heap.lt_size e)
          refine ⟨s₁.heap.objs.size, _, _, m, _, _, m', rfl, (Walks.range hA.hd s₁.heap.objs.size 0 1 m).bound, ?_, ?_, ?_, ?_, hm.keeps fun b o e => Heap.get?_push_of_some _ e, ?_, ?_⟩
          · exact Nat.le_trans (show m ≤ 16000000 by omega) line_big
          · show Heap.get? _ _ = _
            have : ((0 : Int) + ((0 : Nat) : Int) * 1) = 0 := by decide
            rw [this]
            have : ((m : Int) - ((0 : Nat) : Int)) = m := by omega
            rw [this]
            exact Heap.get?_push_size _ rfl
          · intro b hb
            show b < (s₁.heap.push _).objs.size
            rw [Heap.size_push]
            rcases List.mem_cons.mp hb with rfl | hb
            · exact Nat.lt_succ_self _
            · cases hb
          · intro hm'
            rcases List.mem_cons.mp hm' with q | q
            · exact hIL q
            · cases q
          · refine quiet H he hc hA W1.bs W1.acc (s₁ := s₁) (us := rangeU m) (fun b o e => ⟨Heap.get?_push_of_some _ e, fun hm => ?_⟩) e3 (fun i v hv => ?_) (fun i u hu => ?_)
            · rcases List.mem_cons.mp hm with rfl | hm
              · exact Nat.lt_irrefl _ (Heap.lt_size e)
              · cases hm
            · obtain ⟨hi, t', e⟩ := hv
              exact ⟨_, rangeU_get hi, t', by rw [e, Int.zero_add, Int.mul_one]⟩
            · obtain ⟨_, rfl⟩ := rangeU_at _ _ _ hu; rfl
          · intro D h' tk zs ws hD hL hP hlen2 hws hpair hn' hk'
            obtain ⟨n2, hp⟩ := hP
            have hrw : Reps ws (rangeU m) := reps_of (by rw [hlen2, rangeU_len]) fun j v hv => by
              obtain ⟨hj, t, e⟩ := hws j v hv
              exact ⟨_, rangeU_get hj, t, by rw [e, Int.zero_add, Int.mul_one]⟩
            have kk : ∀ b o, b ≠ env.locals → s₁.heap.get? b = some o → h'.get? b = some o := fun b o n e => hk' b o n (fun hm => by
              rcases List.mem_cons.mp hm with rfl | hm
              · exact Nat.lt_irrefl _ (Heap.lt_size e)
              · cases hm) (Heap.get?_push_of_some _ e)
            obtain ⟨W2, fw⟩ := W1.stored K S (v := .l ys) hm hn' kk hky ⟨D, zs.toList, n2, rfl, by simpa using hp, comp_out hrw e3 hpair⟩ ok (fun a e => by
              cases e
              cases q : s₁.heap.get? D with
              | none => rfl
              | some o => have z := Heap.get?_push_of_some { cls := .type "range_iterator", data := .fields #[rawInt 0, rawInt m, rawInt 1] } q; rw [hD] at z; cases z)
            exact pst_stored (s₁ := s₁) hX S hx k1 hm kk W2 fw
        · cases hf
      · cases hf
    · cases hf
  · cases hg
end
end Mine
end
section
open PySem PySem.W PyProof.Rows PySem.Calls
set_option Elab.async false
set_option maxRecDepth 100000
namespace Mine
noncomputable def lS (i : Nat) : Stmt := lawBody.getD i (.Pass ⟨0, 0, 0, 0⟩)

/-- the calls that the law makes, by what they give -/
structure LawG (w : World) (tp : Tp) (fq : V → Option V) : Prop where
  ok : TpOk tp
  range : tp.mg "range" = none ∧ tp.mb "range" = some (.type "range")
  len : tp.mg "len" = none ∧ tp.mb "len" = some (.builtin "len")
  sorted : tp.mg "sorted" = none ∧ tp.mb "sorted" = some (.builtin "sorted")
  turned : FS1 pw w tp "_law_turned" turnV
  quote : FS1 pw w tp "quotedata" fq
  concat : FS2 pw w tp "concat" catV
  lt : FS2 pw w tp "lt" ltV
  gt : FS2 pw w tp "gt" gtV
  getitem : FS2 pw w tp "getitem" idxV
  count : CountIs pw w tp
  setitem : ∃ q1 q2 q3 p1 p2 p3 p4 p5, FnAt tp "setitem" (ps3 "a" "b" "c" q1 q2 q3) [.Assign [.Subscript (.Name "a" p1) (.Name "b" p2) p3] (.Name "c" p4) p5] (scL ["a", "b", "c"])

noncomputable abbrev noT : Tv := fun _ => some true
noncomputable def eRing : Ev := eJoin (eLit (.s "")) (eCompR 2 [0] (eLit (.i 5)) (eIdx (eLit (.s ".x")) (eBin .fmod (eBin .fdiv (eVar 0) (eBin .pow (eLit (.i 2)) (eVar 2))) (eLit (.i 2)))) noT)
noncomputable def eTurns : Ev := eSorted (eCompR 2 [3] (eLit (.i 5)) (eBin .add (eFrom (eVar 3) (eVar 2)) (eTo (eVar 3) (eVar 2))) noT)
noncomputable def eColumn : Ev := eJoin (eLit (.s "")) (eComp 24 [] (eVar 4) (eIdx (eVar 24) (eLit (.i (-1)))) noT)

section
variable {tp : Tp} {w : World} {X : Shared → Prop} {fq : V → Option V} {L : Addr}

theorem st_ring (G : LawG w tp fq) (hL : tp.H.objs.size ≤ L) (hX : XOk tp X) : Snd1 pw w nmL tp X (lS 2) (envL L) [3] (sAsg 3 eRing) :=
  snd1_asg G.ok (envL_ls hL) hX rfl (snd_join snd_str (snd_compR ⟨rfl, by decide, rfl, by decide, rfl, fun _ => rfl, fun y hy C => by rcases List.mem_singleton.mp hy with rfl; exact ⟨rfl, rfl, rfl⟩⟩ rfl snd_int
    (fun C => snd_idxT snd_str (snd_bin (snd_bin (snd_var rfl rfl rfl) (snd_bin snd_int (snd_var rfl rfl rfl) _ rfl) _ rfl) snd_int _ rfl) (fun _ _ => rfl)) (fun C => .nil) (envL_G L) rfl G.range.1 G.range.2 rfl) ⟨rfl, rfl, rfl⟩ rfl) (plc_cell rfl rfl) rfl

theorem st_turns (G : LawG w tp fq) (hL : tp.H.objs.size ≤ L) (hX : XOk tp X) : Snd1 pw w nmL tp X (lS 3) (envL L) [4] (sAsg 4 eTurns) :=
  snd1_asg G.ok (envL_ls hL) hX rfl (snd_sorted (snd_compR ⟨rfl, by decide, rfl, by decide, rfl, fun _ => rfl, fun y hy C => by rcases List.mem_singleton.mp hy with rfl; exact ⟨rfl, rfl, rfl⟩⟩ rfl snd_int
    (fun C => snd_bin (snd_from (snd_var rfl rfl rfl) (snd_var rfl rfl rfl) (fun _ _ => rfl)) (snd_to (snd_var rfl rfl rfl) (snd_var rfl rfl rfl) (fun _ _ => rfl)) _ rfl) (fun C => .nil) (envL_G L) rfl G.range.1 G.range.2 rfl) (envL_G L) rfl G.sorted.1 G.sorted.2 rfl) (plc_loc rfl) rfl

theorem st_column (G : LawG w tp fq) (hL : tp.H.objs.size ≤ L) (hX : XOk tp X) : Snd1 pw w nmL tp X (lS 4) (envL L) [5] (sAsg 5 eColumn) :=
  snd1_asg G.ok (envL_ls hL) hX rfl (snd_join snd_str (snd_comp ⟨rfl, by decide, rfl, by decide, rfl, fun _ => rfl, fun y hy C => (List.not_mem_nil hy).elim⟩ rfl (snd_var rfl rfl rfl)
    (fun C => snd_idx (snd_var rfl rfl rfl) snd_neg (fun _ _ => rfl) (fun _ _ => rfl)) (fun C => .nil) (fun _ => rfl)) ⟨rfl, rfl, rfl⟩ rfl) (plc_cell rfl rfl) rfl

theorem st_place (G : LawG w tp fq) (hL : tp.H.objs.size ≤ L) (hX : XOk tp X) : Snd1 pw w nmL tp X (lS 5) (envL L) [6] (sAsg 6 (eIndexL (eVar 4) (eVar 3))) :=
  snd1_asg G.ok (envL_ls hL) hX rfl (snd_indexL (snd_var rfl rfl rfl) (snd_var rfl rfl rfl) ⟨rfl, rfl, rfl⟩ rfl) (plc_loc rfl) rfl
theorem st_same (G : LawG w tp fq) (hL : tp.H.objs.size ≤ L) (hX : XOk tp X) : Snd1 pw w nmL tp X (lS 6) (envL L) [7] (sAsg 7 (eCountL (eVar 4) (eVar 3))) :=
  snd1_asg G.ok (envL_ls hL) hX rfl (snd_countL (snd_var rfl rfl rfl) (snd_var rfl rfl rfl) ⟨rfl, rfl, rfl⟩ rfl) (plc_loc rfl) rfl
end
end Mine
end
section
open PySem PySem.W PyProof.Rows PySem.Calls
set_option Elab.async false
set_option maxRecDepth 100000
namespace Mine
noncomputable def forBody : Stmt → List Stmt
  | .For _ _ b _ _ => b
  | _ => []
noncomputable def lB (i j : Nat) : Stmt := (forBody (lS i)).getD j (.Pass ⟨0, 0, 0, 0⟩)

noncomputable def gDeed : Sv := sAsg 8 (eBin .fmod (eBin .fdiv (eVar 1) (eBin .pow (eLit (.i 6)) (eVar 2))) (eLit (.i 6)))
noncomputable def gOdd : Sv := sAsg 9 (eBin .fmod (eVar 8) (eLit (.i 2)))
noncomputable def gTurn : Sv := sIf (tCmp .eq (eVar 9) (eLit (.i 1))) (sSeq (sAsg 3 (eCall1 turnV (eVar 3))) (sSeq (sAsg 5 (eCall1 turnV (eRev (eVar 5)))) (sSeq (sAsg 6 (eBin .sub (eBin .sub (eLen (eVar 5)) (eVar 6)) (eVar 7))) sNil))) sNil
noncomputable def gEnds : Sv := sAsg 10 (eCnt (eVar 5) (eLit (.s "x")))
noncomputable def gEnd : Sv := sAsg 11 (eIdx (eDisp [.s "\n", .s "\r", .s "\r\n"]) (eBin .fdiv (eVar 8) (eLit (.i 2))))
noncomputable def gMail : Sv := sAsg 12 (eBin .add (eBin .add (eMail (eVar 3) (eVar 11)) (eLit (.s "\n\rx\x0c.\r\n."))) (eBin .mul (eVar 11) (eVar 9)))
noncomputable def gSent (fq : V → Option V) : Sv := sAsg 13 (eSplit (eCall1 fq (eCall2 catV (eLit (.s ".")) (eVar 12))) (eLit (.s "\r\n")))
noncomputable def eEnds1 : Ev := eBin .add (eVar 10) (eLit (.i 1))
noncomputable def gRetF : Sv := sSeq (sRet (eLit (.b false))) sNil
noncomputable def gAsk1 : Sv := sIf (tCmp .ne (eFrom (eVar 13) eEnds1) (eBin .add (eDisp [.s "", .s "x\x0c.", .s ".."]) (eBin .mul (eDisp [.s ""]) (eVar 9)))) gRetF sNil
noncomputable def gAsk2 : Sv := sIf (tCmp .ne (eComp 25 [] (eTo (eVar 13) eEnds1) (eTo (eVar 25) (eLit (.i 2))) noT) (eBin .mul (eDisp [.s ".."]) eEnds1)) gRetF sNil
noncomputable def gRing2 : Sv := sAsg 3 (eFromS (eJoin (eLit (.s "")) (eComp 25 [] (eTo (eVar 13) eEnds1) (eFrom (eVar 25) (eLit (.i 1))) noT)) (eLit (.i 1)))
noncomputable def gDots : Sv := sAsg 14 (eCompR 26 [5] (eLen (eVar 5)) (eVar 26) (tCmp .eq (eIdx (eVar 5) (eVar 26)) (eLit (.s "."))))
noncomputable def gPlace : Sv := sIf (tCmp .lt (eVar 6) (eLen (eVar 14))) (sSeq (sAsg 6 (eIdx (eVar 14) (eVar 6))) sNil) (sSeq (sAsg 6 (eBin .add (eVar 6) (eVar 10))) sNil)
noncomputable def gCol2 : Sv := sAsg 5 (eBin .add (eVar 5) (eBin .mul (eLit (.s ".")) (eVar 10)))
noncomputable def gSend (fq : V → Option V) : Sv := sSeq gEnd (sSeq gMail (sSeq (gSent fq) (sSeq gAsk1 (sSeq gAsk2 (sSeq gRing2 (sSeq gDots (sSeq gPlace (sSeq gCol2 sNil))))))))
noncomputable def gIfSend (fq : V → Option V) : Sv := sIf (tCmp .lt (eBin .add (eLen (eVar 5)) (eVar 10)) (eLit (.i 11))) (gSend fq) sNil
/-- a deed, behind its number -/
noncomputable def gRest (fq : V → Option V) : Sv := sSeq gOdd (sSeq gTurn (sSeq gEnds (sSeq (gIfSend fq) sNil)))

section
variable {tp : Tp} {w : World} {X : Shared → Prop} {fq : V → Option V} {L : Addr}
theorem st_deed (G : LawG w tp fq) (hL : tp.H.objs.size ≤ L) (hX : XOk tp X) : Snd1 pw w nmL tp X (lB 7 0) (envL L) [8] gDeed :=
  snd1_asg G.ok (envL_ls hL) hX rfl (snd_bin (snd_bin (snd_var rfl rfl rfl) (snd_bin snd_int (snd_var rfl rfl rfl) _ rfl) _ rfl) snd_int _ rfl) (plc_loc rfl) rfl
theorem st_odd (G : LawG w tp fq) (hL : tp.H.objs.size ≤ L) (hX : XOk tp X) : Snd1 pw w nmL tp X (lB 7 1) (envL L) [9] gOdd :=
  snd1_asg G.ok (envL_ls hL) hX rfl (snd_bin (snd_var rfl rfl rfl) snd_int _ rfl) (plc_loc rfl) rfl
theorem st_turn (G : LawG w tp fq) (hL : tp.H.objs.size ≤ L) (hX : XOk tp X) : Snd1 pw w nmL tp X (lB 7 2) (envL L) ([3] ++ ([5] ++ ([6] ++ [])) ++ []) gTurn :=
  snd1_if hX (sndT_cmp (snd_var rfl rfl rfl) snd_int _ rfl rfl)
    (sndS_cons (snd1_asg G.ok (envL_ls hL) hX rfl (snd_call1 G.turned (snd_var rfl rfl rfl) (envL_G L) rfl rfl rfl) (plc_cell rfl rfl) rfl)
    (sndS_cons (snd1_asg G.ok (envL_ls hL) hX rfl (snd_call1 G.turned (snd_rev (snd_var rfl rfl rfl) (fun _ _ => rfl)) (envL_G L) rfl rfl rfl) (plc_cell rfl rfl) rfl)
    (sndS_cons (snd1_asg G.ok (envL_ls hL) hX rfl (snd_bin (snd_bin (snd_len (snd_var rfl rfl rfl) (envL_G L) rfl G.len.1 G.len.2 rfl) (snd_var rfl rfl rfl) _ rfl) (snd_var rfl rfl rfl) _ rfl) (plc_loc rfl) rfl) sndS_nil))) sndS_nil
theorem st_ends (G : LawG w tp fq) (hL : tp.H.objs.size ≤ L) (hX : XOk tp X) : Snd1 pw w nmL tp X (lB 7 3) (envL L) [10] gEnds :=
  snd1_asg G.ok (envL_ls hL) hX rfl (snd_cnt (snd_var rfl rfl rfl) snd_str ⟨rfl, rfl, rfl⟩ rfl) (plc_loc rfl) rfl

theorem snd_ends1 : ∀ {p1 p2 p3 : Pos} {k : Nat}, Snd pw w nmL tp (.BinOp (.Name "ends" p1) .Add (.Constant (.int 1) k p2) p3) (envL L) true eEnds1 := snd_bin (snd_var rfl rfl rfl) snd_int _ rfl
theorem st_retF (hX : XOk tp X) {k : Nat} {p1 p2 : Pos} : SndS pw w nmL tp X [.Return (some (.Constant (.bool false) k p1)) p2] (envL L) ([] ++ []) gRetF := sndS_cons (snd1_ret hX snd_bool) sndS_nil
theorem st_send (G : LawG w tp fq) (hL : tp.H.objs.size ≤ L) (hX : XOk tp X) : ∃ as, Snd1 pw w nmL tp X (lB 7 4) (envL L) as (gIfSend fq) ∧ 1 ∉ as :=
  ⟨_, snd1_if hX (sndT_cmp (snd_bin (snd_len (snd_var rfl rfl rfl) (envL_G L) rfl G.len.1 G.len.2 rfl) (snd_var rfl rfl rfl) _ rfl) snd_int _ rfl rfl)
    (sndS_cons (snd1_asg G.ok (envL_ls hL) hX rfl (snd_idxT (snd_disp (.cons (.cons (.cons .nil)))) (snd_bin (snd_var rfl rfl rfl) snd_int _ rfl) (fun _ _ => rfl)) (plc_loc rfl) rfl)
    (sndS_cons (snd1_asgK G.ok (envL_ls hL) hX rfl (sndK_bin (sndK_bin (sndK_mail ⟨rfl, rfl, rfl⟩ (snd_var rfl rfl rfl) (snd_var rfl rfl rfl)) snd_str _ rfl) (snd_bin (snd_var rfl rfl rfl) (snd_var rfl rfl rfl) _ rfl) _ rfl) (plc_loc rfl) rfl)
    (sndS_cons (snd1_asg G.ok (envL_ls hL) hX rfl (snd_split (snd_call1 G.quote (snd_call2 G.concat snd_str (snd_var rfl rfl rfl) (envL_G L) rfl rfl rfl rfl) (envL_G L) rfl rfl rfl) snd_str ⟨rfl, rfl, rfl⟩ rfl) (plc_loc rfl) rfl)
    (sndS_cons (snd1_if hX (sndT_cmp (snd_from (snd_var rfl rfl rfl) snd_ends1 (fun _ _ => rfl)) (snd_bin (snd_disp (.cons (.cons (.cons .nil)))) (snd_bin (snd_disp (.cons .nil)) (snd_var rfl rfl rfl) _ rfl) _ rfl) _ rfl rfl) (st_retF hX) sndS_nil)
    (sndS_cons (snd1_if hX (sndT_cmp (snd_comp ⟨rfl, by decide, rfl, by decide, rfl, fun _ => rfl, fun y hy C => (List.not_mem_nil hy).elim⟩ rfl (snd_to (snd_var rfl rfl rfl) snd_ends1 (fun _ _ => rfl)) (fun C => snd_to (snd_var rfl rfl rfl) snd_int (fun _ _ => rfl)) (fun C => .nil) (fun _ => rfl)) (snd_bin (snd_disp (.cons .nil)) snd_ends1 _ rfl) _ rfl rfl) (st_retF hX) sndS_nil)
    (sndS_cons (snd1_asg G.ok (envL_ls hL) hX rfl (snd_fromS (snd_join snd_str (snd_comp ⟨rfl, by decide, rfl, by decide, rfl, fun _ => rfl, fun y hy C => (List.not_mem_nil hy).elim⟩ rfl (snd_to (snd_var rfl rfl rfl) snd_ends1 (fun _ _ => rfl)) (fun C => snd_from (snd_var rfl rfl rfl) snd_int (fun _ _ => rfl)) (fun C => .nil) (fun _ => rfl)) ⟨rfl, rfl, rfl⟩ rfl) snd_int) (plc_cell rfl rfl) rfl)
    (sndS_cons (snd1_asgCR G.ok (envL_ls hL) hX ⟨rfl, by decide, rfl, by decide, rfl, fun _ => rfl, fun y hy C => by rcases List.mem_singleton.mp hy with rfl; exact ⟨rfl, rfl, rfl⟩⟩ rfl rfl rfl (snd_len (snd_var rfl rfl rfl) (envL_G L) rfl G.len.1 G.len.2 rfl) (fun C => snd_var rfl rfl rfl) (fun C => .one (sndT_cmp (snd_idx (snd_var rfl rfl rfl) (snd_var rfl rfl rfl) (fun _ _ => rfl) (fun _ _ => rfl)) snd_str _ rfl rfl)) (envL_G L) rfl G.range.1 G.range.2 rfl rfl)
    (sndS_cons (snd1_if hX (sndT_cmp (snd_var rfl rfl rfl) (snd_len (snd_var rfl rfl rfl) (envL_G L) rfl G.len.1 G.len.2 rfl) _ rfl rfl) (sndS_cons (snd1_asg G.ok (envL_ls hL) hX rfl (snd_idx (snd_var rfl rfl rfl) (snd_var rfl rfl rfl) (fun _ _ => rfl) (fun _ _ => rfl)) (plc_loc rfl) rfl) sndS_nil) (sndS_cons (snd1_asg G.ok (envL_ls hL) hX rfl (snd_bin (snd_var rfl rfl rfl) (snd_var rfl rfl rfl) _ rfl) (plc_loc rfl) rfl) sndS_nil))
    (sndS_cons (snd1_asg G.ok (envL_ls hL) hX rfl (snd_bin (snd_var rfl rfl rfl) (snd_bin snd_str (snd_var rfl rfl rfl) _ rfl) _ rfl) (plc_cell rfl rfl) rfl) sndS_nil))))))))) sndS_nil, by decide⟩
end
end Mine
end
section
open PySem PySem.W PyProof.Rows PySem.Calls
set_option Elab.async false
set_option maxRecDepth 100000
namespace Mine
noncomputable def gRows : Sv := sIf (tCmp .ne (eLen (eVar 16)) (eVar 15)) gRetF sNil
noncomputable def gAhead : Sv := sAsg 17 (eBin .mul (eDisp [.s ""]) (eVar 15))
noncomputable def gPlaces : Sv := sAsg 18 (eDisp [])
noncomputable def gLess : Sv := sAsg 19 (eComp 25 [2, 16] (eVar 16) (eCall2 ltV (eVar 25) (eIdx (eVar 16) (eVar 2))) noT)
noncomputable def gMore : Sv := sAsg 20 (eComp 25 [2, 16] (eVar 16) (eCall2 gtV (eVar 25) (eIdx (eVar 16) (eVar 2))) noT)
noncomputable def gAsk3 : Sv := sIf (tCmp .ne (eComp 27 [] (eBin .add (eVar 19) (eVar 20)) (eVar 27) (tNotB 27)) (eDisp [])) gRetF sNil
noncomputable def gBelow : Sv := sAsg 21 (eCall2 cntV (eVar 19) (eLit (.b true)))
noncomputable def gLike : Sv := sAsg 22 (eCountZ 16 (eVar 2))
noncomputable def gAsk4 : Sv := sIf (tCmp .ne (eBin .add (eBin .add (eVar 21) (eVar 22)) (eCall2 cntV (eVar 20) (eLit (.b true)))) (eVar 15)) gRetF sNil
noncomputable def gApp : Sv := sApp 18 (eVar 21)
noncomputable def gStep : Sv := sFor 23 (eVar 22) (sSeq (sSetItem 17 (eBin .add (eVar 21) (eVar 23)) (eCall2 idxV (eIdx (eVar 16) (eBin .fmod (eBin .add (eVar 2) (eLit (.i 1))) (eVar 15))) (eLit (.i 1)))) sNil)
noncomputable def gRank : Sv := sSeq gLess (sSeq gMore (sSeq gAsk3 (sSeq gBelow (sSeq gLike (sSeq gAsk4 (sSeq gApp (sSeq gStep sNil)))))))
noncomputable def gRanks : Sv := sFor 2 (eVar 15) gRank
noncomputable def gAsk5 : Sv := sIf (tCmp .ne (eIdx (eVar 18) (eLit (.i 0))) (eVar 6)) gRetF sNil
noncomputable def gLast : Sv := sRet (eCmp .eq (eJoin (eLit (.s "")) (eVar 17)) (eVar 5))
/-- behind the page's rows -/
noncomputable def gEndS : Sv := sSeq gRows (sSeq gAhead (sSeq gPlaces (sSeq gRanks (sSeq gAsk5 (sSeq gLast sNil)))))

section
variable {tp : Tp} {w : World} {X : Shared → Prop} {fq : V → Option V} {L : Addr}
theorem st_less (G : LawG w tp fq) (hL : tp.H.objs.size ≤ L) (hX : XOk tp X) : Snd1 pw w nmL tp X (lB 16 0) (envL L) [19] gLess :=
  snd1_asgC G.ok (envL_ls hL) hX ⟨rfl, by decide, rfl, by decide, rfl, fun _ => rfl, fun y hy C => by rcases List.mem_cons.mp hy with rfl | hy; exact ⟨rfl, rfl, rfl⟩; rcases List.mem_singleton.mp hy with rfl; exact ⟨rfl, rfl, rfl⟩⟩ rfl rfl rfl (snd_var rfl rfl rfl)
    (fun C => snd_call2 G.lt (snd_var rfl rfl rfl) (snd_idx (snd_var rfl rfl rfl) (snd_var rfl rfl rfl) (fun _ _ => rfl) (fun _ _ => rfl)) ⟨rfl, rfl, rfl⟩ rfl rfl rfl rfl) (fun C => .nil) rfl (fun _ => rfl)
theorem st_more (G : LawG w tp fq) (hL : tp.H.objs.size ≤ L) (hX : XOk tp X) : Snd1 pw w nmL tp X (lB 16 1) (envL L) [20] gMore :=
  snd1_asgC G.ok (envL_ls hL) hX ⟨rfl, by decide, rfl, by decide, rfl, fun _ => rfl, fun y hy C => by rcases List.mem_cons.mp hy with rfl | hy; exact ⟨rfl, rfl, rfl⟩; rcases List.mem_singleton.mp hy with rfl; exact ⟨rfl, rfl, rfl⟩⟩ rfl rfl rfl (snd_var rfl rfl rfl)
    (fun C => snd_call2 G.gt (snd_var rfl rfl rfl) (snd_idx (snd_var rfl rfl rfl) (snd_var rfl rfl rfl) (fun _ _ => rfl) (fun _ _ => rfl)) ⟨rfl, rfl, rfl⟩ rfl rfl rfl rfl) (fun C => .nil) rfl (fun _ => rfl)
theorem st_ask3 (hX : XOk tp X) : Snd1 pw w nmL tp X (lB 16 2) (envL L) (([] ++ []) ++ []) gAsk3 :=
  snd1_if hX (sndT_cmp (snd_comp ⟨rfl, by decide, rfl, by decide, rfl, fun _ => rfl, fun y hy C => (List.not_mem_nil hy).elim⟩ rfl (snd_bin (snd_var rfl rfl rfl) (snd_var rfl rfl rfl) _ rfl) (fun C => snd_var rfl rfl rfl) (fun C => .one (sndT_notB rfl rfl rfl)) (fun _ => rfl)) (snd_disp .nil) _ rfl rfl) (st_retF hX) sndS_nil
theorem st_below (G : LawG w tp fq) (hL : tp.H.objs.size ≤ L) (hX : XOk tp X) : Snd1 pw w nmL tp X (lB 16 3) (envL L) [21] gBelow :=
  snd1_asg G.ok (envL_ls hL) hX rfl (snd_call2 (fs_count G.count) (snd_var rfl rfl rfl) snd_bool (envL_G L) rfl rfl rfl rfl) (plc_loc rfl) rfl
theorem st_like (G : LawG w tp fq) (hL : tp.H.objs.size ≤ L) (hX : XOk tp X) : Snd1 pw w nmL tp X (lB 16 4) (envL L) [22] gLike :=
  snd1_asg G.ok (envL_ls hL) hX rfl (snd_countz G.count rfl rfl (snd_var rfl rfl rfl) (envL_G L) rfl rfl rfl (fun _ _ => rfl) (fun _ _ => rfl)) (plc_loc rfl) rfl
theorem st_ask4 (G : LawG w tp fq) (hX : XOk tp X) : Snd1 pw w nmL tp X (lB 16 5) (envL L) (([] ++ []) ++ []) gAsk4 :=
  snd1_if hX (sndT_cmp (snd_bin (snd_bin (snd_var rfl rfl rfl) (snd_var rfl rfl rfl) _ rfl) (snd_call2 (fs_count G.count) (snd_var rfl rfl rfl) snd_bool (envL_G L) rfl rfl rfl rfl) _ rfl) (snd_var rfl rfl rfl) _ rfl rfl) (st_retF hX) sndS_nil
theorem st_app (G : LawG w tp fq) (hL : tp.H.objs.size ≤ L) (hX : XOk tp X) : Snd1 pw w nmL tp X (lB 16 6) (envL L) [18] gApp :=
  snd1_app G.ok (envL_ls hL) hX rfl rfl (snd_var rfl rfl rfl) rfl rfl rfl rfl rfl rfl
theorem st_step (G : LawG w tp fq) (hL : tp.H.objs.size ≤ L) (hX : XOk tp X) : Snd1 pw w nmL tp X (lB 16 7) (envL L) (23 :: ([17] ++ [])) gStep := by
  obtain ⟨q1, q2, q3, p1, p2, p3, p4, p5, F⟩ := G.setitem
  exact snd1_for G.ok (envL_ls hL) hX rfl (plc_loc rfl) (snd_var rfl rfl rfl) (envL_G L) rfl G.range.1 G.range.2 rfl
    (sndS_cons (snd1_setitem G.ok (envL_ls hL) hX F rfl rfl (snd_bin (snd_var rfl rfl rfl) (snd_var rfl rfl rfl) _ rfl) (snd_call2 G.getitem (snd_idx (snd_var rfl rfl rfl) (snd_bin (snd_bin (snd_var rfl rfl rfl) snd_int _ rfl) (snd_var rfl rfl rfl) _ rfl) (fun _ _ => rfl) (fun _ _ => rfl)) snd_int (envL_G L) rfl rfl rfl rfl) (envL_G L) rfl rfl rfl rfl rfl rfl) sndS_nil)
theorem st_ranks (G : LawG w tp fq) (hL : tp.H.objs.size ≤ L) (hX : XOk tp X) : ∃ as, Snd1 pw w nmL tp X (lS 16) (envL L) as gRanks :=
  ⟨_, snd1_for (body := [lB 16 0, lB 16 1, lB 16 2, lB 16 3, lB 16 4, lB 16 5, lB 16 6, lB 16 7]) G.ok (envL_ls hL) hX rfl (plc_cell rfl rfl) (snd_var rfl rfl rfl) (envL_G L) rfl G.range.1 G.range.2 rfl
    (sndS_cons (st_less G hL hX) (sndS_cons (st_more G hL hX) (sndS_cons (st_ask3 hX) (sndS_cons (st_below G hL hX) (sndS_cons (st_like G hL hX) (sndS_cons (st_ask4 G hX) (sndS_cons (st_app G hL hX) (sndS_cons (st_step G hL hX) sndS_nil))))))))⟩
theorem st_end (G : LawG w tp fq) (hL : tp.H.objs.size ≤ L) (hX : XOk tp X) : ∃ as, SndS pw w nmL tp X [lS 13, lS 14, lS 15, lS 16, lS 17, lS 18] (envL L) as gEndS := by
  obtain ⟨as, h⟩ := st_ranks (w := w) (X := X) G hL hX
  exact ⟨_, sndS_cons (snd1_if hX (sndT_cmp (snd_len (snd_var rfl rfl rfl) (envL_G L) rfl G.len.1 G.len.2 rfl) (snd_var rfl rfl rfl) _ rfl rfl) (st_retF hX) sndS_nil)
    (sndS_cons (snd1_asg G.ok (envL_ls hL) hX rfl (snd_bin (snd_disp (.cons .nil)) (snd_var rfl rfl rfl) _ rfl) (plc_loc rfl) rfl)
    (sndS_cons (snd1_asg G.ok (envL_ls hL) hX rfl (snd_disp .nil) (plc_loc rfl) rfl)
    (sndS_cons h
    (sndS_cons (snd1_if hX (sndT_cmp (snd_idx (snd_var rfl rfl rfl) snd_int (fun _ _ => rfl) (fun _ _ => rfl)) (snd_var rfl rfl rfl) _ rfl rfl) (st_retF hX) sndS_nil)
    (sndS_cons (snd1_ret hX (snd_cmp (snd_join snd_str (snd_var rfl rfl rfl) ⟨rfl, rfl, rfl⟩ rfl) (snd_var rfl rfl rfl) _ rfl rfl)) sndS_nil)))))⟩
end
end Mine
end
section
open PySem PySem.W PyProof.Rows PySem.Calls
set_option Elab.async false
set_option maxRecDepth 100000
namespace Mine
structure S4 where
  ring : Str
  col : Str
  place : Int
  same : Int
/-- the state is one of the list -/
noncomputable def eq4 (a b : S4) : Bool := a.ring == b.ring && a.col == b.col && a.place == b.place && a.same == b.same
noncomputable def memS (S : List S4) (s : S4) : Bool := S.any fun t => eq4 t s
theorem memS_mem {S : List S4} {s : S4} (h : memS S s = true) : s ∈ S := by
  obtain ⟨t, ht, e⟩ := List.any_eq_true.mp h
  unfold eq4 at e
  simp only [Bool.and_eq_true, beq_iff_eq] at e
  obtain ⟨⟨⟨e1, e2⟩, e3⟩, e4⟩ := e
  cases t; cases s
  simp only at e1 e2 e3 e4
  subst e1 e2 e3 e4
  exact ht
noncomputable def tx (l : List Nat) : Str := ⟨l.toArray⟩
noncomputable def s4 (r c : List Nat) (p m : Int) : S4 := ⟨tx r, tx c, p, m⟩
noncomputable def rhoC (s : S4) : List (Nat × V) := [(3, .u (.s s.ring)), (5, .u (.s s.col)), (6, .u (.i s.place)), (7, .u (.i s.same))]
noncomputable def stOf (ρ : List (Nat × V)) : Option S4 := match look ρ 3, look ρ 5, look ρ 6, look ρ 7 with
  | some (.u (.s r)), some (.u (.s c)), some (.u (.i p)), some (.u (.i m)) => some ⟨r, c, p, m⟩
  | _, _, _, _ => none
/-- every end of a row is a return and a feed; p: a return stands ahead -/
noncomputable def crlf : Bool → List Nat → List Nat
  | _, [] => []
  | p, c :: r => if c == 13 then 13 :: 10 :: crlf true r else if c == 10 then (if p then crlf false r else 13 :: 10 :: crlf false r) else c :: crlf false r
/-- a row's dot is doubled -/
noncomputable def dbl : Bool → List Nat → List Nat
  | _, [] => []
  | b, c :: r => if b && c == 46 then 46 :: 46 :: dbl false r else c :: dbl (c == 10) r
noncomputable def qnV : V → Option V
  | .u (.s x) => if decide (x.cps.size ≤ 40) then gd (.u (.s ⟨(dbl true (crlf false x.cps.toList)).toArray⟩)) else none
  | _ => none
noncomputable def stepC (s : S4) (d : Int) : Option S4 := match gRest qnV ((8, .u (.i d)) :: rhoC s) with
  | some (ρ, none) => stOf ρ
  | _ => none
noncomputable def okTo (S : List S4) (s : S4) : Bool := (List.range 6).all fun d => match stepC s (d : Int) with
  | some s' => memS S s'
  | none => false
noncomputable def S0p0 : List S4 := [s4 [46,46,46,46,46] [46,46,46,46,46] 0 5,
  s4 [46,46,46,46,120] [120,46,46,46,46] 0 1,
  s4 [46,46,46,120,46] [120,46,46,46,46] 1 1,
  s4 [46,46,46,120,120] [120,46,46,120,46] 0 1,
  s4 [46,46,120,46,46] [120,46,46,46,46] 2 1,
  s4 [46,46,120,46,120] [120,120,46,46,46] 0 1,
  s4 [46,46,120,120,46] [120,46,46,120,46] 1 1,
  s4 [46,46,120,120,120] [120,46,120,120,46] 0 1]
noncomputable def S0p1 : List S4 := [s4 [46,120,46,46,46] [120,46,46,46,46] 3 1,
  s4 [46,120,46,46,120] [120,120,46,46,46] 1 1,
  s4 [46,120,46,120,46] [120,120,46,46,46] 2 1,
  s4 [46,120,46,120,120] [120,120,120,46,46] 0 1,
  s4 [46,120,120,46,46] [120,46,46,120,46] 2 1,
  s4 [46,120,120,46,120] [120,120,120,46,46] 1 1,
  s4 [46,120,120,120,46] [120,46,120,120,46] 1 1,
  s4 [46,120,120,120,120] [120,120,120,120,46] 0 1]
noncomputable def S0p2 : List S4 := [s4 [120,46,46,46,46] [120,46,46,46,46] 4 1,
  s4 [120,46,46,46,120] [120,46,46,120,46] 3 1,
  s4 [120,46,46,120,46] [120,120,46,46,46] 3 1,
  s4 [120,46,46,120,120] [120,46,120,120,46] 2 1,
  s4 [120,46,120,46,46] [120,120,46,46,46] 4 1,
  s4 [120,46,120,46,120] [120,120,120,46,46] 2 1,
  s4 [120,46,120,120,46] [120,120,120,46,46] 3 1,
  s4 [120,46,120,120,120] [120,120,120,120,46] 1 1]
noncomputable def S0p3 : List S4 := [s4 [120,120,46,46,46] [120,46,46,120,46] 4 1,
  s4 [120,120,46,46,120] [120,46,120,120,46] 3 1,
  s4 [120,120,46,120,46] [120,120,120,46,46] 4 1,
  s4 [120,120,46,120,120] [120,120,120,120,46] 2 1,
  s4 [120,120,120,46,46] [120,46,120,120,46] 4 1,
  s4 [120,120,120,46,120] [120,120,120,120,46] 3 1,
  s4 [120,120,120,120,46] [120,120,120,120,46] 4 1,
  s4 [120,120,120,120,120] [120,120,120,120,120] 0 5]
noncomputable def S0 : List S4 := S0p0 ++ S0p1 ++ S0p2 ++ S0p3
noncomputable def S1p0 : List S4 := [s4 [46,46,46,46,46] [46,46,46,46,46] 0 5,
  s4 [46,46,46,46,120,46] [120,46,46,46,46,46] 1 1,
  s4 [46,46,46,120,46,46] [120,46,46,46,46,46] 2 1,
  s4 [46,46,46,120,46,120,46] [120,46,46,120,46,46,46] 1 1,
  s4 [46,46,120,46,46,46] [120,46,46,46,46,46] 3 1,
  s4 [46,46,120,46,46,120,46] [120,120,46,46,46,46,46] 2 1,
  s4 [46,46,120,46,120,46,46] [120,46,46,120,46,46,46] 2 1,
  s4 [46,46,120,46,120,46,120,46] [120,46,120,120,46,46,46,46] 1 1]
noncomputable def S1p1 : List S4 := [s4 [46,120,46,46,46,46] [120,46,46,46,46,46] 4 1,
  s4 [46,120,46,46,46,120,46] [120,120,46,46,46,46,46] 3 1,
  s4 [46,120,46,46,120,46,46] [120,120,46,46,46,46,46] 4 1,
  s4 [46,120,46,46,120,46,120,46] [120,120,120,46,46,46,46,46] 3 1,
  s4 [46,120,46,120,46,46,46] [120,46,46,120,46,46,46] 4 1,
  s4 [46,120,46,120,46,46,120,46] [120,120,120,46,46,46,46,46] 4 1,
  s4 [46,120,46,120,46,120,46,46] [120,46,120,120,46,46,46,46] 4 1,
  s4 [46,120,46,120,46,120,46,120,46] [120,120,120,120,46,46,46,46,46] 4 1]
noncomputable def S1p2 : List S4 := [s4 [120,46,46,46,46,46] [120,46,46,46,46,46] 5 1,
  s4 [120,46,46,46,46,120,46] [120,46,46,120,46,46,46] 5 1,
  s4 [120,46,46,46,120,46,46] [120,120,46,46,46,46,46] 5 1,
  s4 [120,46,46,46,120,46,120,46] [120,46,120,120,46,46,46,46] 5 1,
  s4 [120,46,46,120,46,46,46] [120,120,46,46,46,46,46] 6 1,
  s4 [120,46,46,120,46,46,120,46] [120,120,120,46,46,46,46,46] 5 1,
  s4 [120,46,46,120,46,120,46,46] [120,120,120,46,46,46,46,46] 6 1,
  s4 [120,46,46,120,46,120,46,120,46] [120,120,120,120,46,46,46,46,46] 5 1]
noncomputable def S1p3 : List S4 := [s4 [120,46,120,46,46,46,46] [120,46,46,120,46,46,46] 6 1,
  s4 [120,46,120,46,46,46,120,46] [120,46,120,120,46,46,46,46] 6 1,
  s4 [120,46,120,46,46,120,46,46] [120,120,120,46,46,46,46,46] 7 1,
  s4 [120,46,120,46,46,120,46,120,46] [120,120,120,120,46,46,46,46,46] 6 1,
  s4 [120,46,120,46,120,46,46,46] [120,46,120,120,46,46,46,46] 7 1,
  s4 [120,46,120,46,120,46,46,120,46] [120,120,120,120,46,46,46,46,46] 7 1,
  s4 [120,46,120,46,120,46,120,46,46] [120,120,120,120,46,46,46,46,46] 8 1,
  s4 [120,46,120,46,120,46,120,46,120,46] [120,120,120,120,120,46,46,46,46,46] 5 5]
noncomputable def S1 : List S4 := S1p0 ++ S1p1 ++ S1p2 ++ S1p3
noncomputable def S2p0 : List S4 := [s4 [46,46,46,46,46] [46,46,46,46,46] 0 5,
  s4 [46,46,46,46,120,46,46] [120,46,46,46,46,46,46] 2 1,
  s4 [46,46,46,120,46,46,46] [120,46,46,46,46,46,46] 3 1,
  s4 [46,46,46,120,46,46,120,46,46] [120,46,46,120,46,46,46,46,46] 2 1,
  s4 [46,46,120,46,46,46,46] [120,46,46,46,46,46,46] 4 1,
  s4 [46,46,120,46,46,46,120,46,46] [120,120,46,46,46,46,46,46,46] 4 1,
  s4 [46,46,120,46,46,120,46,46,46] [120,46,46,120,46,46,46,46,46] 4 1,
  s4 [46,46,120,46,120,46,120,46] [120,46,120,120,46,46,46,46] 1 1]
noncomputable def S2p1 : List S4 := [s4 [46,120,46,46,46,46,46] [120,46,46,46,46,46,46] 5 1,
  s4 [46,120,46,46,46,46,120,46,46] [120,120,46,46,46,46,46,46,46] 5 1,
  s4 [46,120,46,46,46,120,46,46,46] [120,120,46,46,46,46,46,46,46] 6 1,
  s4 [46,120,46,46,120,46,46,46,46] [120,46,46,120,46,46,46,46,46] 6 1,
  s4 [46,120,46,46,120,46,120,46] [120,120,120,46,46,46,46,46] 3 1,
  s4 [46,120,46,120,46,46,120,46] [120,120,120,46,46,46,46,46] 4 1,
  s4 [46,120,46,120,46,120,46,46] [120,46,120,120,46,46,46,46] 4 1,
  s4 [46,120,46,120,46,120,46,120,46] [120,120,120,120,46,46,46,46,46] 4 1]
noncomputable def S2p2 : List S4 := [s4 [46,120,46,120,46,120,46,120,46,120] [120,120,120,120,120,46,46,46,46,46] 0 5,
  s4 [46,120,46,120,46,120,46,120,120] [120,120,120,120,120,46,46,46,46] 0 1,
  s4 [46,120,46,120,46,120,120,46,120] [120,120,120,120,120,46,46,46,46] 1 1,
  s4 [46,120,46,120,46,120,120,120] [120,120,120,120,46,46,120,46] 0 1,
  s4 [46,120,46,120,120,46,120,46,120] [120,120,120,120,120,46,46,46,46] 2 1,
  s4 [46,120,46,120,120,46,120,120] [120,120,120,120,120,46,46,46] 0 1,
  s4 [46,120,46,120,120,120,46,120] [120,120,120,120,46,46,120,46] 1 1,
  s4 [46,120,46,120,120,120,120] [120,120,120,46,120,120,46] 0 1]
noncomputable def S2p3 : List S4 := [s4 [46,120,120,46,120,46,120,46,120] [120,120,120,120,120,46,46,46,46] 3 1,
  s4 [46,120,120,46,120,46,120,120] [120,120,120,120,120,46,46,46] 1 1,
  s4 [46,120,120,46,120,120,46,120] [120,120,120,120,120,46,46,46] 2 1,
  s4 [46,120,120,46,120,120,120] [120,120,120,120,120,46,46] 0 1,
  s4 [46,120,120,120,46,120,46,120] [120,120,120,120,46,46,120,46] 2 1,
  s4 [46,120,120,120,46,120,120] [120,120,120,120,120,46,46] 1 1,
  s4 [46,120,120,120,120,46,120] [120,120,120,46,120,120,46] 1 1,
  s4 [46,120,120,120,120,120] [120,120,120,120,120,46] 0 1]
noncomputable def S2p4 : List S4 := [s4 [120,46,46,46,46,46,46] [120,46,46,46,46,46,46] 6 1,
  s4 [120,46,46,46,46,46,120,46,46] [120,46,46,120,46,46,46,46,46] 7 1,
  s4 [120,46,46,46,46,120,46,46,46] [120,120,46,46,46,46,46,46,46] 7 1,
  s4 [120,46,46,46,120,46,46,46,46] [120,120,46,46,46,46,46,46,46] 8 1,
  s4 [120,46,46,46,120,46,120,46] [120,46,120,120,46,46,46,46] 5 1,
  s4 [120,46,46,120,46,46,46,46,46] [120,46,46,120,46,46,46,46,46] 8 1,
  s4 [120,46,46,120,46,46,120,46] [120,120,120,46,46,46,46,46] 5 1,
  s4 [120,46,46,120,46,120,46,46] [120,120,120,46,46,46,46,46] 6 1]
noncomputable def S2p5 : List S4 := [s4 [120,46,46,120,46,120,46,120,46] [120,120,120,120,46,46,46,46,46] 5 1,
  s4 [120,46,120,46,46,46,120,46] [120,46,120,120,46,46,46,46] 6 1,
  s4 [120,46,120,46,46,120,46,46] [120,120,120,46,46,46,46,46] 7 1,
  s4 [120,46,120,46,46,120,46,120,46] [120,120,120,120,46,46,46,46,46] 6 1,
  s4 [120,46,120,46,120,46,46,46] [120,46,120,120,46,46,46,46] 7 1,
  s4 [120,46,120,46,120,46,46,120,46] [120,120,120,120,46,46,46,46,46] 7 1,
  s4 [120,46,120,46,120,46,120,46,46] [120,120,120,120,46,46,46,46,46] 8 1,
  s4 [120,46,120,46,120,46,120,46,120] [120,120,120,120,120,46,46,46,46] 4 1]
noncomputable def S2p6 : List S4 := [s4 [120,46,120,46,120,46,120,46,120,46] [120,120,120,120,120,46,46,46,46,46] 5 5,
  s4 [120,46,120,46,120,46,120,120] [120,120,120,120,46,46,120,46] 3 1,
  s4 [120,46,120,46,120,120,46,120] [120,120,120,120,120,46,46,46] 3 1,
  s4 [120,46,120,46,120,120,120] [120,120,120,46,120,120,46] 2 1,
  s4 [120,46,120,120,46,120,46,120] [120,120,120,120,120,46,46,46] 4 1,
  s4 [120,46,120,120,46,120,120] [120,120,120,120,120,46,46] 2 1,
  s4 [120,46,120,120,120,46,120] [120,120,120,120,120,46,46] 3 1,
  s4 [120,46,120,120,120,120] [120,120,120,120,120,46] 1 1]
noncomputable def S2p7 : List S4 := [s4 [120,120,46,120,46,120,46,120] [120,120,120,120,46,46,120,46] 6 1,
  s4 [120,120,46,120,46,120,120] [120,120,120,46,120,120,46] 4 1,
  s4 [120,120,46,120,120,46,120] [120,120,120,120,120,46,46] 4 1,
  s4 [120,120,46,120,120,120] [120,120,120,120,120,46] 2 1,
  s4 [120,120,120,46,120,46,120] [120,120,120,46,120,120,46] 5 1,
  s4 [120,120,120,46,120,120] [120,120,120,120,120,46] 3 1,
  s4 [120,120,120,120,46,120] [120,120,120,120,120,46] 4 1]
noncomputable def S2 : List S4 := S2p0 ++ S2p1 ++ S2p2 ++ S2p3 ++ S2p4 ++ S2p5 ++ S2p6 ++ S2p7
noncomputable def S3p0 : List S4 := [s4 [46,46,46,46,46] [46,46,46,46,46] 0 5,
  s4 [46,46,46,46,120,46,46] [120,46,46,46,46,46,46] 2 1,
  s4 [46,46,46,46,120,46,46,46] [120,46,46,46,46,46,46,46] 3 1,
  s4 [46,46,46,120,46,46,46] [120,46,46,46,46,46,46] 3 1,
  s4 [46,46,46,120,46,46,46,46] [120,46,46,46,46,46,46,46] 4 1,
  s4 [46,46,46,120,46,46,120,46,46] [120,46,46,120,46,46,46,46,46] 2 1,
  s4 [46,46,120,46,46,46,46] [120,46,46,46,46,46,46] 4 1,
  s4 [46,46,120,46,46,46,46,46] [120,46,46,46,46,46,46,46] 5 1]
noncomputable def S3p1 : List S4 := [s4 [46,46,120,46,46,46,120,46,46] [120,120,46,46,46,46,46,46,46] 4 1,
  s4 [46,46,120,46,46,120,46,46,46] [120,46,46,120,46,46,46,46,46] 4 1,
  s4 [46,46,120,46,120,46,120,46] [120,46,120,120,46,46,46,46] 1 1,
  s4 [46,120,46,46,46,46,46] [120,46,46,46,46,46,46] 5 1,
  s4 [46,120,46,46,46,46,46,46] [120,46,46,46,46,46,46,46] 6 1,
  s4 [46,120,46,46,46,46,120,46,46] [120,120,46,46,46,46,46,46,46] 5 1,
  s4 [46,120,46,46,46,120,46,46,46] [120,120,46,46,46,46,46,46,46] 6 1,
  s4 [46,120,46,46,120,46,46,46,46] [120,46,46,120,46,46,46,46,46] 6 1]
noncomputable def S3p2 : List S4 := [s4 [46,120,46,46,120,46,120,46] [120,120,120,46,46,46,46,46] 3 1,
  s4 [46,120,46,120,46,46,120,46] [120,120,120,46,46,46,46,46] 4 1,
  s4 [46,120,46,120,46,120,46,46] [120,46,120,120,46,46,46,46] 4 1,
  s4 [46,120,46,120,46,120,46,120,46] [120,120,120,120,46,46,46,46,46] 4 1,
  s4 [46,120,46,120,46,120,46,120,46,120] [120,120,120,120,120,46,46,46,46,46] 0 5,
  s4 [46,120,46,120,46,120,46,120,120] [120,120,120,120,120,46,46,46,46] 0 1,
  s4 [46,120,46,120,46,120,120,46,120] [120,120,120,120,120,46,46,46,46] 1 1,
  s4 [46,120,46,120,46,120,120,120] [120,120,120,120,46,46,120,46] 0 1]
noncomputable def S3p3 : List S4 := [s4 [46,120,46,120,120,46,120,46,120] [120,120,120,120,120,46,46,46,46] 2 1,
  s4 [46,120,46,120,120,46,120,120] [120,120,120,120,120,46,46,46] 0 1,
  s4 [46,120,46,120,120,120,46,120] [120,120,120,120,46,46,120,46] 1 1,
  s4 [46,120,46,120,120,120,120] [120,120,120,46,120,120,46] 0 1,
  s4 [46,120,120,46,120,46,120,46,120] [120,120,120,120,120,46,46,46,46] 3 1,
  s4 [46,120,120,46,120,46,120,120] [120,120,120,120,120,46,46,46] 1 1,
  s4 [46,120,120,46,120,120,46,120] [120,120,120,120,120,46,46,46] 2 1,
  s4 [46,120,120,46,120,120,120] [120,120,120,120,120,46,46] 0 1]
noncomputable def S3p4 : List S4 := [s4 [46,120,120,46,120,120,120,120,120] [120,120,120,120,120,46,120,120,46] 0 1,
  s4 [46,120,120,120,46,120,46,120] [120,120,120,120,46,46,120,46] 2 1,
  s4 [46,120,120,120,46,120,120] [120,120,120,120,120,46,46] 1 1,
  s4 [46,120,120,120,46,120,120,120,120] [120,120,120,120,120,120,120,46,46] 0 1,
  s4 [46,120,120,120,120,46,120] [120,120,120,46,120,120,46] 1 1,
  s4 [46,120,120,120,120,46,120,120,120] [120,120,120,120,120,120,120,46,46] 1 1,
  s4 [46,120,120,120,120,120] [120,120,120,120,120,46] 0 1,
  s4 [46,120,120,120,120,120,46,120,120] [120,120,120,120,120,46,120,120,46] 1 1]
noncomputable def S3p5 : List S4 := [s4 [46,120,120,120,120,120,120] [120,120,120,120,120,120,46] 0 1,
  s4 [120,46,46,46,46,46,46] [120,46,46,46,46,46,46] 6 1,
  s4 [120,46,46,46,46,46,46,46] [120,46,46,46,46,46,46,46] 7 1,
  s4 [120,46,46,46,46,46,120,46,46] [120,46,46,120,46,46,46,46,46] 7 1,
  s4 [120,46,46,46,46,120,46,46,46] [120,120,46,46,46,46,46,46,46] 7 1,
  s4 [120,46,46,46,120,46,46,46,46] [120,120,46,46,46,46,46,46,46] 8 1,
  s4 [120,46,46,46,120,46,120,46] [120,46,120,120,46,46,46,46] 5 1,
  s4 [120,46,46,120,46,46,46,46,46] [120,46,46,120,46,46,46,46,46] 8 1]
noncomputable def S3p6 : List S4 := [s4 [120,46,46,120,46,46,120,46] [120,120,120,46,46,46,46,46] 5 1,
  s4 [120,46,46,120,46,120,46,46] [120,120,120,46,46,46,46,46] 6 1,
  s4 [120,46,46,120,46,120,46,120,46] [120,120,120,120,46,46,46,46,46] 5 1,
  s4 [120,46,120,46,46,46,120,46] [120,46,120,120,46,46,46,46] 6 1,
  s4 [120,46,120,46,46,120,46,46] [120,120,120,46,46,46,46,46] 7 1,
  s4 [120,46,120,46,46,120,46,120,46] [120,120,120,120,46,46,46,46,46] 6 1,
  s4 [120,46,120,46,120,46,46,46] [120,46,120,120,46,46,46,46] 7 1,
  s4 [120,46,120,46,120,46,46,120,46] [120,120,120,120,46,46,46,46,46] 7 1]
noncomputable def S3p7 : List S4 := [s4 [120,46,120,46,120,46,120,46,46] [120,120,120,120,46,46,46,46,46] 8 1,
  s4 [120,46,120,46,120,46,120,46,120] [120,120,120,120,120,46,46,46,46] 4 1,
  s4 [120,46,120,46,120,46,120,46,120,46] [120,120,120,120,120,46,46,46,46,46] 5 5,
  s4 [120,46,120,46,120,46,120,120] [120,120,120,120,46,46,120,46] 3 1,
  s4 [120,46,120,46,120,120,46,120] [120,120,120,120,120,46,46,46] 3 1,
  s4 [120,46,120,46,120,120,120] [120,120,120,46,120,120,46] 2 1,
  s4 [120,46,120,120,46,120,46,120] [120,120,120,120,120,46,46,46] 4 1,
  s4 [120,46,120,120,46,120,120] [120,120,120,120,120,46,46] 2 1]
noncomputable def S3p8 : List S4 := [s4 [120,46,120,120,46,120,120,120,120] [120,120,120,120,120,46,120,120,46] 2 1,
  s4 [120,46,120,120,120,46,120] [120,120,120,120,120,46,46] 3 1,
  s4 [120,46,120,120,120,46,120,120,120] [120,120,120,120,120,120,120,46,46] 2 1,
  s4 [120,46,120,120,120,120] [120,120,120,120,120,46] 1 1,
  s4 [120,46,120,120,120,120,46,120,120] [120,120,120,120,120,120,120,46,46] 3 1,
  s4 [120,46,120,120,120,120,120] [120,120,120,120,120,120,46] 1 1,
  s4 [120,120,46,120,46,120,46,120] [120,120,120,120,46,46,120,46] 6 1,
  s4 [120,120,46,120,46,120,120] [120,120,120,46,120,120,46] 4 1]
noncomputable def S3p9 : List S4 := [s4 [120,120,46,120,120,46,120] [120,120,120,120,120,46,46] 4 1,
  s4 [120,120,46,120,120,46,120,120,120] [120,120,120,120,120,46,120,120,46] 4 1,
  s4 [120,120,46,120,120,120] [120,120,120,120,120,46] 2 1,
  s4 [120,120,46,120,120,120,46,120,120] [120,120,120,120,120,120,120,46,46] 4 1,
  s4 [120,120,46,120,120,120,120] [120,120,120,120,120,120,46] 2 1,
  s4 [120,120,120,46,120,46,120] [120,120,120,46,120,120,46] 5 1,
  s4 [120,120,120,46,120,120] [120,120,120,120,120,46] 3 1,
  s4 [120,120,120,46,120,120,46,120,120] [120,120,120,120,120,46,120,120,46] 6 1]
noncomputable def S3p10 : List S4 := [s4 [120,120,120,46,120,120,120] [120,120,120,120,120,120,46] 3 1,
  s4 [120,120,120,120,46,120] [120,120,120,120,120,46] 4 1,
  s4 [120,120,120,120,46,120,120] [120,120,120,120,120,120,46] 4 1]
noncomputable def S3 : List S4 := S3p0 ++ S3p1 ++ S3p2 ++ S3p3 ++ S3p4 ++ S3p5 ++ S3p6 ++ S3p7 ++ S3p8 ++ S3p9 ++ S3p10
theorem tr_S0p0 : (S0p0.all (okTo S1)) = true := by decide +kernel
theorem tr_S0p1 : (S0p1.all (okTo S1)) = true := by decide +kernel
theorem tr_S0p2 : (S0p2.all (okTo S1)) = true := by decide +kernel
theorem tr_S0p3 : (S0p3.all (okTo S1)) = true := by decide +kernel
theorem tr0 : ∀ s ∈ S0, okTo S1 s = true := by
  have h : (S0.all (okTo S1)) = true := by
    unfold S0
    simp only [List.all_append, Bool.and_eq_true]
    exact ⟨⟨⟨tr_S0p0, tr_S0p1⟩, tr_S0p2⟩, tr_S0p3⟩
  exact List.all_eq_true.mp h
theorem tr_S1p0 : (S1p0.all (okTo S2)) = true := by decide +kernel
theorem tr_S1p1 : (S1p1.all (okTo S2)) = true := by decide +kernel
theorem tr_S1p2 : (S1p2.all (okTo S2)) = true := by decide +kernel
theorem tr_S1p3 : (S1p3.all (okTo S2)) = true := by decide +kernel
theorem tr1 : ∀ s ∈ S1, okTo S2 s = true := by
  have h : (S1.all (okTo S2)) = true := by
    unfold S1
    simp only [List.all_append, Bool.and_eq_true]
    exact ⟨⟨⟨tr_S1p0, tr_S1p1⟩, tr_S1p2⟩, tr_S1p3⟩
  exact List.all_eq_true.mp h
theorem tr_S2p0 : (S2p0.all (okTo S3)) = true := by decide +kernel
theorem tr_S2p1 : (S2p1.all (okTo S3)) = true := by decide +kernel
theorem tr_S2p2 : (S2p2.all (okTo S3)) = true := by decide +kernel
theorem tr_S2p3 : (S2p3.all (okTo S3)) = true := by decide +kernel
theorem tr_S2p4 : (S2p4.all (okTo S3)) = true := by decide +kernel
theorem tr_S2p5 : (S2p5.all (okTo S3)) = true := by decide +kernel
theorem tr_S2p6 : (S2p6.all (okTo S3)) = true := by decide +kernel
theorem tr_S2p7 : (S2p7.all (okTo S3)) = true := by decide +kernel
theorem tr2 : ∀ s ∈ S2, okTo S3 s = true := by
  have h : (S2.all (okTo S3)) = true := by
    unfold S2
    simp only [List.all_append, Bool.and_eq_true]
    exact ⟨⟨⟨⟨⟨⟨⟨tr_S2p0, tr_S2p1⟩, tr_S2p2⟩, tr_S2p3⟩, tr_S2p4⟩, tr_S2p5⟩, tr_S2p6⟩, tr_S2p7⟩
  exact List.all_eq_true.mp h
end Mine
end
section
open PySem PySem.W PyProof.Rows PySem.Calls
set_option Elab.async false
set_option maxRecDepth 100000
namespace Mine
noncomputable def dotS : Str := tx [46]
noncomputable def exS : Str := tx [120]
noncomputable def twoS (x : Str) : Bool := x == dotS || x == exS
/-- the sign that the page is given -/
noncomputable def eCh : Ev := eIdx (eVar 3) (eBin .fmod (eVar 2) (eVar 15))
noncomputable def chAt (ring : Str) (size : Int) (k : Nat) : Option Str := match eCh [(2, .u (.i k)), (3, .u (.s ring)), (15, .u (.i size))] with
  | some (.u (.s c)) => some c
  | _ => none
noncomputable def goPg (ring : Str) (size : Int) : Nat → Option (List Str × List Str)
  | 0 => some ([], [])
  | k + 1 => match goPg ring size k with
    | some p => match chAt ring size k with
      | some c => if twoS c && decide (p.2.length ≤ 100) && decide (p.1.length ≤ 100) then some (pushL (2 * size - 2) p c) else none
      | none => none
    | none => none
noncomputable def pgRows (p : List Str × List Str) : List Str := p.1 ++ [lineT p.2]
noncomputable def pgOk (p : List Str × List Str) : Bool := p.2.all twoS && decide (p.2.length ≤ 100) && decide (p.1.length ≤ 100) && decide (1 ≤ p.2.length) && !Txt.isspace (lineT p.2) && JoinOk (tx [47]) (pgRows p)
/-- laid out before it is handed on -/
noncomputable def layN (c : Nat) (k : Nat → Bool) : Bool := if c == 46 then k 46 else if c == 120 then k 120 else if c == 32 then k 32 else k c
noncomputable def layL : List Nat → (List Nat → Bool) → Bool
  | [], k => k []
  | c :: r, k => layL r fun r' => layN c fun c' => k (c' :: r')
noncomputable def layR : List Str → (List Str → Bool) → Bool
  | [], k => k []
  | x :: r, k => layR r fun r' => layL x.cps.toList fun l => k (tx l :: r')
theorem layN_eq (c : Nat) (k : Nat → Bool) : layN c k = k c := by
  unfold layN
  split
  · rename_i h; rw [eq_of_beq h]
  · split
    · rename_i h; rw [eq_of_beq h]
    · split
      · rename_i h; rw [eq_of_beq h]
      · rfl
theorem layL_eq : ∀ (l : List Nat) (k : List Nat → Bool), layL l k = k l
  | [], _ => rfl
  | c :: r, k => by unfold layL; rw [layL_eq r, layN_eq]
theorem tx_eq (x : Str) : tx x.cps.toList = x := by unfold tx; simp
theorem layR_eq : ∀ (l : List Str) (k : List Str → Bool), layR l k = k l
  | [], _ => rfl
  | x :: r, k => by unfold layR; rw [layR_eq r, layL_eq, tx_eq]
noncomputable def pgText (s : S4) (n : Nat) (k : List Str → Bool) : Bool := match goPg s.ring n (n * n - n) with
  | some p => pgOk p && layR (pgRows p) k
  | none => false
noncomputable def endAt (s : S4) (n : Nat) : Bool := decide (s.col.cps.size = n) && decide (s.ring.cps.size = n) && decide (2 ≤ n) && pgText s n fun rows => decide (2 ≤ rows.length) && rows.all (fun t => decide (t.cps.size ≤ 4000) && !t.cps.toList.contains 47) && decide ((rows.map fun t => t.cps.size).sum + rows.length ≤ 4000) && (match gEndS [(3, .u (.s s.ring)), (5, .u (.s s.col)), (6, .u (.i s.place)), (15, .u (.i n)), (16, .z rows)] with
  | some (_, some (.u (.b true))) => true
  | _ => false)
noncomputable def endOk (s : S4) : Bool := [5, 6, 7, 8, 9, 10].any fun n => endAt s n
end Mine
end
section
open PySem PySem.W PyProof.Rows PySem.Calls
set_option Elab.async false
set_option maxRecDepth 100000
namespace Mine
theorem cut_one {c : Nat} : ∀ {a b u v : List Nat}, c ∉ a → c ∉ b → a ++ c :: u = b ++ c :: v → a = b ∧ u = v
  | [], [], u, v, _, _, h => by simpa using h
  | [], y :: b, u, v, _, hb, h => by
    simp only [List.nil_append, List.cons_append, List.cons.injEq] at h
    exact absurd (h.1 ▸ List.mem_cons_self) hb
  | x :: a, [], u, v, ha, _, h => by
    simp only [List.nil_append, List.cons_append, List.cons.injEq] at h
    exact absurd (h.1 ▸ List.mem_cons_self) ha
  | x :: a, y :: b, u, v, ha, hb, h => by
    simp only [List.cons_append, List.cons.injEq] at h
    obtain ⟨h1, h2⟩ := cut_one (fun q => ha (.tail _ q)) (fun q => hb (.tail _ q)) h.2
    exact ⟨by rw [h.1, h1], h2⟩
theorem join_cps (x y : Str) (c : Nat) (r : List Str) : (Str.join ⟨#[c]⟩ (x :: y :: r)).cps.toList = x.cps.toList ++ c :: (Str.join ⟨#[c]⟩ (y :: r)).cps.toList := by
  show ((x.cps ++ #[c]) ++ (Str.join ⟨#[c]⟩ (y :: r)).cps).toList = _
  simp
theorem str_ext {x y : Str} (h : x.cps.toList = y.cps.toList) : x = y := by
  cases x; cases y
  exact congrArg Str.mk (Array.toList_inj.mp h)
theorem join_inj {c : Nat} : ∀ {A B : List Str}, A ≠ [] → B ≠ [] → (∀ p ∈ A, c ∉ p.cps.toList) → (∀ p ∈ B, c ∉ p.cps.toList) → (Str.join ⟨#[c]⟩ A).cps.toList = (Str.join ⟨#[c]⟩ B).cps.toList → A = B
  | [], _, h, _, _, _, _ => (h rfl).elim
  | _, [], _, h, _, _, _ => (h rfl).elim
  | [x], [y], _, _, _, _, h => by rw [str_ext (x := x) (y := y) h]
  | [x], y :: z :: r, _, _, ha, _, h => by
    rw [join_cps] at h
    exact absurd (show c ∈ x.cps.toList by rw [show x.cps.toList = _ from h]; simp) (ha x (.head _))
  | x :: z :: r, [y], _, _, _, hb, h => by
    rw [join_cps] at h
    exact absurd (show c ∈ y.cps.toList by rw [← show _ = y.cps.toList from h]; simp) (hb y (.head _))
  | x :: z :: r, y :: z' :: r', _, _, ha, hb, h => by
    rw [join_cps, join_cps] at h
    obtain ⟨h1, h2⟩ := cut_one (ha x (.head _)) (hb y (.head _)) h
    rw [str_ext h1, join_inj (A := z :: r) (B := z' :: r') (by simp) (by simp) (fun p q => ha p (.tail _ q)) (fun p q => hb p (.tail _ q)) h2]
theorem split_nonempty (x y : Str) : Txt.split x y ≠ [] := by
  unfold Txt.split
  split
  · simp
  · split
    · simp
    · rw [StrLaws.partsBetween_eq]
      obtain ⟨p, q, e⟩ := StrLaws.partsFrom_ne x y.length 0 (Builtin.Str.occurrences x y 0 x.length (x.length + 1))
      rw [e]; simp
theorem split_join {c : Nat} {rows : List Str} (h0 : rows ≠ []) (h : ∀ p ∈ rows, c ∉ p.cps.toList) : Txt.split (Txt.join ⟨#[c]⟩ rows) ⟨#[c]⟩ = rows := by
  refine join_inj (c := c) (split_nonempty _ _) h0 (StrLaws.split_free _ _) h ?_
  rw [StrLaws.join_split]
  show (Builtin.Str.glued _ _).cps.toList = _
  rw [StrLaws.glued_eq_join]
end Mine
end
section
open PySem PySem.W PyProof.Rows PySem.Calls
set_option Elab.async false
set_option maxRecDepth 100000
namespace Mine
theorem en_0 : (S3p0.all endOk) = true := by decide +kernel
theorem en_1 : (S3p1.all endOk) = true := by decide +kernel
theorem en_2 : (S3p2.all endOk) = true := by decide +kernel
theorem en_3 : (S3p3.all endOk) = true := by decide +kernel
theorem en_4 : (S3p4.all endOk) = true := by decide +kernel
theorem en_5 : (S3p5.all endOk) = true := by decide +kernel
theorem en_6 : (S3p6.all endOk) = true := by decide +kernel
theorem en_7 : (S3p7.all endOk) = true := by decide +kernel
theorem en_8 : (S3p8.all endOk) = true := by decide +kernel
theorem en_9 : (S3p9.all endOk) = true := by decide +kernel
theorem en_10 : (S3p10.all endOk) = true := by decide +kernel
theorem end_all : ∀ s ∈ S3, endOk s = true := by
  have h : (S3.all endOk) = true := by
    unfold S3
    simp only [List.all_append, Bool.and_eq_true]
    exact ⟨⟨⟨⟨⟨⟨⟨⟨⟨⟨en_0, en_1⟩, en_2⟩, en_3⟩, en_4⟩, en_5⟩, en_6⟩, en_7⟩, en_8⟩, en_9⟩, en_10⟩
  exact List.all_eq_true.mp h
end Mine
end
section
open PySem PySem.W PyProof.Rows PySem.Calls
set_option Elab.async false
set_option maxRecDepth 100000
namespace Mine
section
variable {prog : Program} {w : World} {nm : Nat → Str} {tp : Tp} {X : Shared → Prop} {env : Env}
/-- a number that a name holds is told of besides -/
theorem Lw.addInt {h : Heap} {ρ : List (Nat × V)} (W : Lw nm tp env h ρ) {x : Nat} {n : Int} {t : Tok} (hv : VarAt env h (nm x) (.int n t)) : Lw nm tp env h (upd ρ x (.u (.i n))) := by
  have up : ∀ y, y ≠ x → (look (upd ρ x (.u (.i n))) y).isSome = true → (look ρ y).isSome = true := fun y q e => by
    rw [look_upd, if_neg q] at e; exact e
  have no : ∀ a, ¬ VarAt env h (nm x) (.ref a) := fun a v => by cases VarAt.fn hv v
  refine ⟨W.bs, fun y v e => ?_, W.loc, W.cel, fun y z hyz e1 e2 a b v1 v2 => ?_, fun y a e v => ?_⟩
  · rw [look_upd] at e
    by_cases q : y = x
    · subst q
      rw [if_pos rfl] at e
      cases e
      exact ⟨.int n t, ⟨t, rfl⟩, rfl, hv⟩
    · rw [if_neg q] at e
      exact W.acc y v e
  · have q1 : y ≠ x := fun q => no a (q ▸ v1)
    have q2 : z ≠ x := fun q => no b (q ▸ v2)
    exact W.sep y z hyz (up y q1 e1) (up z q2 e2) a b v1 v2
  · have q1 : y ≠ x := fun q => no a (q ▸ v)
    exact W.new y a (up y q1 e) v
end

/-- what is known of the law's names at a state -/
noncomputable def At4 (ρ : List (Nat × V)) (st : S4) : Prop := ∀ x v, look (rhoC st) x = some v → look ρ x = some v
theorem stOf_at {ρ : List (Nat × V)} {st : S4} (h : stOf ρ = some st) : At4 ρ st := by
  unfold stOf at h
  split at h
  · rename_i r c p m e1 e2 e3 e4
    cases h
    intro x v e
    unfold rhoC at e
    simp only [look_cons] at e
    split at e
    · rename_i q; rw [← eq_of_beq q, e1, ← e]
    · split at e
      · rename_i q; rw [← eq_of_beq q, e2, ← e]
      · split at e
        · rename_i q; rw [← eq_of_beq q, e3, ← e]
        · split at e
          · rename_i q; rw [← eq_of_beq q, e4, ← e]
          · cases e
  · cases h
theorem rho_none (st : S4) {x : Nat} (h3 : x ≠ 3) (h5 : x ≠ 5) (h6 : x ≠ 6) (h7 : x ≠ 7) : look (rhoC st) x = none := by
  unfold rhoC
  rw [look_cons, if_neg (by simpa using Ne.symm h3), look_cons, if_neg (by simpa using Ne.symm h5), look_cons, if_neg (by simpa using Ne.symm h6), look_cons, if_neg (by simpa using Ne.symm h7)]
  rfl
theorem At4.upd {ρ : List (Nat × V)} {st : S4} (h : At4 ρ st) {x : Nat} {v : V} (h3 : x ≠ 3) (h5 : x ≠ 5) (h6 : x ≠ 6) (h7 : x ≠ 7) : At4 (upd ρ x v) st := fun y u e => by
  rw [look_upd]
  by_cases q : y = x
  · subst q; rw [rho_none st h3 h5 h6 h7] at e; cases e
  · rw [if_neg q]; exact h y u e

noncomputable def Sk : Nat → List S4
  | 0 => S0
  | 1 => S1
  | 2 => S2
  | _ => S3
theorem sk_step {i : Nat} (hi : i < 3) {st : S4} (h : st ∈ Sk i) {d : Int} (h0 : 0 ≤ d) (h6 : d < 6) : ∃ ρ st', gRest qnV ((8, .u (.i d)) :: rhoC st) = some (ρ, none) ∧ st' ∈ Sk (i + 1) ∧ At4 ρ st' := by
  obtain ⟨m, rfl⟩ := Int.eq_ofNat_of_zero_le h0
  have key : ∀ {S : List S4}, okTo S st = true → ∃ ρ st', gRest qnV ((8, .u (.i (m : Int))) :: rhoC st) = some (ρ, none) ∧ st' ∈ S ∧ At4 ρ st' := by
    intro S e
    unfold okTo at e
    have e2 := List.all_eq_true.mp e m (List.mem_range.mpr (Int.ofNat_lt.mp h6))
    unfold stepC at e2
    split at e2
    · rename_i s' e3
      split at e3
      · rename_i ρ e4
        exact ⟨ρ, s', e4, memS_mem e2, stOf_at e3⟩
      · cases e3
    · cases e2
  have : i = 0 ∨ i = 1 ∨ i = 2 := by omega
  rcases this with rfl | rfl | rfl
  · exact key (tr0 st h)
  · exact key (tr1 st h)
  · exact key (tr2 st h)

noncomputable def deedOf (sec : Int) (i : Nat) : Int := (sec.fdiv (6 ^ i)).fmod 6
theorem deed_lo (sec : Int) (i : Nat) : 0 ≤ deedOf sec i := Int.fmod_nonneg_of_pos _ (by decide)
theorem deed_hi (sec : Int) (i : Nat) : deedOf sec i < 6 := Int.fmod_lt_of_pos _ (by decide)
theorem deed_val {ρ : List (Nat × V)} {sec : Int} {i : Nat} (hi : i < 3) (h1 : look ρ 1 = some (.u (.i sec))) (h2 : look ρ 2 = some (.u (.i (i : Int)))) : gDeed ρ = some (upd ρ 8 (.u (.i (deedOf sec i))), none) := by
  have p1 : eBin .pow (eLit (.i 6)) (eVar 2) ρ = some (.u (.i (6 ^ i))) := by
    unfold eBin eVar
    rw [h2]
    have : i = 0 ∨ i = 1 ∨ i = 2 := by omega
    rcases this with rfl | rfl | rfl <;> rfl
  have hp : smallI ((6 : Int) ^ i) = true ∧ ((6 : Int) ^ i != 0) = true := by
    have : i = 0 ∨ i = 1 ∨ i = 2 := by omega
    rcases this with rfl | rfl | rfl <;> decide
  have p2 : eBin .fdiv (eVar 1) (eBin .pow (eLit (.i 6)) (eVar 2)) ρ = some (.u (.i (sec.fdiv (6 ^ i)))) := by
    unfold eBin at p1 ⊢
    rw [show eVar 1 ρ = some (.u (.i sec)) from h1]
    simp only [p1]
    show (if (smallI ((6 : Int) ^ i) && ((6 : Int) ^ i != 0)) = true then gd (.u (.i (sec.fdiv (6 ^ i)))) else none) = _
    rw [hp.1, hp.2]
    rfl
  have p3 : eBin .fmod (eBin .fdiv (eVar 1) (eBin .pow (eLit (.i 6)) (eVar 2))) (eLit (.i 6)) ρ = some (.u (.i (deedOf sec i))) := by
    rw [eBin, p2]
    rfl
  unfold gDeed sAsg
  rw [p3]

section
variable {tp : Tp} {w : World} {X : Shared → Prop} {L : Addr}
theorem deeds_ok (G : LawG w tp qnV) (hL : tp.H.objs.size ≤ L) (hX : XOk tp X) {A : Around} (hA : AOk A) {s : Shared} {ρ : List (Nat × V)} {sec : Int} {st : S4} (hW : Lw nmL tp (envL L) s.heap ρ) (hx : X s) (htk : 1 ≤ s.toks) (h1 : look ρ 1 = some (.u (.i sec))) (hst : st ∈ S0) (h4 : At4 ρ st) :
    wpAny (model pw w) A (exec (lS 7) (envL L)) (fun fl s' => ∃ ρ' st', st' ∈ S3 ∧ At4 ρ' st' ∧ X s' ∧ fl = .next ∧ Lw nmL tp (envL L) s'.heap ρ') (fun _ _ => False) s := by
  obtain ⟨as, hsend, has⟩ := st_send (w := w) G hL hX
  have hrest : SndS pw w nmL tp X [lB 7 1, lB 7 2, lB 7 3, lB 7 4] (envL L) _ (gRest qnV) := sndS_cons (st_odd G hL hX) (sndS_cons (st_turn G hL hX) (sndS_cons (st_ends G hL hX) (sndS_cons hsend sndS_nil)))
  refine wpAny_mono (for_rule (as := [8] ++ ([9] ++ (([3] ++ ([5] ++ ([6] ++ [])) ++ []) ++ ([10] ++ (as ++ []))))) (x := 2) (n := 3) (fn := eLit (.i 3)) (body := [lB 7 0, lB 7 1, lB 7 2, lB 7 3, lB 7 4]) G.ok (envL_ls hL) hX rfl (plc_cell rfl rfl) snd_int (envL_G L) rfl G.range.1 G.range.2 rfl hA (by decide) rfl hW hx htk
    (fun k ρ => look ρ 1 = some (.u (.i sec)) ∧ ∃ st ∈ Sk k, At4 ρ st) ⟨h1, st, hst, h4⟩ fun i s ρ hi hJ hW hx htk => ?_) (fun fl s' q => ?_) fun _ _ e => e
  · obtain ⟨l1, st, hst, h4⟩ := hJ
    have l1' : look (upd ρ 2 (.u (.i (i : Int)))) 1 = some (.u (.i sec)) := by rw [look_upd, if_neg (by decide)]; exact l1
    have l2' : look (upd ρ 2 (.u (.i (i : Int)))) 2 = some (.u (.i (i : Int))) := by rw [look_upd, if_pos rfl]
    refine wpAny_execs_cons (wpAny_mono (wpAny_toks_of htk (st_deed G hL hX A s _ _ none hA hW hx htk (deed_val hi l1' l2'))) (fun fl s₁ p => ?_) fun _ _ e => e.2.elim)
    obtain ⟨htk1, p⟩ := p
    obtain ⟨rfl, W1⟩ := p.out
    obtain ⟨ρ2, st', e2, hst', h4'⟩ := sk_step hi hst (deed_lo sec i) (deed_hi sec i)
    have W2 : Lw nmL tp (envL L) s₁.heap ((8, .u (.i (deedOf sec i))) :: rhoC st) := W1.weaken fun x v e => by
      rw [look_cons] at e
      by_cases q : x = 8
      · subst q
        rw [if_pos (by simp)] at e
        rw [look_upd, if_pos rfl]; exact e
      · rw [if_neg (by simpa using Ne.symm q)] at e
        exact (h4.upd (x := 2) (by decide) (by decide) (by decide) (by decide)).upd (x := 8) (by decide) (by decide) (by decide) (by decide) x v e
    refine wpAny_mono (hrest A s₁ _ ρ2 none hA W2 p.x htk1 e2) (fun fl s₂ p2 => ?_) fun _ _ e => e
    obtain ⟨rfl, W3⟩ := p2.out
    obtain ⟨val, ⟨t, rfl⟩, _, hv⟩ := hW.acc 1 _ l1'
    have hv1 := p.kv 1 (by decide) _ hv
    have hv2 := p2.kv 1 (by simpa using has) _ hv1
    refine ⟨upd ρ2 1 (.u (.i sec)), ⟨by rw [look_upd, if_pos rfl], st', hst', h4'.upd (by decide) (by decide) (by decide) (by decide)⟩, p2.x, p.fz.trans p2.fz, p.kv.trans p2.kv, rfl, W3.addInt hv2⟩
  · obtain ⟨ρ', ⟨_, st', h, h'⟩, p⟩ := q
    exact ⟨ρ', st', h, h', p.x, p.out.1, p.out.2⟩
end
end Mine
end
section
open PySem PySem.W PyProof.Rows PySem.Calls
set_option Elab.async false
set_option maxRecDepth 100000
namespace Mine
noncomputable def eBit : Ev := eBin .fmod (eBin .fdiv (eVar 0) (eBin .pow (eLit (.i 2)) (eVar 2))) (eLit (.i 2))
theorem bit_val {ρ : List (Nat × V)} {a : Int} {k : Nat} (hk : k < 5) (h0 : look ρ 0 = some (.u (.i a))) (h2 : look ρ 2 = some (.u (.i (k : Int)))) : eBit ρ = some (.u (.i ((a.fdiv (2 ^ k)).fmod 2))) := by
  have hc : k = 0 ∨ k = 1 ∨ k = 2 ∨ k = 3 ∨ k = 4 := by omega
  have p1 : eBin .pow (eLit (.i 2)) (eVar 2) ρ = some (.u (.i (2 ^ k))) := by
    unfold eBin eVar
    rw [h2]
    rcases hc with rfl | rfl | rfl | rfl | rfl <;> rfl
  have hp : smallI ((2 : Int) ^ k) = true ∧ ((2 : Int) ^ k != 0) = true := by
    rcases hc with rfl | rfl | rfl | rfl | rfl <;> decide
  have p2 : eBin .fdiv (eVar 0) (eBin .pow (eLit (.i 2)) (eVar 2)) ρ = some (.u (.i (a.fdiv (2 ^ k)))) := by
    unfold eBin at p1 ⊢
    rw [show eVar 0 ρ = some (.u (.i a)) from h0]
    simp only [p1]
    show (if (smallI ((2 : Int) ^ k) && ((2 : Int) ^ k != 0)) = true then gd (.u (.i (a.fdiv (2 ^ k)))) else none) = _
    rw [hp.1, hp.2]
    rfl
  rw [eBit, eBin, p2]
  rfl
theorem bit_gen (r q c e : Int) (hc : c ≠ 0) : ((r + c * (2 * (e * q))) / c) % 2 = (r / c) % 2 := by rw [Int.add_mul_ediv_left _ _ hc, Int.add_mul_emod_self_left]
theorem bit_one (a c e : Int) (hc : c ≠ 0) (h : c * (2 * e) = 32) : (a / c) % 2 = ((a % 32) / c) % 2 := by
  have h1 : a % 32 + 32 * (a / 32) = a := Int.emod_add_mul_ediv a 32
  have h2 : c * (2 * (e * (a / 32))) = 32 * (a / 32) := by rw [← h, Int.mul_assoc, Int.mul_assoc]
  have h3 := bit_gen (a % 32) (a / 32) c e hc
  rw [h2, h1] at h3
  exact h3
theorem bit_eq (a : Int) {k : Nat} (hk : k < 5) : (a.fdiv (2 ^ k)).fmod 2 = ((a.fmod 32).fdiv (2 ^ k)).fmod 2 := by
  have hc : k = 0 ∨ k = 1 ∨ k = 2 ∨ k = 3 ∨ k = 4 := by omega
  rw [Int.fmod_eq_emod_of_nonneg _ (by decide), Int.fmod_eq_emod_of_nonneg _ (by decide), Int.fmod_eq_emod_of_nonneg _ (by decide)]
  rcases hc with rfl | rfl | rfl | rfl | rfl <;> rw [Int.fdiv_eq_ediv_of_nonneg _ (by decide), Int.fdiv_eq_ediv_of_nonneg _ (by decide)]
  · exact bit_one a _ 16 (by decide) (by decide)
  · exact bit_one a _ 8 (by decide) (by decide)
  · exact bit_one a _ 4 (by decide) (by decide)
  · exact bit_one a _ 2 (by decide) (by decide)
  · exact bit_one a _ 1 (by decide) (by decide)
theorem compGo_congr {x : Nat} {ρ ρ' : List (Nat × V)} {fe : Ev} : ∀ {us : List U}, (∀ u ∈ us, fe ((x, .u u) :: ρ) = fe ((x, .u u) :: ρ')) → compGo x ρ fe noT us = compGo x ρ' fe noT us
  | [], _ => rfl
  | u :: r, h => by
    unfold compGo
    rw [h u (.head _), compGo_congr fun v hv => h v (.tail _ hv)]
theorem ring_eq {ρ : List (Nat × V)} {a : Int} (h : look ρ 0 = some (.u (.i a))) : eRing ρ = eRing [(0, .u (.i (a.fmod 32)))] := by
  have e : compGo 2 (capt [0] ρ) (eIdx (eLit (.s ".x")) eBit) noT (rangeU 5) = compGo 2 (capt [0] [(0, V.u (.i (a.fmod 32)))]) (eIdx (eLit (.s ".x")) eBit) noT (rangeU 5) := by
    have c1 : capt [0] ρ = [(0, .u (.i a))] := by simp [capt, h]
    have c2 : capt [0] [(0, V.u (.i (a.fmod 32)))] = [(0, .u (.i (a.fmod 32)))] := rfl
    rw [c1, c2]
    refine compGo_congr fun u hu => ?_
    obtain ⟨k, hk, rfl⟩ := List.mem_map.mp hu
    have hk := List.mem_range.mp hk
    unfold eIdx
    rw [bit_val hk rfl rfl, bit_val hk rfl rfl, bit_eq a hk]
    rfl
  unfold eRing eJoin
  rw [show eCompR 2 [0] (eLit (.i 5)) (eIdx (eLit (.s ".x")) (eBin .fmod (eBin .fdiv (eVar 0) (eBin .pow (eLit (.i 2)) (eVar 2))) (eLit (.i 2)))) noT ρ = eCompR 2 [0] (eLit (.i 5)) (eIdx (eLit (.s ".x")) eBit) noT [(0, .u (.i (a.fmod 32)))] from by
    show (match eLit (.i 5) ρ with
      | some (.u (.i n)) => if (decide (0 ≤ n) && decide (n ≤ 1000)) = true then (match compGo 2 (capt [0] ρ) (eIdx (eLit (.s ".x")) eBit) noT (rangeU n.toNat) with
          | some ys => gd (.l ys)
          | none => none) else none
      | _ => none) = (match compGo 2 (capt [0] [(0, V.u (.i (a.fmod 32)))]) (eIdx (eLit (.s ".x")) eBit) noT (rangeU 5) with
          | some ys => gd (.l ys)
          | none => none)
    rw [← e]; rfl]
  rfl

noncomputable def g36 : Sv := sSeq (sAsg 4 eTurns) (sSeq (sAsg 5 eColumn) (sSeq (sAsg 6 (eIndexL (eVar 4) (eVar 3))) (sSeq (sAsg 7 (eCountL (eVar 4) (eVar 3))) sNil)))
noncomputable def iniR (n : Int) : Bool := match eRing [(0, .u (.i n))] with
  | some (.u (.s r)) => (match g36 [(3, .u (.s r))] with
    | some (ρ, none) => (match stOf ρ with
      | some st => memS S0 st
      | none => false)
    | _ => false)
  | _ => false
theorem iniR_all : ((List.range 32).all fun n => iniR (n : Int)) = true := by decide +kernel
theorem ini_ok {n : Int} (h0 : 0 ≤ n) (h1 : n < 32) : ∃ r ρ st, eRing [(0, .u (.i n))] = some (.u (.s r)) ∧ g36 [(3, .u (.s r))] = some (ρ, none) ∧ st ∈ S0 ∧ At4 ρ st := by
  obtain ⟨m, rfl⟩ := Int.eq_ofNat_of_zero_le h0
  have e := List.all_eq_true.mp iniR_all m (List.mem_range.mpr (Int.ofNat_lt.mp h1))
  unfold iniR at e
  split at e
  · rename_i r er
    split at e
    · rename_i ρ eg
      split at e
      · rename_i st es
        exact ⟨r, ρ, st, er, eg, memS_mem e, stOf_at es⟩
      · cases e
    · cases e
  · cases e

section
variable {tp : Tp} {w : World} {X : Shared → Prop} {L : Addr} {fq : V → Option V}
theorem start_ok (G : LawG w tp fq) (hL : tp.H.objs.size ≤ L) (hX : XOk tp X) {A : Around} (hA : AOk A) {s : Shared} {ρ : List (Nat × V)} {fi sec : Int} {rest : List Stmt} {Q : Flow → Shared → Prop} (hW : Lw nmL tp (envL L) s.heap ρ) (hx : X s) (htk : 1 ≤ s.toks) (h0 : look ρ 0 = some (.u (.i fi))) (h1 : look ρ 1 = some (.u (.i sec)))
    (h : ∀ s' ρ' st, X s' → Lw nmL tp (envL L) s'.heap ρ' → 1 ≤ s'.toks → look ρ' 1 = some (.u (.i sec)) → st ∈ S0 → At4 ρ' st → wpAny (model pw w) A (execs rest (envL L)) Q (fun _ _ => False) s') :
    wpAny (model pw w) A (execs (lS 2 :: lS 3 :: lS 4 :: lS 5 :: lS 6 :: rest) (envL L)) Q (fun _ _ => False) s := by
  obtain ⟨r, ρ2, st, e1, e2, hst, h4⟩ := ini_ok (Int.fmod_nonneg_of_pos fi (show (0 : Int) < 32 by decide)) (Int.fmod_lt_of_pos fi (show (0 : Int) < 32 by decide))
  have er : sAsg 3 eRing ρ = some (upd ρ 3 (.u (.s r)), none) := by unfold sAsg; rw [ring_eq h0, e1]
  refine wpAny_execs_cons (wpAny_mono (wpAny_toks_of htk (st_ring G hL hX A s ρ _ none hA hW hx htk er)) (fun fl s₁ p => ?_) fun _ _ e => e.2.elim)
  obtain ⟨htk1, p⟩ := p
  obtain ⟨rfl, W1⟩ := p.out
  have W2 : Lw nmL tp (envL L) s₁.heap [(3, .u (.s r))] := W1.weaken fun x v e => by
    rw [look_cons] at e
    split at e
    · rename_i q
      cases e
      rw [← eq_of_beq q, look_upd, if_pos rfl]
    · cases e
  obtain ⟨val, ⟨t, rfl⟩, _, hv⟩ := hW.acc 1 _ h1
  have hv1 := p.kv 1 (by decide) _ hv
  unfold g36 at e2
  unfold sSeq at e2
  split at e2
  · rename_i ρa ea
    split at e2
    · rename_i ρb eb
      split at e2
      · rename_i ρc ec
        split at e2
        · rename_i ρd ed
          cases e2
          refine wpAny_execs_cons (wpAny_mono (wpAny_toks_of htk1 (st_turns G hL hX A s₁ _ _ none hA W2 p.x htk1 ea)) (fun fl s₂ p2 => ?_) fun _ _ e => e.2.elim)
          obtain ⟨htk2, p2⟩ := p2
          obtain ⟨rfl, W3⟩ := p2.out
          refine wpAny_execs_cons (wpAny_mono (wpAny_toks_of htk2 (st_column G hL hX A s₂ _ _ none hA W3 p2.x htk2 eb)) (fun fl s₃ p3 => ?_) fun _ _ e => e.2.elim)
          obtain ⟨htk3, p3⟩ := p3
          obtain ⟨rfl, W4⟩ := p3.out
          refine wpAny_execs_cons (wpAny_mono (wpAny_toks_of htk3 (st_place G hL hX A s₃ _ _ none hA W4 p3.x htk3 ec)) (fun fl s₄ p4 => ?_) fun _ _ e => e.2.elim)
          obtain ⟨htk4, p4⟩ := p4
          obtain ⟨rfl, W5⟩ := p4.out
          refine wpAny_execs_cons (wpAny_mono (wpAny_toks_of htk4 (st_same G hL hX A s₄ _ _ none hA W5 p4.x htk4 ed)) (fun fl s₅ p5 => ?_) fun _ _ e => e.2.elim)
          obtain ⟨htk5, p5⟩ := p5
          obtain ⟨rfl, W6⟩ := p5.out
          have hv5 := p5.kv 1 (by decide) _ (p4.kv 1 (by decide) _ (p3.kv 1 (by decide) _ (p2.kv 1 (by decide) _ hv1)))
          exact h s₅ _ st p5.x (W6.addInt hv5) htk5 (by rw [look_upd, if_pos rfl]) hst (h4.upd (by decide) (by decide) (by decide) (by decide))
        · cases e2
        · cases e2
      · cases e2
      · cases e2
    · cases e2
    · cases e2
  · cases e2
  · cases e2
end
end Mine
end
section
open PySem PySem.W PyProof.Rows PySem.Calls
set_option Elab.async false
set_option maxRecDepth 100000
namespace Mine
section
variable {s : Shared} {K : Frag} {tp : Tp}
/-- something that is none of the page's own changes -/
theorem PgS.sbK {CA CV c P c' P' pg dp ll ac da x : Addr} {L : List Addr} {lines cs : List Str} {mx : Int} {h' : Heap} {tk : Nat} (hTp : TpOk tp) (G : PgS K tp CA CV L c P c' P' pg dp ll ac da s lines cs mx) (hH : tp.H.get? x = none) (hxL : x ∉ L) (hxd : x ≠ dp) (n1 : c ≠ x) (n2 : c' ≠ x) (nP : P ∈ L) (nP' : P' ∈ L)
    (nd : ∀ o, s.heap.get? x = some o → o.data ≠ .plain ∧ ∀ xs n, o.data ≠ .seq xs n) (hsz : ∃ y, tp.H.objs.size ≤ y ∧ ∃ o, h'.get? y = some o) (sb : Sb x s.heap h') :
    PgS K tp CA CV L c P c' P' pg dp ll ac da { s with heap := h', toks := tk } lines cs mx := by
  obtain ⟨st, ⟨sl, mm, b, I, r⟩, ⟨vs, n, h1, h2⟩, m1, m2, m3, h3, h4, h5, h6, h7⟩ := G
  have np : ∀ b o, s.heap.get? b = some o → o.data = .plain → b ≠ x := fun b o e q z => (nd o (z ▸ e)).1 q
  have nq : ∀ b o xs n, s.heap.get? b = some o → o.data = .seq xs n → b ≠ x := fun b o xs n e q z => (nd o (z ▸ e)).2 xs n q
  have nac : ac ≠ x := fun q => hxL (q ▸ st.acc.la)
  have nda : da ≠ x := fun q => hxL (q ▸ st.acc.ld)
  have acc' : AccS CA L h' ac da cs 0 := by
    obtain ⟨⟨sl, ps, n, ti, b, ⟨f1, f2, o, es', ep', f3, f4⟩, hb, PR⟩, la, ld, ne⟩ := st.acc
    exact ⟨⟨sl, ps, n, ti, b, ⟨sb _ _ nac f1, f2, o, es', ep', sb _ _ nda f3, f4⟩, hb, PR.keepT fun b xs n _ e => sb _ _ (nq b _ _ _ e rfl) e⟩, la, ld, ne⟩
  have ne : ∀ b o, tp.H.get? b = some o → b ≠ x := fun b o e q => by rw [q, hH] at e; cases e
  refine ⟨⟨hTp.bs (fun b o e n => sb b _ (ne b o e) (st.bs.base b o e n)) (fun b o e => let ⟨o2, e2⟩ := st.bs.there b o e; ⟨o2, sb b _ (ne b o e) e2⟩), acc', st.kc.via (fun o e => sb _ _ n1 e) (fun o e => sb _ _ (fun q => hxL (q ▸ nP)) e), st.kc'.via (fun o e => sb _ _ n2 e) (fun o e => sb _ _ (fun q => hxL (q ▸ nP')) e), hsz, st.nP, st.nP'⟩, ?_, ⟨vs, n, sb _ _ (nq _ _ _ _ h1 rfl) h1, h2⟩, m1, m2, m3, h3, h4, h5, h6, ?_⟩
  · obtain ⟨f1, f2, o, es', ep', f3, f4⟩ := I
    exact ⟨sl, mm, b, ⟨sb _ _ (np _ _ f1 rfl) f1, f2, o, es', ep', sb _ _ (Ne.symm hxd) f3, f4⟩, r⟩
  · intro b hb
    obtain ⟨o, e⟩ := h7 b hb
    exact ⟨o, sb b _ (fun q => hxL (q ▸ hb)) e⟩
end

/-- the frame's own places -/
noncomputable def Fr (env : Env) (b : Addr) : Prop := b = env.locals ∨ ∃ x, env.cells.lookup x = some b
theorem fr_le {L b : Addr} (h : Fr (envL L) b) : L ≤ b := by
  rcases h with rfl | ⟨x, e⟩
  · exact Nat.le_refl _
  · rcases cell_cases e with ⟨_, rfl⟩ | ⟨_, rfl⟩ | ⟨_, rfl⟩ | ⟨_, rfl⟩ | ⟨_, rfl⟩ <;> exact Nat.le_add_right _ _
theorem fr_there {tp : Tp} {L b : Addr} {h : Heap} {ρ : List (Nat × V)} (W : Lw nmL tp (envL L) h ρ) (hb : Fr (envL L) b) : ∃ o, h.get? b = some o ∧ (o.data ≠ .plain ∧ ∀ xs n, o.data ≠ .seq xs n) ∧ ∀ vs, o.data ≠ .fields vs := by
  rcases hb with rfl | ⟨x, e⟩
  · obtain ⟨m, o, es, ep, e1, e2, _⟩ := W.loc
    exact ⟨o, e1, ⟨(by rw [e2]; intro q; cases q), (by rw [e2]; intro _ _ q; cases q)⟩, (by rw [e2]; intro _ q; cases q)⟩
  · have key : ∃ v, h.IsCell b v := by
      refine W.cel x b ?_ e
      rcases cell_cases e with ⟨rfl, _⟩ | ⟨rfl, _⟩ | ⟨rfl, _⟩ | ⟨rfl, _⟩ | ⟨rfl, _⟩ <;> rfl
    obtain ⟨v, o, e1, e2⟩ := key
    exact ⟨o, e1, ⟨(by rw [e2]; intro q; cases q), (by rw [e2]; intro _ _ q; cases q)⟩, (by rw [e2]; intro _ q; cases q)⟩

section
variable {nm : Nat → Str} {tp : Tp} {env : Env}
/-- where no list is held, the frame's own places are all that counts -/
theorem Lw.scal {h h' : Heap} {ρ : List (Nat × V)} (W : Lw nm tp env h ρ) (B : Bs tp h') (sc : ∀ x v, look ρ x = some v → ∃ u, v = .u u) (va : ∀ y, (look ρ y).isSome = true → ∀ val, VarAt env h (nm y) val → VarAt env h' (nm y) val)
    (loc : ∃ m, h'.Ns env.locals m) (cel : ∀ x c v, env.cells.lookup x = some c → h.IsCell c v → ∃ v', h'.IsCell c v') : Lw nm tp env h' ρ := by
  have no : ∀ y a, (look ρ y).isSome = true → ¬ VarAt env h' (nm y) (.ref a) := fun y a e v => by
    obtain ⟨z, hz⟩ := Option.isSome_iff_exists.mp e
    obtain ⟨u, rfl⟩ := sc y z hz
    obtain ⟨val, r, _, hv⟩ := W.acc y _ hz
    have := VarAt.fn (va y e _ hv) v
    subst this
    cases u with
    | b b => cases (show Value.ref a = .bool b from r)
    | i n => obtain ⟨t, q⟩ := r; cases q
    | s t => obtain ⟨t, q⟩ := r; cases q
  refine ⟨B, fun y v e => ?_, loc, fun x c h1 h2 => let ⟨v, hv⟩ := W.cel x c h1 h2; cel x c v h2 hv, fun y z _ e1 _ a b v1 _ => (no y a e1 v1).elim, fun y a e v => (no y a e v).elim⟩
  obtain ⟨u, rfl⟩ := sc y v e
  obtain ⟨val, r, ok, hv⟩ := W.acc y _ e
  exact ⟨val, r, ok, va y (by rw [e]; rfl) _ hv⟩
theorem va_keep {h h' : Heap} (k : ∀ b o, Fr env b → h.get? b = some o → h'.get? b = some o) {x : Str} {val : Value} (hv : VarAt env h x val) : VarAt env h' x val := by
  rcases hv with ⟨e, m, hn, hm⟩ | ⟨e, c, hc, o, ho, hd⟩
  · exact .inl ⟨e, m, hn.at' fun o e => k _ o (.inl rfl) e, hm⟩
  · exact .inr ⟨e, c, hc, o, k _ o (.inr ⟨_, hc⟩) ho, hd⟩
theorem Lw.fr {h h' : Heap} {ρ : List (Nat × V)} (W : Lw nm tp env h ρ) (B : Bs tp h') (sc : ∀ x v, look ρ x = some v → ∃ u, v = .u u) (k : ∀ b o, Fr env b → h.get? b = some o → h'.get? b = some o) : Lw nm tp env h' ρ := by
  obtain ⟨m, hm⟩ := W.loc
  exact W.scal B sc (fun y _ val hv => va_keep k hv) ⟨m, hm.at' fun o e => k _ o (.inl rfl) e⟩ fun x c v hc ⟨o, e1, e2⟩ => ⟨v, o, k _ o (.inr ⟨x, hc⟩) e1, e2⟩
end
end Mine
end
section
open PySem PySem.W PyProof.Rows PySem.Calls
set_option Elab.async false
set_option maxRecDepth 100000
namespace Mine
theorem joinOk_small {sep : Str} {ts : List Str} {k : Nat} (h : ∀ x ∈ ts, x.length ≤ k) (hn : ts.length * (k + sep.length) ≤ 1000000) : JoinOk sep ts = true := by
  have e : (ts.map (·.length)).sum ≤ ts.length * k := by
    clear hn
    induction ts with
    | nil => simp
    | cons x r ih =>
      have := ih fun y hy => h y (.tail _ hy)
      have hx := h x (.head _)
      simp only [List.map_cons, List.sum_cons, List.length_cons, Nat.succ_mul]
      omega
  have e2 := StrLaws.joinTotal sep ts
  unfold JoinOk
  rw [Bool.not_eq_true', show ts.toArray.foldl (· + ·.length + sep.length) 0 = _ from e2]
  unfold Builtin.Str.tooLong
  have hs : sizeLine = 16777216 := by decide
  rw [Nat.mul_add] at hn
  simp only [hs, decide_eq_false_iff_not, gt_iff_lt, Nat.not_lt]
  omega
theorem two_cases {x : Str} (h : twoS x = true) : x = dotS ∨ x = exS := by
  unfold twoS at h
  rcases Bool.or_eq_true _ _ ▸ h with h | h
  · exact .inl (eq_of_beq h)
  · exact .inr (eq_of_beq h)
theorem lineOk_two {cs : List Str} (h : ∀ x ∈ cs, twoS x = true) (hl : cs.length ≤ 100) : LineOk cs where
  few := Nat.le_trans hl (by decide)
  one := fun x hx => by rcases two_cases (h x hx) with rfl | rfl <;> rfl
  part := fun x hx => by rcases two_cases (h x hx) with rfl | rfl <;> decide +kernel
  all := joinOk_small (k := 2) (fun y hy => by
    obtain ⟨x, hx, rfl⟩ := List.mem_map.mp hy
    rcases two_cases (h x hx) with rfl | rfl <;> decide +kernel) (by
    rw [List.length_map]
    have : (Str.ofString "").length = 0 := by decide +kernel
    rw [this]
    omega)

/-- what holds from the call's start on -/
structure Xe (tp : Tp) (os0 : OsState) (s : Shared) : Prop where
  os : s.os = os0
  ba : AllBare s.gens
  old : OldK tp.H s.heap
structure Xw (tp : Tp) (os0 : OsState) (s : Shared) : Prop extends Xe tp os0 s where
  t1 : s.heap.get? 174 = tp.H.get? 174
  t2 : s.heap.get? 181 = tp.H.get? 181
theorem Xe.keep {tp : Tp} {os0 : OsState} {s s' : Shared} (k : Keeps s s') (h : Xe tp os0 s) : Xe tp os0 s' := by
  obtain ⟨h', tk, rfl, k⟩ := k
  exact ⟨h.os, h.ba, h.old.step_keeps k⟩
theorem Xe.sb {tp : Tp} {os0 : OsState} {s : Shared} {c : Addr} {h' : Heap} {tk : Nat} (hc : tp.H.get? c = none) (sb : Sb c s.heap h') (h : Xe tp os0 s) : Xe tp os0 { s with heap := h', toks := tk } := ⟨h.os, h.ba, old_but h.old hc sb⟩
theorem Xe.cg {tp : Tp} {os0 : OsState} {s s' : Shared} {L : List Addr} (C : Cg tp.H L s s') (h : Xe tp os0 s) : Xe tp os0 s' := ⟨C.os.trans h.os, C.gens h.ba, C.old h.old⟩
theorem xe_ok (tp : Tp) (os0 : OsState) : XOk tp (Xe tp os0) := ⟨fun _ _ k h => h.keep k, fun _ _ _ _ hc sb h => h.sb hc sb⟩
theorem xw_ok {P : Params} {tp : Tp} (T : Top0 P tp) (os0 : OsState) : XOk tp (Xw tp os0) := by
  have key : ∀ {s : Shared} {h' : Heap}, (∀ b o, tp.H.get? b ≠ none → s.heap.get? b = some o → h'.get? b = some o) → s.heap.get? 174 = tp.H.get? 174 → s.heap.get? 181 = tp.H.get? 181 → h'.get? 174 = tp.H.get? 174 ∧ h'.get? 181 = tp.H.get? 181 := fun k e1 e2 => by
    have t1 := T.t1
    have t2 := T.t2
    exact ⟨by rw [t1]; exact k _ _ (by rw [t1]; simp) (e1.trans t1), by rw [t2]; exact k _ _ (by rw [t2]; simp) (e2.trans t2)⟩
  refine ⟨fun s s' k h => ?_, fun s c h' tk hc sb h => ?_⟩
  · have hk := Xe.keep k h.toXe
    obtain ⟨h', tk, rfl, k⟩ := k
    have := key (s := s) (h' := h') (fun b o _ e => k b o e) h.t1 h.t2
    exact ⟨hk, this.1, this.2⟩
  · have := key (s := s) (h' := h') (fun b o n e => sb b o (fun q => n (q ▸ hc)) e) h.t1 h.t2
    exact ⟨Xe.sb hc sb h.toXe, this.1, this.2⟩

/-- no list among the names -/
noncomputable def Sc (ρ : List (Nat × V)) : Prop := ∀ x v, look ρ x = some v → ∃ u, v = .u u
theorem Sc.upd {ρ : List (Nat × V)} (h : Sc ρ) (x : Nat) (u : U) : Sc (upd ρ x (.u u)) := fun y v e => by
  rw [look_upd] at e
  split at e
  · exact ⟨u, (Option.some.inj e).symm⟩
  · exact h y v e

/-- the page's objects are none of the frame's -/
structure PgF (L pg dp ll ac da : Addr) : Prop where
  n : ∀ b ∈ [pg, dp, ll, ac, da], ¬ Fr (envL L) b
  pl : pg ≠ ll
  dl : dp ≠ ll

section
variable {P : Params} {tp : Tp} {w : World} {L : Addr} {fq : V → Option V} {os0 : OsState}
theorem frH (hL : tp.H.objs.size ≤ L) {b : Addr} (h : Fr (envL L) b) : tp.H.get? b = none := getNone (Nat.le_trans hL (fr_le h))

theorem st_page (T : Top0 P tp) (G : LawG w tp fq) (hL : tp.H.objs.size ≤ L) {A : Around} (hA : AOk A) {s : Shared} {ρ : List (Nat × V)} {n : Int} (hW : Lw nmL tp (envL L) s.heap ρ) (hsc : Sc ρ) (h28 : look ρ 28 = none) (hx : Xw tp os0 s) (h15 : look ρ 15 = some (.u (.i n))) (hn : -1000 ≤ n ∧ n ≤ 1000) :
    wpAny (model pw w) A (exec (lS 10) (envL L)) (fun fl s' => fl = .next ∧ ∃ pg dp ll ac da, Lw nmL tp (envL L) s'.heap ρ ∧ VarAt (envL L) s'.heap "page" (.ref pg) ∧ PgF L pg dp ll ac da ∧ PgX P tp pg dp ll ac da s' [] [] (2 * n - 2) ∧ Xe tp os0 s') (fun _ _ => False) s := by
  refine wpAny_Assign_Name (wpAny_Call_NameR (name_global (tp := tp) (v := .ref 128) (envL_G L) hW.bs rfl (T.mgS (by kernel_rfl)) (by decide) (callWith_K (K := Kx P) (h₀ := s.heap) (T.inK _ hW.bs) (by kernel_rfl) ?_))) rfl
  refine wpAny_items_cons (wpAny_mono (snd_int (n := 0) A s ρ _ hA hW.bs hW.acc rfl) (fun v0 s1 o1 => ?_) fun _ _ e => e.elim)
  obtain ⟨⟨t0, rfl⟩, _, k1, _⟩ := o1
  have W1 := hW.keep (kpK k1)
  have e15 : eBin .sub (eBin .mul (eLit (.i 2)) (eVar 15)) (eLit (.i 2)) ρ = some (.u (.i (2 * n - 2))) := by
    have p : eBin .mul (eLit (.i 2)) (eVar 15) ρ = some (.u (.i (2 * n))) := by
      unfold eBin
      rw [show eVar 15 ρ = some (.u (.i n)) from h15]
      show (if (smallI 2 && smallI n) = true then gd (.u (.i (2 * n))) else none) = _
      have : smallI n = true := by unfold smallI; simp; omega
      rw [this]; rfl
    rw [eBin, p]; rfl
  refine wpAny_items_cons (wpAny_mono (snd_bin (op := .sub) (snd_bin (op := .mul) snd_int (snd_var (x := 15) rfl rfl rfl) _ rfl) snd_int _ rfl A s1 ρ _ hA W1.bs W1.acc e15) (fun v1 s2 o2 => ?_) fun _ _ e => e.elim)
  obtain ⟨⟨t1, rfl⟩, _, k2, _⟩ := o2
  refine wpAny_items_cons (wpAny_Constant_str (wpAny_items_cons (wpAny_Constant_str (wpAny_items_nil ?_))))
  have k3 : Keeps s { s2 with toks := s2.toks + 1 + 1 } := kpT (kpT k1 k2) kpTok
  have W3 := hW.keep (kpK k3)
  have x3 := (xw_ok T os0).keep _ _ k3 hx
  obtain ⟨m, hm⟩ := W3.loc
  have hsz : tp.H.objs.size ≤ s2.heap.objs.size := by
    obtain ⟨o, es, ep, e, _⟩ := id hm
    exact Nat.le_trans hL (Nat.le_of_lt (Heap.lt_size e))
  refine ⟨T.inK _ W3.bs, pgx_make T (Nat.le_trans hA.dp (by decide)) W3.bs hsz x3.t1 x3.t2 fun s' pg dp ll ac da k4 hnew pl dl PG => ?_⟩
  have W4 := W3.keep (kpK k4)
  have hF : PgF L pg dp ll ac da := ⟨(fun b hb q => by
    obtain ⟨o, e, _⟩ := fr_there W3 q
    rw [hnew b hb] at e; cases e), pl, dl⟩
  have hm4 := hm.keeps (kpK k4)
  refine wpAny_storeName_local rfl hm4 (fun h' hn' hs' => ?_) rfl
  have nL : L ∉ [ac, da, 174, 181] := by
    simp only [List.mem_cons, List.not_mem_nil, or_false, not_or]
    refine ⟨fun q => hF.n ac (by simp) (q ▸ .inl rfl), fun q => hF.n da (by simp) (q ▸ .inl rfl), fun q => ?_, fun q => ?_⟩
    · exact absurd (Nat.le_trans T.sz hL) (by rw [show L = 174 from q]; decide)
    · exact absurd (Nat.le_trans T.sz hL) (by rw [show L = 181 from q]; decide)
  have ndp : L ≠ dp := fun q => hF.n dp (by simp) (q ▸ .inl rfl)
  have PG' := PgS.local (tk := s'.toks + 1) T.ok PG (frH hL (.inl rfl)) nL ndp hm4 hn' hs'
  have cell : ∀ {c : Addr} {v : Option Value}, s'.heap.IsCell c v → h'.IsCell c v := fun {c v} ⟨o, e1, e2⟩ => ⟨o, (hs'.2 c fun q => by
    obtain ⟨o', es, ep, f1, f2, _⟩ := hm4
    rw [q, f1] at e1; cases e1; rw [f2] at e2; cases e2).trans e1, e2⟩
  refine ⟨rfl, pg, dp, ll, ac, da, W4.scal PG'.st.bs hsc (fun y hy val hv => ?_) ⟨_, hn'⟩ (fun x c v _ hv => ⟨v, cell hv⟩), .inl ⟨rfl, _, hn', by simp⟩, hF, PG', ?_⟩
  · rcases hv with ⟨e, m', hn2, hm2⟩ | ⟨e, c, hc, hv⟩
    · have := Ns.fn hm4 hn2; subst this
      refine .inl ⟨e, _, hn', ?_⟩
      have : nmL y ≠ "page" := fun q => by
        have : y = 28 := nmL_inj y 28 q
        subst this; rw [h28] at hy; cases hy
      simp only [this, if_false]; exact hm2
    · exact .inr ⟨e, c, hc, cell hv⟩
  · exact Xe.sb (frH hL (.inl rfl)) (Sb.of hs') (x3.toXe.keep k4)
end
end Mine
end
section
open PySem PySem.W PyProof.Rows PySem.Calls
set_option Elab.async false
set_option maxRecDepth 100000
namespace Mine
theorem goPg_pre {ring : Str} {size : Int} : ∀ {n i : Nat}, i ≤ n → (goPg ring size n).isSome = true → (goPg ring size i).isSome = true
  | 0, i, h, e => by
    have : i = 0 := by omega
    subst this; exact e
  | n + 1, i, h, e => by
    by_cases q : i = n + 1
    · subst q; exact e
    · refine goPg_pre (n := n) (by omega) ?_
      unfold goPg at e
      cases p : goPg ring size n with
      | none => rw [p] at e; cases e
      | some _ => rfl
theorem goPg_two {ring : Str} {size : Int} : ∀ {n : Nat} {p : List Str × List Str}, goPg ring size n = some p → ∀ x ∈ p.2, twoS x = true
  | 0, p, e, x, hx => by cases e; cases hx
  | n + 1, p, e, x, hx => by
    unfold goPg at e
    split at e
    · rename_i p0 e0
      split at e
      · rename_i c ec
        split at e
        · rename_i hc
          simp only [Bool.and_eq_true, decide_eq_true_eq] at hc
          cases e
          unfold pushL at hx
          split at hx
          · rcases List.mem_append.mp hx with h | h
            · exact goPg_two e0 x h
            · rw [List.mem_singleton.mp h]; exact hc.1.1
          · rw [List.mem_singleton.mp hx]; exact hc.1.1
        · cases e
      · cases e
    · cases e
theorem goPg_step {ring : Str} {size : Int} {n : Nat} {p : List Str × List Str} (e : goPg ring size n = some p) (h : (goPg ring size (n + 1)).isSome = true) : ∃ c, chAt ring size n = some c ∧ twoS c = true ∧ p.2.length ≤ 100 ∧ p.1.length ≤ 100 ∧ goPg ring size (n + 1) = some (pushL (2 * size - 2) p c) := by
  rw [goPg, e] at h ⊢
  simp only at h ⊢
  split at h
  · rename_i c ec
    rw [ec]
    split at h
    · rename_i hc
      have hc' := hc
      simp only [Bool.and_eq_true, decide_eq_true_eq] at hc'
      rw [if_pos hc]
      exact ⟨c, rfl, hc'.1.1, hc'.1.2, hc'.2, rfl⟩
    · cases h
  · cases h
theorem ch_val {ρ : List (Nat × V)} {ring c : Str} {size : Int} {k : Nat} (h2 : look ρ 2 = some (.u (.i k))) (h3 : look ρ 3 = some (.u (.s ring))) (h15 : look ρ 15 = some (.u (.i size))) (h : chAt ring size k = some c) : eCh ρ = some (.u (.s c)) := by
  have e : eCh ρ = eCh [(2, .u (.i k)), (3, .u (.s ring)), (15, .u (.i size))] := by
    unfold eCh eIdx eBin eVar
    rw [h2, h3, h15]
    rfl
  unfold chAt at h
  rw [e]
  split at h
  · rename_i x ex
    cases h; exact ex
  · cases h

section
variable {P : Params} {tp : Tp} {w : World} {L : Addr} {fq : V → Option V} {os0 : OsState}
theorem fr_out (T : Top0 P tp) (hL : tp.H.objs.size ≤ L) {pg dp ll ac da b : Addr} (F : PgF L pg dp ll ac da) (h : Fr (envL L) b) : b ∉ [ll, ac, da, 174, 181] := by
  have hb := Nat.le_trans (Nat.le_trans T.sz hL) (fr_le h)
  simp only [List.mem_cons, List.not_mem_nil, or_false, not_or]
  refine ⟨fun q => F.n ll (by simp) (q ▸ h), fun q => F.n ac (by simp) (q ▸ h), fun q => F.n da (by simp) (q ▸ h), fun q => ?_, fun q => ?_⟩
  · exact absurd hb (by rw [q]; decide)
  · exact absurd hb (by rw [q]; decide)

/-- what the loop leaves in the page's hands -/
theorem pgx_cz (T : Top0 P tp) (hL : tp.H.objs.size ≤ L) {pg dp ll ac da c : Addr} {s : Shared} {h' : Heap} {tk : Nat} {lines cs : List Str} {mx : Int} (F : PgF L pg dp ll ac da) (hc : tp.H.get? c = none) (cz : Cz (envL L) s.heap c) (sb : Sb c s.heap h') (w1 : ∃ σ, Lw nmL tp (envL L) s.heap σ) (w2 : ∃ σ, Lw nmL tp (envL L) h' σ)
    (PG : PgX P tp pg dp ll ac da s lines cs mx) : PgX P tp pg dp ll ac da { s with heap := h', toks := tk } lines cs mx := by
  obtain ⟨σ, W1⟩ := w1
  obtain ⟨σ', W2⟩ := w2
  have k : ∀ a o, tp.H.get? a = some o → a ≠ c := fun a o e q => by rw [q, hc] at e; cases e
  obtain ⟨o178, e178⟩ : ∃ o, tp.H.get? 178 = some o := ⟨_, T.kin 178 _ rfl⟩
  obtain ⟨o185, e185⟩ : ∃ o, tp.H.get? 185 = some o := ⟨_, T.kin 185 _ rfl⟩
  have hsz : ∃ y, tp.H.objs.size ≤ y ∧ ∃ o, h'.get? y = some o := by
    obtain ⟨m, o, es, ep, e, _⟩ := W2.loc
    exact ⟨L, hL, o, e⟩
  refine PgS.sbK T.ok PG hc ?_ ?_ (k _ _ e178) (k _ _ e185) (by simp) (by simp) (fun o e => ?_) hsz sb
  · rcases cz with h | ⟨vs, e⟩
    · intro q
      exact fr_out T hL F h (.tail _ q)
    · simp only [List.mem_cons, List.not_mem_nil, or_false, not_or]
      obtain ⟨⟨sl, ps, n, ti, b, ⟨f1, f2, o, es', ep', f3, f4, _⟩, hb, PR⟩, _⟩ := PG.st.acc
      refine ⟨fun q => ?_, fun q => ?_, fun q => k _ _ T.t1 q.symm, fun q => k _ _ T.t2 q.symm⟩
      · rw [q, f1] at e; cases e
      · rw [q, f3] at e; cases e; cases f4
  · rcases cz with h | ⟨vs, e⟩
    · exact fun q => F.n dp (by simp) (q ▸ h)
    · obtain ⟨sl, mm, b, ⟨f1, f2, o, es', ep', f3, f4, _⟩, _⟩ := PG.pgI
      intro q
      rw [q, f3] at e; cases e; cases f4
  · rcases cz with h | ⟨vs, e'⟩
    · obtain ⟨o', e2, hk, _⟩ := fr_there W1 h
      rw [e2] at e; cases e; exact hk
    · rw [e'] at e; cases e
      exact ⟨(by intro q; cases q), (by intro _ _ q; cases q)⟩

theorem st_lines (T : Top0 P tp) (G : LawG w tp fq) (hL : tp.H.objs.size ≤ L) {A : Around} (hA : AOk A) {s : Shared} {ρ : List (Nat × V)} {ring : Str} {n N : Nat} {pg dp ll ac da : Addr} {p : List Str × List Str} (hW : Lw nmL tp (envL L) s.heap ρ) (htk : 1 ≤ s.toks) (hsc : Sc ρ) (h3 : look ρ 3 = some (.u (.s ring))) (h15 : look ρ 15 = some (.u (.i n)))
    (hpg : VarAt (envL L) s.heap "page" (.ref pg)) (F : PgF L pg dp ll ac da) (PG : PgX P tp pg dp ll ac da s [] [] (2 * n - 2)) (hx : Xe tp os0 s) (hn : 2 ≤ n) (hN : N ≤ 1000) (eN : eBin .sub (eBin .mul (eVar 15) (eVar 15)) (eVar 15) ρ = some (.u (.i (N : Int)))) (hp : goPg ring n N = some p) :
    wpAny (model pw w) A (exec (lS 11) (envL L)) (fun fl s' => fl = .next ∧ ∃ ρ', Lw nmL tp (envL L) s'.heap ρ' ∧ Sc ρ' ∧ (∀ x, x ≠ 2 → look ρ' x = look ρ x) ∧ VarAt (envL L) s'.heap "page" (.ref pg) ∧ PgX P tp pg dp ll ac da s' p.1 p.2 (2 * n - 2) ∧ Xe tp os0 s') (fun _ _ => False) s := by
  refine wpAny_mono (for_rule0 (as := []) (x := 2) (n := N) (fn := eBin .sub (eBin .mul (eVar 15) (eVar 15)) (eVar 15)) G.ok (envL_ls hL) rfl (plc_cell rfl rfl) (snd_bin (snd_bin (snd_var rfl rfl rfl) (snd_var rfl rfl rfl) _ rfl) (snd_var rfl rfl rfl) _ rfl) (envL_G L) rfl G.range.1 G.range.2 rfl hA hN eN hW htk
    (fun i ρ' s' => Sc ρ' ∧ (∀ x, x ≠ 2 → look ρ' x = look ρ x) ∧ Xe tp os0 s' ∧ ∃ q, goPg ring n i = some q ∧ PgX P tp pg dp ll ac da s' q.1 q.2 (2 * n - 2))
    (fun i ρ' s s' k h => ?_) (fun i ρ' s c h' tk hc cz sb w1 w2 h => ?_) ⟨hsc, fun _ _ => rfl, hx, _, rfl, PG⟩ fun i s₁ ρ₁ hi hJ W htk1 kv => ?_) (fun fl s' q => ?_) fun _ _ e => e
  · obtain ⟨a, b, x, q, e, pgx⟩ := h
    refine ⟨a, b, x.keep k, q, e, ?_⟩
    obtain ⟨h', tk, rfl, k⟩ := k
    exact pgx.keep k
  · obtain ⟨a, b, x, q, e, pgx⟩ := h
    exact ⟨a, b, x.sb hc sb, q, e, pgx_cz T hL F hc cz sb w1 w2 pgx⟩
  · obtain ⟨a, b, x, q, e, pgx⟩ := hJ
    obtain ⟨c, ec, tc, l2, l1, e'⟩ := goPg_step e (goPg_pre (n := N) hi (by rw [hp]; rfl))
    have hv := kv 28 (by decide) _ hpg
    have l3 : look (upd ρ₁ 2 (.u (.i (i : Int)))) 3 = some (.u (.s ring)) := by rw [look_upd, if_neg (by decide), b 3 (by decide), h3]
    have l15 : look (upd ρ₁ 2 (.u (.i (i : Int)))) 15 = some (.u (.i n)) := by rw [look_upd, if_neg (by decide), b 15 (by decide), h15]
    have ev := ch_val (by rw [look_upd, if_pos rfl]) l3 l15 ec
    have sc' := a.upd 2 (.i (i : Int))
    refine wpAny_execs_cons (wpAny_Expr_any (Call_G ⟨rfl, rfl, rfl⟩ (wpAny_Name ?_ (by decide))) rfl rfl)
    have go : ∀ pl : Sem Bool, wpAny (model pw w) A (getMethod (.ref pg) "_append_chunk" pl) (fun fx s₂ => wpAny (model pw w) A (callWith ⟨175, 8, 175, 47⟩ fx.1 fx.2 (backTo ⟨175, 8, 175, 47⟩ (starEach [.Constant (.str " ") 0 ⟨175, 27, 175, 30⟩, .Subscript (.Name "ring" ⟨175, 32, 175, 36⟩) (.BinOp (.Name "k" ⟨175, 37, 175, 38⟩) .Mod (.Name "size" ⟨175, 41, 175, 45⟩) ⟨175, 37, 175, 45⟩) ⟨175, 32, 175, 46⟩] (envL L))) []) (fun _ s' => ∃ ρ', ((fun i ρ' s' => Sc ρ' ∧ (∀ x, x ≠ 2 → look ρ' x = look ρ x) ∧ Xe tp os0 s' ∧ ∃ q, goPg ring n i = some q ∧ PgX P tp pg dp ll ac da s' q.1 q.2 (2 * n - 2)) (i + 1) ρ' s') ∧ Pst nmL tp (envL L) (fun _ => True) [] s₁ ρ' none .next s') (fun _ _ => False) s₂) (fun _ _ => False) s₁ := by
      intro pl
      obtain ⟨sl, mm, bb, I, i1, i2, i3, i4, i5, i6, i7⟩ := pgx.pgI
      refine ins_meth (T.inK _ W.bs) I k_V.pg (f := 125) (by kernel_rfl) (by kernel_rfl) i5 (callWith_K (K := Kx P) (h₀ := s₁.heap) (T.inK _ W.bs) (by kernel_rfl) ?_)
      refine wpAny_items_cons (wpAny_mono (snd_str A s₁ (upd ρ₁ 2 (.u (.i (i : Int)))) (.u (.s " ")) hA W.bs W.acc (by rfl)) (fun v0 s2 o1 => ?_) fun _ _ e => e.elim)
      obtain ⟨⟨t0, rfl⟩, _, k1, _⟩ := o1
      have W1 := W.keep (kpK k1)
      refine wpAny_items_cons (wpAny_mono (snd_idx (snd_var (x := 3) rfl rfl rfl) (snd_bin (op := .fmod) (snd_var (x := 2) rfl rfl rfl) (snd_var (x := 15) rfl rfl rfl) _ rfl) (fun _ _ => rfl) (fun _ _ => rfl) A s2 _ _ hA W1.bs W1.acc ev) (fun v1 s3 o2 => ?_) fun _ _ e => e.elim)
      obtain ⟨⟨t1, rfl⟩, _, k2, _⟩ := o2
      have k3 : Keeps s₁ s3 := kpT k1 k2
      have W3 := W.keep (kpK k3)
      refine wpAny_items_nil ⟨T.inK _ W3.bs, ?_⟩
      have pgx3 : PgX P tp pg dp ll ac da s3 q.1 q.2 (2 * n - 2) := by
        obtain ⟨h', tk, rfl, k⟩ := k3
        exact pgx.keep k
      refine pgx_chunk T hA.hd (Nat.le_trans hA.dp (by decide)) (Nat.le_trans hA.un (by decide)) pgx3 (Nat.le_trans l2 (by decide)) (by rcases two_cases tc with rfl | rfl <;> rfl) (lineOk_two (goPg_two e) l2) (by omega) (Nat.le_trans l1 (by decide)) F.pl F.dl fun s4 C4 pgx4 => ?_
      have frk : ∀ b o, Fr (envL L) b → s3.heap.get? b = some o → s4.heap.get? b = some o := fun b o hb e => C4.get b o (fr_out T hL F hb) e
      have W4 := W3.fr pgx4.st.bs sc' frk
      refine ⟨_, ⟨sc', fun y hy => by rw [look_upd, if_neg hy]; exact b y hy, (x.keep k3).cg C4, _, e', pgx4⟩, trivial, fun b vs e => ?_, fun y _ val hv => va_keep frk (hv.keep (kpK k3)), rfl, W4⟩
      have e3 := kpK k3 b _ e
      refine C4.get b _ ?_ e3
      simp only [List.mem_cons, List.not_mem_nil, or_false, not_or]
      obtain ⟨⟨sl, ps, n, ti, b', ⟨f1, f2, o, es', ep', f3, f4, _⟩, hb, PR⟩, _⟩ := pgx3.st.acc
      obtain ⟨vs', n', g1, g2⟩ := pgx3.lnI
      refine ⟨fun q => ?_, fun q => ?_, fun q => ?_, fun q => ?_, fun q => ?_⟩
      · rw [q, g1] at e3; simp at e3
      · rw [q, f1] at e3; cases e3
      · rw [q, f3] at e3; cases e3; cases f4
      · obtain ⟨ps, _, ⟨o2, vs2, z1, z2⟩, z3⟩ := pgx3.st.kc
        rw [q, z3] at e3; cases e3
      · obtain ⟨ps, _, ⟨o2, vs2, z1, z2⟩, z3⟩ := pgx3.st.kc'
        rw [q, z3] at e3; cases e3
    rcases hv with ⟨e1, m, hn, hm⟩ | ⟨e1, _⟩
    · refine wpAny_loadName_local rfl e1 hn hm ?_
      intro pl
      refine wpAny_mono (go pl) (fun fx s₂ z => wpAny_mono z (fun _ s' z => wpAny_execs_nil z) fun _ _ z => z) fun _ _ z => z
    · cases e1
  · obtain ⟨ρ', ⟨a, b, x, q, e, pgx⟩, p0⟩ := q
    rw [hp] at e
    cases e
    exact ⟨p0.out.1, ρ', p0.out.2, a, b, p0.kv 28 (by decide) _ hpg, pgx, x⟩
end
end Mine
end
section
open PySem PySem.W PyProof.Rows PySem.Calls
set_option Elab.async false
set_option maxRecDepth 100000
namespace Mine
noncomputable abbrev slash : Str := Str.ofString "/"
theorem slash_eq : slash = ⟨#[47]⟩ := by decide +kernel
section
variable {P : Params} {tp : Tp} {w : World} {L : Addr} {fq : V → Option V} {os0 : OsState}
theorem pgOk_line {p : List Str × List Str} (h : pgOk p = true) : ∃ cs x, p.2 = cs ++ [x] ∧ twoS x = true ∧ LineOk (cs ++ [x]) ∧ cs.length ≤ 100 ∧ p.1.length ≤ 100 ∧ Txt.isspace (lineT (cs ++ [x])) = false ∧ JoinOk slash (p.1 ++ [lineT (cs ++ [x])]) = true := by
  unfold pgOk at h
  simp only [Bool.and_eq_true, decide_eq_true_eq, Bool.not_eq_true', List.all_eq_true] at h
  obtain ⟨⟨⟨⟨⟨h1, h2⟩, h3⟩, h4⟩, h5⟩, h6⟩ := h
  have hne : p.2 ≠ [] := fun e => by rw [e] at h4; simp at h4
  obtain ⟨cs, x, e⟩ : ∃ cs x, p.2 = cs ++ [x] := ⟨_, _, (List.dropLast_concat_getLast hne).symm⟩
  rw [e] at h1 h2 h5
  refine ⟨cs, x, e, h1 x (by simp), lineOk_two h1 h2, ?_, h3, h5, ?_⟩
  · rw [List.length_append] at h2; exact Nat.le_trans (Nat.le_add_right _ _) h2
  · unfold pgRows at h6
    rw [e] at h6
    rw [slash_eq]; exact h6

theorem st_rows (T : Top0 P tp) (G : LawG w tp fq) (hL : tp.H.objs.size ≤ L) {A : Around} (hA : AOk A) {s : Shared} {ρ : List (Nat × V)} {n : Nat} {pg dp ll ac da : Addr} {p : List Str × List Str} (hW : Lw nmL tp (envL L) s.heap ρ) (hsc : Sc ρ)
    (hpg : VarAt (envL L) s.heap "page" (.ref pg)) (F : PgF L pg dp ll ac da) (PG : PgX P tp pg dp ll ac da s p.1 p.2 (2 * n - 2)) (hx : Xe tp os0 s) (hp : pgOk p = true) (h2 : 2 ≤ (pgRows p).length) (hs : ∀ t ∈ pgRows p, t.cps.size ≤ 4000 ∧ 47 ∉ t.cps.toList) (hlen : (Txt.join slash (pgRows p)).length ≤ 4000) (hn : (pgRows p).length ≤ 4000) :
    wpAny (model pw w) A (exec (lS 12) (envL L)) (fun fl s' => fl = .next ∧ Lw nmL tp (envL L) s'.heap (upd ρ 16 (.z (pgRows p))) ∧ Xe tp os0 s') (fun _ _ => False) s := by
  obtain ⟨cs, x, e2, tx2, hL2, l2, l1, hsp, hj⟩ := pgOk_line hp
  have er : pgRows p = p.1 ++ [lineT (cs ++ [x])] := by unfold pgRows; rw [e2]
  rw [← er] at hj
  have hsplit : Txt.split (Txt.join slash (pgRows p)) slash = pgRows p := by
    rw [slash_eq]
    exact split_join (fun q => by rw [q] at h2; simp at h2) fun t ht => (hs t ht).2
  refine wpAny_Assign_Name (wpAny_Call_method (T := "str") rfl rfl rfl PySem.F.plainAttrs_str PySem.F.slot_str_split PySem.F.type_str_split (Call_G ⟨rfl, rfl, rfl⟩ (wpAny_Name ?_ (by decide)))) rfl
  rcases hpg with ⟨e1, m, hnm, hm⟩ | ⟨e1, _⟩
  · refine wpAny_loadName_local rfl e1 hnm hm ?_
    intro pl
    obtain ⟨sl, mm, bb, I, i1, i2, i3, i4, i5, i6, i7⟩ := PG.pgI
    refine ins_meth (T.inK _ hW.bs) I k_V.pg (f := 76) (by kernel_rfl) (by kernel_rfl) i7 (callWith_K (K := Kx P) (h₀ := s.heap) (T.inK _ hW.bs) (by kernel_rfl) ?_)
    refine wpAny_items_cons (wpAny_Constant_str (wpAny_items_nil ⟨T.inK _ hW.bs, ?_⟩))
    have PG1 : PgX P tp pg dp ll ac da { s with toks := s.toks + 1 } p.1 (cs ++ [x]) (2 * n - 2) := e2 ▸ PG.keep (h' := s.heap) fun _ _ e => e
    refine pgx_str T hA.hd hA.dp (Nat.le_trans hA.un (by decide)) PG1 (Nat.le_trans l2 (by decide)) (by rcases two_cases tx2 with rfl | rfl <;> decide +kernel) (by rcases two_cases tx2 with rfl | rfl <;> decide +kernel) hL2 hsp (Nat.le_trans l1 (by decide)) F.pl F.dl (by rw [← er]; exact hj) fun s1 t1 C1 PG2 => ?_
    rw [← er]
    have frk : ∀ b o, Fr (envL L) b → s.heap.get? b = some o → s1.heap.get? b = some o := fun b o hb e => C1.get b o (fr_out T hL F hb) e
    have W1 := hW.fr PG2.st.bs hsc frk
    have x1 : Xe tp os0 s1 := (hx.keep (s' := { s with toks := s.toks + 1 }) kpTok).cg C1
    refine ⟨typeIs_str _ _ _, (fun a e => nomatch e), callWith_method1 ?_⟩
    refine wpAny_items_cons (wpAny_Constant_str (wpAny_items_nil ?_))
    refine split_ok hlen (by decide +kernel) (fun t ht => ?_) ?_ fun vs tk a z => ?_
    · rw [hsplit] at ht; exact (hs t ht).1
    · rw [hsplit]; exact hn
    rw [hsplit] at a z
    have kp : Keeps s1 { s1 with heap := s1.heap.push { cls := .type "list", data := .seq vs.toArray }, toks := tk } := ⟨_, _, rfl, fun b o e => Heap.get?_push_of_some _ e⟩
    have W2 := W1.keep (kpK kp)
    have hnone : s1.heap.get? s1.heap.objs.size = none := Heap.get?_none_of_le (Nat.le_refl _)
    have okz : okV (.z (pgRows p)) = true := by
      simp only [okV, Bool.and_eq_true, decide_eq_true_eq, List.all_eq_true]
      exact ⟨hn, fun t ht => (hs t ht).1⟩
    refine store_var (x := 16) G.ok (envL_ls hL) W2 (plc_cell rfl rfl) (v := .z (pgRows p)) ⟨_, vs, _, rfl, Heap.get?_push_size _ rfl, z (.inr h2) (by show s1.toks + 1 ≠ 0; omega)⟩ okz (fun a ea y _ ey => ?_) (fun a ea => ?_) fun h' tk' c W3 hc _ hsb _ _ => ⟨rfl, W3, (x1.keep kp).sb hc (Sb.of hsb)⟩
    · cases ea; exact fresh_ok W1 (kpK kp) hnone y ey
    · cases ea; exact fresh_new W1 hnone
  · cases e1

theorem endOk_some {st : S4} (h : endOk st = true) : ∃ n : Nat, 5 ≤ n ∧ n ≤ 10 ∧ st.col.cps.size = n ∧ st.ring.cps.size = n ∧ ∃ p, goPg st.ring n (n * n - n) = some p ∧ pgOk p = true ∧ 2 ≤ (pgRows p).length ∧ (∀ t ∈ pgRows p, t.cps.size ≤ 4000 ∧ 47 ∉ t.cps.toList) ∧ ((pgRows p).map fun t => t.cps.size).sum + (pgRows p).length ≤ 4000 ∧
    ∃ ρ, gEndS [(3, .u (.s st.ring)), (5, .u (.s st.col)), (6, .u (.i st.place)), (15, .u (.i n)), (16, .z (pgRows p))] = some (ρ, some (.u (.b true))) := by
  unfold endOk at h
  obtain ⟨n, hn, h⟩ := List.any_eq_true.mp h
  have hn' : 5 ≤ n ∧ n ≤ 10 := by simp only [List.mem_cons, List.not_mem_nil, or_false] at hn; omega
  unfold endAt at h
  simp only [Bool.and_eq_true, decide_eq_true_eq] at h
  obtain ⟨⟨⟨h1, h2⟩, h3⟩, h4⟩ := h
  unfold pgText at h4
  split at h4
  · rename_i p ep
    rw [Bool.and_eq_true, layR_eq] at h4
    simp only [Bool.and_eq_true, decide_eq_true_eq, List.all_eq_true, Bool.not_eq_true', List.contains_eq_mem, decide_eq_false_iff_not] at h4
    obtain ⟨h5, ⟨⟨h6, h7⟩, h8⟩, h9⟩ := h4
    refine ⟨n, hn'.1, hn'.2, h1, h2, p, ep, h5, h6, h7, h8, ?_⟩
    split at h9
    · rename_i ρ e9
      exact ⟨ρ, e9⟩
    · cases h9
  · cases h4
end
end Mine
end
section
open PySem PySem.W PyProof.Rows PySem.Calls
set_option Elab.async false
set_option maxRecDepth 100000
namespace Mine
theorem rho_sc (st : S4) : Sc (rhoC st) := fun x v e => by
  unfold rhoC at e
  simp only [look_cons] at e
  split at e
  · exact ⟨_, (Option.some.inj e).symm⟩
  · split at e
    · exact ⟨_, (Option.some.inj e).symm⟩
    · split at e
      · exact ⟨_, (Option.some.inj e).symm⟩
      · split at e
        · exact ⟨_, (Option.some.inj e).symm⟩
        · cases e
section
variable {P : Params} {tp : Tp} {w : World} {L : Addr} {fq : V → Option V} {os0 : OsState}
theorem st_size (G : LawG w tp fq) (hL : tp.H.objs.size ≤ L) {X : Shared → Prop} (hX : XOk tp X) : Snd1 pw w nmL tp X (lS 8) (envL L) [15] (sAsg 15 (eLen (eVar 5))) :=
  snd1_asg G.ok (envL_ls hL) hX rfl (snd_len (snd_var rfl rfl rfl) (envL_G L) rfl G.len.1 G.len.2 rfl) (plc_loc rfl) rfl
theorem st_eq (G : LawG w tp fq) {X : Shared → Prop} (hX : XOk tp X) : Snd1 pw w nmL tp X (lS 9) (envL L) (([] ++ []) ++ []) (sIf (tCmp .ne (eLen (eVar 3)) (eVar 15)) gRetF sNil) :=
  snd1_if hX (sndT_cmp (snd_len (snd_var rfl rfl rfl) (envL_G L) rfl G.len.1 G.len.2 rfl) (snd_var rfl rfl rfl) _ rfl rfl) (st_retF hX) sndS_nil

theorem size_at {n : Nat} (h5 : 5 ≤ n) (h10 : n ≤ 10) {ρ : List (Nat × V)} (h : look ρ 15 = some (.u (.i n))) : eBin .sub (eBin .mul (eVar 15) (eVar 15)) (eVar 15) ρ = some (.u (.i ((n * n - n : Nat) : Int))) := by
  unfold eBin
  rw [show eVar 15 ρ = some (.u (.i n)) from h]
  have : n = 5 ∨ n = 6 ∨ n = 7 ∨ n = 8 ∨ n = 9 ∨ n = 10 := by omega
  rcases this with rfl | rfl | rfl | rfl | rfl | rfl <;> rfl

theorem law_tail (T : Top0 P tp) (G : LawG w tp qnV) (hL : tp.H.objs.size ≤ L) {A : Around} (hA : AOk A) {s : Shared} {ρ : List (Nat × V)} {sec : Int} {st : S4} (hW : Lw nmL tp (envL L) s.heap ρ) (hx : Xw tp os0 s) (htk : 1 ≤ s.toks) (h1 : look ρ 1 = some (.u (.i sec))) (hst : st ∈ S0) (h4 : At4 ρ st) :
    wpAny (model pw w) A (execs [lS 7, lS 8, lS 9, lS 10, lS 11, lS 12, lS 13, lS 14, lS 15, lS 16, lS 17, lS 18] (envL L)) (fun fl s' => fl = .ret (.bool true) ∧ Xe tp os0 s') (fun _ _ => False) s := by
  have hX := xw_ok T os0
  refine wpAny_execs_cons (wpAny_mono (wpAny_toks_of htk (deeds_ok G hL hX hA hW hx htk h1 hst h4)) (fun fl s₁ p => ?_) fun _ _ e => e.2.elim)
  obtain ⟨htk1, ρ1, st1, hst1, hat1, x1, rfl, W1⟩ := p
  obtain ⟨n, n5, n10, hc, hr, p, ep, hp, hr2, hrs, hrl, ρe, ee⟩ := endOk_some (end_all st1 hst1)
  have W2 : Lw nmL tp (envL L) s₁.heap (rhoC st1) := W1.weaken hat1
  have l5 : look (rhoC st1) 5 = some (.u (.s st1.col)) := rfl
  have l3 : look (rhoC st1) 3 = some (.u (.s st1.ring)) := rfl
  have e8 : sAsg 15 (eLen (eVar 5)) (rhoC st1) = some (upd (rhoC st1) 15 (.u (.i n)), none) := by
    unfold sAsg eLen
    rw [show eVar 5 (rhoC st1) = some (.u (.s st1.col)) from l5]
    show (match gd (.u (.i st1.col.length)) with
      | some v => some (upd (rhoC st1) 15 v, none)
      | none => none) = _
    rw [show st1.col.length = n from hc]
    rfl
  refine wpAny_execs_cons (wpAny_mono (wpAny_toks_of htk1 (st_size G hL hX A s₁ _ _ none hA W2 x1 htk1 e8)) (fun fl s₂ q => ?_) fun _ _ e => e.2.elim)
  obtain ⟨htk2, q⟩ := q
  obtain ⟨rfl, W3⟩ := q.out
  have u15 : look (upd (rhoC st1) 15 (.u (.i n))) 15 = some (.u (.i n)) := by rw [look_upd, if_pos rfl]
  have u3 : look (upd (rhoC st1) 15 (.u (.i n))) 3 = some (.u (.s st1.ring)) := by rw [look_upd, if_neg (by decide)]; exact l3
  have sc3 : Sc (upd (rhoC st1) 15 (.u (.i n))) := (rho_sc st1).upd 15 (.i n)
  have e9 : sIf (tCmp .ne (eLen (eVar 3)) (eVar 15)) gRetF sNil (upd (rhoC st1) 15 (.u (.i n))) = some (upd (rhoC st1) 15 (.u (.i n)), none) := by
    have t : tCmp .ne (eLen (eVar 3)) (eVar 15) (upd (rhoC st1) 15 (.u (.i n))) = some false := by
      unfold tCmp eLen
      rw [show eVar 3 (upd (rhoC st1) 15 (.u (.i n))) = some (.u (.s st1.ring)) from u3, show eVar 15 (upd (rhoC st1) 15 (.u (.i n))) = some (.u (.i n)) from u15]
      show (match gd (.u (.i st1.ring.length)), some (V.u (.i n)) with
        | some x, some y => cmpV .ne x y
        | _, _ => none) = _
      rw [show st1.ring.length = n from hr]
      show some ((n : Int) != n) = some false
      simp
    unfold sIf
    rw [t]
    rfl
  refine wpAny_execs_cons (wpAny_mono (wpAny_toks_of htk2 (st_eq G hX A s₂ _ _ none hA W3 q.x htk2 e9)) (fun fl s₃ q2 => ?_) fun _ _ e => e.2.elim)
  obtain ⟨htk3, q2⟩ := q2
  obtain ⟨rfl, W4⟩ := q2.out
  refine wpAny_execs_cons (wpAny_mono (wpAny_toks_of htk3 (st_page T G hL hA W4 sc3 (by rw [look_upd, if_neg (by decide)]; exact rho_none st1 (by decide) (by decide) (by decide) (by decide)) q2.x u15 ⟨by omega, by omega⟩)) (fun fl s₄ q3 => ?_) fun _ _ e => e.2.elim)
  obtain ⟨htk4, rfl, pg, dp, ll, ac, da, W5, hpg, F, PG, x5⟩ := q3
  refine wpAny_execs_cons (wpAny_mono (wpAny_toks_of htk4 (st_lines T G hL hA W5 htk4 sc3 u3 u15 hpg F PG x5 (by omega) (N := n * n - n) (Nat.le_trans (Nat.sub_le _ _) (Nat.le_trans (Nat.mul_le_mul n10 n10) (by decide))) (size_at n5 n10 u15) ep)) (fun fl s₅ q4 => ?_) fun _ _ e => e.2.elim)
  obtain ⟨htk5, rfl, ρ6, W6, sc6, l6, hpg6, PG6, x6⟩ := q4
  have hjl : (Txt.join slash (pgRows p)).length ≤ 4000 := by
    show (Builtin.Str.glued _ _).length ≤ _
    rw [StrLaws.glued_eq_join]
    refine Nat.le_trans (StrLaws.join_length_le _ _) ?_
    have : slash.length = 1 := by decide +kernel
    rw [this, Nat.mul_one]
    exact hrl
  refine wpAny_execs_cons (wpAny_mono (wpAny_toks_of htk5 (st_rows T G hL hA W6 sc6 hpg6 F PG6 x6 hp hr2 hrs hjl (Nat.le_trans (Nat.le_add_left _ _) hrl))) (fun fl s₆ q5 => ?_) fun _ _ e => e.2.elim)
  obtain ⟨htk6, rfl, W7, x7⟩ := q5
  have W8 : Lw nmL tp (envL L) s₆.heap [(3, .u (.s st1.ring)), (5, .u (.s st1.col)), (6, .u (.i st1.place)), (15, .u (.i n)), (16, .z (pgRows p))] := W7.weaken fun x v e => by
    simp only [look_cons] at e
    have up : ∀ y z, y ≠ 2 → y ≠ 15 → y ≠ 16 → look (rhoC st1) y = some z → look (upd ρ6 16 (.z (pgRows p))) y = some z := fun y z a b c h => by
      rw [look_upd, if_neg c, l6 y a, look_upd, if_neg b]; exact h
    split at e
    · rename_i q; cases e; rw [← eq_of_beq q]; exact up 3 _ (by decide) (by decide) (by decide) rfl
    · split at e
      · rename_i q; cases e; rw [← eq_of_beq q]; exact up 5 _ (by decide) (by decide) (by decide) rfl
      · split at e
        · rename_i q; cases e; rw [← eq_of_beq q]; exact up 6 _ (by decide) (by decide) (by decide) rfl
        · split at e
          · rename_i q; cases e; rw [← eq_of_beq q, look_upd, if_neg (by decide), l6 15 (by decide)]; exact u15
          · split at e
            · rename_i q; cases e; rw [← eq_of_beq q, look_upd, if_pos rfl]
            · cases e
  obtain ⟨as, hend⟩ := st_end (w := w) (X := Xe tp os0) G hL (xe_ok tp os0)
  refine wpAny_mono (hend A s₆ _ _ _ hA W8 x7 htk6 ee) (fun fl s₇ q6 => ?_) fun _ _ e => e
  obtain ⟨val, rfl, hv⟩ := q6.out
  exact ⟨by rw [show val = .bool true from hv], q6.x⟩
end
end Mine
end
section
open PySem PySem.W PyProof.Rows PySem.Calls
set_option Elab.async false
set_option maxRecDepth 100000
namespace Mine
theorem pick_ints {its : Array Value} (h : AllInts its) (lo hi st : Option Int) : AllInts (slicePick its lo hi st) := fun v hv => by
  unfold slicePick at hv
  rw [List.mem_toArray, List.mem_filterMap] at hv
  obtain ⟨i, _, e⟩ := hv
  exact h v (Array.mem_of_getElem? e)
section
variable {P : Params} {tp : Tp} {w : World} {L : Addr} {fq : V → Option V} {os0 : OsState}

/-- the sum of a part of the script -/
theorem sl_sum {A : Around} {s : Shared} {a : Addr} {its : Array Value} {vl vs : Value} {lo st : Option Int} {Q : Value → Shared → Prop} (hh : A.handled = none) (hl : s.heap.IsList a its) (hi : AllInts its) (pl : IsPart vl lo) (ps : IsPart vs st) (h0 : st ≠ some 0) (hsz : its.size ≤ sizeLine)
    (h : ∀ s' S t', Keeps s s' → Q (.int S t') s') :
    ({ s with heap := s.heap.push { cls := .type "slice", data := .fields #[vl, .none, vs] } } : Shared).TypeIs (.ref a) "list" ∧
    wpAny (model pw w) A (getItem (.ref a) (.ref s.heap.objs.size)) (fun v s₁ => wpAny (model pw w) A (call (.builtin "sum") [v]) Q (fun _ _ => False) s₁) (fun _ _ => False) { s with heap := s.heap.push { cls := .type "slice", data := .fields #[vl, .none, vs] } } := by
  refine ⟨(hl.push _).typeIs, wpAny_getItem_list_slice (hl.push _) (Heap.IsSliceOf.new ..) pl .none ps h0 ?_ hsz⟩
  obtain ⟨xs, hx⟩ := (pick_ints hi lo none st).items
  rw [hx]
  refine sum_intListG (xs := xs) hh ⟨_, Heap.get?_push_size _ rfl, rfl, _, rfl⟩ fun h' tk t' hk => h _ _ t' ⟨h', tk, rfl, fun b o e => hk b o (Heap.get?_push_of_some _ (Heap.get?_push_of_some _ e))⟩

theorem st_first (G : LawG w tp fq) (hs : tp.mg "sum" = none ∧ tp.mb "sum" = some (.builtin "sum")) (hL : tp.H.objs.size ≤ L) {X : Shared → Prop} (hX : XOk tp X) {A : Around} (hA : AOk A) {s : Shared} {ρ : List (Nat × V)} {a : Addr} {its : Array Value} (hW : Lw nmL tp (envL L) s.heap ρ) (hx : X s) (hv : VarAt (envL L) s.heap "script" (.ref a)) (hl : s.heap.IsList a its) (hi : AllInts its) (hsz : its.size ≤ sizeLine) :
    wpAny (model pw w) A (exec (lS 0) (envL L)) (fun fl s' => fl = .next ∧ ∃ S, Lw nmL tp (envL L) s'.heap (upd ρ 0 (.u (.i S))) ∧ X s' ∧ VarAt (envL L) s'.heap "script" (.ref a) ∧ s'.heap.IsList a its) (fun _ _ => False) s := by
  refine wpAny_Assign_Name (wpAny_BinOp (wpAny_mono (snd_int (n := 20) A s ρ _ hA hW.bs hW.acc rfl) (fun v0 s1 o1 => ?_) fun _ _ e => e.elim)) rfl
  obtain ⟨r1, _, k1, ok1⟩ := o1
  have W1 := hW.keep (kpK k1)
  have hv1 := hv.keep (kpK k1)
  obtain ⟨ol, el, cl, nl, dl⟩ := id hl
  have hl1 : s1.heap.IsList a its := ⟨ol, kpK k1 _ _ el, cl, nl, dl⟩
  refine wpAny_Call_NameR (name_builtin (tp := tp) (envL_G L) W1.bs rfl hs.1 hs.2 (by decide) (PySem.callWith_builtin1 (wpAny_Subscript_Slice_step (T := "list") list_getitem_lookup (wpAny_Name ?_ (by decide)) (fun _ _ => rfl))))
  rcases hv1 with ⟨e1, m, hnm, hm⟩ | ⟨e1, _⟩
  · refine wpAny_loadName_local rfl e1 hnm hm (wpAny_Slice (wpAny_evalPart_none (wpAny_evalPart_none (wpAny_evalPart_some (wpAny_mono (snd_int (n := 2) A s1 ρ _ hA W1.bs W1.acc rfl) (fun v1 s2 o2 => ?_) fun _ _ e => e.elim)))))
    obtain ⟨⟨t1, rfl⟩, _, k2, _⟩ := o2
    have hl2 : s2.heap.IsList a its := ⟨ol, kpK k2 _ _ (kpK k1 _ _ el), cl, nl, dl⟩
    refine sl_sum hA.hd hl2 hi .none (.int _ _) (by simp) hsz fun s3 S t' k3 => ?_
    have k4 : Keeps s s3 := kpT (kpT k1 k2) k3
    refine wpAny_mono (bin_ok (op := .add) (x := .u (.i 20)) (y := .u (.i S)) (v := .u (.i (20 + S))) rfl rfl (r1.keep (kpK (kpT k2 k3))) ⟨_, rfl⟩ rfl) (fun v3 s4 o4 => ?_) fun _ _ e => e
    obtain ⟨⟨t4, rfl⟩, _, k5, _⟩ := o4
    have k6 : Keeps s s4 := kpT k4 k5
    refine store_var (x := 0) G.ok (envL_ls hL) (hW.keep (kpK k6)) (plc_cell rfl rfl) (v := .u (.i (20 + S))) ⟨_, rfl⟩ rfl (fun a ea => nomatch ea) (fun a ea => nomatch ea) fun h' tk' c W3 hc hcz hsb _ hiff => ⟨rfl, _, W3, hX.same _ _ _ _ hc (Sb.of hsb) (hX.keep _ _ k6 hx), ?_, ?_⟩
    · exact (hiff 29 _ (by decide)).mp (hv.keep (kpK k6))
    · refine ⟨ol, (hsb.2 a fun q => ?_).trans (kpK k6 _ _ el), cl, nl, dl⟩
      obtain ⟨o', e2, hk, _⟩ := fr_there (hW.keep (kpK k6)) (show Fr (envL L) c from hcz)
      rw [← q, kpK k6 _ _ el] at e2; cases e2; exact hk.2 _ _ dl
  · cases e1

theorem st_second (G : LawG w tp fq) (hs : tp.mg "sum" = none ∧ tp.mb "sum" = some (.builtin "sum")) (hL : tp.H.objs.size ≤ L) {X : Shared → Prop} (hX : XOk tp X) {A : Around} (hA : AOk A) {s : Shared} {ρ : List (Nat × V)} {a : Addr} {its : Array Value} (hW : Lw nmL tp (envL L) s.heap ρ) (hx : X s) (hv : VarAt (envL L) s.heap "script" (.ref a)) (hl : s.heap.IsList a its) (hi : AllInts its) (hsz : its.size ≤ sizeLine) :
    wpAny (model pw w) A (exec (lS 1) (envL L)) (fun fl s' => fl = .next ∧ ∃ S, Lw nmL tp (envL L) s'.heap (upd ρ 1 (.u (.i S))) ∧ X s') (fun _ _ => False) s := by
  refine wpAny_Assign_Name (wpAny_BinOp (wpAny_mono (snd_int (n := 62) A s ρ _ hA hW.bs hW.acc rfl) (fun v0 s1 o1 => ?_) fun _ _ e => e.elim)) rfl
  obtain ⟨r1, _, k1, ok1⟩ := o1
  have W1 := hW.keep (kpK k1)
  have hv1 := hv.keep (kpK k1)
  obtain ⟨ol, el, cl, nl, dl⟩ := id hl
  refine wpAny_Call_NameR (name_builtin (tp := tp) (envL_G L) W1.bs rfl hs.1 hs.2 (by decide) (PySem.callWith_builtin1 (wpAny_Subscript_Slice_step (T := "list") list_getitem_lookup (wpAny_Name ?_ (by decide)) (fun _ _ => rfl))))
  rcases hv1 with ⟨e1, m, hnm, hm⟩ | ⟨e1, _⟩
  · refine wpAny_loadName_local rfl e1 hnm hm (wpAny_Slice (wpAny_evalPart_some (wpAny_mono (snd_int (n := 1) A s1 ρ _ hA W1.bs W1.acc rfl) (fun v9 s9 o9 => wpAny_evalPart_none (wpAny_evalPart_some (wpAny_mono (snd_int (n := 2) A s9 ρ _ hA (W1.keep (kpK o9.2.2.1)).bs (W1.keep (kpK o9.2.2.1)).acc rfl) (fun v1 s2 o2 => ?_) fun _ _ e => e.elim))) fun _ _ e => e.elim)))
    obtain ⟨⟨t9, rfl⟩, _, k9, _⟩ := o9
    obtain ⟨⟨t1, rfl⟩, _, k2, _⟩ := o2
    have hl2 : s2.heap.IsList a its := ⟨ol, kpK k2 _ _ (kpK k9 _ _ (kpK k1 _ _ el)), cl, nl, dl⟩
    refine sl_sum hA.hd hl2 hi (.int _ _) (.int _ _) (by simp) hsz fun s3 S t' k3 => ?_
    have k4 : Keeps s s3 := kpT (kpT k1 (kpT k9 k2)) k3
    refine wpAny_mono (bin_ok (op := .add) (x := .u (.i 62)) (y := .u (.i S)) (v := .u (.i (62 + S))) rfl rfl (r1.keep (kpK (kpT (kpT k9 k2) k3))) ⟨_, rfl⟩ rfl) (fun v3 s4 o4 => ?_) fun _ _ e => e
    obtain ⟨⟨t4, rfl⟩, _, k5, _⟩ := o4
    have k6 : Keeps s s4 := kpT k4 k5
    refine store_var (x := 1) G.ok (envL_ls hL) (hW.keep (kpK k6)) (plc_loc rfl) (v := .u (.i (62 + S))) ⟨_, rfl⟩ rfl (fun a ea => nomatch ea) (fun a ea => nomatch ea) fun h' tk' c W3 hc hcz hsb _ hiff => ⟨rfl, _, W3, hX.same _ _ _ _ hc (Sb.of hsb) (hX.keep _ _ k6 hx)⟩
  · cases e1
end
end Mine
end
section
open PySem PySem.W PyProof.Rows PySem.Calls
set_option Elab.async false
set_option maxRecDepth 100000
namespace Mine
section
variable {P : Params} {tp : Tp} {w : World} {L : Addr} {fq : V → Option V} {os0 : OsState}
theorem mkAt (T : Top0 P tp) {f c : Addr} {s : Stmt} {n : Str} {pm : Value} {n0 : Str} {params : Arguments} {body : List Stmt} {ds : List Expr} {ret : Option Expr} {tps : List TypeParam} {scope : Scope} {ts : Option Scope} {bd : Str} {pos : Pos} {oc : Obj} {vs : Array Value} {t : Tok}
    (hmg : tp.mg n = some (.ref f)) (ht : f ∉ [174, 181]) (h1 : (Kx P).lookup f = some ⟨.type "function", none, .func (fD s n n pm (.ref c) .none .none []), List.toArray []⟩) (h2 : (Kx P).lookup c = some oc) (h3 : oc.data = .fields vs) (h4 : vs[1]? = some (.str n t))
    (h5 : s = .FunctionDef n0 params body ds ret tps scope ts bd pos) : FnAt tp n params body scope := by
  refine ⟨f, _, pm, .ref c, .none, hmg, T.kin _ _ h1, by rw [T.tb]; exact ht, ?_, fun h B => T.crec h2 h3 h4 h B⟩
  subst h5
  rfl

theorem law_lt (T : Top0 P tp) : FS2 pw w tp "lt" ltV := fs_lt (mkAt T (f := 223) (c := 222) (s := sM 13) (T.mgS (by kernel_rfl)) (by decide) rfl rfl rfl rfl rfl)
theorem law_gt (T : Top0 P tp) : FS2 pw w tp "gt" gtV := fs_gt (mkAt T (f := 230) (c := 229) (s := sM 14) (T.mgS (by kernel_rfl)) (by decide) rfl rfl rfl rfl rfl)
theorem law_concat (T : Top0 P tp) : FS2 pw w tp "concat" catV := fs_concat (T.bi (n := "hasattr") (v := .builtin "hasattr") (by kernel_rfl) (by kernel_rfl) (by decide)).1 (T.bi (n := "hasattr") (v := .builtin "hasattr") (by kernel_rfl) (by kernel_rfl) (by decide)).2 (mkAt T (f := 237) (c := 236) (s := sM 15) (T.mgS (by kernel_rfl)) (by decide) rfl rfl rfl rfl rfl)
theorem law_getitem (T : Top0 P tp) : FS2 pw w tp "getitem" idxV := fs_getitem (mkAt T (f := 251) (c := 250) (s := sM 17) (T.mgS (by kernel_rfl)) (by decide) rfl rfl rfl rfl rfl)
theorem law_turned (T : Top0 P tp) : FS1 pw w tp "_law_turned" turnV := fs_turned rfl rfl rfl (mkAt T (f := 265) (c := 264) (s := sM 20) (T.mgS (by kernel_rfl)) (by decide) rfl rfl rfl rfl rfl)
theorem law_count (T : Top0 P tp) : CountIs pw w tp := count_core (mkAt T (f := 244) (c := 243) (s := sM 16) (T.mgS (by kernel_rfl)) (by decide) rfl rfl rfl rfl rfl)
theorem law_setitem (T : Top0 P tp) : ∃ q1 q2 q3 p1 p2 p3 p4 p5, FnAt tp "setitem" (ps3 "a" "b" "c" q1 q2 q3) [.Assign [.Subscript (.Name "a" p1) (.Name "b" p2) p3] (.Name "c" p4) p5] (scL ["a", "b", "c"]) :=
  ⟨_, _, _, _, _, _, _, _, mkAt T (f := 258) (c := 257) (s := sM 18) (T.mgS (by kernel_rfl)) (by decide) rfl rfl rfl rfl rfl⟩
noncomputable def code1 : Array Nat := #[14, 4, 0, 1, 1, 6, 1, 16, 46, 1]
noncomputable def code2 : Array Nat := #[14, 9, 4, 1, 2, 16, 10, 16, 13, 0, 7, 7, 16, 13, 16, 10, 15, 18, 5, 16, 10, 15, 13, 11, 16, 13, 5, 5, 0, 16, 10, 1, 15, 2, 0, 1]
theorem law_pat1 (T : Top0 P tp) : PatAt tp "_twin_re_1" code1 := ⟨43, T.mgS (by kernel_rfl), fun h B => ⟨_, _, 42, _, _, _, T.inK h B 43 _ rfl, rfl, rfl, rfl, by rfl, by rfl, by rfl, T.inK h B 42 _ rfl, rfl, by kernel_rfl⟩⟩
theorem law_pat2 (T : Top0 P tp) : PatAt tp "_twin_re_2" code2 := ⟨48, T.mgS (by kernel_rfl), fun h B => ⟨_, _, 47, _, _, _, T.inK h B 48 _ rfl, rfl, rfl, rfl, by rfl, by rfl, by rfl, T.inK h B 47 _ rfl, rfl, by kernel_rfl⟩⟩
theorem law_quote (T : Top0 P tp) : FS1 pw w tp "quotedata" (quoteV code1 code2) := fs_quote (tc := 349) (law_pat1 T) (law_pat2 T) (T.mgS (by kernel_rfl)) rfl rfl (mkAt T (f := 55) (c := 54) (s := sM 6) (T.mgS (by kernel_rfl)) (by decide) rfl rfl rfl rfl rfl)
theorem law_G (T : Top0 P tp) (hq : ∀ x v, qnV x = some v → quoteV code1 code2 x = some v) : LawG w tp qnV where
  ok := T.ok
  range := T.bi (n := "range") (by kernel_rfl) (by kernel_rfl) (by decide)
  len := T.bi (n := "len") (by kernel_rfl) (by kernel_rfl) (by decide)
  sorted := T.bi (n := "sorted") (by kernel_rfl) (by kernel_rfl) (by decide)
  turned := law_turned T
  quote := (law_quote T).mono hq
  concat := law_concat T
  lt := law_lt T
  gt := law_gt T
  getitem := law_getitem T
  count := law_count T
  setitem := law_setitem T
end
end Mine
end
section
open PySem PySem.W PyProof.Rows PySem.Calls
set_option Elab.async false
set_option maxRecDepth 100000
namespace Mine
theorem law_body : lawBody = [lS 0, lS 1, lS 2, lS 3, lS 4, lS 5, lS 6, lS 7, lS 8, lS 9, lS 10, lS 11, lS 12, lS 13, lS 14, lS 15, lS 16, lS 17, lS 18] := rfl
section
variable {P : Params} {tp : Tp} {w : World} {L : Addr} {os0 : OsState}
theorem law_run (T : Top0 P tp) (G : LawG w tp qnV) (hL : tp.H.objs.size ≤ L) {A : Around} (hA : AOk A) {s : Shared} {m : Str → Option Value} {a : Addr} {its : Array Value} (B : Bs tp s.heap) (hn : s.heap.Ns L m) (hm : m "script" = some (.ref a)) (hc : ∀ x c, (envL L).cells.lookup x = some c → ∃ v, s.heap.IsCell c v)
    (hx : Xw tp os0 s) (htk : 1 ≤ s.toks) (hl : s.heap.IsList a its) (hi : AllInts its) (hsz : its.size ≤ sizeLine) :
    wpAny (model pw w) A (execs lawBody (envL L)) (fun fl s' => fl = .ret (.bool true) ∧ Xe tp os0 s') (fun _ _ => False) s := by
  have hs : tp.mg "sum" = none ∧ tp.mb "sum" = some (.builtin "sum") := T.bi (n := "sum") (by kernel_rfl) (by kernel_rfl) (by decide)
  have hX := xw_ok T os0
  have W0 : Lw nmL tp (envL L) s.heap [] := ⟨B, (fun x v e => by cases e), ⟨m, hn⟩, fun x c _ h => hc x c h, (fun x y _ e => by cases e), (fun x a e => by cases e)⟩
  have hv : VarAt (envL L) s.heap "script" (.ref a) := .inl ⟨rfl, m, hn, hm⟩
  rw [law_body]
  refine wpAny_execs_cons (wpAny_mono (wpAny_toks_of htk (st_first G hs hL hX hA W0 hx hv hl hi hsz)) (fun fl s₁ p => ?_) fun _ _ e => e.2.elim)
  obtain ⟨htk1, rfl, S1, W1, x1, hv1, hl1⟩ := p
  refine wpAny_execs_cons (wpAny_mono (wpAny_toks_of htk1 (st_second G hs hL hX hA W1 x1 hv1 hl1 hi hsz)) (fun fl s₂ p => ?_) fun _ _ e => e.2.elim)
  obtain ⟨htk2, rfl, S2, W2, x2⟩ := p
  exact start_ok G hL hX hA W2 x2 htk2 (by rw [look_upd, if_neg (by decide), look_upd, if_pos rfl]) (by rw [look_upd, if_pos rfl]) fun s' ρ' st x3 W3 htk3 l1 hst h4 => law_tail T G hL hA W3 x3 htk3 l1 hst h4
end

/-- a def whose names are shared with inner frames is called, the tokens' count in hand -/
theorem call_cellsT {w : World} {A : Around} {s : Shared} {R : Result → Shared → Prop} {a : Addr} {o : Obj} {vals : List Value} {binds : List (Str × Value)} {n : Nat} (htk : n ≤ s.toks)
    (hroom : A.depth < recursionLimit) (ho : s.heap.get? a = some o) (hdata : o.data = .func lawFd) (hlim : s.heap.NoLimit) (hcd : s.heap.CodeRec (.ref 269) "law") (hbind : bindArgs lawFd ⟨vals, []⟩ = pure binds)
    (hkind : ∀ x ∈ binds, lawFd.scope.names.lookup x.1 = some .local ∨ (lawFd.scope.names.lookup x.1 = some .cell ∧ ((cellsFrom (s.heap.objs.size + 1) lawFd.scope.names []).lookup x.1).isSome = true))
    (h : ∀ s₁, n ≤ s₁.toks → InCallC s (callEnvC lawFd s.heap.objs.size a).locals (bindL (callEnvC lawFd s.heap.objs.size a).kindOf binds fun _ => none) (callEnvC lawFd s.heap.objs.size a).cells (bindC (callEnvC lawFd s.heap.objs.size a).kindOf binds fun _ => none) s₁ →
      wpAny (model pw w) (A.deeper (callEnvC lawFd s.heap.objs.size a)) (execs lawBody (callEnvC lawFd s.heap.objs.size a)) (fun f s' => R (.ok (.ret (match f with | .ret v => v | _ => .none))) s')
        (fun e s' => wpAny (model pw w) (A.deeper (callEnvC lawFd s.heap.objs.size a)) (leaving (callEnvC lawFd s.heap.objs.size a) e) (fun _ s'' => R (.error e) s'') (fun e' s'' => R (.error e') s'') s') s₁) :
    codeAny (model pw w) A (.call (.ref a) ⟨vals, []⟩) R s := by
  refine codeAny_call_function hroom ho hdata rfl rfl rfl hcd ?_
  rw [hbind, show lawFd.closure = [] from rfl]
  refine wpAny_pure (wpAny_with_toks htk (wpAny_newFunctionEnv_cells rfl hkind fun env he s' x => ?_))
  subst he
  exact fun ht => ⟨hlim.keeps x.toInCall.keep, codeAny_func (h s' ht x)⟩
end Mine
end
section
open PySem PySem.W PyProof.Rows PySem.Calls
set_option Elab.async false
set_option maxRecDepth 100000
namespace Mine
theorem law_call (hq : ∀ x v, qnV x = some v → quoteV code1 code2 x = some v) {w : World} {s₀ s₁ : Shared} {mg mb : Str → Option Value} {fa a : Addr} {R : WRecords} {ns : List Int} {vs : List Value} {as : List Addr} (G : Ground qx loosex R (XL qx []) w s₀ mg mb s₁.heap) (Y : obsX s₀ = valX w) (hg : s₁.gens = #[])
    (hmg : mg "law" = some (.ref fa)) (hl : s₁.heap.IsList a vs.toArray) (hi : IntsAre vs ns) (hlen : ns.length ≤ 63) (L : Laid R w s₀ s₁ [ofPy (PyData.list (ns.map PyData.int))] [.ref a] as) :
    codeAny (model pw w) callerA (.call (.ref fa) ⟨[.ref a], []⟩) (fun r s' => r = .ok (.ret (.bool true)) ∧ OldK s₁.heap s'.heap ∧ s'.os = s₁.os ∧ AllBare s'.gens) s₁ := by
  have Y1 : X.obsZ asx s₀ = X.valZ Kx 271 637 w := congrArg Prod.fst Y
  have Y2 : [174, 181].map s₀.heap.get? = Kt := congrArg Prod.snd Y
  obtain ⟨_, K0, sz0, tk0⟩ := X.z_facts (K := Kx) (as := asx) (fun P => by rfl) Y1
  have hk : ∀ b o, s₀.heap.get? b = some o → s₁.heap.get? b = some o := L.keeps
  have K1 : (Kx w.params).In s₁.heap := fun b o e => hk b o (K0 b o e)
  have y1 : s₀.heap.get? 174 = some { cls := .none, data := .fields #[] } := by
    have := congrArg (fun l => l[0]?) Y2
    simpa [Kt] using this
  have y2 : s₀.heap.get? 181 = some { cls := .none, data := .fields #[] } := by
    have := congrArg (fun l => l[1]?) Y2
    simpa [Kt] using this
  have T : Top0 w.params { mg := mg, mb := mb, H := s₁.heap, tb := [174, 181] } := {
    tb := rfl
    kin := K1
    g := G.T.g
    b := G.T.b
    lim := G.T.nolimit
    mb := G.T.builtins
    t1 := hk _ _ y1
    t2 := hk _ _ y2
    sz := Heap.lt_size (K1 270 _ rfl) }
  have e270 : (Value.ref fa) = .ref 270 := Option.some.inj (hmg.symm.trans (T.mgS (n := "law") (v := .ref 270) (by kernel_rfl)))
  cases e270
  have htk : 1 ≤ s₁.toks := Nat.le_trans (by decide) (X.script_toks L tk0)
  have B : Bs { mg := mg, mb := mb, H := s₁.heap, tb := [174, 181] } s₁.heap := T.ok.bs (fun _ _ e _ => e) fun _ o e => ⟨o, e⟩
  have hla : s₁.heap.objs.size ≤ s₁.heap.objs.size := Nat.le_refl _
  refine call_cellsT (binds := [("script", .ref a)]) htk (by decide +kernel) (K1 270 _ rfl) (by rw [← law_fd]) G.T.nolimit (T.crec (c := 269) rfl rfl rfl _ B) rfl (fun x hx => .inl (by rcases List.mem_singleton.mp hx with rfl; rfl)) fun s₂ ht X2 => ?_
  obtain ⟨h2, tk2, rfl, hk2⟩ := X2.done
  have B2 := B.keep hk2
  have hA : AOk (callerA.deeper (callEnvC lawFd s₁.heap.objs.size 270)) := ⟨rfl, Nat.le_of_ble_eq_true (by rfl), Nat.le_of_ble_eq_true (by rfl)⟩
  obtain ⟨ol, el, cl, nl, dl⟩ := id hl
  refine wpAny_mono (law_run (os0 := s₁.os) T (law_G T hq) (L := s₁.heap.objs.size) hla hA B2 X2.toInCall.ns (a := a) rfl (fun x c h => ⟨_, X2.cell x c h⟩)
    ⟨⟨rfl, (by show AllBare s₁.gens; rw [hg]; intro y hy; simp at hy), OldK.of_keep hk2⟩, (hk2 _ _ (hk _ _ y1)).trans (hk _ _ y1).symm, (hk2 _ _ (hk _ _ y2)).trans (hk _ _ y2).symm⟩ ht ⟨ol, hk2 _ _ el, cl, nl, dl⟩ hi.allInts (by rw [List.size_toArray, hi.length]; exact Nat.le_trans hlen (by decide))) (fun fl s' q => ?_) fun _ _ e => e.elim
  obtain ⟨rfl, x⟩ := q
  exact ⟨rfl, x.old, x.os, x.ba⟩

theorem law_holds (hq : ∀ x v, qnV x = some v → quoteV code1 code2 x = some v) (said : PySem.Challenge.rw_xj0027_01.row.wellSaid = true) : PySem.Challenge.rw_xj0027_01.row.Holds := by
  refine holds_openX (r := PySem.Challenge.rw_xj0027_01.row) (q := qx) (loose := loosex) (Xt := Xtx) (XP := XL qx []) (Yf := obsX) (Ya := valX) (N := 3128) left0 (fun s e => xl_of s (Bool.and_eq_true_iff.mp e).1) XL.keeps (by rfl) (by rfl) (by rfl) (fun s e => recFacts_of (Bool.and_eq_true_iff.mp e).2) (by rfl) said (by decide +kernel) ⟨rfl, rfl, rfl, rfl, rfl, by decide +kernel⟩ ?hw ?call
  case hw => exact ⟨[.list []], by decide +kernel, by decide +kernel⟩
  case call =>
    intro w s₀ s₁ mg mb G Y fa o pm cd doc dV kV ho hd hcd hD hmg hg args vals as hL hpre hlay hrd hwl hlo
    have hmg' : mg (Str.ofString "law") = some (Value.ref fa) := hmg
    clear hmg ho hd hcd hD
    wrow_args hpre hlay hrd hwl hlo
    rename_i hl _ _ _ hi _ hcond _
    refine enter_call (codeAny_mono (law_call hq G Y hg hmg' hl hi (by omega) hL) fun r s' q => ?_)
    obtain ⟨rfl, h1, h2, h3⟩ := q
    exact ⟨.inl ⟨_, .bool true, [], rfl, fun _ => rfl, .bool _, (by kernel_rfl), fun _ => ⟨List.nodup_nil, fun a ha => by cases ha⟩⟩, h1, h2, h3⟩
end Mine
end
section
open PySem PySem.Sre PySem.Builtin.Re
set_option Elab.async false
set_option maxRecDepth 100000
namespace Mine
noncomputable def stepN : Nat → M → M
  | 0, m => m
  | n + 1, m => stepN n m.step
theorem stepN_out {m : M} (h : m.outcome.isSome = true) : ∀ n, stepN n m = m
  | 0 => rfl
  | n + 1 => by
    unfold stepN
    have : m.step = m := by unfold M.step; rw [if_pos h]
    rw [this]; exact stepN_out h n
theorem runFor_stepN : ∀ (n : Nat) (m : M), m.runFor n = stepN n m
  | 0, m => rfl
  | n + 1, m => by
    unfold M.runFor
    split
    · rename_i h; exact (stepN_out h _).symm
    · exact runFor_stepN n m.step
theorem stepN_add : ∀ (a b : Nat) (m : M), stepN (a + b) m = stepN b (stepN a m)
  | 0, b, m => by rw [Nat.zero_add]; rfl
  | a + 1, b, m => by rw [Nat.add_right_comm]; exact stepN_add a b m.step
theorem drive_of : ∀ (n k : Nat) (m : M), k ≤ 4 * n → (stepN k m).outcome.isSome = true → drive (n + 1) m = some (stepN k m)
  | 0, k, m, hk, h => by
    have : k = 0 := by omega
    subst this
    have h' : m.outcome.isSome = true := h
    unfold drive
    rw [runFor_stepN, stepN_out h', if_pos h']
    rfl
  | n + 1, k, m, hk, h => by
    unfold drive
    rw [runFor_stepN]
    by_cases hk4 : k ≤ 4
    · obtain ⟨j, hj⟩ : ∃ j, 4 = k + j := ⟨4 - k, by omega⟩
      have e : stepN 4 m = stepN k m := by rw [hj, stepN_add, stepN_out h]
      rw [e, if_pos h]
    · obtain ⟨j, rfl⟩ : ∃ j, k = 4 + j := ⟨k - 4, by omega⟩
      rw [stepN_add] at h ⊢
      by_cases q : (stepN 4 m).outcome.isSome = true
      · rw [if_pos q, stepN_out q]
      · rw [if_neg q]
        exact drive_of n j (stepN 4 m) (by omega) h

/-- an attempt of the second pattern at s -/
noncomputable def at2 (T : Array Nat) (lim start s ls : Nat) (seen : Seen) : M := ({ code := code2, text := T, lim := lim, start := start, pc := 10, pos := start, handed := start, marks := #[], mustAdvance := false, lastStart := ls, seen := seen } : M).attemptAt s true
noncomputable def Ended (m : M) (s e : Nat) : Prop := m.outcome = some .matched ∧ m.start = s ∧ m.handed = e

/-- an attempt of the first pattern at s -/
noncomputable def at1 (T : Array Nat) (lim s : Nat) (first : Bool) (seen : Seen) : M := ({ code := code1, text := T, lim := lim, start := 0, pc := 5, pos := 0, handed := 0, marks := #[], mustAdvance := false, lastStart := lim, seen := seen } : M).attemptAt s first
theorem op_FAILURE : ops[0]? = some .FAILURE := rfl
theorem op_LITERAL : ops[16]? = some .LITERAL := rfl
end Mine
end
section
open PySem PySem.Sre PySem.Builtin.Re
set_option Elab.async false
set_option maxRecDepth 100000
namespace Mine
section
variable {C : M → Prop} {m : M} {n : Nat}
theorem go (h : C (stepN n m.step)) : C (stepN (n + 1) m) := h
theorem step_exec (ho : m.outcome = none) (ha : m.answer = none) (hp : Nat.blt m.pc m.code.size = true) : m.step = m.exec := by
  unfold M.step
  have hp := Nat.le_of_ble_eq_true hp
  have hp : m.pc < m.code.size := hp
  rw [ho, ha]
  simp [hp]
theorem go_lit_yes (ho : m.outcome = none) (ha : m.answer = none) (hp : Nat.blt m.pc m.code.size = true) (hop : ops[m.word 0]? = some .LITERAL) (hop2 : ops[m.code.getD m.pc 0]? = some .LITERAL) (hl : ¬ m.pos ≥ m.lim) (hb : (m.text.getD m.pos 0 == m.code.getD (m.pc + 1) 0) = true)
    (h : C (stepN n { m with seen := m.seen.add (m.word 0), pc := m.pc + 2, pos := m.pos + 1 })) : C (stepN (n + 1) m) := by
  have e : m.step = { m with seen := m.seen.add (m.word 0), pc := m.pc + 2, pos := m.pos + 1 } := by
    rw [step_exec ho ha hp]
    unfold M.exec accepts itemWidth
    simp only [hop, hop2, hb, if_neg hl]
  show C (stepN n m.step)
  rw [e]; exact h
theorem go_lit_no (ho : m.outcome = none) (ha : m.answer = none) (hp : Nat.blt m.pc m.code.size = true) (hop : ops[m.word 0]? = some .LITERAL) (hop2 : ops[m.code.getD m.pc 0]? = some .LITERAL) (hb : m.pos < m.lim → (m.text.getD m.pos 0 == m.code.getD (m.pc + 1) 0) = false)
    (h : C (stepN n ({ m with seen := m.seen.add (m.word 0) }.say false))) : C (stepN (n + 1) m) := by
  have e : m.step = { m with seen := m.seen.add (m.word 0) }.say false := by
    rw [step_exec ho ha hp]
    unfold M.exec accepts
    by_cases hl : m.pos ≥ m.lim
    · simp only [hop, if_pos hl]
    · simp only [hop, hop2, hb (by omega), if_neg hl]
  show C (stepN n m.step)
  rw [e]; exact h
theorem go_at_yes (ho : m.outcome = none) (ha : m.answer = none) (hp : Nat.blt m.pc m.code.size = true) (hop : ops[m.word 0]? = some .AT) (hw : m.word 1 = 1) (hb : (m.pos == 0 || m.text.getD (m.pos - 1) 0 == 10) = true)
    (h : C (stepN n { m with seen := (m.seen.add (m.word 0)).add 44, pc := m.pc + 2 })) : C (stepN (n + 1) m) := by
  have e : m.step = { m with seen := (m.seen.add (m.word 0)).add 44, pc := m.pc + 2 } := by
    rw [step_exec ho ha hp]
    unfold M.exec
    simp only [hop]
    have hw' : M.word { m with seen := m.seen.add (m.word 0) } 1 = 1 := hw
    rw [hw']
    unfold M.isAt
    simp only [hb]
    rfl
  show C (stepN n m.step)
  rw [e]; exact h
theorem go_at_no (ho : m.outcome = none) (ha : m.answer = none) (hp : Nat.blt m.pc m.code.size = true) (hop : ops[m.word 0]? = some .AT) (hw : m.word 1 = 1) (hb : (m.pos == 0 || m.text.getD (m.pos - 1) 0 == 10) = false)
    (h : C (stepN n ({ m with seen := (m.seen.add (m.word 0)).add 44 }.say false))) : C (stepN (n + 1) m) := by
  have e : m.step = { m with seen := (m.seen.add (m.word 0)).add 44 }.say false := by
    rw [step_exec ho ha hp]
    unfold M.exec
    simp only [hop]
    have hw' : M.word { m with seen := m.seen.add (m.word 0) } 1 = 1 := hw
    rw [hw']
    unfold M.isAt
    simp only [hb]
    rfl
  show C (stepN n m.step)
  rw [e]; exact h
theorem go_next_yes {f : Sre.Frame} {rest : List Sre.Frame} (ho : m.outcome = none) (ha : m.answer = some false) (hf : m.frames = f :: rest) (hw : f.wait = Wait.nextStart) (hl : f.pos < m.lastStart)
    (h : C (stepN n ({ m with answer := none, frames := rest, weight := m.weight - (1 + f.kept.marks.size), pc := f.pc, pos := f.pos, outermost := f.outermost, mustAdvance := false }.attemptFrom (f.pos + 1) false))) : C (stepN (n + 1) m) := by
  have e : m.step = { m with answer := none, frames := rest, weight := m.weight - (1 + f.kept.marks.size), pc := f.pc, pos := f.pos, outermost := f.outermost, mustAdvance := false }.attemptFrom (f.pos + 1) false := by
    unfold M.step
    rw [ho, ha, hf]
    show M.resume _ f false = _
    unfold M.resume
    rw [hw]
    show (if f.pos < m.lastStart then _ else _) = _
    rw [if_pos hl]
  show C (stepN n m.step)
  rw [e]; exact h
theorem go_next_no {f : Sre.Frame} {rest : List Sre.Frame} (ho : m.outcome = none) (ha : m.answer = some false) (hf : m.frames = f :: rest) (hw : f.wait = Wait.nextStart) (hl : ¬ f.pos < m.lastStart)
    (h : C (stepN n ({ m with answer := none, frames := rest, weight := m.weight - (1 + f.kept.marks.size), pc := f.pc, pos := f.pos, outermost := f.outermost }.say false))) : C (stepN (n + 1) m) := by
  have e : m.step = { m with answer := none, frames := rest, weight := m.weight - (1 + f.kept.marks.size), pc := f.pc, pos := f.pos, outermost := f.outermost }.say false := by
    unfold M.step
    rw [ho, ha, hf]
    show M.resume _ f false = _
    unfold M.resume
    rw [hw]
    show (if f.pos < m.lastStart then _ else _) = _
    rw [if_neg hl]
  show C (stepN n m.step)
  rw [e]; exact h
end

theorem at2_lf {T : Array Nat} {lim start s ls : Nat} {seen : Seen} (hs : s < lim) (h : T.getD s 0 = 10) : Ended (stepN 9 (at2 T lim start s ls seen)) s (s + 1) := by
  have hs' : ¬ s ≥ lim := Nat.not_le_of_lt hs
  have h13 : (T.getD s 0 == 13) = false := by rw [h]; rfl
  have h10 : (T.getD s 0 == 10) = true := by rw [h]; rfl
  refine go (C := (Ended · s (s + 1))) ?_
  refine go_lit_no (C := (Ended · s (s + 1))) (by kernel_rfl) (by kernel_rfl) (by kernel_rfl) (by kernel_rfl) (by kernel_rfl) (fun _ => Eq.trans (b := (T.getD s 0 == 13)) (by kernel_rfl) (h13)) ?_
  refine go (C := (Ended · s (s + 1))) ?_
  refine go_lit_yes (C := (Ended · s (s + 1))) (by kernel_rfl) (by kernel_rfl) (by kernel_rfl) (by kernel_rfl) (by kernel_rfl) hs' (Eq.trans (b := (T.getD s 0 == 10)) (by kernel_rfl) (h10)) ?_
  exact ⟨by kernel_rfl, by kernel_rfl, by kernel_rfl⟩
theorem at2_crlf {T : Array Nat} {lim start s ls : Nat} {seen : Seen} (hs : s + 1 < lim) (h : T.getD s 0 = 13) (h2 : T.getD (s + 1) 0 = 10) : Ended (stepN 8 (at2 T lim start s ls seen)) s (s + 2) := by
  have hs2 : ¬ s + 1 ≥ lim := Nat.not_le_of_lt hs
  have hs' : ¬ s ≥ lim := Nat.not_le_of_lt (Nat.lt_of_succ_lt hs)
  have h13 : (T.getD s 0 == 13) = true := by rw [h]; rfl
  have h10 : (T.getD (s + 1) 0 == 10) = true := by rw [h2]; rfl
  refine go (C := (Ended · s (s + 2))) ?_
  refine go_lit_yes (C := (Ended · s (s + 2))) (by kernel_rfl) (by kernel_rfl) (by kernel_rfl) (by kernel_rfl) (by kernel_rfl) hs' (Eq.trans (b := (T.getD s 0 == 13)) (by kernel_rfl) (h13)) ?_
  refine go_lit_yes (C := (Ended · s (s + 2))) (by kernel_rfl) (by kernel_rfl) (by kernel_rfl) (by kernel_rfl) (by kernel_rfl) hs2 (Eq.trans (b := (T.getD (s + 1) 0 == 10)) (by kernel_rfl) (h10)) ?_
  exact ⟨by kernel_rfl, by kernel_rfl, by kernel_rfl⟩
/-- the second pattern behind the lone return, ahead of its look -/
noncomputable def mid2 (T : Array Nat) (lim s ls : Nat) (seen : Seen) : M := { code := code2, text := T, lim := lim, start := s, lastStart := ls, pc := 26, pos := s + 1, handed := s, outermost := true, marks := #[], frames := [{ wait := Wait.nextBranch, pc := 23, pos := s, outermost := true }, { wait := Wait.nextStart, pc := 10, pos := s, outermost := true }], weight := 2, seen := seen }
noncomputable def mid1 (T : Array Nat) (lim s ls : Nat) (seen : Seen) : M := { code := code2, text := T, lim := lim, start := s, lastStart := ls, pc := 19, pos := s, handed := s, outermost := true, marks := #[], frames := [{ wait := Wait.nextBranch, pc := 18, pos := s, outermost := true }, { wait := Wait.nextStart, pc := 10, pos := s, outermost := true }], weight := 2, seen := seen }
theorem at2_mid1 {T : Array Nat} {lim start s ls : Nat} {seen : Seen} (hs : s < lim) (h : T.getD s 0 = 13) (h10 : s + 1 < lim → (T.getD (s + 1) 0 == 10) = false) : stepN 4 (at2 T lim start s ls seen) = mid1 T lim s ls (stepN 4 (at2 T lim start s ls seen)).seen := by
  have hs' : ¬ s ≥ lim := Nat.not_le_of_lt hs
  have h13 : (T.getD s 0 == 13) = true := by rw [h]; rfl
  refine go (C := (fun m => m = mid1 T lim s ls m.seen)) ?_
  refine go_lit_yes (C := (fun m => m = mid1 T lim s ls m.seen)) (by kernel_rfl) (by kernel_rfl) (by kernel_rfl) (by kernel_rfl) (by kernel_rfl) hs' (Eq.trans (b := (T.getD s 0 == 13)) (by kernel_rfl) h13) ?_
  refine go_lit_no (C := (fun m => m = mid1 T lim s ls m.seen)) (by kernel_rfl) (by kernel_rfl) (by kernel_rfl) (by kernel_rfl) (by kernel_rfl) (fun q => Eq.trans (b := (T.getD (s + 1) 0 == 10)) (by kernel_rfl) (h10 q)) ?_
  refine go (C := (fun m => m = mid1 T lim s ls m.seen)) ?_
  exact (by kernel_rfl)
theorem mid1_mid2 {T : Array Nat} {lim s ls : Nat} {seen : Seen} (hs : s < lim) (h : T.getD s 0 = 13) : stepN 3 (mid1 T lim s ls seen) = mid2 T lim s ls (stepN 3 (mid1 T lim s ls seen)).seen := by
  have hs' : ¬ s ≥ lim := Nat.not_le_of_lt hs
  have h13 : (T.getD s 0 == 13) = true := by rw [h]; rfl
  have hn10 : (T.getD s 0 == 10) = false := by rw [h]; rfl
  refine go_lit_no (C := (fun m => m = mid2 T lim s ls m.seen)) (by kernel_rfl) (by kernel_rfl) (by kernel_rfl) (by kernel_rfl) (by kernel_rfl) (fun _ => Eq.trans (b := (T.getD s 0 == 10)) (by kernel_rfl) hn10) ?_
  refine go (C := (fun m => m = mid2 T lim s ls m.seen)) ?_
  refine go_lit_yes (C := (fun m => m = mid2 T lim s ls m.seen)) (by kernel_rfl) (by kernel_rfl) (by kernel_rfl) (by kernel_rfl) (by kernel_rfl) hs' (Eq.trans (b := (T.getD s 0 == 13)) (by kernel_rfl) h13) ?_
  exact (by kernel_rfl)
theorem mid2_end {T : Array Nat} {lim s ls : Nat} {seen : Seen} (h10 : s + 1 < lim → (T.getD (s + 1) 0 == 10) = false) : Ended (stepN 8 (mid2 T lim s ls seen)) s (s + 1) := by
  refine go (C := (Ended · s (s + 1))) ?_
  refine go_lit_no (C := (Ended · s (s + 1))) (by kernel_rfl) (by kernel_rfl) (by kernel_rfl) (by kernel_rfl) (by kernel_rfl) (fun q => Eq.trans (b := (T.getD (s + 1) 0 == 10)) (by kernel_rfl) (h10 q)) ?_
  exact ⟨by kernel_rfl, by kernel_rfl, by kernel_rfl⟩
theorem at2_cr {T : Array Nat} {lim start s ls : Nat} {seen : Seen} (hs : s < lim) (h : T.getD s 0 = 13) (h2 : s + 1 < lim → T.getD (s + 1) 0 ≠ 10) : Ended (stepN 15 (at2 T lim start s ls seen)) s (s + 1) := by
  have h10 : s + 1 < lim → (T.getD (s + 1) 0 == 10) = false := fun q => by
    cases e : (T.getD (s + 1) 0 == 10) with
    | false => rfl
    | true => exact absurd (eq_of_beq e) (h2 q)
  rw [show (15 : Nat) = 4 + (3 + 8) from rfl, stepN_add, at2_mid1 hs h h10, stepN_add, mid1_mid2 hs h]
  exact mid2_end h10
theorem at1_yes {T : Array Nat} {lim s : Nat} {first : Bool} {seen : Seen} (hs : s < lim) (h0 : s = 0 ∨ T.getD (s - 1) 0 = 10) (h : T.getD s 0 = 46) : Ended (stepN 5 (at1 T lim s first seen)) s (s + 1) := by
  have hs' : ¬ s ≥ lim := Nat.not_le_of_lt hs
  have hb : (s == 0 || T.getD (s - 1) 0 == 10) = true := by rcases h0 with h0 | h0 <;> simp [-Array.getD_eq_getD_getElem?, h0]
  have h46 : (T.getD s 0 == 46) = true := by rw [h]; rfl
  refine go_at_yes (C := (Ended · s (s + 1))) (by kernel_rfl) (by kernel_rfl) (by kernel_rfl) (by kernel_rfl) (by kernel_rfl) (Eq.trans (b := (s == 0 || T.getD (s - 1) 0 == 10)) (by kernel_rfl) (hb)) ?_
  refine go_lit_yes (C := (Ended · s (s + 1))) (by kernel_rfl) (by kernel_rfl) (by kernel_rfl) (by kernel_rfl) (by kernel_rfl) hs' (Eq.trans (b := (T.getD s 0 == 46)) (by kernel_rfl) (h46)) ?_
  cases first <;> exact ⟨by kernel_rfl, by kernel_rfl, by kernel_rfl⟩
theorem at1_end {T : Array Nat} {lim : Nat} {first : Bool} {seen : Seen} : (stepN 5 (at1 T lim lim first seen)).outcome = some .failed := by
  cases hb : (lim == 0 || T.getD (lim - 1) 0 == 10) with
  | true =>
    refine go_at_yes (C := (fun m => m.outcome = some .failed)) (by kernel_rfl) (by kernel_rfl) (by kernel_rfl) (by kernel_rfl) (by kernel_rfl) (Eq.trans (b := (lim == 0 || T.getD (lim - 1) 0 == 10)) (by kernel_rfl) (hb)) ?_
    refine go_lit_no (C := (fun m => m.outcome = some .failed)) (by kernel_rfl) (by kernel_rfl) (by kernel_rfl) (by kernel_rfl) (by kernel_rfl) (fun q => absurd q (Nat.lt_irrefl _)) ?_
    refine go_next_no (C := (fun m => m.outcome = some .failed)) (f := { wait := Wait.nextStart, pc := 5, pos := lim, outermost := first }) (rest := []) (by kernel_rfl) (by kernel_rfl) (by kernel_rfl) (by kernel_rfl) (Nat.lt_irrefl _) ?_
    exact (by kernel_rfl)
  | false =>
    refine go_at_no (C := (fun m => m.outcome = some .failed)) (by kernel_rfl) (by kernel_rfl) (by kernel_rfl) (by kernel_rfl) (by kernel_rfl) (Eq.trans (b := (lim == 0 || T.getD (lim - 1) 0 == 10)) (by kernel_rfl) (hb)) ?_
    refine go_next_no (C := (fun m => m.outcome = some .failed)) (f := { wait := Wait.nextStart, pc := 5, pos := lim, outermost := first }) (rest := []) (by kernel_rfl) (by kernel_rfl) (by kernel_rfl) (by kernel_rfl) (Nat.lt_irrefl _) ?_
    exact (by kernel_rfl)
theorem at1_no {T : Array Nat} {lim s : Nat} {first : Bool} {seen : Seen} (hs : s < lim) (h : ¬ ((s = 0 ∨ T.getD (s - 1) 0 = 10) ∧ T.getD s 0 = 46)) : ∃ k seen', k ≤ 4 ∧ stepN k (at1 T lim s first seen) = at1 T lim (s + 1) false seen' := by
  cases hb : (s == 0 || T.getD (s - 1) 0 == 10) with
  | true =>
    have h46 : (T.getD s 0 == 46) = false := by
      cases e : (T.getD s 0 == 46) with
      | false => rfl
      | true => exact absurd ⟨by simpa [-Array.getD_eq_getD_getElem?] using hb, eq_of_beq e⟩ h
    refine ⟨3, (stepN 3 (at1 T lim s first seen)).seen, by decide, ?_⟩
    refine go_at_yes (C := (fun m => m = at1 T lim (s + 1) false m.seen)) (by kernel_rfl) (by kernel_rfl) (by kernel_rfl) (by kernel_rfl) (by kernel_rfl) (Eq.trans (b := (s == 0 || T.getD (s - 1) 0 == 10)) (by kernel_rfl) (hb)) ?_
    refine go_lit_no (C := (fun m => m = at1 T lim (s + 1) false m.seen)) (by kernel_rfl) (by kernel_rfl) (by kernel_rfl) (by kernel_rfl) (by kernel_rfl) (fun _ => Eq.trans (b := (T.getD s 0 == 46)) (by kernel_rfl) (h46)) ?_
    refine go_next_yes (C := (fun m => m = at1 T lim (s + 1) false m.seen)) (f := { wait := Wait.nextStart, pc := 5, pos := s, outermost := first }) (rest := []) (by kernel_rfl) (by kernel_rfl) (by kernel_rfl) (by kernel_rfl) hs ?_
    exact (by kernel_rfl)
  | false =>
    refine ⟨2, (stepN 2 (at1 T lim s first seen)).seen, by decide, ?_⟩
    refine go_at_no (C := (fun m => m = at1 T lim (s + 1) false m.seen)) (by kernel_rfl) (by kernel_rfl) (by kernel_rfl) (by kernel_rfl) (by kernel_rfl) (Eq.trans (b := (s == 0 || T.getD (s - 1) 0 == 10)) (by kernel_rfl) (hb)) ?_
    refine go_next_yes (C := (fun m => m = at1 T lim (s + 1) false m.seen)) (f := { wait := Wait.nextStart, pc := 5, pos := s, outermost := first }) (rest := []) (by kernel_rfl) (by kernel_rfl) (by kernel_rfl) (by kernel_rfl) hs ?_
    exact (by kernel_rfl)
end Mine
end
section
open PySem PySem.Sre PySem.Builtin.Re
set_option Elab.async false
set_option maxRecDepth 100000
namespace Mine
/-- the first place of a kind -/
theorem first_at (p : Nat → Prop) [DecidablePred p] (n : Nat) : ∀ d s, s + d = n → ∃ k, (∀ j, j < k → s + j < n ∧ ¬ p (s + j)) ∧ (s + k = n ∨ (s + k < n ∧ p (s + k)))
  | 0, s, e => ⟨0, fun j h => by omega, .inl e⟩
  | d + 1, s, e => by
    by_cases h : p s
    · exact ⟨0, fun j h => by omega, .inr ⟨by omega, h⟩⟩
    · obtain ⟨k, h1, h2⟩ := first_at p n d (s + 1) (by omega)
      refine ⟨k + 1, fun j hj => ?_, ?_⟩
      · cases j with
        | zero => exact ⟨by omega, h⟩
        | succ j =>
          have := h1 j (by omega)
          have e2 : s + (j + 1) = s + 1 + j := by omega
          rw [e2]; exact this
      · have e2 : s + (k + 1) = s + 1 + k := by omega
        rw [e2]; exact h2

theorem set_yes {c : Nat} {seen : Seen} (h : c = 10 ∨ c = 13) : ∃ seen', inSet code2 c (33 + 3) 5 true seen = .ok (true, seen') := by
  have e5 : code2.getD 5 0 = 16 := rfl
  have e6 : code2.getD 6 0 = 10 := rfl
  have e7 : code2.getD 7 0 = 16 := rfl
  have e8 : code2.getD 8 0 = 13 := rfl
  rcases h with rfl | rfl
  · exact ⟨_, by simp [-Array.getD_eq_getD_getElem?, inSet, e5, e6, op_LITERAL]; rfl⟩
  · exact ⟨_, by simp [-Array.getD_eq_getD_getElem?, inSet, e5, e6, e7, e8, op_LITERAL]; rfl⟩
theorem set_no {c : Nat} {seen : Seen} (h : ¬ (c = 10 ∨ c = 13)) : ∃ seen', inSet code2 c (33 + 3) 5 true seen = .ok (false, seen') := by
  have e5 : code2.getD 5 0 = 16 := rfl
  have e6 : code2.getD 6 0 = 10 := rfl
  have e7 : code2.getD 7 0 = 16 := rfl
  have e8 : code2.getD 8 0 = 13 := rfl
  have e9 : code2.getD 9 0 = 0 := rfl
  simp only [not_or] at h
  exact ⟨_, by simp [-Array.getD_eq_getD_getElem?, inSet, e5, e6, e7, e8, e9, op_LITERAL, op_FAILURE, h.1, h.2]; rfl⟩
noncomputable abbrev Nl (T : Array Nat) (i : Nat) : Prop := T.getD i 0 = 10 ∨ T.getD i 0 = 13
theorem adm_some {m : M} (hc : m.code = code2) : ∀ (k s fuel : Nat) (seen : Seen), (∀ j, j < k → s + j < m.lim ∧ ¬ Nl m.text (s + j)) → k < fuel → s + k < m.lim → Nl m.text (s + k) → ∃ seen', M.admitted m fuel s seen = .ok (some (s + k), seen')
  | 0, s, fuel + 1, seen, _, _, h2, h3 => by
    obtain ⟨seen', e⟩ := set_yes (seen := seen) h3
    refine ⟨seen', ?_⟩
    unfold M.admitted
    rw [if_neg (by omega), hc, show code2.size = 33 + 3 from rfl, show m.text.getD s 0 = m.text.getD (s + 0) 0 from rfl, e]
    rfl
  | k + 1, s, fuel + 1, seen, h1, hf, h2, h3 => by
    obtain ⟨hl, hn⟩ := h1 0 (by omega)
    obtain ⟨seen1, e⟩ := set_no (seen := seen) hn
    have e2 : s + (k + 1) = s + 1 + k := by omega
    obtain ⟨seen', e'⟩ := adm_some hc k (s + 1) fuel seen1 (fun j hj => by
      have := h1 (j + 1) (by omega)
      rw [show s + (j + 1) = s + 1 + j by omega] at this
      exact this) (by omega) (by omega) (e2 ▸ h3)
    refine ⟨seen', ?_⟩
    unfold M.admitted
    rw [if_neg (by omega), hc, show code2.size = 33 + 3 from rfl, show m.text.getD s 0 = m.text.getD (s + 0) 0 from rfl, e]
    rw [e2]
    exact e'
theorem adm_none {m : M} (hc : m.code = code2) : ∀ (fuel s : Nat) (seen : Seen), (∀ j, s + j < m.lim → ¬ Nl m.text (s + j)) → ∃ seen', M.admitted m fuel s seen = .ok (none, seen')
  | 0, s, seen, _ => ⟨seen, rfl⟩
  | fuel + 1, s, seen, h => by
    unfold M.admitted
    by_cases q : s ≥ m.lim
    · rw [if_pos q]; exact ⟨_, rfl⟩
    · obtain ⟨seen1, e⟩ := set_no (seen := seen) (h 0 (by omega))
      rw [if_neg q, hc, show code2.size = 33 + 3 from rfl, show m.text.getD s 0 = m.text.getD (s + 0) 0 from rfl, e]
      exact adm_none hc fuel (s + 1) seen1 fun j hj => by
        have := h (j + 1) (by omega)
        rw [show s + (j + 1) = s + 1 + j by omega] at this
        exact this

theorem head2 : header code2 = (1, 10) := rfl
theorem head1 : header code1 = (1, 5) := rfl
noncomputable def base2 (T : Array Nat) (pos n ls : Nat) : M := { code := code2, text := T, lim := n, start := pos, pc := 10, pos := pos, handed := pos, marks := #[], mustAdvance := false, lastStart := ls, seen := ({} : Seen).add 14 }
noncomputable def base1 (T : Array Nat) (pos n ls : Nat) : M := { code := code1, text := T, lim := n, start := pos, pc := 5, pos := pos, handed := pos, marks := #[], mustAdvance := false, lastStart := ls, seen := ({} : Seen).add 14 }
theorem form2 (T : Array Nat) (pos n : Nat) : forSearch code2 T 0 pos n false = if (decide (pos > n) || decide (n - pos < 1)) = true then (base2 T pos n 0).say false else (base2 T pos n n).attemptFrom pos true := rfl
theorem form1 (T : Array Nat) (pos n : Nat) : forSearch code1 T 0 pos n false = if (decide (pos > n) || decide (n - pos < 1)) = true then (base1 T pos n 0).say false else (base1 T pos n n).attemptFrom pos true := rfl
noncomputable def afK (m : M) (first : Bool) : Except String (Option Nat × Seen) → M
  | .ok (some s, seen) => { m with mustAdvance := false, seen := seen }.attemptAt s first
  | .ok (none, seen) => { m with seen := seen }.say false
  | .error why => m.stick why
theorem af_yes {m : M} {s : Nat} {f : Bool} (h : m.hasFirstSet = true) : m.attemptFrom s f = afK m f (M.admitted m (m.lim + 1 - s) s m.seen) := by
  unfold M.attemptFrom
  rw [h]
  rfl
theorem af_no {m : M} {s : Nat} {f : Bool} (h : m.hasFirstSet = false) : m.attemptFrom s f = m.attemptAt s f := by
  unfold M.attemptFrom
  rw [h]
  rfl
theorem fin_no {m : M} (ho : m.outcome = none) (hf : m.frames = []) : (stepN 1 (m.say false)).outcome = some .failed := by
  show ((m.say false).step).outcome = _
  unfold M.step M.say
  simp [ho, hf]
theorem search2_at {T : Array Nat} {n pos k e : Nat} (h1 : ∀ j, j < k → pos + j < n ∧ ¬ Nl T (pos + j)) (h2 : pos + k < n) (h3 : Nl T (pos + k)) (h4 : ∀ seen, ∃ K, K ≤ 20 ∧ Ended (stepN K (at2 T n pos (pos + k) n seen)) (pos + k) e) :
    ∃ m, drive 2000 (forSearch code2 T 0 pos n false) = some m ∧ m.outcome = some .matched ∧ m.start = pos + k ∧ m.handed = e := by
  have key : ∃ seen', forSearch code2 T 0 pos n false = at2 T n pos (pos + k) n seen' := by
    rw [form2, if_neg (by simp; omega), af_yes rfl]
    obtain ⟨seen', e'⟩ := adm_some (m := base2 T pos n n) rfl k pos (n + 1 - pos) (base2 T pos n n).seen h1 (by omega) h2 h3
    refine ⟨seen', ?_⟩
    rw [show (base2 T pos n n).lim = n from rfl, e']
    rfl
  obtain ⟨seen', e1⟩ := key
  obtain ⟨K, hK, h5, h6, h7⟩ := h4 seen'
  rw [e1]
  exact ⟨_, drive_of 1999 K _ (by omega) (by rw [h5]; rfl), h5, h6, h7⟩
theorem search2_no {T : Array Nat} {n pos : Nat} (h : ∀ j, pos + j < n → ¬ Nl T (pos + j)) : ∃ m, drive 2000 (forSearch code2 T 0 pos n false) = some m ∧ m.outcome = some .failed := by
  rw [form2]
  by_cases q : (decide (pos > n) || decide (n - pos < 1)) = true
  · rw [if_pos q]
    have := fin_no (m := base2 T pos n 0) rfl rfl
    exact ⟨_, drive_of 1999 1 _ (by decide) (by rw [this]; rfl), this⟩
  · rw [if_neg q, af_yes rfl]
    obtain ⟨seen', e'⟩ := adm_none (m := base2 T pos n n) rfl (n + 1 - pos) pos (base2 T pos n n).seen h
    rw [show (base2 T pos n n).lim = n from rfl, e']
    have := fin_no (m := { base2 T pos n n with seen := seen' }) rfl rfl
    exact ⟨_, drive_of 1999 1 _ (by decide) (by show (stepN 1 (M.say { base2 T pos n n with seen := seen' } false)).outcome.isSome = true; rw [this]; rfl), this⟩

/-- a row begins there with a dot -/
noncomputable abbrev Dt (T : Array Nat) (i : Nat) : Prop := (i = 0 ∨ T.getD (i - 1) 0 = 10) ∧ T.getD i 0 = 46
theorem run1 {T : Array Nat} {n : Nat} : ∀ (k pos : Nat) (first : Bool) (seen : Seen), (∀ j, j < k → pos + j < n ∧ ¬ Dt T (pos + j)) → ∃ K first' seen', K ≤ 4 * k ∧ stepN K (at1 T n pos first seen) = at1 T n (pos + k) first' seen'
  | 0, pos, first, seen, _ => ⟨0, first, seen, by decide, rfl⟩
  | k + 1, pos, first, seen, h => by
    obtain ⟨hl, hn⟩ := h 0 (by omega)
    obtain ⟨K1, seen1, hK1, e1⟩ := at1_no (first := first) (seen := seen) hl hn
    obtain ⟨K2, f2, seen2, hK2, e2⟩ := run1 k (pos + 1) false seen1 fun j hj => by
      have := h (j + 1) (by omega)
      rw [show pos + (j + 1) = pos + 1 + j by omega] at this
      exact this
    refine ⟨K1 + K2, f2, seen2, by omega, ?_⟩
    rw [stepN_add]
    rw [show pos + 0 = pos from rfl] at e1
    rw [e1, e2]
    congr 1
    omega
theorem search1_form {T : Array Nat} {n pos : Nat} (h : pos < n) : ∃ seen, forSearch code1 T 0 pos n false = at1 T n pos true seen := by
  rw [form1, if_neg (by simp; omega), af_no rfl]
  exact ⟨({} : Seen).add 14, rfl⟩
theorem search1_at {T : Array Nat} {n pos k : Nat} (hn : n ≤ 1000) (h1 : ∀ j, j < k → pos + j < n ∧ ¬ Dt T (pos + j)) (h2 : pos + k < n) (h3 : Dt T (pos + k)) :
    ∃ m, drive 2000 (forSearch code1 T 0 pos n false) = some m ∧ m.outcome = some .matched ∧ m.start = pos + k ∧ m.handed = pos + k + 1 := by
  obtain ⟨seen, e⟩ := search1_form (T := T) (n := n) (pos := pos) (by omega)
  obtain ⟨K, f, seen', hK, e2⟩ := run1 (n := n) k pos true seen h1
  obtain ⟨h5, h6, h7⟩ := at1_yes (first := f) (seen := seen') h2 h3.1 h3.2
  have e3 : stepN (K + 5) (at1 T n pos true seen) = stepN 5 (at1 T n (pos + k) f seen') := by rw [stepN_add, e2]
  rw [e]
  exact ⟨_, drive_of 1999 (K + 5) _ (by omega) (by rw [e3, h5]; rfl), by rw [e3]; exact h5, by rw [e3]; exact h6, by rw [e3]; exact h7⟩
theorem search1_no {T : Array Nat} {n pos k : Nat} (hn : n ≤ 1000) (h1 : ∀ j, j < k → pos + j < n ∧ ¬ Dt T (pos + j)) (h2 : pos + k = n) :
    ∃ m, drive 2000 (forSearch code1 T 0 pos n false) = some m ∧ m.outcome = some .failed := by
  by_cases q : pos < n
  · obtain ⟨seen, e⟩ := search1_form (T := T) (n := n) (pos := pos) q
    obtain ⟨K, f, seen', hK, e2⟩ := run1 (n := n) k pos true seen h1
    have h5 := at1_end (T := T) (lim := n) (first := f) (seen := seen')
    have e3 : stepN (K + 5) (at1 T n pos true seen) = stepN 5 (at1 T n n f seen') := by rw [stepN_add, e2, h2]
    rw [e]
    exact ⟨_, drive_of 1999 (K + 5) _ (by omega) (by rw [e3, h5]; rfl), by rw [e3]; exact h5⟩
  · rw [form1, if_pos (by simp; omega)]
    have := fin_no (m := base1 T pos n 0) rfl rfl
    exact ⟨_, drive_of 1999 1 _ (by decide) (by rw [this]; rfl), this⟩
end Mine
end
section
open PySem PySem.Sre PySem.Builtin.Re
set_option Elab.async false
set_option maxRecDepth 100000
namespace Mine
noncomputable def flat (ts : List Str) : List Nat := (ts.map fun t => t.cps.toList).flatten
theorem drop_cons {T : Array Nat} {i : Nat} (h : i < T.size) : T.toList.drop i = T.getD i 0 :: T.toList.drop (i + 1) := by
  rw [List.drop_eq_getElem_cons (by simpa using h)]
  simp [Array.getD, h]
theorem ext_list (T : Array Nat) (a b : Nat) : (T.extract a b).toList = (T.toList.drop a).take (b - a) := by simp [List.extract_eq_take_drop]
theorem piece_len (T : Array Nat) (a b : Nat) : (⟨T.extract a b⟩ : Str).length ≤ T.size := by
  show (T.extract a b).size ≤ _
  simp
  omega
theorem crlf_copy {T : Array Nat} : ∀ (k pos : Nat), (∀ j, j < k → pos + j < T.size ∧ ¬ Nl T (pos + j)) → crlf false (T.toList.drop pos) = (T.toList.drop pos).take k ++ crlf false (T.toList.drop (pos + k))
  | 0, pos, _ => by simp
  | k + 1, pos, h => by
    obtain ⟨hl, hn⟩ := h 0 (by omega)
    rw [show pos + 0 = pos from rfl] at hl hn
    have ih := crlf_copy k (pos + 1) fun j hj => by
      have := h (j + 1) (by omega)
      rw [show pos + (j + 1) = pos + 1 + j by omega] at this
      exact this
    have e : crlf false (T.toList.drop pos) = T.getD pos 0 :: crlf false (T.toList.drop (pos + 1)) := by
      rw [drop_cons hl, crlf]
      simp only [Nl, not_or] at hn
      rw [if_neg (by simpa using hn.2), if_neg (by simpa using hn.1)]
    rw [e, ih, drop_cons hl, List.take_succ_cons, show pos + 1 + k = pos + (k + 1) by omega]
    rfl
theorem crlf_flag {l : List Nat} (h : ∀ c r, l = c :: r → c ≠ 10) : crlf true l = crlf false l := by
  cases l with
  | nil => rfl
  | cons c r =>
    have := h c r rfl
    unfold crlf
    split
    · rfl
    · rw [if_neg (by simpa using this), if_neg (by simpa using this)]

noncomputable abbrev crS : Str := Str.ofString "\r\n"
theorem crS_list : crS.cps.toList = [13, 10] := by decide +kernel
noncomputable abbrev ddS : Str := Str.ofString ".."
theorem ddS_list : ddS.cps.toList = [46, 46] := by decide +kernel

theorem sub_yes {code T : Array Nat} {y : Str} {fuel pos s e : Nat} {m : M} {r : List Str} (h1 : drive 2000 (forSearch code T 0 pos T.size false) = some m) (h2 : m.outcome = some .matched) (h3 : m.start = s) (h4 : m.handed = e) (he : s < e) (hr : subP code T y fuel e false = some r) :
    subP code T y (fuel + 1) pos false = some ((if pos < s then [⟨T.extract pos s⟩] else []) ++ y :: r) := by
  rw [subP, h1]
  simp only [h2, h3, h4]
  rw [show (e == s) = false by simp; omega, hr]
theorem sub_no {code T : Array Nat} {y : Str} {fuel pos : Nat} {m : M} (h1 : drive 2000 (forSearch code T 0 pos T.size false) = some m) (h2 : m.outcome = some .failed) :
    subP code T y (fuel + 1) pos false = some (if pos < T.size then [⟨T.extract pos T.size⟩] else []) := by
  rw [subP, h1]
  simp only [h2]
theorem flat_pre (T : Array Nat) (pos k : Nat) : flat (if pos < pos + k then [⟨T.extract pos (pos + k)⟩] else []) = (T.toList.drop pos).take k := by
  by_cases q : pos < pos + k
  · rw [if_pos q]
    unfold flat
    simp only [List.map_cons, List.map_nil, List.flatten_cons, List.flatten_nil, List.append_nil]
    rw [ext_list, show pos + k - pos = k by omega]
  · rw [if_neg q]
    have : k = 0 := by omega
    subst this
    rfl
theorem flat_app (a b : List Str) : flat (a ++ b) = flat a ++ flat b := by simp [flat]
theorem flat_cons (x : Str) (b : List Str) : flat (x :: b) = x.cps.toList ++ flat b := by simp [flat]

theorem sub2 (T : Array Nat) (hT : T.size ≤ 1000) : ∀ (fuel pos : Nat), T.size - pos < fuel → pos ≤ T.size → ∃ ts, subP code2 T crS fuel pos false = some ts ∧ flat ts = crlf false (T.toList.drop pos) ∧ (∀ t ∈ ts, t.length ≤ T.size + 2) ∧ ts.length ≤ 2 * fuel
  | 0, _, h, _ => by omega
  | fuel + 1, pos, hf, hp => by
    obtain ⟨k, h1, h2⟩ := first_at (Nl T) T.size (T.size - pos) pos (by omega)
    rcases h2 with h2 | ⟨h2, h3⟩
    · obtain ⟨m, e1, e2⟩ := search2_no (T := T) (n := T.size) (pos := pos) fun j hj => (h1 j (by omega)).2
      refine ⟨_, sub_no e1 e2, ?_, fun t ht => ?_, ?_⟩
      · rw [show T.size = pos + k from h2.symm, flat_pre, crlf_copy k pos h1]
        rw [h2, show T.toList.drop T.size = [] by simp]
        simp [crlf]
      · split at ht
        · rw [List.mem_singleton.mp ht]; exact Nat.le_trans (piece_len T _ _) (Nat.le_add_right _ _)
        · cases ht
      · split <;> simp; omega
    · have key : ∃ e, pos + k < e ∧ e ≤ T.size ∧ (∀ seen, ∃ K, K ≤ 20 ∧ Ended (stepN K (at2 T T.size pos (pos + k) T.size seen)) (pos + k) e) ∧ crlf false (T.toList.drop (pos + k)) = 13 :: 10 :: crlf false (T.toList.drop e) := by
        rcases h3 with h3 | h3
        · refine ⟨pos + k + 1, by omega, by omega, fun seen => ⟨9, by decide, at2_lf h2 h3⟩, ?_⟩
          rw [drop_cons h2, h3]
          rfl
        · by_cases q : pos + k + 1 < T.size ∧ T.getD (pos + k + 1) 0 = 10
          · refine ⟨pos + k + 2, by omega, by omega, fun seen => ⟨8, by decide, at2_crlf q.1 h3 q.2⟩, ?_⟩
            rw [drop_cons h2, h3, drop_cons q.1, q.2]
            rfl
          · refine ⟨pos + k + 1, by omega, by omega, fun seen => ⟨15, by decide, at2_cr h2 h3 fun a b => q ⟨a, b⟩⟩, ?_⟩
            rw [drop_cons h2, h3]
            show 13 :: 10 :: crlf true _ = _
            rw [crlf_flag fun c r e hc => ?_]
            by_cases q2 : pos + k + 1 < T.size
            · rw [drop_cons q2] at e
              injection e with e1 e2
              exact q ⟨q2, e1.trans hc⟩
            · rw [List.drop_eq_nil_of_le (by simpa using q2)] at e
              cases e
      obtain ⟨e, he1, he2, h4, h5⟩ := key
      obtain ⟨m, d1, d2, d3, d4⟩ := search2_at h1 h2 h3 h4
      obtain ⟨r, r1, r2, r3, r4⟩ := sub2 T hT fuel e (by omega) he2
      refine ⟨_, sub_yes d1 d2 d3 d4 he1 r1, ?_, fun t ht => ?_, ?_⟩
      · rw [flat_app, flat_cons, flat_pre, r2, crlf_copy k pos h1, h5, crS_list]
        rfl
      · rcases List.mem_append.mp ht with ht | ht
        · split at ht
          · rw [List.mem_singleton.mp ht]; exact Nat.le_trans (piece_len T _ _) (Nat.le_add_right _ _)
          · cases ht
        · rcases List.mem_cons.mp ht with rfl | ht
          · exact Nat.le_trans (show (2 : Nat) ≤ 2 from Nat.le_refl _) (Nat.le_add_left _ _)
          · exact r3 t ht
      · rw [List.length_append, List.length_cons]
        split <;> simp <;> omega

noncomputable def ls (T : Array Nat) (i : Nat) : Bool := decide (i = 0 ∨ T.getD (i - 1) 0 = 10)
theorem ls_succ (T : Array Nat) (i : Nat) : ls T (i + 1) = (T.getD i 0 == 10) := by
  unfold ls
  by_cases h : T.getD i 0 = 10
  · simp only [Nat.add_sub_cancel, h]; simp
  · simp only [Nat.add_sub_cancel, h]; simp [-Array.getD_eq_getD_getElem?, h]
theorem dbl_copy {T : Array Nat} : ∀ (k pos : Nat), (∀ j, j < k → pos + j < T.size ∧ ¬ Dt T (pos + j)) → dbl (ls T pos) (T.toList.drop pos) = (T.toList.drop pos).take k ++ dbl (ls T (pos + k)) (T.toList.drop (pos + k))
  | 0, pos, _ => by simp
  | k + 1, pos, h => by
    obtain ⟨hl, hn⟩ := h 0 (by omega)
    rw [show pos + 0 = pos from rfl] at hl hn
    have ih := dbl_copy k (pos + 1) fun j hj => by
      have := h (j + 1) (by omega)
      rw [show pos + (j + 1) = pos + 1 + j by omega] at this
      exact this
    have e : dbl (ls T pos) (T.toList.drop pos) = T.getD pos 0 :: dbl (ls T (pos + 1)) (T.toList.drop (pos + 1)) := by
      rw [drop_cons hl, dbl, ls_succ]
      rw [if_neg (fun q => hn (by
        rw [Bool.and_eq_true] at q
        exact ⟨of_decide_eq_true q.1, by simpa using q.2⟩))]
    rw [e, ih, drop_cons hl, List.take_succ_cons, show pos + 1 + k = pos + (k + 1) by omega]
    rfl
theorem sub1 (T : Array Nat) (hT : T.size ≤ 1000) : ∀ (fuel pos : Nat), T.size - pos < fuel → pos ≤ T.size → ∃ ts, subP code1 T ddS fuel pos false = some ts ∧ flat ts = dbl (ls T pos) (T.toList.drop pos) ∧ (∀ t ∈ ts, t.length ≤ T.size + 2) ∧ ts.length ≤ 2 * fuel
  | 0, _, h, _ => by omega
  | fuel + 1, pos, hf, hp => by
    obtain ⟨k, h1, h2⟩ := first_at (Dt T) T.size (T.size - pos) pos (by omega)
    rcases h2 with h2 | ⟨h2, h3⟩
    · obtain ⟨m, e1, e2⟩ := search1_no (T := T) (n := T.size) (pos := pos) hT h1 h2
      refine ⟨_, sub_no e1 e2, ?_, fun t ht => ?_, ?_⟩
      · rw [show T.size = pos + k from h2.symm, flat_pre, dbl_copy k pos h1]
        rw [h2, show T.toList.drop T.size = [] by simp]
        simp [dbl]
      · split at ht
        · rw [List.mem_singleton.mp ht]; exact Nat.le_trans (piece_len T _ _) (Nat.le_add_right _ _)
        · cases ht
      · split <;> simp; omega
    · obtain ⟨m, d1, d2, d3, d4⟩ := search1_at hT h1 h2 h3
      obtain ⟨r, r1, r2, r3, r4⟩ := sub1 T hT fuel (pos + k + 1) (by omega) (by omega)
      refine ⟨_, sub_yes d1 d2 d3 d4 (by omega) r1, ?_, fun t ht => ?_, ?_⟩
      · rw [flat_app, flat_cons, flat_pre, r2, dbl_copy k pos h1, ddS_list]
        have e1 : ls T (pos + k) = true := decide_eq_true h3.1
        have e2 : ls T (pos + k + 1) = false := by rw [ls_succ, h3.2]; rfl
        rw [e1, e2, drop_cons h2, h3.2]
        rfl
      · rcases List.mem_append.mp ht with ht | ht
        · split at ht
          · rw [List.mem_singleton.mp ht]; exact Nat.le_trans (piece_len T _ _) (Nat.le_add_right _ _)
          · cases ht
        · rcases List.mem_cons.mp ht with rfl | ht
          · exact Nat.le_trans (show (2 : Nat) ≤ 2 from Nat.le_refl _) (Nat.le_add_left _ _)
          · exact r3 t ht
      · rw [List.length_append, List.length_cons]
        split <;> simp <;> omega

theorem crlf_len : ∀ (b : Bool) (l : List Nat), (crlf b l).length ≤ 2 * l.length
  | _, [] => by simp [crlf]
  | b, c :: r => by
    have h1 := crlf_len true r
    have h2 := crlf_len false r
    unfold crlf
    split
    · simp only [List.length_cons]; omega
    · split
      · split
        · simp only [List.length_cons]; omega
        · simp only [List.length_cons]; omega
      · simp only [List.length_cons]; omega
theorem join_flat : ∀ (ts : List Str), (Txt.join (⟨#[]⟩ : Str) ts).cps.toList = flat ts := by
  have key : ∀ (ts : List Str), (Str.join (⟨#[]⟩ : Str) ts).cps.toList = flat ts := by
    intro ts
    induction ts with
    | nil => rfl
    | cons x r ih =>
      cases r with
      | nil => rw [flat_cons]; simp [Str.join, flat]
      | cons y r =>
        rw [flat_cons, ← ih]
        show ((x.cps ++ #[]) ++ (Str.join ⟨#[]⟩ (y :: r)).cps).toList = _
        simp
  intro ts
  rw [← key ts]
  show (Builtin.Str.glued _ _).cps.toList = _
  rw [StrLaws.glued_eq_join]

theorem quote_all : ∀ x v, qnV x = some v → quoteV code1 code2 x = some v := by
  intro x v h
  unfold qnV at h
  split at h
  · rename_i t
    split at h
    · rename_i hc
      have hs : t.cps.size ≤ 40 := of_decide_eq_true hc
      obtain ⟨ts, t1, t2, t3, t4⟩ := sub2 t.cps (by omega) 100 0 (by omega) (by omega)
      have j1 : JoinOk (⟨#[]⟩ : Str) ts = true := joinOk_small (k := 42) (fun y hy => Nat.le_trans (t3 y hy) (by omega)) (by
        have : (⟨#[]⟩ : Str).length = 0 := rfl
        rw [this]; omega)
      have f1 := join_flat ts
      rw [t2, List.drop_zero] at f1
      have z1 : (Txt.join (⟨#[]⟩ : Str) ts).cps.size ≤ 80 := by
        rw [← Array.length_toList, f1]
        have := crlf_len false t.cps.toList
        have l2 : t.cps.toList.length = t.cps.size := Array.length_toList
        omega
      obtain ⟨us, u1, u2, u3, u4⟩ := sub1 (Txt.join (⟨#[]⟩ : Str) ts).cps (by omega) 100 0 (by omega) (by omega)
      have j2 : JoinOk (⟨#[]⟩ : Str) us = true := joinOk_small (k := 82) (fun y hy => Nat.le_trans (u3 y hy) (by omega)) (by
        have : (⟨#[]⟩ : Str).length = 0 := rfl
        rw [this]; omega)
      have f2 := join_flat us
      rw [u2, List.drop_zero, f1] at f2
      have e : Txt.join (⟨#[]⟩ : Str) us = ⟨(dbl true (crlf false t.cps.toList)).toArray⟩ := str_ext (by
        rw [f2]
        rfl)
      unfold quoteV quoteR
      simp only [t1, u1]
      rw [j1, j2, if_pos (by simp; omega), if_pos rfl]
      rw [e]
      exact h
    · cases h
  · cases h
end Mine
end
open PySem PySem.W PyProof.Rows
set_option Elab.async false
set_option maxRecDepth 100000 in
theorem PySem.Challenge.cw_xj0027_01_holds : PySem.Challenge.rw_xj0027_01.Holds := by
  refine holds_law (by kernel_rfl) fun said => ?_
  exact Mine.law_holds Mine.quote_all said
